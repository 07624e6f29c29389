import JvmDerived
import JvmDerived.Pilot.@@N@@Statement
import JvmDerived.Pilot.@@N@@Code
set_option linter.unusedVariables false
set_option linter.unusedSimpArgs false
namespace Jvm.RoadKit
open Sem ClassFile Op Lib Jvm.Stand Jvm.Free Jvm.LawKit
section New
variable {p : Program} {l : Launch} {e : Env} {R : Room} {s : State} {m : MethodId} {args : Array Value} {below : List Frame} {meth : Method} {c : Code} {T : State} {locs : List Loc} {cells slots : Nat}
theorem retI (X : Stand p l e R s m args below meth c T locs cells slots) (hx : p.tables.exec = Jvm.exec) {pc : Nat} {Ls : Array Slot} {z : Int32} {rest : List Value} (hret : meth.sig.returnType = some .int) (hd : decode c.code pc = .ok (.ireturn, 1)) {fs : List Frame}
    (hl : ∀ (f : JFrame) (acts : List Action), f.method = m → f.locked = none → f.entered = [] → (doReturn e (T.setTop f) acts (some (.int z))).1 = T.setFrames fs) : Steps p.tables e below (T.setTop (mkF m pc Ls (.int z :: rest))) (T.setFrames fs) := by
  have hm' : T.vm.method? m = some meth := X.method'
  have hn : narrow .int (.int z) = .int z := rfl
  show Steps p.tables e below (T.setTop { method := m, pc := pc, locals := Ls, stack := _ :: rest, locked := none }) _
  jvm_step X.here [X.here.top, hx, hd, hm', hret, hn]
  first | (intro acts; rw [hl _ acts rfl rfl rfl]) | rw [hl _ _ rfl rfl rfl]
  exact Steps.refl _
end New
end Jvm.RoadKit
namespace Jvm.Pilot.@@N@@
open Jvm Jvm.ClassFile Sem Op Lib Jvm.Free Jvm.Stand Jvm.LawKit Jvm.RoadKit Bundle Jvm.Pilot.@@N@@.Jvm.D
def QP (w : Option Value) (h0 : Heap) (n0 : Nat) (v : Option Value) (h : Heap) (L : List Loc) : Prop := v = w ∧ Fr n0 L ∧ h = h0
def QL (w : Option Value) (n0 : Nat) (v : Option Value) (h : Heap) (L : List Loc) : Prop := v = w ∧ Fr n0 L ∧ True
theorem d1_0 : decode prog_14_method_17_code 0 = .ok (.aload_n 0, 1) := by decide +kernel
theorem d1_1 : decode prog_14_method_17_code 1 = .ok (.arraylength, 1) := by decide +kernel
theorem d1_2 : decode prog_14_method_17_code 2 = .ok (.iconst 1, 1) := by decide +kernel
theorem d1_3 : decode prog_14_method_17_code 3 = .ok (.isub, 1) := by decide +kernel
theorem d1_4 : decode prog_14_method_17_code 4 = .ok (.istore_n 2, 1) := by decide +kernel
theorem d1_5 : decode prog_14_method_17_code 5 = .ok (.iload_n 2, 1) := by decide +kernel
theorem d1_6 : decode prog_14_method_17_code 6 = .ok (.ifCond .lt 21, 3) := by decide +kernel
theorem d1_27 : decode prog_14_method_17_code 27 = .ok (.iload_n 2, 1) := by decide +kernel
theorem d1_28 : decode prog_14_method_17_code 28 = .ok (.ifCond .ge 5, 3) := by decide +kernel
theorem d1_31 : decode prog_14_method_17_code 31 = .ok (.iconst 0, 1) := by decide +kernel
theorem d1_32 : decode prog_14_method_17_code 32 = .ok (.ireturn, 1) := by decide +kernel
theorem pn_1 : plainName "com/example/modloc/modloc/localize/Localizer" = true := by first | (simp [plainName, overriddenIn]; done) | decide +kernel
theorem ef_1_0 (m : MethodId) (x0 : Addr) (x1 : Int32) : entryFrame m #[(.ref x0), (.int x1)] 4 = mkF m 0 #[.val (.ref x0), .val (.int x1), .unset, .unset] [] := by first | (simp [entryFrame, mkF, argsToLocals, Value.category]; done) | rfl
def f1_0 : Int32 := (0 : Int32)
set_option maxRecDepth 65536 in
set_option maxHeartbeats 40000000 in
theorem rm1_0 (l : Launch) (Z : State) (a0 : Array Value) (hw : ∀ d ∈ tables_1, d.before a0 Z = true) (ws : List Jvm.Cond) (o0 : Addr) (p1 : Int32) (ka : ClassId) (h0 : Heap) (n0 : Nat) (Z0 : n0 ≤ h0.size) (I0 : Arv Z h0 o0 ka .int (0 : Int32) [] (.int (0 : Int32))) (gw_o0 : n0 ≤ o0) :
    MetFree l (⟨"com/example/modloc/modloc/localize/Localizer", "advance", "([II)Z"⟩ : MethodName) (head1 (Jvm.Cond.code (⟨"com/example/modloc/modloc/localize/Localizer", "advance", "([II)Z"⟩ : MethodName) prog_14_method_17_code 4 (some .boolean) :: ws) ({ frames := 0, cells := 0, slots := 0, locals := 0 } : Room)) (fun a U => a = #[(.ref o0), (.int p1)] ∧ Z.Warmed39 U.vm ∧ U.heap = h0) (fun _ _ _ _ _ => True) (fun _ U o U' => ∃ v L, o = .returned v ∧ QP (some (.int (f1_0))) h0 n0 v U'.heap L ∧ FrameEnd U o U' L ({ frames := 0, cells := 0, slots := 0, locals := 0 } : Room).cells ({ frames := 0, cells := 0, slots := 0, locals := 0 } : Room).slots) := by
  refine MetFree.of_bodySF (plainFor_of_name pn_1) hisR ?_
  intro p e s m args below meth c s₁ Bd hml0 hP hK
  obtain ⟨rfl, hZ, hh⟩ := hP
  have hx := Bd.exec
  have hby := Bd.bytes
  have hml : c.maxLocals = 4 := hml0
  have hown : s.vm.findClass "com/example/modloc/modloc/localize/Localizer" = some m.cls := findClass_of_methodNamed Bd.named
  have hnm := (name_of_methodNamed Bd.named Bd.method).1
  have X0 : Stand p l e ({ frames := 0, cells := 0, slots := 0, locals := 0 } : Room) s m #[(.ref o0), (.int p1)] below meth c s₁ [] 0 0 := Stand.of_body Bd
  have e0 : s₁.heap = h0 := by rw [← hh, Bd.state]; rfl
  have N0 := Fr.nil n0
  have K0 : Keep h0 h0 [o0] := Keep.refl _ _
  have pre0 : ∀ t, Steps p.tables e below (s₁.setTop (mkF m 0 #[.val (.ref o0), .val (.int p1), .unset, .unset] [])) t → Steps p.tables e below (s₁.setTop (entryFrame m #[(.ref o0), (.int p1)] 4)) t := fun t k => castTop (ef_1_0 m o0 p1) k
  have pre1 : ∀ t, Steps p.tables e below (s₁.setTop (mkF m 1 #[.val (.ref o0), .val (.int p1), .unset, .unset] [(.ref o0)])) t → Steps p.tables e below (s₁.setTop (entryFrame m #[(.ref o0), (.int p1)] 4)) t := fun t k => pre0 t (by
    show Steps p.tables e below (s₁.setTop (mkF m 0 #[.val (.ref o0), .val (.int p1), .unset, .unset] [])) _
    refine XS.aloadN X0.here hx rfl (hb hby d1_0) rfl rfl ?_
    exact k)
  obtain ⟨cl2, Ar2, -, Sz2, Mn2, Hs2, -⟩ := id I0
  have pre3 : ∀ t, Steps p.tables e below (s₁.setTop (mkF m 2 #[.val (.ref o0), .val (.int p1), .unset, .unset] [(.int (0 : Int32))])) t → Steps p.tables e below (s₁.setTop (entryFrame m #[(.ref o0), (.int p1)] 4)) t := fun t k => pre1 t (by
    show Steps p.tables e below (s₁.setTop (mkF m 1 #[.val (.ref o0), .val (.int p1), .unset, .unset] [(.ref o0)])) _
    refine X0.arraylength hx (by rw [e0]; exact Ar2.1) (State.isArrayOf_alike hZ.alike Ar2.2.1) (g := (mkF m 1 #[.val (.ref o0), .val (.int p1), .unset, .unset] [(.ref o0)])) rfl rfl (hb hby d1_1) _ ?_
    rw [len_of Sz2 Mn2]
    exact k)
  have pre4 : ∀ t, Steps p.tables e below (s₁.setTop (mkF m 32 #[.val (.ref o0), .val (.int p1), .val (.int (-1 : Int32)), .unset] [(.int (0 : Int32))])) t → Steps p.tables e below (s₁.setTop (entryFrame m #[(.ref o0), (.int p1)] 4)) t := fun t k => pre3 t (by
    show Steps p.tables e below (s₁.setTop (mkF m 2 #[.val (.ref o0), .val (.int p1), .unset, .unset] [(.int (0 : Int32))])) _
    refine XS.iconst X0.here hx rfl (hb hby d1_2) ?_
    show Steps p.tables e below (s₁.setTop (mkF m 3 #[.val (.ref o0), .val (.int p1), .unset, .unset] [(.int (1 : Int32)), (.int (0 : Int32))])) _
    refine XS.isub X0.here hx rfl (hb hby d1_3) rfl ?_
    show Steps p.tables e below (s₁.setTop (mkF m 4 #[.val (.ref o0), .val (.int p1), .unset, .unset] [(.int (-1 : Int32))])) _
    refine XS.istoreN X0.here hx rfl (hb hby d1_4) rfl (l' := #[.val (.ref o0), .val (.int p1), .val (.int (-1 : Int32)), .unset]) rfl ?_
    show Steps p.tables e below (s₁.setTop (mkF m 5 #[.val (.ref o0), .val (.int p1), .val (.int (-1 : Int32)), .unset] [])) _
    refine XS.iloadN X0.here hx rfl (hb hby d1_5) rfl ?_
    show Steps p.tables e below (s₁.setTop (mkF m 6 #[.val (.ref o0), .val (.int p1), .val (.int (-1 : Int32)), .unset] [(.int (-1 : Int32))])) _
    refine XS.ifYes X0.here hx rfl (pc0 := 6) (pc' := 27) rfl (hb hby d1_6) rfl (by decide) (by decide) (by decide) ?_
    show Steps p.tables e below (s₁.setTop (mkF m 27 #[.val (.ref o0), .val (.int p1), .val (.int (-1 : Int32)), .unset] [])) _
    refine XS.iloadN X0.here hx rfl (hb hby d1_27) rfl ?_
    show Steps p.tables e below (s₁.setTop (mkF m 28 #[.val (.ref o0), .val (.int p1), .val (.int (-1 : Int32)), .unset] [(.int (-1 : Int32))])) _
    refine XS.ifNo X0.here hx rfl (hb hby d1_28) rfl (by decide) ?_
    show Steps p.tables e below (s₁.setTop (mkF m 31 #[.val (.ref o0), .val (.int p1), .val (.int (-1 : Int32)), .unset] [])) _
    refine XS.iconst X0.here hx rfl (hb hby d1_31) ?_
    exact k)
  obtain ⟨fs, hr, hrun, hended, hW, hsame⟩ := X0.leave (v := some (.int (0 : Int32))) (fun h => by rw [Bd.returns] at h; cases h)
  refine ⟨_, _, ?_, hrun, hended, _, _, rfl, ?_, ⟨_, rfl⟩, hW, hsame.mono (by decide) (by decide)⟩
  · exact pre4 _ (retN X0 hx (t := .boolean) Bd.returns (by simp) (hb hby d1_32) hr)
  · exact ⟨by simp only [f1_0], N0, e0⟩
theorem d1_9 : decode prog_14_method_17_code 9 = .ok (.aload_n 0, 1) := by decide +kernel
theorem d1_10 : decode prog_14_method_17_code 10 = .ok (.iload_n 2, 1) := by decide +kernel
theorem d1_11 : decode prog_14_method_17_code 11 = .ok (.iaload, 1) := by decide +kernel
theorem d1_12 : decode prog_14_method_17_code 12 = .ok (.iload_n 1, 1) := by decide +kernel
theorem d1_13 : decode prog_14_method_17_code 13 = .ok (.aload_n 0, 1) := by decide +kernel
theorem d1_14 : decode prog_14_method_17_code 14 = .ok (.arraylength, 1) := by decide +kernel
theorem d1_15 : decode prog_14_method_17_code 15 = .ok (.isub, 1) := by decide +kernel
theorem d1_16 : decode prog_14_method_17_code 16 = .ok (.iload_n 2, 1) := by decide +kernel
theorem d1_17 : decode prog_14_method_17_code 17 = .ok (.iadd, 1) := by decide +kernel
theorem d1_18 : decode prog_14_method_17_code 18 = .ok (.if_icmp .ne 9, 3) := by decide +kernel
theorem d1_21 : decode prog_14_method_17_code 21 = .ok (.iinc 2 (-1), 3) := by decide +kernel
theorem d1_24 : decode prog_14_method_17_code 24 = .ok (.goto (-19), 3) := by decide +kernel
theorem d1_33 : decode prog_14_method_17_code 33 = .ok (.aload_n 0, 1) := by decide +kernel
theorem d1_34 : decode prog_14_method_17_code 34 = .ok (.iload_n 2, 1) := by decide +kernel
theorem d1_35 : decode prog_14_method_17_code 35 = .ok (.dup2, 1) := by decide +kernel
theorem d1_36 : decode prog_14_method_17_code 36 = .ok (.iaload, 1) := by decide +kernel
theorem d1_37 : decode prog_14_method_17_code 37 = .ok (.iconst 1, 1) := by decide +kernel
theorem d1_38 : decode prog_14_method_17_code 38 = .ok (.iadd, 1) := by decide +kernel
theorem d1_39 : decode prog_14_method_17_code 39 = .ok (.iastore, 1) := by decide +kernel
theorem d1_40 : decode prog_14_method_17_code 40 = .ok (.iload_n 2, 1) := by decide +kernel
theorem d1_41 : decode prog_14_method_17_code 41 = .ok (.iconst 1, 1) := by decide +kernel
theorem d1_42 : decode prog_14_method_17_code 42 = .ok (.iadd, 1) := by decide +kernel
theorem d1_43 : decode prog_14_method_17_code 43 = .ok (.istore_n 3, 1) := by decide +kernel
theorem d1_44 : decode prog_14_method_17_code 44 = .ok (.iload_n 3, 1) := by decide +kernel
theorem d1_45 : decode prog_14_method_17_code 45 = .ok (.aload_n 0, 1) := by decide +kernel
theorem d1_46 : decode prog_14_method_17_code 46 = .ok (.arraylength, 1) := by decide +kernel
theorem d1_47 : decode prog_14_method_17_code 47 = .ok (.if_icmp .ge 19, 3) := by decide +kernel
theorem d1_66 : decode prog_14_method_17_code 66 = .ok (.iconst 1, 1) := by decide +kernel
theorem d1_67 : decode prog_14_method_17_code 67 = .ok (.ireturn, 1) := by decide +kernel
def g1_1_o0_0 (p1 : Int32) (c0 : Int32) : Int32 := (if c0 = ((p1 - (1 : Int32)) + (0 : Int32)) then c0 else (c0 + (1 : Int32)))
def f1_1 (p1 : Int32) (c0 : Int32) : Int32 := (if c0 = ((p1 - (1 : Int32)) + (0 : Int32)) then (0 : Int32) else (1 : Int32))
def Q1_1 (Z : State) (o0 : Addr) (p1 : Int32) (ka : ClassId) (c0 : Int32) (h0 : Heap) (n0 : Nat) (v : Option Value) (h : Heap) (L : List Loc) : Prop := v = (some (.int (f1_1 p1 c0))) ∧ Fr n0 L ∧ Keep h0 h [o0] ∧ Arv Z h o0 ka .int (1 : Int32) [(.int (g1_1_o0_0 p1 c0))] (.int (0 : Int32))
set_option maxRecDepth 65536 in
set_option maxHeartbeats 40000000 in
theorem rm1_1 (l : Launch) (Z : State) (a0 : Array Value) (hw : ∀ d ∈ tables_1, d.before a0 Z = true) (ws : List Jvm.Cond) (o0 : Addr) (p1 : Int32) (ka : ClassId) (c0 : Int32) (h0 : Heap) (n0 : Nat) (Z0 : n0 ≤ h0.size) (I0 : Arv Z h0 o0 ka .int (1 : Int32) [(.int c0)] (.int (0 : Int32))) (gw_o0 : n0 ≤ o0) :
    MetFree l (⟨"com/example/modloc/modloc/localize/Localizer", "advance", "([II)Z"⟩ : MethodName) (head1 (Jvm.Cond.code (⟨"com/example/modloc/modloc/localize/Localizer", "advance", "([II)Z"⟩ : MethodName) prog_14_method_17_code 4 (some .boolean) :: ws) ({ frames := 0, cells := 0, slots := 0, locals := 0 } : Room)) (fun a U => a = #[(.ref o0), (.int p1)] ∧ Z.Warmed39 U.vm ∧ U.heap = h0) (fun _ _ _ _ _ => True) (fun _ U o U' => ∃ v L, o = .returned v ∧ Q1_1 Z o0 p1 ka c0 h0 n0 v U'.heap L ∧ FrameEnd U o U' L ({ frames := 0, cells := 0, slots := 0, locals := 0 } : Room).cells ({ frames := 0, cells := 0, slots := 0, locals := 0 } : Room).slots) := by
  refine MetFree.of_bodySF (plainFor_of_name pn_1) hisR ?_
  intro p e s m args below meth c s₁ Bd hml0 hP hK
  obtain ⟨rfl, hZ, hh⟩ := hP
  have hx := Bd.exec
  have hby := Bd.bytes
  have hml : c.maxLocals = 4 := hml0
  have hown : s.vm.findClass "com/example/modloc/modloc/localize/Localizer" = some m.cls := findClass_of_methodNamed Bd.named
  have hnm := (name_of_methodNamed Bd.named Bd.method).1
  have X0 : Stand p l e ({ frames := 0, cells := 0, slots := 0, locals := 0 } : Room) s m #[(.ref o0), (.int p1)] below meth c s₁ [] 0 0 := Stand.of_body Bd
  have e0 : s₁.heap = h0 := by rw [← hh, Bd.state]; rfl
  have N0 := Fr.nil n0
  have K0 : Keep h0 h0 [o0] := Keep.refl _ _
  have pre0 : ∀ t, Steps p.tables e below (s₁.setTop (mkF m 0 #[.val (.ref o0), .val (.int p1), .unset, .unset] [])) t → Steps p.tables e below (s₁.setTop (entryFrame m #[(.ref o0), (.int p1)] 4)) t := fun t k => castTop (ef_1_0 m o0 p1) k
  have pre2 : ∀ t, Steps p.tables e below (s₁.setTop (mkF m 1 #[.val (.ref o0), .val (.int p1), .unset, .unset] [(.ref o0)])) t → Steps p.tables e below (s₁.setTop (entryFrame m #[(.ref o0), (.int p1)] 4)) t := fun t k => pre0 t (by
    show Steps p.tables e below (s₁.setTop (mkF m 0 #[.val (.ref o0), .val (.int p1), .unset, .unset] [])) _
    refine XS.aloadN X0.here hx rfl (hb hby d1_0) rfl rfl ?_
    exact k)
  obtain ⟨cl3, Ar3, -, Sz3, Mn3, Hs3, -⟩ := id I0
  have pre4 : ∀ t, Steps p.tables e below (s₁.setTop (mkF m 2 #[.val (.ref o0), .val (.int p1), .unset, .unset] [(.int (1 : Int32))])) t → Steps p.tables e below (s₁.setTop (entryFrame m #[(.ref o0), (.int p1)] 4)) t := fun t k => pre2 t (by
    show Steps p.tables e below (s₁.setTop (mkF m 1 #[.val (.ref o0), .val (.int p1), .unset, .unset] [(.ref o0)])) _
    refine X0.arraylength hx (by rw [e0]; exact Ar3.1) (State.isArrayOf_alike hZ.alike Ar3.2.1) (g := (mkF m 1 #[.val (.ref o0), .val (.int p1), .unset, .unset] [(.ref o0)])) rfl rfl (hb hby d1_1) _ ?_
    rw [len_of Sz3 Mn3]
    exact k)
  have pre5 : ∀ t, Steps p.tables e below (s₁.setTop (mkF m 11 #[.val (.ref o0), .val (.int p1), .val (.int (0 : Int32)), .unset] [(.int (0 : Int32)), (.ref o0)])) t → Steps p.tables e below (s₁.setTop (entryFrame m #[(.ref o0), (.int p1)] 4)) t := fun t k => pre4 t (by
    show Steps p.tables e below (s₁.setTop (mkF m 2 #[.val (.ref o0), .val (.int p1), .unset, .unset] [(.int (1 : Int32))])) _
    refine XS.iconst X0.here hx rfl (hb hby d1_2) ?_
    show Steps p.tables e below (s₁.setTop (mkF m 3 #[.val (.ref o0), .val (.int p1), .unset, .unset] [(.int (1 : Int32)), (.int (1 : Int32))])) _
    refine XS.isub X0.here hx rfl (hb hby d1_3) rfl ?_
    show Steps p.tables e below (s₁.setTop (mkF m 4 #[.val (.ref o0), .val (.int p1), .unset, .unset] [(.int (0 : Int32))])) _
    refine XS.istoreN X0.here hx rfl (hb hby d1_4) rfl (l' := #[.val (.ref o0), .val (.int p1), .val (.int (0 : Int32)), .unset]) rfl ?_
    show Steps p.tables e below (s₁.setTop (mkF m 5 #[.val (.ref o0), .val (.int p1), .val (.int (0 : Int32)), .unset] [])) _
    refine XS.iloadN X0.here hx rfl (hb hby d1_5) rfl ?_
    show Steps p.tables e below (s₁.setTop (mkF m 6 #[.val (.ref o0), .val (.int p1), .val (.int (0 : Int32)), .unset] [(.int (0 : Int32))])) _
    refine XS.ifNo X0.here hx rfl (hb hby d1_6) rfl (by decide) ?_
    show Steps p.tables e below (s₁.setTop (mkF m 9 #[.val (.ref o0), .val (.int p1), .val (.int (0 : Int32)), .unset] [])) _
    refine XS.aloadN X0.here hx rfl (hb hby d1_9) rfl rfl ?_
    show Steps p.tables e below (s₁.setTop (mkF m 10 #[.val (.ref o0), .val (.int p1), .val (.int (0 : Int32)), .unset] [(.ref o0)])) _
    refine XS.iloadN X0.here hx rfl (hb hby d1_10) rfl ?_
    exact k)
  obtain ⟨cl6, Ar6, -, Sz6, Mn6, Hs6, -⟩ := id I0
  have hin6 : ¬ ((0 : Int32) < 0 ∨ cl6.slots.size ≤ ((0 : Int32)).toNatClampNeg) := inb_of Sz6 ⟨by decide, by decide⟩
  have hat6 : cl6.slots[((0 : Int32)).toNatClampNeg]? = some (.int c0) := Hs6.at hin6 rfl
  have pre7 : ∀ t, Steps p.tables e below (s₁.setTop (mkF m 12 #[.val (.ref o0), .val (.int p1), .val (.int (0 : Int32)), .unset] [(.int c0)])) t → Steps p.tables e below (s₁.setTop (entryFrame m #[(.ref o0), (.int p1)] 4)) t := fun t k => pre5 t (by
    show Steps p.tables e below (s₁.setTop (mkF m 11 #[.val (.ref o0), .val (.int p1), .val (.int (0 : Int32)), .unset] [(.int (0 : Int32)), (.ref o0)])) _
    refine X0.iaload hx (j := (0 : Int32)) (v := (.int c0)) (by rw [e0]; exact Ar6.1) (State.isArrayOf_alike hZ.alike Ar6.2.1) Ar6.2.2 hin6 hat6 (g := (mkF m 11 #[.val (.ref o0), .val (.int p1), .val (.int (0 : Int32)), .unset] [(.int (0 : Int32)), (.ref o0)])) rfl rfl (hb hby d1_11) _ ?_
    exact k)
  have pre8 : ∀ t, Steps p.tables e below (s₁.setTop (mkF m 14 #[.val (.ref o0), .val (.int p1), .val (.int (0 : Int32)), .unset] [(.ref o0), (.int p1), (.int c0)])) t → Steps p.tables e below (s₁.setTop (entryFrame m #[(.ref o0), (.int p1)] 4)) t := fun t k => pre7 t (by
    show Steps p.tables e below (s₁.setTop (mkF m 12 #[.val (.ref o0), .val (.int p1), .val (.int (0 : Int32)), .unset] [(.int c0)])) _
    refine XS.iloadN X0.here hx rfl (hb hby d1_12) rfl ?_
    show Steps p.tables e below (s₁.setTop (mkF m 13 #[.val (.ref o0), .val (.int p1), .val (.int (0 : Int32)), .unset] [(.int p1), (.int c0)])) _
    refine XS.aloadN X0.here hx rfl (hb hby d1_13) rfl rfl ?_
    exact k)
  obtain ⟨cl9, Ar9, -, Sz9, Mn9, Hs9, -⟩ := id I0
  have pre10 : ∀ t, Steps p.tables e below (s₁.setTop (mkF m 15 #[.val (.ref o0), .val (.int p1), .val (.int (0 : Int32)), .unset] [(.int (1 : Int32)), (.int p1), (.int c0)])) t → Steps p.tables e below (s₁.setTop (entryFrame m #[(.ref o0), (.int p1)] 4)) t := fun t k => pre8 t (by
    show Steps p.tables e below (s₁.setTop (mkF m 14 #[.val (.ref o0), .val (.int p1), .val (.int (0 : Int32)), .unset] [(.ref o0), (.int p1), (.int c0)])) _
    refine X0.arraylength hx (by rw [e0]; exact Ar9.1) (State.isArrayOf_alike hZ.alike Ar9.2.1) (g := (mkF m 14 #[.val (.ref o0), .val (.int p1), .val (.int (0 : Int32)), .unset] [(.ref o0), (.int p1), (.int c0)])) rfl rfl (hb hby d1_14) _ ?_
    rw [len_of Sz9 Mn9]
    exact k)
  have pre11 : ∀ t, Steps p.tables e below (s₁.setTop (mkF m 18 #[.val (.ref o0), .val (.int p1), .val (.int (0 : Int32)), .unset] [(.int ((p1 - (1 : Int32)) + (0 : Int32))), (.int c0)])) t → Steps p.tables e below (s₁.setTop (entryFrame m #[(.ref o0), (.int p1)] 4)) t := fun t k => pre10 t (by
    show Steps p.tables e below (s₁.setTop (mkF m 15 #[.val (.ref o0), .val (.int p1), .val (.int (0 : Int32)), .unset] [(.int (1 : Int32)), (.int p1), (.int c0)])) _
    refine XS.isub X0.here hx rfl (hb hby d1_15) rfl ?_
    show Steps p.tables e below (s₁.setTop (mkF m 16 #[.val (.ref o0), .val (.int p1), .val (.int (0 : Int32)), .unset] [(.int (p1 - (1 : Int32))), (.int c0)])) _
    refine XS.iloadN X0.here hx rfl (hb hby d1_16) rfl ?_
    show Steps p.tables e below (s₁.setTop (mkF m 17 #[.val (.ref o0), .val (.int p1), .val (.int (0 : Int32)), .unset] [(.int (0 : Int32)), (.int (p1 - (1 : Int32))), (.int c0)])) _
    refine XS.iadd X0.here hx rfl (hb hby d1_17) rfl ?_
    exact k)
  by_cases hc18_1 : c0 = ((p1 - (1 : Int32)) + (0 : Int32))
  · have pre12 : ∀ t, Steps p.tables e below (s₁.setTop (mkF m 32 #[.val (.ref o0), .val (.int p1), .val (.int (-1 : Int32)), .unset] [(.int (0 : Int32))])) t → Steps p.tables e below (s₁.setTop (entryFrame m #[(.ref o0), (.int p1)] 4)) t := fun t k => pre11 t (by
      show Steps p.tables e below (s₁.setTop (mkF m 18 #[.val (.ref o0), .val (.int p1), .val (.int (0 : Int32)), .unset] [(.int ((p1 - (1 : Int32)) + (0 : Int32))), (.int c0)])) _
      refine XS.icmpNo X0.here hx rfl (hb hby d1_18) rfl (teq hc18_1).2 ?_
      show Steps p.tables e below (s₁.setTop (mkF m 21 #[.val (.ref o0), .val (.int p1), .val (.int (0 : Int32)), .unset] [])) _
      refine XS.iinc X0.here hx rfl (hb hby d1_21) rfl (l' := #[.val (.ref o0), .val (.int p1), .val (.int (-1 : Int32)), .unset]) rfl ?_
      show Steps p.tables e below (s₁.setTop (mkF m 24 #[.val (.ref o0), .val (.int p1), .val (.int (-1 : Int32)), .unset] [])) _
      refine XS.goto X0.here hx rfl (pc0 := 24) (pc' := 5) rfl (hb hby d1_24) (by decide) (by decide) ?_
      show Steps p.tables e below (s₁.setTop (mkF m 5 #[.val (.ref o0), .val (.int p1), .val (.int (-1 : Int32)), .unset] [])) _
      refine XS.iloadN X0.here hx rfl (hb hby d1_5) rfl ?_
      show Steps p.tables e below (s₁.setTop (mkF m 6 #[.val (.ref o0), .val (.int p1), .val (.int (-1 : Int32)), .unset] [(.int (-1 : Int32))])) _
      refine XS.ifYes X0.here hx rfl (pc0 := 6) (pc' := 27) rfl (hb hby d1_6) rfl (by decide) (by decide) (by decide) ?_
      show Steps p.tables e below (s₁.setTop (mkF m 27 #[.val (.ref o0), .val (.int p1), .val (.int (-1 : Int32)), .unset] [])) _
      refine XS.iloadN X0.here hx rfl (hb hby d1_27) rfl ?_
      show Steps p.tables e below (s₁.setTop (mkF m 28 #[.val (.ref o0), .val (.int p1), .val (.int (-1 : Int32)), .unset] [(.int (-1 : Int32))])) _
      refine XS.ifNo X0.here hx rfl (hb hby d1_28) rfl (by decide) ?_
      show Steps p.tables e below (s₁.setTop (mkF m 31 #[.val (.ref o0), .val (.int p1), .val (.int (-1 : Int32)), .unset] [])) _
      refine XS.iconst X0.here hx rfl (hb hby d1_31) ?_
      exact k)
    obtain ⟨fs, hr, hrun, hended, hW, hsame⟩ := X0.leave (v := some (.int (0 : Int32))) (fun h => by rw [Bd.returns] at h; cases h)
    refine ⟨_, _, ?_, hrun, hended, _, _, rfl, ?_, ⟨_, rfl⟩, hW, hsame.mono (by decide) (by decide)⟩
    · exact pre12 _ (retN X0 hx (t := .boolean) Bd.returns (by simp) (hb hby d1_32) hr)
    · show Q1_1 Z o0 p1 ka c0 h0 n0 _ s₁.heap _
      rw [e0]
      exact ⟨by simp only [f1_1, if_pos hc18_1], N0, K0, by rw [show (g1_1_o0_0 p1 c0) = c0 from by simp only [g1_1_o0_0, if_pos hc18_1]]; exact I0⟩
  · have pre13 : ∀ t, Steps p.tables e below (s₁.setTop (mkF m 36 #[.val (.ref o0), .val (.int p1), .val (.int (0 : Int32)), .unset] [(.int (0 : Int32)), (.ref o0), (.int (0 : Int32)), (.ref o0)])) t → Steps p.tables e below (s₁.setTop (entryFrame m #[(.ref o0), (.int p1)] 4)) t := fun t k => pre11 t (by
      show Steps p.tables e below (s₁.setTop (mkF m 18 #[.val (.ref o0), .val (.int p1), .val (.int (0 : Int32)), .unset] [(.int ((p1 - (1 : Int32)) + (0 : Int32))), (.int c0)])) _
      refine XS.icmpYes X0.here hx rfl (pc0 := 18) (pc' := 27) rfl (hb hby d1_18) rfl (feq hc18_1).2 (by decide) (by decide) ?_
      show Steps p.tables e below (s₁.setTop (mkF m 27 #[.val (.ref o0), .val (.int p1), .val (.int (0 : Int32)), .unset] [])) _
      refine XS.iloadN X0.here hx rfl (hb hby d1_27) rfl ?_
      show Steps p.tables e below (s₁.setTop (mkF m 28 #[.val (.ref o0), .val (.int p1), .val (.int (0 : Int32)), .unset] [(.int (0 : Int32))])) _
      refine XS.ifYes X0.here hx rfl (pc0 := 28) (pc' := 33) rfl (hb hby d1_28) rfl (by decide) (by decide) (by decide) ?_
      show Steps p.tables e below (s₁.setTop (mkF m 33 #[.val (.ref o0), .val (.int p1), .val (.int (0 : Int32)), .unset] [])) _
      refine XS.aloadN X0.here hx rfl (hb hby d1_33) rfl rfl ?_
      show Steps p.tables e below (s₁.setTop (mkF m 34 #[.val (.ref o0), .val (.int p1), .val (.int (0 : Int32)), .unset] [(.ref o0)])) _
      refine XS.iloadN X0.here hx rfl (hb hby d1_34) rfl ?_
      show Steps p.tables e below (s₁.setTop (mkF m 35 #[.val (.ref o0), .val (.int p1), .val (.int (0 : Int32)), .unset] [(.int (0 : Int32)), (.ref o0)])) _
      refine XT.dup2 X0.here hx rfl (hb hby d1_35) rfl rfl rfl ?_
      exact k)
    obtain ⟨cl14, Ar14, -, Sz14, Mn14, Hs14, -⟩ := id I0
    have hin14 : ¬ ((0 : Int32) < 0 ∨ cl14.slots.size ≤ ((0 : Int32)).toNatClampNeg) := inb_of Sz14 ⟨by decide, by decide⟩
    have hat14 : cl14.slots[((0 : Int32)).toNatClampNeg]? = some (.int c0) := Hs14.at hin14 rfl
    have pre15 : ∀ t, Steps p.tables e below (s₁.setTop (mkF m 37 #[.val (.ref o0), .val (.int p1), .val (.int (0 : Int32)), .unset] [(.int c0), (.int (0 : Int32)), (.ref o0)])) t → Steps p.tables e below (s₁.setTop (entryFrame m #[(.ref o0), (.int p1)] 4)) t := fun t k => pre13 t (by
      show Steps p.tables e below (s₁.setTop (mkF m 36 #[.val (.ref o0), .val (.int p1), .val (.int (0 : Int32)), .unset] [(.int (0 : Int32)), (.ref o0), (.int (0 : Int32)), (.ref o0)])) _
      refine X0.iaload hx (j := (0 : Int32)) (v := (.int c0)) (by rw [e0]; exact Ar14.1) (State.isArrayOf_alike hZ.alike Ar14.2.1) Ar14.2.2 hin14 hat14 (g := (mkF m 36 #[.val (.ref o0), .val (.int p1), .val (.int (0 : Int32)), .unset] [(.int (0 : Int32)), (.ref o0), (.int (0 : Int32)), (.ref o0)])) rfl rfl (hb hby d1_36) _ ?_
      exact k)
    have pre16 : ∀ t, Steps p.tables e below (s₁.setTop (mkF m 39 #[.val (.ref o0), .val (.int p1), .val (.int (0 : Int32)), .unset] [(.int (c0 + (1 : Int32))), (.int (0 : Int32)), (.ref o0)])) t → Steps p.tables e below (s₁.setTop (entryFrame m #[(.ref o0), (.int p1)] 4)) t := fun t k => pre15 t (by
      show Steps p.tables e below (s₁.setTop (mkF m 37 #[.val (.ref o0), .val (.int p1), .val (.int (0 : Int32)), .unset] [(.int c0), (.int (0 : Int32)), (.ref o0)])) _
      refine XS.iconst X0.here hx rfl (hb hby d1_37) ?_
      show Steps p.tables e below (s₁.setTop (mkF m 38 #[.val (.ref o0), .val (.int p1), .val (.int (0 : Int32)), .unset] [(.int (1 : Int32)), (.int c0), (.int (0 : Int32)), (.ref o0)])) _
      refine XS.iadd X0.here hx rfl (hb hby d1_38) rfl ?_
      exact k)
    obtain ⟨cl17, Ar17, q17, Sz17, Mn17, Hs17, Gs17⟩ := id I0
    have hin17 : ¬ ((0 : Int32) < 0 ∨ cl17.slots.size ≤ ((0 : Int32)).toNatClampNeg) := inb_of Sz17 ⟨by decide, by decide⟩
    obtain ⟨T17, h17, X17, e17, W17, st17⟩ := stI X0 hx hZ e0 Ar17 (j := (0 : Int32)) hin17 (g := (mkF m 39 #[.val (.ref o0), .val (.int p1), .val (.int (0 : Int32)), .unset] [(.int (c0 + (1 : Int32))), (.int (0 : Int32)), (.ref o0)])) rfl rfl (hb hby d1_39)
    have V17 : Arv Z h17 o0 ka .int (1 : Int32) [(.int (c0 + (1 : Int32)))] (.int (0 : Int32)) := Arv.set Ar17 q17 Sz17 Mn17 Hs17 Gs17 rfl W17 0 rfl (Nat.le_of_ble_eq_true rfl)
    have N17 := Fr.snoc X17 N0 gw_o0
    have K17 : Keep h0 h17 [o0] := K0.wr W17 (Or.inl (List.mem_of_getElem? (i := 0) rfl))
    have Z17 : n0 ≤ h17.size := Nat.le_trans Z0 (Keep.of_wr W17).1
    have pre18 : ∀ t, Steps p.tables e below (T17.setTop (mkF m 40 #[.val (.ref o0), .val (.int p1), .val (.int (0 : Int32)), .unset] [])) t → Steps p.tables e below (s₁.setTop (entryFrame m #[(.ref o0), (.int p1)] 4)) t := fun t k => pre16 t (st17 _ k)
    have pre19 : ∀ t, Steps p.tables e below (T17.setTop (mkF m 46 #[.val (.ref o0), .val (.int p1), .val (.int (0 : Int32)), .val (.int (1 : Int32))] [(.ref o0), (.int (1 : Int32))])) t → Steps p.tables e below (s₁.setTop (entryFrame m #[(.ref o0), (.int p1)] 4)) t := fun t k => pre18 t (by
      show Steps p.tables e below (T17.setTop (mkF m 40 #[.val (.ref o0), .val (.int p1), .val (.int (0 : Int32)), .unset] [])) _
      refine XS.iloadN X17.here hx rfl (hb hby d1_40) rfl ?_
      show Steps p.tables e below (T17.setTop (mkF m 41 #[.val (.ref o0), .val (.int p1), .val (.int (0 : Int32)), .unset] [(.int (0 : Int32))])) _
      refine XS.iconst X17.here hx rfl (hb hby d1_41) ?_
      show Steps p.tables e below (T17.setTop (mkF m 42 #[.val (.ref o0), .val (.int p1), .val (.int (0 : Int32)), .unset] [(.int (1 : Int32)), (.int (0 : Int32))])) _
      refine XS.iadd X17.here hx rfl (hb hby d1_42) rfl ?_
      show Steps p.tables e below (T17.setTop (mkF m 43 #[.val (.ref o0), .val (.int p1), .val (.int (0 : Int32)), .unset] [(.int (1 : Int32))])) _
      refine XS.istoreN X17.here hx rfl (hb hby d1_43) rfl (l' := #[.val (.ref o0), .val (.int p1), .val (.int (0 : Int32)), .val (.int (1 : Int32))]) rfl ?_
      show Steps p.tables e below (T17.setTop (mkF m 44 #[.val (.ref o0), .val (.int p1), .val (.int (0 : Int32)), .val (.int (1 : Int32))] [])) _
      refine XS.iloadN X17.here hx rfl (hb hby d1_44) rfl ?_
      show Steps p.tables e below (T17.setTop (mkF m 45 #[.val (.ref o0), .val (.int p1), .val (.int (0 : Int32)), .val (.int (1 : Int32))] [(.int (1 : Int32))])) _
      refine XS.aloadN X17.here hx rfl (hb hby d1_45) rfl rfl ?_
      exact k)
    obtain ⟨cl20, Ar20, -, Sz20, Mn20, Hs20, -⟩ := id V17
    have pre21 : ∀ t, Steps p.tables e below (T17.setTop (mkF m 47 #[.val (.ref o0), .val (.int p1), .val (.int (0 : Int32)), .val (.int (1 : Int32))] [(.int (1 : Int32)), (.int (1 : Int32))])) t → Steps p.tables e below (s₁.setTop (entryFrame m #[(.ref o0), (.int p1)] 4)) t := fun t k => pre19 t (by
      show Steps p.tables e below (T17.setTop (mkF m 46 #[.val (.ref o0), .val (.int p1), .val (.int (0 : Int32)), .val (.int (1 : Int32))] [(.ref o0), (.int (1 : Int32))])) _
      refine X17.arraylength hx (by rw [e17]; exact Ar20.1) (State.isArrayOf_alike hZ.alike Ar20.2.1) (g := (mkF m 46 #[.val (.ref o0), .val (.int p1), .val (.int (0 : Int32)), .val (.int (1 : Int32))] [(.ref o0), (.int (1 : Int32))])) rfl rfl (hb hby d1_46) _ ?_
      rw [len_of Sz20 Mn20]
      exact k)
    have pre22 : ∀ t, Steps p.tables e below (T17.setTop (mkF m 67 #[.val (.ref o0), .val (.int p1), .val (.int (0 : Int32)), .val (.int (1 : Int32))] [(.int (1 : Int32))])) t → Steps p.tables e below (s₁.setTop (entryFrame m #[(.ref o0), (.int p1)] 4)) t := fun t k => pre21 t (by
      show Steps p.tables e below (T17.setTop (mkF m 47 #[.val (.ref o0), .val (.int p1), .val (.int (0 : Int32)), .val (.int (1 : Int32))] [(.int (1 : Int32)), (.int (1 : Int32))])) _
      refine XS.icmpYes X17.here hx rfl (pc0 := 47) (pc' := 66) rfl (hb hby d1_47) rfl (by decide) (by decide) (by decide) ?_
      show Steps p.tables e below (T17.setTop (mkF m 66 #[.val (.ref o0), .val (.int p1), .val (.int (0 : Int32)), .val (.int (1 : Int32))] [])) _
      refine XS.iconst X17.here hx rfl (hb hby d1_66) ?_
      exact k)
    obtain ⟨fs, hr, hrun, hended, hW, hsame⟩ := X17.leave (v := some (.int (1 : Int32))) (fun h => by rw [Bd.returns] at h; cases h)
    refine ⟨_, _, ?_, hrun, hended, _, _, rfl, ?_, ⟨_, rfl⟩, hW, hsame.mono (by decide) (by decide)⟩
    · exact pre22 _ (retN X17 hx (t := .boolean) Bd.returns (by simp) (hb hby d1_67) hr)
    · show Q1_1 Z o0 p1 ka c0 h0 n0 _ T17.heap _
      rw [e17]
      exact ⟨by simp only [f1_1, if_neg hc18_1], N17, K17, by rw [show (g1_1_o0_0 p1 c0) = (c0 + (1 : Int32)) from by simp only [g1_1_o0_0, if_neg hc18_1]]; exact V17⟩
theorem d1_50 : decode prog_14_method_17_code 50 = .ok (.aload_n 0, 1) := by decide +kernel
theorem d1_51 : decode prog_14_method_17_code 51 = .ok (.iload_n 3, 1) := by decide +kernel
theorem d1_52 : decode prog_14_method_17_code 52 = .ok (.aload_n 0, 1) := by decide +kernel
theorem d1_53 : decode prog_14_method_17_code 53 = .ok (.iload_n 3, 1) := by decide +kernel
theorem d1_54 : decode prog_14_method_17_code 54 = .ok (.iconst 1, 1) := by decide +kernel
theorem d1_55 : decode prog_14_method_17_code 55 = .ok (.isub, 1) := by decide +kernel
theorem d1_56 : decode prog_14_method_17_code 56 = .ok (.iaload, 1) := by decide +kernel
theorem d1_57 : decode prog_14_method_17_code 57 = .ok (.iconst 1, 1) := by decide +kernel
theorem d1_58 : decode prog_14_method_17_code 58 = .ok (.iadd, 1) := by decide +kernel
theorem d1_59 : decode prog_14_method_17_code 59 = .ok (.iastore, 1) := by decide +kernel
theorem d1_60 : decode prog_14_method_17_code 60 = .ok (.iinc 3 1, 3) := by decide +kernel
theorem d1_63 : decode prog_14_method_17_code 63 = .ok (.goto (-19), 3) := by decide +kernel
def g1_2_o0_0 (p1 : Int32) (c0 : Int32) (c1 : Int32) : Int32 := (if c1 = ((p1 - (2 : Int32)) + (1 : Int32)) then (if c0 = ((p1 - (2 : Int32)) + (0 : Int32)) then c0 else (c0 + (1 : Int32))) else c0)
def g1_2_o0_1 (p1 : Int32) (c0 : Int32) (c1 : Int32) : Int32 := (if c1 = ((p1 - (2 : Int32)) + (1 : Int32)) then (if c0 = ((p1 - (2 : Int32)) + (0 : Int32)) then c1 else ((c0 + (1 : Int32)) + (1 : Int32))) else (c1 + (1 : Int32)))
def f1_2 (p1 : Int32) (c0 : Int32) (c1 : Int32) : Int32 := (if c1 = ((p1 - (2 : Int32)) + (1 : Int32)) then (if c0 = ((p1 - (2 : Int32)) + (0 : Int32)) then (0 : Int32) else (1 : Int32)) else (1 : Int32))
def Q1_2 (Z : State) (o0 : Addr) (p1 : Int32) (ka : ClassId) (c0 : Int32) (c1 : Int32) (h0 : Heap) (n0 : Nat) (v : Option Value) (h : Heap) (L : List Loc) : Prop := v = (some (.int (f1_2 p1 c0 c1))) ∧ Fr n0 L ∧ Keep h0 h [o0] ∧ Arv Z h o0 ka .int (2 : Int32) [(.int (g1_2_o0_0 p1 c0 c1)), (.int (g1_2_o0_1 p1 c0 c1))] (.int (0 : Int32))
set_option maxRecDepth 65536 in
set_option maxHeartbeats 40000000 in
theorem rm1_2 (l : Launch) (Z : State) (a0 : Array Value) (hw : ∀ d ∈ tables_1, d.before a0 Z = true) (ws : List Jvm.Cond) (o0 : Addr) (p1 : Int32) (ka : ClassId) (c0 : Int32) (c1 : Int32) (h0 : Heap) (n0 : Nat) (Z0 : n0 ≤ h0.size) (I0 : Arv Z h0 o0 ka .int (2 : Int32) [(.int c0), (.int c1)] (.int (0 : Int32))) (gw_o0 : n0 ≤ o0) :
    MetFree l (⟨"com/example/modloc/modloc/localize/Localizer", "advance", "([II)Z"⟩ : MethodName) (head1 (Jvm.Cond.code (⟨"com/example/modloc/modloc/localize/Localizer", "advance", "([II)Z"⟩ : MethodName) prog_14_method_17_code 4 (some .boolean) :: ws) ({ frames := 0, cells := 0, slots := 0, locals := 0 } : Room)) (fun a U => a = #[(.ref o0), (.int p1)] ∧ Z.Warmed39 U.vm ∧ U.heap = h0) (fun _ _ _ _ _ => True) (fun _ U o U' => ∃ v L, o = .returned v ∧ Q1_2 Z o0 p1 ka c0 c1 h0 n0 v U'.heap L ∧ FrameEnd U o U' L ({ frames := 0, cells := 0, slots := 0, locals := 0 } : Room).cells ({ frames := 0, cells := 0, slots := 0, locals := 0 } : Room).slots) := by
  refine MetFree.of_bodySF (plainFor_of_name pn_1) hisR ?_
  intro p e s m args below meth c s₁ Bd hml0 hP hK
  obtain ⟨rfl, hZ, hh⟩ := hP
  have hx := Bd.exec
  have hby := Bd.bytes
  have hml : c.maxLocals = 4 := hml0
  have hown : s.vm.findClass "com/example/modloc/modloc/localize/Localizer" = some m.cls := findClass_of_methodNamed Bd.named
  have hnm := (name_of_methodNamed Bd.named Bd.method).1
  have X0 : Stand p l e ({ frames := 0, cells := 0, slots := 0, locals := 0 } : Room) s m #[(.ref o0), (.int p1)] below meth c s₁ [] 0 0 := Stand.of_body Bd
  have e0 : s₁.heap = h0 := by rw [← hh, Bd.state]; rfl
  have N0 := Fr.nil n0
  have K0 : Keep h0 h0 [o0] := Keep.refl _ _
  have pre0 : ∀ t, Steps p.tables e below (s₁.setTop (mkF m 0 #[.val (.ref o0), .val (.int p1), .unset, .unset] [])) t → Steps p.tables e below (s₁.setTop (entryFrame m #[(.ref o0), (.int p1)] 4)) t := fun t k => castTop (ef_1_0 m o0 p1) k
  have pre3 : ∀ t, Steps p.tables e below (s₁.setTop (mkF m 1 #[.val (.ref o0), .val (.int p1), .unset, .unset] [(.ref o0)])) t → Steps p.tables e below (s₁.setTop (entryFrame m #[(.ref o0), (.int p1)] 4)) t := fun t k => pre0 t (by
    show Steps p.tables e below (s₁.setTop (mkF m 0 #[.val (.ref o0), .val (.int p1), .unset, .unset] [])) _
    refine XS.aloadN X0.here hx rfl (hb hby d1_0) rfl rfl ?_
    exact k)
  obtain ⟨cl4, Ar4, -, Sz4, Mn4, Hs4, -⟩ := id I0
  have pre5 : ∀ t, Steps p.tables e below (s₁.setTop (mkF m 2 #[.val (.ref o0), .val (.int p1), .unset, .unset] [(.int (2 : Int32))])) t → Steps p.tables e below (s₁.setTop (entryFrame m #[(.ref o0), (.int p1)] 4)) t := fun t k => pre3 t (by
    show Steps p.tables e below (s₁.setTop (mkF m 1 #[.val (.ref o0), .val (.int p1), .unset, .unset] [(.ref o0)])) _
    refine X0.arraylength hx (by rw [e0]; exact Ar4.1) (State.isArrayOf_alike hZ.alike Ar4.2.1) (g := (mkF m 1 #[.val (.ref o0), .val (.int p1), .unset, .unset] [(.ref o0)])) rfl rfl (hb hby d1_1) _ ?_
    rw [len_of Sz4 Mn4]
    exact k)
  have pre6 : ∀ t, Steps p.tables e below (s₁.setTop (mkF m 11 #[.val (.ref o0), .val (.int p1), .val (.int (1 : Int32)), .unset] [(.int (1 : Int32)), (.ref o0)])) t → Steps p.tables e below (s₁.setTop (entryFrame m #[(.ref o0), (.int p1)] 4)) t := fun t k => pre5 t (by
    show Steps p.tables e below (s₁.setTop (mkF m 2 #[.val (.ref o0), .val (.int p1), .unset, .unset] [(.int (2 : Int32))])) _
    refine XS.iconst X0.here hx rfl (hb hby d1_2) ?_
    show Steps p.tables e below (s₁.setTop (mkF m 3 #[.val (.ref o0), .val (.int p1), .unset, .unset] [(.int (1 : Int32)), (.int (2 : Int32))])) _
    refine XS.isub X0.here hx rfl (hb hby d1_3) rfl ?_
    show Steps p.tables e below (s₁.setTop (mkF m 4 #[.val (.ref o0), .val (.int p1), .unset, .unset] [(.int (1 : Int32))])) _
    refine XS.istoreN X0.here hx rfl (hb hby d1_4) rfl (l' := #[.val (.ref o0), .val (.int p1), .val (.int (1 : Int32)), .unset]) rfl ?_
    show Steps p.tables e below (s₁.setTop (mkF m 5 #[.val (.ref o0), .val (.int p1), .val (.int (1 : Int32)), .unset] [])) _
    refine XS.iloadN X0.here hx rfl (hb hby d1_5) rfl ?_
    show Steps p.tables e below (s₁.setTop (mkF m 6 #[.val (.ref o0), .val (.int p1), .val (.int (1 : Int32)), .unset] [(.int (1 : Int32))])) _
    refine XS.ifNo X0.here hx rfl (hb hby d1_6) rfl (by decide) ?_
    show Steps p.tables e below (s₁.setTop (mkF m 9 #[.val (.ref o0), .val (.int p1), .val (.int (1 : Int32)), .unset] [])) _
    refine XS.aloadN X0.here hx rfl (hb hby d1_9) rfl rfl ?_
    show Steps p.tables e below (s₁.setTop (mkF m 10 #[.val (.ref o0), .val (.int p1), .val (.int (1 : Int32)), .unset] [(.ref o0)])) _
    refine XS.iloadN X0.here hx rfl (hb hby d1_10) rfl ?_
    exact k)
  obtain ⟨cl7, Ar7, -, Sz7, Mn7, Hs7, -⟩ := id I0
  have hin7 : ¬ ((1 : Int32) < 0 ∨ cl7.slots.size ≤ ((1 : Int32)).toNatClampNeg) := inb_of Sz7 ⟨by decide, by decide⟩
  have hat7 : cl7.slots[((1 : Int32)).toNatClampNeg]? = some (.int c1) := Hs7.at hin7 rfl
  have pre8 : ∀ t, Steps p.tables e below (s₁.setTop (mkF m 12 #[.val (.ref o0), .val (.int p1), .val (.int (1 : Int32)), .unset] [(.int c1)])) t → Steps p.tables e below (s₁.setTop (entryFrame m #[(.ref o0), (.int p1)] 4)) t := fun t k => pre6 t (by
    show Steps p.tables e below (s₁.setTop (mkF m 11 #[.val (.ref o0), .val (.int p1), .val (.int (1 : Int32)), .unset] [(.int (1 : Int32)), (.ref o0)])) _
    refine X0.iaload hx (j := (1 : Int32)) (v := (.int c1)) (by rw [e0]; exact Ar7.1) (State.isArrayOf_alike hZ.alike Ar7.2.1) Ar7.2.2 hin7 hat7 (g := (mkF m 11 #[.val (.ref o0), .val (.int p1), .val (.int (1 : Int32)), .unset] [(.int (1 : Int32)), (.ref o0)])) rfl rfl (hb hby d1_11) _ ?_
    exact k)
  have pre9 : ∀ t, Steps p.tables e below (s₁.setTop (mkF m 14 #[.val (.ref o0), .val (.int p1), .val (.int (1 : Int32)), .unset] [(.ref o0), (.int p1), (.int c1)])) t → Steps p.tables e below (s₁.setTop (entryFrame m #[(.ref o0), (.int p1)] 4)) t := fun t k => pre8 t (by
    show Steps p.tables e below (s₁.setTop (mkF m 12 #[.val (.ref o0), .val (.int p1), .val (.int (1 : Int32)), .unset] [(.int c1)])) _
    refine XS.iloadN X0.here hx rfl (hb hby d1_12) rfl ?_
    show Steps p.tables e below (s₁.setTop (mkF m 13 #[.val (.ref o0), .val (.int p1), .val (.int (1 : Int32)), .unset] [(.int p1), (.int c1)])) _
    refine XS.aloadN X0.here hx rfl (hb hby d1_13) rfl rfl ?_
    exact k)
  obtain ⟨cl10, Ar10, -, Sz10, Mn10, Hs10, -⟩ := id I0
  have pre11 : ∀ t, Steps p.tables e below (s₁.setTop (mkF m 15 #[.val (.ref o0), .val (.int p1), .val (.int (1 : Int32)), .unset] [(.int (2 : Int32)), (.int p1), (.int c1)])) t → Steps p.tables e below (s₁.setTop (entryFrame m #[(.ref o0), (.int p1)] 4)) t := fun t k => pre9 t (by
    show Steps p.tables e below (s₁.setTop (mkF m 14 #[.val (.ref o0), .val (.int p1), .val (.int (1 : Int32)), .unset] [(.ref o0), (.int p1), (.int c1)])) _
    refine X0.arraylength hx (by rw [e0]; exact Ar10.1) (State.isArrayOf_alike hZ.alike Ar10.2.1) (g := (mkF m 14 #[.val (.ref o0), .val (.int p1), .val (.int (1 : Int32)), .unset] [(.ref o0), (.int p1), (.int c1)])) rfl rfl (hb hby d1_14) _ ?_
    rw [len_of Sz10 Mn10]
    exact k)
  have pre12 : ∀ t, Steps p.tables e below (s₁.setTop (mkF m 18 #[.val (.ref o0), .val (.int p1), .val (.int (1 : Int32)), .unset] [(.int ((p1 - (2 : Int32)) + (1 : Int32))), (.int c1)])) t → Steps p.tables e below (s₁.setTop (entryFrame m #[(.ref o0), (.int p1)] 4)) t := fun t k => pre11 t (by
    show Steps p.tables e below (s₁.setTop (mkF m 15 #[.val (.ref o0), .val (.int p1), .val (.int (1 : Int32)), .unset] [(.int (2 : Int32)), (.int p1), (.int c1)])) _
    refine XS.isub X0.here hx rfl (hb hby d1_15) rfl ?_
    show Steps p.tables e below (s₁.setTop (mkF m 16 #[.val (.ref o0), .val (.int p1), .val (.int (1 : Int32)), .unset] [(.int (p1 - (2 : Int32))), (.int c1)])) _
    refine XS.iloadN X0.here hx rfl (hb hby d1_16) rfl ?_
    show Steps p.tables e below (s₁.setTop (mkF m 17 #[.val (.ref o0), .val (.int p1), .val (.int (1 : Int32)), .unset] [(.int (1 : Int32)), (.int (p1 - (2 : Int32))), (.int c1)])) _
    refine XS.iadd X0.here hx rfl (hb hby d1_17) rfl ?_
    exact k)
  by_cases hc18_1 : c1 = ((p1 - (2 : Int32)) + (1 : Int32))
  · have pre13 : ∀ t, Steps p.tables e below (s₁.setTop (mkF m 11 #[.val (.ref o0), .val (.int p1), .val (.int (0 : Int32)), .unset] [(.int (0 : Int32)), (.ref o0)])) t → Steps p.tables e below (s₁.setTop (entryFrame m #[(.ref o0), (.int p1)] 4)) t := fun t k => pre12 t (by
      show Steps p.tables e below (s₁.setTop (mkF m 18 #[.val (.ref o0), .val (.int p1), .val (.int (1 : Int32)), .unset] [(.int ((p1 - (2 : Int32)) + (1 : Int32))), (.int c1)])) _
      refine XS.icmpNo X0.here hx rfl (hb hby d1_18) rfl (teq hc18_1).2 ?_
      show Steps p.tables e below (s₁.setTop (mkF m 21 #[.val (.ref o0), .val (.int p1), .val (.int (1 : Int32)), .unset] [])) _
      refine XS.iinc X0.here hx rfl (hb hby d1_21) rfl (l' := #[.val (.ref o0), .val (.int p1), .val (.int (0 : Int32)), .unset]) rfl ?_
      show Steps p.tables e below (s₁.setTop (mkF m 24 #[.val (.ref o0), .val (.int p1), .val (.int (0 : Int32)), .unset] [])) _
      refine XS.goto X0.here hx rfl (pc0 := 24) (pc' := 5) rfl (hb hby d1_24) (by decide) (by decide) ?_
      show Steps p.tables e below (s₁.setTop (mkF m 5 #[.val (.ref o0), .val (.int p1), .val (.int (0 : Int32)), .unset] [])) _
      refine XS.iloadN X0.here hx rfl (hb hby d1_5) rfl ?_
      show Steps p.tables e below (s₁.setTop (mkF m 6 #[.val (.ref o0), .val (.int p1), .val (.int (0 : Int32)), .unset] [(.int (0 : Int32))])) _
      refine XS.ifNo X0.here hx rfl (hb hby d1_6) rfl (by decide) ?_
      show Steps p.tables e below (s₁.setTop (mkF m 9 #[.val (.ref o0), .val (.int p1), .val (.int (0 : Int32)), .unset] [])) _
      refine XS.aloadN X0.here hx rfl (hb hby d1_9) rfl rfl ?_
      show Steps p.tables e below (s₁.setTop (mkF m 10 #[.val (.ref o0), .val (.int p1), .val (.int (0 : Int32)), .unset] [(.ref o0)])) _
      refine XS.iloadN X0.here hx rfl (hb hby d1_10) rfl ?_
      exact k)
    obtain ⟨cl14, Ar14, -, Sz14, Mn14, Hs14, -⟩ := id I0
    have hin14 : ¬ ((0 : Int32) < 0 ∨ cl14.slots.size ≤ ((0 : Int32)).toNatClampNeg) := inb_of Sz14 ⟨by decide, by decide⟩
    have hat14 : cl14.slots[((0 : Int32)).toNatClampNeg]? = some (.int c0) := Hs14.at hin14 rfl
    have pre15 : ∀ t, Steps p.tables e below (s₁.setTop (mkF m 12 #[.val (.ref o0), .val (.int p1), .val (.int (0 : Int32)), .unset] [(.int c0)])) t → Steps p.tables e below (s₁.setTop (entryFrame m #[(.ref o0), (.int p1)] 4)) t := fun t k => pre13 t (by
      show Steps p.tables e below (s₁.setTop (mkF m 11 #[.val (.ref o0), .val (.int p1), .val (.int (0 : Int32)), .unset] [(.int (0 : Int32)), (.ref o0)])) _
      refine X0.iaload hx (j := (0 : Int32)) (v := (.int c0)) (by rw [e0]; exact Ar14.1) (State.isArrayOf_alike hZ.alike Ar14.2.1) Ar14.2.2 hin14 hat14 (g := (mkF m 11 #[.val (.ref o0), .val (.int p1), .val (.int (0 : Int32)), .unset] [(.int (0 : Int32)), (.ref o0)])) rfl rfl (hb hby d1_11) _ ?_
      exact k)
    have pre16 : ∀ t, Steps p.tables e below (s₁.setTop (mkF m 14 #[.val (.ref o0), .val (.int p1), .val (.int (0 : Int32)), .unset] [(.ref o0), (.int p1), (.int c0)])) t → Steps p.tables e below (s₁.setTop (entryFrame m #[(.ref o0), (.int p1)] 4)) t := fun t k => pre15 t (by
      show Steps p.tables e below (s₁.setTop (mkF m 12 #[.val (.ref o0), .val (.int p1), .val (.int (0 : Int32)), .unset] [(.int c0)])) _
      refine XS.iloadN X0.here hx rfl (hb hby d1_12) rfl ?_
      show Steps p.tables e below (s₁.setTop (mkF m 13 #[.val (.ref o0), .val (.int p1), .val (.int (0 : Int32)), .unset] [(.int p1), (.int c0)])) _
      refine XS.aloadN X0.here hx rfl (hb hby d1_13) rfl rfl ?_
      exact k)
    obtain ⟨cl17, Ar17, -, Sz17, Mn17, Hs17, -⟩ := id I0
    have pre18 : ∀ t, Steps p.tables e below (s₁.setTop (mkF m 15 #[.val (.ref o0), .val (.int p1), .val (.int (0 : Int32)), .unset] [(.int (2 : Int32)), (.int p1), (.int c0)])) t → Steps p.tables e below (s₁.setTop (entryFrame m #[(.ref o0), (.int p1)] 4)) t := fun t k => pre16 t (by
      show Steps p.tables e below (s₁.setTop (mkF m 14 #[.val (.ref o0), .val (.int p1), .val (.int (0 : Int32)), .unset] [(.ref o0), (.int p1), (.int c0)])) _
      refine X0.arraylength hx (by rw [e0]; exact Ar17.1) (State.isArrayOf_alike hZ.alike Ar17.2.1) (g := (mkF m 14 #[.val (.ref o0), .val (.int p1), .val (.int (0 : Int32)), .unset] [(.ref o0), (.int p1), (.int c0)])) rfl rfl (hb hby d1_14) _ ?_
      rw [len_of Sz17 Mn17]
      exact k)
    have pre19 : ∀ t, Steps p.tables e below (s₁.setTop (mkF m 18 #[.val (.ref o0), .val (.int p1), .val (.int (0 : Int32)), .unset] [(.int ((p1 - (2 : Int32)) + (0 : Int32))), (.int c0)])) t → Steps p.tables e below (s₁.setTop (entryFrame m #[(.ref o0), (.int p1)] 4)) t := fun t k => pre18 t (by
      show Steps p.tables e below (s₁.setTop (mkF m 15 #[.val (.ref o0), .val (.int p1), .val (.int (0 : Int32)), .unset] [(.int (2 : Int32)), (.int p1), (.int c0)])) _
      refine XS.isub X0.here hx rfl (hb hby d1_15) rfl ?_
      show Steps p.tables e below (s₁.setTop (mkF m 16 #[.val (.ref o0), .val (.int p1), .val (.int (0 : Int32)), .unset] [(.int (p1 - (2 : Int32))), (.int c0)])) _
      refine XS.iloadN X0.here hx rfl (hb hby d1_16) rfl ?_
      show Steps p.tables e below (s₁.setTop (mkF m 17 #[.val (.ref o0), .val (.int p1), .val (.int (0 : Int32)), .unset] [(.int (0 : Int32)), (.int (p1 - (2 : Int32))), (.int c0)])) _
      refine XS.iadd X0.here hx rfl (hb hby d1_17) rfl ?_
      exact k)
    by_cases hc18_2 : c0 = ((p1 - (2 : Int32)) + (0 : Int32))
    · have pre20 : ∀ t, Steps p.tables e below (s₁.setTop (mkF m 32 #[.val (.ref o0), .val (.int p1), .val (.int (-1 : Int32)), .unset] [(.int (0 : Int32))])) t → Steps p.tables e below (s₁.setTop (entryFrame m #[(.ref o0), (.int p1)] 4)) t := fun t k => pre19 t (by
        show Steps p.tables e below (s₁.setTop (mkF m 18 #[.val (.ref o0), .val (.int p1), .val (.int (0 : Int32)), .unset] [(.int ((p1 - (2 : Int32)) + (0 : Int32))), (.int c0)])) _
        refine XS.icmpNo X0.here hx rfl (hb hby d1_18) rfl (teq hc18_2).2 ?_
        show Steps p.tables e below (s₁.setTop (mkF m 21 #[.val (.ref o0), .val (.int p1), .val (.int (0 : Int32)), .unset] [])) _
        refine XS.iinc X0.here hx rfl (hb hby d1_21) rfl (l' := #[.val (.ref o0), .val (.int p1), .val (.int (-1 : Int32)), .unset]) rfl ?_
        show Steps p.tables e below (s₁.setTop (mkF m 24 #[.val (.ref o0), .val (.int p1), .val (.int (-1 : Int32)), .unset] [])) _
        refine XS.goto X0.here hx rfl (pc0 := 24) (pc' := 5) rfl (hb hby d1_24) (by decide) (by decide) ?_
        show Steps p.tables e below (s₁.setTop (mkF m 5 #[.val (.ref o0), .val (.int p1), .val (.int (-1 : Int32)), .unset] [])) _
        refine XS.iloadN X0.here hx rfl (hb hby d1_5) rfl ?_
        show Steps p.tables e below (s₁.setTop (mkF m 6 #[.val (.ref o0), .val (.int p1), .val (.int (-1 : Int32)), .unset] [(.int (-1 : Int32))])) _
        refine XS.ifYes X0.here hx rfl (pc0 := 6) (pc' := 27) rfl (hb hby d1_6) rfl (by decide) (by decide) (by decide) ?_
        show Steps p.tables e below (s₁.setTop (mkF m 27 #[.val (.ref o0), .val (.int p1), .val (.int (-1 : Int32)), .unset] [])) _
        refine XS.iloadN X0.here hx rfl (hb hby d1_27) rfl ?_
        show Steps p.tables e below (s₁.setTop (mkF m 28 #[.val (.ref o0), .val (.int p1), .val (.int (-1 : Int32)), .unset] [(.int (-1 : Int32))])) _
        refine XS.ifNo X0.here hx rfl (hb hby d1_28) rfl (by decide) ?_
        show Steps p.tables e below (s₁.setTop (mkF m 31 #[.val (.ref o0), .val (.int p1), .val (.int (-1 : Int32)), .unset] [])) _
        refine XS.iconst X0.here hx rfl (hb hby d1_31) ?_
        exact k)
      obtain ⟨fs, hr, hrun, hended, hW, hsame⟩ := X0.leave (v := some (.int (0 : Int32))) (fun h => by rw [Bd.returns] at h; cases h)
      refine ⟨_, _, ?_, hrun, hended, _, _, rfl, ?_, ⟨_, rfl⟩, hW, hsame.mono (by decide) (by decide)⟩
      · exact pre20 _ (retN X0 hx (t := .boolean) Bd.returns (by simp) (hb hby d1_32) hr)
      · show Q1_2 Z o0 p1 ka c0 c1 h0 n0 _ s₁.heap _
        rw [e0]
        exact ⟨by simp only [f1_2, if_pos hc18_1, if_pos hc18_2], N0, K0, by rw [show (g1_2_o0_0 p1 c0 c1) = c0 from by simp only [g1_2_o0_0, if_pos hc18_1, if_pos hc18_2], show (g1_2_o0_1 p1 c0 c1) = c1 from by simp only [g1_2_o0_1, if_pos hc18_1, if_pos hc18_2]]; exact I0⟩
    · have pre21 : ∀ t, Steps p.tables e below (s₁.setTop (mkF m 36 #[.val (.ref o0), .val (.int p1), .val (.int (0 : Int32)), .unset] [(.int (0 : Int32)), (.ref o0), (.int (0 : Int32)), (.ref o0)])) t → Steps p.tables e below (s₁.setTop (entryFrame m #[(.ref o0), (.int p1)] 4)) t := fun t k => pre19 t (by
        show Steps p.tables e below (s₁.setTop (mkF m 18 #[.val (.ref o0), .val (.int p1), .val (.int (0 : Int32)), .unset] [(.int ((p1 - (2 : Int32)) + (0 : Int32))), (.int c0)])) _
        refine XS.icmpYes X0.here hx rfl (pc0 := 18) (pc' := 27) rfl (hb hby d1_18) rfl (feq hc18_2).2 (by decide) (by decide) ?_
        show Steps p.tables e below (s₁.setTop (mkF m 27 #[.val (.ref o0), .val (.int p1), .val (.int (0 : Int32)), .unset] [])) _
        refine XS.iloadN X0.here hx rfl (hb hby d1_27) rfl ?_
        show Steps p.tables e below (s₁.setTop (mkF m 28 #[.val (.ref o0), .val (.int p1), .val (.int (0 : Int32)), .unset] [(.int (0 : Int32))])) _
        refine XS.ifYes X0.here hx rfl (pc0 := 28) (pc' := 33) rfl (hb hby d1_28) rfl (by decide) (by decide) (by decide) ?_
        show Steps p.tables e below (s₁.setTop (mkF m 33 #[.val (.ref o0), .val (.int p1), .val (.int (0 : Int32)), .unset] [])) _
        refine XS.aloadN X0.here hx rfl (hb hby d1_33) rfl rfl ?_
        show Steps p.tables e below (s₁.setTop (mkF m 34 #[.val (.ref o0), .val (.int p1), .val (.int (0 : Int32)), .unset] [(.ref o0)])) _
        refine XS.iloadN X0.here hx rfl (hb hby d1_34) rfl ?_
        show Steps p.tables e below (s₁.setTop (mkF m 35 #[.val (.ref o0), .val (.int p1), .val (.int (0 : Int32)), .unset] [(.int (0 : Int32)), (.ref o0)])) _
        refine XT.dup2 X0.here hx rfl (hb hby d1_35) rfl rfl rfl ?_
        exact k)
      obtain ⟨cl22, Ar22, -, Sz22, Mn22, Hs22, -⟩ := id I0
      have hin22 : ¬ ((0 : Int32) < 0 ∨ cl22.slots.size ≤ ((0 : Int32)).toNatClampNeg) := inb_of Sz22 ⟨by decide, by decide⟩
      have hat22 : cl22.slots[((0 : Int32)).toNatClampNeg]? = some (.int c0) := Hs22.at hin22 rfl
      have pre23 : ∀ t, Steps p.tables e below (s₁.setTop (mkF m 37 #[.val (.ref o0), .val (.int p1), .val (.int (0 : Int32)), .unset] [(.int c0), (.int (0 : Int32)), (.ref o0)])) t → Steps p.tables e below (s₁.setTop (entryFrame m #[(.ref o0), (.int p1)] 4)) t := fun t k => pre21 t (by
        show Steps p.tables e below (s₁.setTop (mkF m 36 #[.val (.ref o0), .val (.int p1), .val (.int (0 : Int32)), .unset] [(.int (0 : Int32)), (.ref o0), (.int (0 : Int32)), (.ref o0)])) _
        refine X0.iaload hx (j := (0 : Int32)) (v := (.int c0)) (by rw [e0]; exact Ar22.1) (State.isArrayOf_alike hZ.alike Ar22.2.1) Ar22.2.2 hin22 hat22 (g := (mkF m 36 #[.val (.ref o0), .val (.int p1), .val (.int (0 : Int32)), .unset] [(.int (0 : Int32)), (.ref o0), (.int (0 : Int32)), (.ref o0)])) rfl rfl (hb hby d1_36) _ ?_
        exact k)
      have pre24 : ∀ t, Steps p.tables e below (s₁.setTop (mkF m 39 #[.val (.ref o0), .val (.int p1), .val (.int (0 : Int32)), .unset] [(.int (c0 + (1 : Int32))), (.int (0 : Int32)), (.ref o0)])) t → Steps p.tables e below (s₁.setTop (entryFrame m #[(.ref o0), (.int p1)] 4)) t := fun t k => pre23 t (by
        show Steps p.tables e below (s₁.setTop (mkF m 37 #[.val (.ref o0), .val (.int p1), .val (.int (0 : Int32)), .unset] [(.int c0), (.int (0 : Int32)), (.ref o0)])) _
        refine XS.iconst X0.here hx rfl (hb hby d1_37) ?_
        show Steps p.tables e below (s₁.setTop (mkF m 38 #[.val (.ref o0), .val (.int p1), .val (.int (0 : Int32)), .unset] [(.int (1 : Int32)), (.int c0), (.int (0 : Int32)), (.ref o0)])) _
        refine XS.iadd X0.here hx rfl (hb hby d1_38) rfl ?_
        exact k)
      obtain ⟨cl25, Ar25, q25, Sz25, Mn25, Hs25, Gs25⟩ := id I0
      have hin25 : ¬ ((0 : Int32) < 0 ∨ cl25.slots.size ≤ ((0 : Int32)).toNatClampNeg) := inb_of Sz25 ⟨by decide, by decide⟩
      obtain ⟨T25, h25, X25, e25, W25, st25⟩ := stI X0 hx hZ e0 Ar25 (j := (0 : Int32)) hin25 (g := (mkF m 39 #[.val (.ref o0), .val (.int p1), .val (.int (0 : Int32)), .unset] [(.int (c0 + (1 : Int32))), (.int (0 : Int32)), (.ref o0)])) rfl rfl (hb hby d1_39)
      have V25 : Arv Z h25 o0 ka .int (2 : Int32) [(.int (c0 + (1 : Int32))), (.int c1)] (.int (0 : Int32)) := Arv.set Ar25 q25 Sz25 Mn25 Hs25 Gs25 rfl W25 0 rfl (Nat.le_of_ble_eq_true rfl)
      have N25 := Fr.snoc X25 N0 gw_o0
      have K25 : Keep h0 h25 [o0] := K0.wr W25 (Or.inl (List.mem_of_getElem? (i := 0) rfl))
      have Z25 : n0 ≤ h25.size := Nat.le_trans Z0 (Keep.of_wr W25).1
      have pre26 : ∀ t, Steps p.tables e below (T25.setTop (mkF m 40 #[.val (.ref o0), .val (.int p1), .val (.int (0 : Int32)), .unset] [])) t → Steps p.tables e below (s₁.setTop (entryFrame m #[(.ref o0), (.int p1)] 4)) t := fun t k => pre24 t (st25 _ k)
      have pre27 : ∀ t, Steps p.tables e below (T25.setTop (mkF m 46 #[.val (.ref o0), .val (.int p1), .val (.int (0 : Int32)), .val (.int (1 : Int32))] [(.ref o0), (.int (1 : Int32))])) t → Steps p.tables e below (s₁.setTop (entryFrame m #[(.ref o0), (.int p1)] 4)) t := fun t k => pre26 t (by
        show Steps p.tables e below (T25.setTop (mkF m 40 #[.val (.ref o0), .val (.int p1), .val (.int (0 : Int32)), .unset] [])) _
        refine XS.iloadN X25.here hx rfl (hb hby d1_40) rfl ?_
        show Steps p.tables e below (T25.setTop (mkF m 41 #[.val (.ref o0), .val (.int p1), .val (.int (0 : Int32)), .unset] [(.int (0 : Int32))])) _
        refine XS.iconst X25.here hx rfl (hb hby d1_41) ?_
        show Steps p.tables e below (T25.setTop (mkF m 42 #[.val (.ref o0), .val (.int p1), .val (.int (0 : Int32)), .unset] [(.int (1 : Int32)), (.int (0 : Int32))])) _
        refine XS.iadd X25.here hx rfl (hb hby d1_42) rfl ?_
        show Steps p.tables e below (T25.setTop (mkF m 43 #[.val (.ref o0), .val (.int p1), .val (.int (0 : Int32)), .unset] [(.int (1 : Int32))])) _
        refine XS.istoreN X25.here hx rfl (hb hby d1_43) rfl (l' := #[.val (.ref o0), .val (.int p1), .val (.int (0 : Int32)), .val (.int (1 : Int32))]) rfl ?_
        show Steps p.tables e below (T25.setTop (mkF m 44 #[.val (.ref o0), .val (.int p1), .val (.int (0 : Int32)), .val (.int (1 : Int32))] [])) _
        refine XS.iloadN X25.here hx rfl (hb hby d1_44) rfl ?_
        show Steps p.tables e below (T25.setTop (mkF m 45 #[.val (.ref o0), .val (.int p1), .val (.int (0 : Int32)), .val (.int (1 : Int32))] [(.int (1 : Int32))])) _
        refine XS.aloadN X25.here hx rfl (hb hby d1_45) rfl rfl ?_
        exact k)
      obtain ⟨cl28, Ar28, -, Sz28, Mn28, Hs28, -⟩ := id V25
      have pre29 : ∀ t, Steps p.tables e below (T25.setTop (mkF m 47 #[.val (.ref o0), .val (.int p1), .val (.int (0 : Int32)), .val (.int (1 : Int32))] [(.int (2 : Int32)), (.int (1 : Int32))])) t → Steps p.tables e below (s₁.setTop (entryFrame m #[(.ref o0), (.int p1)] 4)) t := fun t k => pre27 t (by
        show Steps p.tables e below (T25.setTop (mkF m 46 #[.val (.ref o0), .val (.int p1), .val (.int (0 : Int32)), .val (.int (1 : Int32))] [(.ref o0), (.int (1 : Int32))])) _
        refine X25.arraylength hx (by rw [e25]; exact Ar28.1) (State.isArrayOf_alike hZ.alike Ar28.2.1) (g := (mkF m 46 #[.val (.ref o0), .val (.int p1), .val (.int (0 : Int32)), .val (.int (1 : Int32))] [(.ref o0), (.int (1 : Int32))])) rfl rfl (hb hby d1_46) _ ?_
        rw [len_of Sz28 Mn28]
        exact k)
      have pre30 : ∀ t, Steps p.tables e below (T25.setTop (mkF m 56 #[.val (.ref o0), .val (.int p1), .val (.int (0 : Int32)), .val (.int (1 : Int32))] [(.int (0 : Int32)), (.ref o0), (.int (1 : Int32)), (.ref o0)])) t → Steps p.tables e below (s₁.setTop (entryFrame m #[(.ref o0), (.int p1)] 4)) t := fun t k => pre29 t (by
        show Steps p.tables e below (T25.setTop (mkF m 47 #[.val (.ref o0), .val (.int p1), .val (.int (0 : Int32)), .val (.int (1 : Int32))] [(.int (2 : Int32)), (.int (1 : Int32))])) _
        refine XS.icmpNo X25.here hx rfl (hb hby d1_47) rfl (by decide) ?_
        show Steps p.tables e below (T25.setTop (mkF m 50 #[.val (.ref o0), .val (.int p1), .val (.int (0 : Int32)), .val (.int (1 : Int32))] [])) _
        refine XS.aloadN X25.here hx rfl (hb hby d1_50) rfl rfl ?_
        show Steps p.tables e below (T25.setTop (mkF m 51 #[.val (.ref o0), .val (.int p1), .val (.int (0 : Int32)), .val (.int (1 : Int32))] [(.ref o0)])) _
        refine XS.iloadN X25.here hx rfl (hb hby d1_51) rfl ?_
        show Steps p.tables e below (T25.setTop (mkF m 52 #[.val (.ref o0), .val (.int p1), .val (.int (0 : Int32)), .val (.int (1 : Int32))] [(.int (1 : Int32)), (.ref o0)])) _
        refine XS.aloadN X25.here hx rfl (hb hby d1_52) rfl rfl ?_
        show Steps p.tables e below (T25.setTop (mkF m 53 #[.val (.ref o0), .val (.int p1), .val (.int (0 : Int32)), .val (.int (1 : Int32))] [(.ref o0), (.int (1 : Int32)), (.ref o0)])) _
        refine XS.iloadN X25.here hx rfl (hb hby d1_53) rfl ?_
        show Steps p.tables e below (T25.setTop (mkF m 54 #[.val (.ref o0), .val (.int p1), .val (.int (0 : Int32)), .val (.int (1 : Int32))] [(.int (1 : Int32)), (.ref o0), (.int (1 : Int32)), (.ref o0)])) _
        refine XS.iconst X25.here hx rfl (hb hby d1_54) ?_
        show Steps p.tables e below (T25.setTop (mkF m 55 #[.val (.ref o0), .val (.int p1), .val (.int (0 : Int32)), .val (.int (1 : Int32))] [(.int (1 : Int32)), (.int (1 : Int32)), (.ref o0), (.int (1 : Int32)), (.ref o0)])) _
        refine XS.isub X25.here hx rfl (hb hby d1_55) rfl ?_
        exact k)
      obtain ⟨cl31, Ar31, -, Sz31, Mn31, Hs31, -⟩ := id V25
      have hin31 : ¬ ((0 : Int32) < 0 ∨ cl31.slots.size ≤ ((0 : Int32)).toNatClampNeg) := inb_of Sz31 ⟨by decide, by decide⟩
      have hat31 : cl31.slots[((0 : Int32)).toNatClampNeg]? = some (.int (c0 + (1 : Int32))) := Hs31.at hin31 rfl
      have pre32 : ∀ t, Steps p.tables e below (T25.setTop (mkF m 57 #[.val (.ref o0), .val (.int p1), .val (.int (0 : Int32)), .val (.int (1 : Int32))] [(.int (c0 + (1 : Int32))), (.int (1 : Int32)), (.ref o0)])) t → Steps p.tables e below (s₁.setTop (entryFrame m #[(.ref o0), (.int p1)] 4)) t := fun t k => pre30 t (by
        show Steps p.tables e below (T25.setTop (mkF m 56 #[.val (.ref o0), .val (.int p1), .val (.int (0 : Int32)), .val (.int (1 : Int32))] [(.int (0 : Int32)), (.ref o0), (.int (1 : Int32)), (.ref o0)])) _
        refine X25.iaload hx (j := (0 : Int32)) (v := (.int (c0 + (1 : Int32)))) (by rw [e25]; exact Ar31.1) (State.isArrayOf_alike hZ.alike Ar31.2.1) Ar31.2.2 hin31 hat31 (g := (mkF m 56 #[.val (.ref o0), .val (.int p1), .val (.int (0 : Int32)), .val (.int (1 : Int32))] [(.int (0 : Int32)), (.ref o0), (.int (1 : Int32)), (.ref o0)])) rfl rfl (hb hby d1_56) _ ?_
        exact k)
      have pre33 : ∀ t, Steps p.tables e below (T25.setTop (mkF m 59 #[.val (.ref o0), .val (.int p1), .val (.int (0 : Int32)), .val (.int (1 : Int32))] [(.int ((c0 + (1 : Int32)) + (1 : Int32))), (.int (1 : Int32)), (.ref o0)])) t → Steps p.tables e below (s₁.setTop (entryFrame m #[(.ref o0), (.int p1)] 4)) t := fun t k => pre32 t (by
        show Steps p.tables e below (T25.setTop (mkF m 57 #[.val (.ref o0), .val (.int p1), .val (.int (0 : Int32)), .val (.int (1 : Int32))] [(.int (c0 + (1 : Int32))), (.int (1 : Int32)), (.ref o0)])) _
        refine XS.iconst X25.here hx rfl (hb hby d1_57) ?_
        show Steps p.tables e below (T25.setTop (mkF m 58 #[.val (.ref o0), .val (.int p1), .val (.int (0 : Int32)), .val (.int (1 : Int32))] [(.int (1 : Int32)), (.int (c0 + (1 : Int32))), (.int (1 : Int32)), (.ref o0)])) _
        refine XS.iadd X25.here hx rfl (hb hby d1_58) rfl ?_
        exact k)
      obtain ⟨cl34, Ar34, q34, Sz34, Mn34, Hs34, Gs34⟩ := id V25
      have hin34 : ¬ ((1 : Int32) < 0 ∨ cl34.slots.size ≤ ((1 : Int32)).toNatClampNeg) := inb_of Sz34 ⟨by decide, by decide⟩
      obtain ⟨T34, h34, X34, e34, W34, st34⟩ := stI X25 hx hZ e25 Ar34 (j := (1 : Int32)) hin34 (g := (mkF m 59 #[.val (.ref o0), .val (.int p1), .val (.int (0 : Int32)), .val (.int (1 : Int32))] [(.int ((c0 + (1 : Int32)) + (1 : Int32))), (.int (1 : Int32)), (.ref o0)])) rfl rfl (hb hby d1_59)
      have V34 : Arv Z h34 o0 ka .int (2 : Int32) [(.int (c0 + (1 : Int32))), (.int ((c0 + (1 : Int32)) + (1 : Int32)))] (.int (0 : Int32)) := Arv.set Ar34 q34 Sz34 Mn34 Hs34 Gs34 rfl W34 1 rfl (Nat.le_of_ble_eq_true rfl)
      have N34 := Fr.snoc X34 N25 gw_o0
      have K34 : Keep h0 h34 [o0] := K25.wr W34 (Or.inl (List.mem_of_getElem? (i := 0) rfl))
      have Z34 : n0 ≤ h34.size := Nat.le_trans Z25 (Keep.of_wr W34).1
      have pre35 : ∀ t, Steps p.tables e below (T34.setTop (mkF m 60 #[.val (.ref o0), .val (.int p1), .val (.int (0 : Int32)), .val (.int (1 : Int32))] [])) t → Steps p.tables e below (s₁.setTop (entryFrame m #[(.ref o0), (.int p1)] 4)) t := fun t k => pre33 t (st34 _ k)
      have pre36 : ∀ t, Steps p.tables e below (T34.setTop (mkF m 46 #[.val (.ref o0), .val (.int p1), .val (.int (0 : Int32)), .val (.int (2 : Int32))] [(.ref o0), (.int (2 : Int32))])) t → Steps p.tables e below (s₁.setTop (entryFrame m #[(.ref o0), (.int p1)] 4)) t := fun t k => pre35 t (by
        show Steps p.tables e below (T34.setTop (mkF m 60 #[.val (.ref o0), .val (.int p1), .val (.int (0 : Int32)), .val (.int (1 : Int32))] [])) _
        refine XS.iinc X34.here hx rfl (hb hby d1_60) rfl (l' := #[.val (.ref o0), .val (.int p1), .val (.int (0 : Int32)), .val (.int (2 : Int32))]) rfl ?_
        show Steps p.tables e below (T34.setTop (mkF m 63 #[.val (.ref o0), .val (.int p1), .val (.int (0 : Int32)), .val (.int (2 : Int32))] [])) _
        refine XS.goto X34.here hx rfl (pc0 := 63) (pc' := 44) rfl (hb hby d1_63) (by decide) (by decide) ?_
        show Steps p.tables e below (T34.setTop (mkF m 44 #[.val (.ref o0), .val (.int p1), .val (.int (0 : Int32)), .val (.int (2 : Int32))] [])) _
        refine XS.iloadN X34.here hx rfl (hb hby d1_44) rfl ?_
        show Steps p.tables e below (T34.setTop (mkF m 45 #[.val (.ref o0), .val (.int p1), .val (.int (0 : Int32)), .val (.int (2 : Int32))] [(.int (2 : Int32))])) _
        refine XS.aloadN X34.here hx rfl (hb hby d1_45) rfl rfl ?_
        exact k)
      obtain ⟨cl37, Ar37, -, Sz37, Mn37, Hs37, -⟩ := id V34
      have pre38 : ∀ t, Steps p.tables e below (T34.setTop (mkF m 47 #[.val (.ref o0), .val (.int p1), .val (.int (0 : Int32)), .val (.int (2 : Int32))] [(.int (2 : Int32)), (.int (2 : Int32))])) t → Steps p.tables e below (s₁.setTop (entryFrame m #[(.ref o0), (.int p1)] 4)) t := fun t k => pre36 t (by
        show Steps p.tables e below (T34.setTop (mkF m 46 #[.val (.ref o0), .val (.int p1), .val (.int (0 : Int32)), .val (.int (2 : Int32))] [(.ref o0), (.int (2 : Int32))])) _
        refine X34.arraylength hx (by rw [e34]; exact Ar37.1) (State.isArrayOf_alike hZ.alike Ar37.2.1) (g := (mkF m 46 #[.val (.ref o0), .val (.int p1), .val (.int (0 : Int32)), .val (.int (2 : Int32))] [(.ref o0), (.int (2 : Int32))])) rfl rfl (hb hby d1_46) _ ?_
        rw [len_of Sz37 Mn37]
        exact k)
      have pre39 : ∀ t, Steps p.tables e below (T34.setTop (mkF m 67 #[.val (.ref o0), .val (.int p1), .val (.int (0 : Int32)), .val (.int (2 : Int32))] [(.int (1 : Int32))])) t → Steps p.tables e below (s₁.setTop (entryFrame m #[(.ref o0), (.int p1)] 4)) t := fun t k => pre38 t (by
        show Steps p.tables e below (T34.setTop (mkF m 47 #[.val (.ref o0), .val (.int p1), .val (.int (0 : Int32)), .val (.int (2 : Int32))] [(.int (2 : Int32)), (.int (2 : Int32))])) _
        refine XS.icmpYes X34.here hx rfl (pc0 := 47) (pc' := 66) rfl (hb hby d1_47) rfl (by decide) (by decide) (by decide) ?_
        show Steps p.tables e below (T34.setTop (mkF m 66 #[.val (.ref o0), .val (.int p1), .val (.int (0 : Int32)), .val (.int (2 : Int32))] [])) _
        refine XS.iconst X34.here hx rfl (hb hby d1_66) ?_
        exact k)
      obtain ⟨fs, hr, hrun, hended, hW, hsame⟩ := X34.leave (v := some (.int (1 : Int32))) (fun h => by rw [Bd.returns] at h; cases h)
      refine ⟨_, _, ?_, hrun, hended, _, _, rfl, ?_, ⟨_, rfl⟩, hW, hsame.mono (by decide) (by decide)⟩
      · exact pre39 _ (retN X34 hx (t := .boolean) Bd.returns (by simp) (hb hby d1_67) hr)
      · show Q1_2 Z o0 p1 ka c0 c1 h0 n0 _ T34.heap _
        rw [e34]
        exact ⟨by simp only [f1_2, if_pos hc18_1, if_neg hc18_2], N34, K34, by rw [show (g1_2_o0_0 p1 c0 c1) = (c0 + (1 : Int32)) from by simp only [g1_2_o0_0, if_pos hc18_1, if_neg hc18_2], show (g1_2_o0_1 p1 c0 c1) = ((c0 + (1 : Int32)) + (1 : Int32)) from by simp only [g1_2_o0_1, if_pos hc18_1, if_neg hc18_2]]; exact V34⟩
  · have pre40 : ∀ t, Steps p.tables e below (s₁.setTop (mkF m 36 #[.val (.ref o0), .val (.int p1), .val (.int (1 : Int32)), .unset] [(.int (1 : Int32)), (.ref o0), (.int (1 : Int32)), (.ref o0)])) t → Steps p.tables e below (s₁.setTop (entryFrame m #[(.ref o0), (.int p1)] 4)) t := fun t k => pre12 t (by
      show Steps p.tables e below (s₁.setTop (mkF m 18 #[.val (.ref o0), .val (.int p1), .val (.int (1 : Int32)), .unset] [(.int ((p1 - (2 : Int32)) + (1 : Int32))), (.int c1)])) _
      refine XS.icmpYes X0.here hx rfl (pc0 := 18) (pc' := 27) rfl (hb hby d1_18) rfl (feq hc18_1).2 (by decide) (by decide) ?_
      show Steps p.tables e below (s₁.setTop (mkF m 27 #[.val (.ref o0), .val (.int p1), .val (.int (1 : Int32)), .unset] [])) _
      refine XS.iloadN X0.here hx rfl (hb hby d1_27) rfl ?_
      show Steps p.tables e below (s₁.setTop (mkF m 28 #[.val (.ref o0), .val (.int p1), .val (.int (1 : Int32)), .unset] [(.int (1 : Int32))])) _
      refine XS.ifYes X0.here hx rfl (pc0 := 28) (pc' := 33) rfl (hb hby d1_28) rfl (by decide) (by decide) (by decide) ?_
      show Steps p.tables e below (s₁.setTop (mkF m 33 #[.val (.ref o0), .val (.int p1), .val (.int (1 : Int32)), .unset] [])) _
      refine XS.aloadN X0.here hx rfl (hb hby d1_33) rfl rfl ?_
      show Steps p.tables e below (s₁.setTop (mkF m 34 #[.val (.ref o0), .val (.int p1), .val (.int (1 : Int32)), .unset] [(.ref o0)])) _
      refine XS.iloadN X0.here hx rfl (hb hby d1_34) rfl ?_
      show Steps p.tables e below (s₁.setTop (mkF m 35 #[.val (.ref o0), .val (.int p1), .val (.int (1 : Int32)), .unset] [(.int (1 : Int32)), (.ref o0)])) _
      refine XT.dup2 X0.here hx rfl (hb hby d1_35) rfl rfl rfl ?_
      exact k)
    obtain ⟨cl41, Ar41, -, Sz41, Mn41, Hs41, -⟩ := id I0
    have hin41 : ¬ ((1 : Int32) < 0 ∨ cl41.slots.size ≤ ((1 : Int32)).toNatClampNeg) := inb_of Sz41 ⟨by decide, by decide⟩
    have hat41 : cl41.slots[((1 : Int32)).toNatClampNeg]? = some (.int c1) := Hs41.at hin41 rfl
    have pre42 : ∀ t, Steps p.tables e below (s₁.setTop (mkF m 37 #[.val (.ref o0), .val (.int p1), .val (.int (1 : Int32)), .unset] [(.int c1), (.int (1 : Int32)), (.ref o0)])) t → Steps p.tables e below (s₁.setTop (entryFrame m #[(.ref o0), (.int p1)] 4)) t := fun t k => pre40 t (by
      show Steps p.tables e below (s₁.setTop (mkF m 36 #[.val (.ref o0), .val (.int p1), .val (.int (1 : Int32)), .unset] [(.int (1 : Int32)), (.ref o0), (.int (1 : Int32)), (.ref o0)])) _
      refine X0.iaload hx (j := (1 : Int32)) (v := (.int c1)) (by rw [e0]; exact Ar41.1) (State.isArrayOf_alike hZ.alike Ar41.2.1) Ar41.2.2 hin41 hat41 (g := (mkF m 36 #[.val (.ref o0), .val (.int p1), .val (.int (1 : Int32)), .unset] [(.int (1 : Int32)), (.ref o0), (.int (1 : Int32)), (.ref o0)])) rfl rfl (hb hby d1_36) _ ?_
      exact k)
    have pre43 : ∀ t, Steps p.tables e below (s₁.setTop (mkF m 39 #[.val (.ref o0), .val (.int p1), .val (.int (1 : Int32)), .unset] [(.int (c1 + (1 : Int32))), (.int (1 : Int32)), (.ref o0)])) t → Steps p.tables e below (s₁.setTop (entryFrame m #[(.ref o0), (.int p1)] 4)) t := fun t k => pre42 t (by
      show Steps p.tables e below (s₁.setTop (mkF m 37 #[.val (.ref o0), .val (.int p1), .val (.int (1 : Int32)), .unset] [(.int c1), (.int (1 : Int32)), (.ref o0)])) _
      refine XS.iconst X0.here hx rfl (hb hby d1_37) ?_
      show Steps p.tables e below (s₁.setTop (mkF m 38 #[.val (.ref o0), .val (.int p1), .val (.int (1 : Int32)), .unset] [(.int (1 : Int32)), (.int c1), (.int (1 : Int32)), (.ref o0)])) _
      refine XS.iadd X0.here hx rfl (hb hby d1_38) rfl ?_
      exact k)
    obtain ⟨cl44, Ar44, q44, Sz44, Mn44, Hs44, Gs44⟩ := id I0
    have hin44 : ¬ ((1 : Int32) < 0 ∨ cl44.slots.size ≤ ((1 : Int32)).toNatClampNeg) := inb_of Sz44 ⟨by decide, by decide⟩
    obtain ⟨T44, h44, X44, e44, W44, st44⟩ := stI X0 hx hZ e0 Ar44 (j := (1 : Int32)) hin44 (g := (mkF m 39 #[.val (.ref o0), .val (.int p1), .val (.int (1 : Int32)), .unset] [(.int (c1 + (1 : Int32))), (.int (1 : Int32)), (.ref o0)])) rfl rfl (hb hby d1_39)
    have V44 : Arv Z h44 o0 ka .int (2 : Int32) [(.int c0), (.int (c1 + (1 : Int32)))] (.int (0 : Int32)) := Arv.set Ar44 q44 Sz44 Mn44 Hs44 Gs44 rfl W44 1 rfl (Nat.le_of_ble_eq_true rfl)
    have N44 := Fr.snoc X44 N0 gw_o0
    have K44 : Keep h0 h44 [o0] := K0.wr W44 (Or.inl (List.mem_of_getElem? (i := 0) rfl))
    have Z44 : n0 ≤ h44.size := Nat.le_trans Z0 (Keep.of_wr W44).1
    have pre45 : ∀ t, Steps p.tables e below (T44.setTop (mkF m 40 #[.val (.ref o0), .val (.int p1), .val (.int (1 : Int32)), .unset] [])) t → Steps p.tables e below (s₁.setTop (entryFrame m #[(.ref o0), (.int p1)] 4)) t := fun t k => pre43 t (st44 _ k)
    have pre46 : ∀ t, Steps p.tables e below (T44.setTop (mkF m 46 #[.val (.ref o0), .val (.int p1), .val (.int (1 : Int32)), .val (.int (2 : Int32))] [(.ref o0), (.int (2 : Int32))])) t → Steps p.tables e below (s₁.setTop (entryFrame m #[(.ref o0), (.int p1)] 4)) t := fun t k => pre45 t (by
      show Steps p.tables e below (T44.setTop (mkF m 40 #[.val (.ref o0), .val (.int p1), .val (.int (1 : Int32)), .unset] [])) _
      refine XS.iloadN X44.here hx rfl (hb hby d1_40) rfl ?_
      show Steps p.tables e below (T44.setTop (mkF m 41 #[.val (.ref o0), .val (.int p1), .val (.int (1 : Int32)), .unset] [(.int (1 : Int32))])) _
      refine XS.iconst X44.here hx rfl (hb hby d1_41) ?_
      show Steps p.tables e below (T44.setTop (mkF m 42 #[.val (.ref o0), .val (.int p1), .val (.int (1 : Int32)), .unset] [(.int (1 : Int32)), (.int (1 : Int32))])) _
      refine XS.iadd X44.here hx rfl (hb hby d1_42) rfl ?_
      show Steps p.tables e below (T44.setTop (mkF m 43 #[.val (.ref o0), .val (.int p1), .val (.int (1 : Int32)), .unset] [(.int (2 : Int32))])) _
      refine XS.istoreN X44.here hx rfl (hb hby d1_43) rfl (l' := #[.val (.ref o0), .val (.int p1), .val (.int (1 : Int32)), .val (.int (2 : Int32))]) rfl ?_
      show Steps p.tables e below (T44.setTop (mkF m 44 #[.val (.ref o0), .val (.int p1), .val (.int (1 : Int32)), .val (.int (2 : Int32))] [])) _
      refine XS.iloadN X44.here hx rfl (hb hby d1_44) rfl ?_
      show Steps p.tables e below (T44.setTop (mkF m 45 #[.val (.ref o0), .val (.int p1), .val (.int (1 : Int32)), .val (.int (2 : Int32))] [(.int (2 : Int32))])) _
      refine XS.aloadN X44.here hx rfl (hb hby d1_45) rfl rfl ?_
      exact k)
    obtain ⟨cl47, Ar47, -, Sz47, Mn47, Hs47, -⟩ := id V44
    have pre48 : ∀ t, Steps p.tables e below (T44.setTop (mkF m 47 #[.val (.ref o0), .val (.int p1), .val (.int (1 : Int32)), .val (.int (2 : Int32))] [(.int (2 : Int32)), (.int (2 : Int32))])) t → Steps p.tables e below (s₁.setTop (entryFrame m #[(.ref o0), (.int p1)] 4)) t := fun t k => pre46 t (by
      show Steps p.tables e below (T44.setTop (mkF m 46 #[.val (.ref o0), .val (.int p1), .val (.int (1 : Int32)), .val (.int (2 : Int32))] [(.ref o0), (.int (2 : Int32))])) _
      refine X44.arraylength hx (by rw [e44]; exact Ar47.1) (State.isArrayOf_alike hZ.alike Ar47.2.1) (g := (mkF m 46 #[.val (.ref o0), .val (.int p1), .val (.int (1 : Int32)), .val (.int (2 : Int32))] [(.ref o0), (.int (2 : Int32))])) rfl rfl (hb hby d1_46) _ ?_
      rw [len_of Sz47 Mn47]
      exact k)
    have pre49 : ∀ t, Steps p.tables e below (T44.setTop (mkF m 67 #[.val (.ref o0), .val (.int p1), .val (.int (1 : Int32)), .val (.int (2 : Int32))] [(.int (1 : Int32))])) t → Steps p.tables e below (s₁.setTop (entryFrame m #[(.ref o0), (.int p1)] 4)) t := fun t k => pre48 t (by
      show Steps p.tables e below (T44.setTop (mkF m 47 #[.val (.ref o0), .val (.int p1), .val (.int (1 : Int32)), .val (.int (2 : Int32))] [(.int (2 : Int32)), (.int (2 : Int32))])) _
      refine XS.icmpYes X44.here hx rfl (pc0 := 47) (pc' := 66) rfl (hb hby d1_47) rfl (by decide) (by decide) (by decide) ?_
      show Steps p.tables e below (T44.setTop (mkF m 66 #[.val (.ref o0), .val (.int p1), .val (.int (1 : Int32)), .val (.int (2 : Int32))] [])) _
      refine XS.iconst X44.here hx rfl (hb hby d1_66) ?_
      exact k)
    obtain ⟨fs, hr, hrun, hended, hW, hsame⟩ := X44.leave (v := some (.int (1 : Int32))) (fun h => by rw [Bd.returns] at h; cases h)
    refine ⟨_, _, ?_, hrun, hended, _, _, rfl, ?_, ⟨_, rfl⟩, hW, hsame.mono (by decide) (by decide)⟩
    · exact pre49 _ (retN X44 hx (t := .boolean) Bd.returns (by simp) (hb hby d1_67) hr)
    · show Q1_2 Z o0 p1 ka c0 c1 h0 n0 _ T44.heap _
      rw [e44]
      exact ⟨by simp only [f1_2, if_neg hc18_1], N44, K44, by rw [show (g1_2_o0_0 p1 c0 c1) = c0 from by simp only [g1_2_o0_0, if_neg hc18_1], show (g1_2_o0_1 p1 c0 c1) = (c1 + (1 : Int32)) from by simp only [g1_2_o0_1, if_neg hc18_1]]; exact V44⟩
def g1_3_o0_0 (p1 : Int32) (c0 : Int32) (c1 : Int32) (c2 : Int32) : Int32 := (if c2 = ((p1 - (3 : Int32)) + (2 : Int32)) then (if c1 = ((p1 - (3 : Int32)) + (1 : Int32)) then (if c0 = ((p1 - (3 : Int32)) + (0 : Int32)) then c0 else (c0 + (1 : Int32))) else c0) else c0)
def g1_3_o0_1 (p1 : Int32) (c0 : Int32) (c1 : Int32) (c2 : Int32) : Int32 := (if c2 = ((p1 - (3 : Int32)) + (2 : Int32)) then (if c1 = ((p1 - (3 : Int32)) + (1 : Int32)) then (if c0 = ((p1 - (3 : Int32)) + (0 : Int32)) then c1 else ((c0 + (1 : Int32)) + (1 : Int32))) else (c1 + (1 : Int32))) else c1)
def g1_3_o0_2 (p1 : Int32) (c0 : Int32) (c1 : Int32) (c2 : Int32) : Int32 := (if c2 = ((p1 - (3 : Int32)) + (2 : Int32)) then (if c1 = ((p1 - (3 : Int32)) + (1 : Int32)) then (if c0 = ((p1 - (3 : Int32)) + (0 : Int32)) then c2 else (((c0 + (1 : Int32)) + (1 : Int32)) + (1 : Int32))) else ((c1 + (1 : Int32)) + (1 : Int32))) else (c2 + (1 : Int32)))
def f1_3 (p1 : Int32) (c0 : Int32) (c1 : Int32) (c2 : Int32) : Int32 := (if c2 = ((p1 - (3 : Int32)) + (2 : Int32)) then (if c1 = ((p1 - (3 : Int32)) + (1 : Int32)) then (if c0 = ((p1 - (3 : Int32)) + (0 : Int32)) then (0 : Int32) else (1 : Int32)) else (1 : Int32)) else (1 : Int32))
def Q1_3 (Z : State) (o0 : Addr) (p1 : Int32) (ka : ClassId) (c0 : Int32) (c1 : Int32) (c2 : Int32) (h0 : Heap) (n0 : Nat) (v : Option Value) (h : Heap) (L : List Loc) : Prop := v = (some (.int (f1_3 p1 c0 c1 c2))) ∧ Fr n0 L ∧ Keep h0 h [o0] ∧ Arv Z h o0 ka .int (3 : Int32) [(.int (g1_3_o0_0 p1 c0 c1 c2)), (.int (g1_3_o0_1 p1 c0 c1 c2)), (.int (g1_3_o0_2 p1 c0 c1 c2))] (.int (0 : Int32))
set_option maxRecDepth 65536 in
set_option maxHeartbeats 40000000 in
theorem rm1_3 (l : Launch) (Z : State) (a0 : Array Value) (hw : ∀ d ∈ tables_1, d.before a0 Z = true) (ws : List Jvm.Cond) (o0 : Addr) (p1 : Int32) (ka : ClassId) (c0 : Int32) (c1 : Int32) (c2 : Int32) (h0 : Heap) (n0 : Nat) (Z0 : n0 ≤ h0.size) (I0 : Arv Z h0 o0 ka .int (3 : Int32) [(.int c0), (.int c1), (.int c2)] (.int (0 : Int32))) (gw_o0 : n0 ≤ o0) :
    MetFree l (⟨"com/example/modloc/modloc/localize/Localizer", "advance", "([II)Z"⟩ : MethodName) (head1 (Jvm.Cond.code (⟨"com/example/modloc/modloc/localize/Localizer", "advance", "([II)Z"⟩ : MethodName) prog_14_method_17_code 4 (some .boolean) :: ws) ({ frames := 0, cells := 0, slots := 0, locals := 0 } : Room)) (fun a U => a = #[(.ref o0), (.int p1)] ∧ Z.Warmed39 U.vm ∧ U.heap = h0) (fun _ _ _ _ _ => True) (fun _ U o U' => ∃ v L, o = .returned v ∧ Q1_3 Z o0 p1 ka c0 c1 c2 h0 n0 v U'.heap L ∧ FrameEnd U o U' L ({ frames := 0, cells := 0, slots := 0, locals := 0 } : Room).cells ({ frames := 0, cells := 0, slots := 0, locals := 0 } : Room).slots) := by
  refine MetFree.of_bodySF (plainFor_of_name pn_1) hisR ?_
  intro p e s m args below meth c s₁ Bd hml0 hP hK
  obtain ⟨rfl, hZ, hh⟩ := hP
  have hx := Bd.exec
  have hby := Bd.bytes
  have hml : c.maxLocals = 4 := hml0
  have hown : s.vm.findClass "com/example/modloc/modloc/localize/Localizer" = some m.cls := findClass_of_methodNamed Bd.named
  have hnm := (name_of_methodNamed Bd.named Bd.method).1
  have X0 : Stand p l e ({ frames := 0, cells := 0, slots := 0, locals := 0 } : Room) s m #[(.ref o0), (.int p1)] below meth c s₁ [] 0 0 := Stand.of_body Bd
  have e0 : s₁.heap = h0 := by rw [← hh, Bd.state]; rfl
  have N0 := Fr.nil n0
  have K0 : Keep h0 h0 [o0] := Keep.refl _ _
  have pre0 : ∀ t, Steps p.tables e below (s₁.setTop (mkF m 0 #[.val (.ref o0), .val (.int p1), .unset, .unset] [])) t → Steps p.tables e below (s₁.setTop (entryFrame m #[(.ref o0), (.int p1)] 4)) t := fun t k => castTop (ef_1_0 m o0 p1) k
  have pre4 : ∀ t, Steps p.tables e below (s₁.setTop (mkF m 1 #[.val (.ref o0), .val (.int p1), .unset, .unset] [(.ref o0)])) t → Steps p.tables e below (s₁.setTop (entryFrame m #[(.ref o0), (.int p1)] 4)) t := fun t k => pre0 t (by
    show Steps p.tables e below (s₁.setTop (mkF m 0 #[.val (.ref o0), .val (.int p1), .unset, .unset] [])) _
    refine XS.aloadN X0.here hx rfl (hb hby d1_0) rfl rfl ?_
    exact k)
  obtain ⟨cl5, Ar5, -, Sz5, Mn5, Hs5, -⟩ := id I0
  have pre6 : ∀ t, Steps p.tables e below (s₁.setTop (mkF m 2 #[.val (.ref o0), .val (.int p1), .unset, .unset] [(.int (3 : Int32))])) t → Steps p.tables e below (s₁.setTop (entryFrame m #[(.ref o0), (.int p1)] 4)) t := fun t k => pre4 t (by
    show Steps p.tables e below (s₁.setTop (mkF m 1 #[.val (.ref o0), .val (.int p1), .unset, .unset] [(.ref o0)])) _
    refine X0.arraylength hx (by rw [e0]; exact Ar5.1) (State.isArrayOf_alike hZ.alike Ar5.2.1) (g := (mkF m 1 #[.val (.ref o0), .val (.int p1), .unset, .unset] [(.ref o0)])) rfl rfl (hb hby d1_1) _ ?_
    rw [len_of Sz5 Mn5]
    exact k)
  have pre7 : ∀ t, Steps p.tables e below (s₁.setTop (mkF m 11 #[.val (.ref o0), .val (.int p1), .val (.int (2 : Int32)), .unset] [(.int (2 : Int32)), (.ref o0)])) t → Steps p.tables e below (s₁.setTop (entryFrame m #[(.ref o0), (.int p1)] 4)) t := fun t k => pre6 t (by
    show Steps p.tables e below (s₁.setTop (mkF m 2 #[.val (.ref o0), .val (.int p1), .unset, .unset] [(.int (3 : Int32))])) _
    refine XS.iconst X0.here hx rfl (hb hby d1_2) ?_
    show Steps p.tables e below (s₁.setTop (mkF m 3 #[.val (.ref o0), .val (.int p1), .unset, .unset] [(.int (1 : Int32)), (.int (3 : Int32))])) _
    refine XS.isub X0.here hx rfl (hb hby d1_3) rfl ?_
    show Steps p.tables e below (s₁.setTop (mkF m 4 #[.val (.ref o0), .val (.int p1), .unset, .unset] [(.int (2 : Int32))])) _
    refine XS.istoreN X0.here hx rfl (hb hby d1_4) rfl (l' := #[.val (.ref o0), .val (.int p1), .val (.int (2 : Int32)), .unset]) rfl ?_
    show Steps p.tables e below (s₁.setTop (mkF m 5 #[.val (.ref o0), .val (.int p1), .val (.int (2 : Int32)), .unset] [])) _
    refine XS.iloadN X0.here hx rfl (hb hby d1_5) rfl ?_
    show Steps p.tables e below (s₁.setTop (mkF m 6 #[.val (.ref o0), .val (.int p1), .val (.int (2 : Int32)), .unset] [(.int (2 : Int32))])) _
    refine XS.ifNo X0.here hx rfl (hb hby d1_6) rfl (by decide) ?_
    show Steps p.tables e below (s₁.setTop (mkF m 9 #[.val (.ref o0), .val (.int p1), .val (.int (2 : Int32)), .unset] [])) _
    refine XS.aloadN X0.here hx rfl (hb hby d1_9) rfl rfl ?_
    show Steps p.tables e below (s₁.setTop (mkF m 10 #[.val (.ref o0), .val (.int p1), .val (.int (2 : Int32)), .unset] [(.ref o0)])) _
    refine XS.iloadN X0.here hx rfl (hb hby d1_10) rfl ?_
    exact k)
  obtain ⟨cl8, Ar8, -, Sz8, Mn8, Hs8, -⟩ := id I0
  have hin8 : ¬ ((2 : Int32) < 0 ∨ cl8.slots.size ≤ ((2 : Int32)).toNatClampNeg) := inb_of Sz8 ⟨by decide, by decide⟩
  have hat8 : cl8.slots[((2 : Int32)).toNatClampNeg]? = some (.int c2) := Hs8.at hin8 rfl
  have pre9 : ∀ t, Steps p.tables e below (s₁.setTop (mkF m 12 #[.val (.ref o0), .val (.int p1), .val (.int (2 : Int32)), .unset] [(.int c2)])) t → Steps p.tables e below (s₁.setTop (entryFrame m #[(.ref o0), (.int p1)] 4)) t := fun t k => pre7 t (by
    show Steps p.tables e below (s₁.setTop (mkF m 11 #[.val (.ref o0), .val (.int p1), .val (.int (2 : Int32)), .unset] [(.int (2 : Int32)), (.ref o0)])) _
    refine X0.iaload hx (j := (2 : Int32)) (v := (.int c2)) (by rw [e0]; exact Ar8.1) (State.isArrayOf_alike hZ.alike Ar8.2.1) Ar8.2.2 hin8 hat8 (g := (mkF m 11 #[.val (.ref o0), .val (.int p1), .val (.int (2 : Int32)), .unset] [(.int (2 : Int32)), (.ref o0)])) rfl rfl (hb hby d1_11) _ ?_
    exact k)
  have pre10 : ∀ t, Steps p.tables e below (s₁.setTop (mkF m 14 #[.val (.ref o0), .val (.int p1), .val (.int (2 : Int32)), .unset] [(.ref o0), (.int p1), (.int c2)])) t → Steps p.tables e below (s₁.setTop (entryFrame m #[(.ref o0), (.int p1)] 4)) t := fun t k => pre9 t (by
    show Steps p.tables e below (s₁.setTop (mkF m 12 #[.val (.ref o0), .val (.int p1), .val (.int (2 : Int32)), .unset] [(.int c2)])) _
    refine XS.iloadN X0.here hx rfl (hb hby d1_12) rfl ?_
    show Steps p.tables e below (s₁.setTop (mkF m 13 #[.val (.ref o0), .val (.int p1), .val (.int (2 : Int32)), .unset] [(.int p1), (.int c2)])) _
    refine XS.aloadN X0.here hx rfl (hb hby d1_13) rfl rfl ?_
    exact k)
  obtain ⟨cl11, Ar11, -, Sz11, Mn11, Hs11, -⟩ := id I0
  have pre12 : ∀ t, Steps p.tables e below (s₁.setTop (mkF m 15 #[.val (.ref o0), .val (.int p1), .val (.int (2 : Int32)), .unset] [(.int (3 : Int32)), (.int p1), (.int c2)])) t → Steps p.tables e below (s₁.setTop (entryFrame m #[(.ref o0), (.int p1)] 4)) t := fun t k => pre10 t (by
    show Steps p.tables e below (s₁.setTop (mkF m 14 #[.val (.ref o0), .val (.int p1), .val (.int (2 : Int32)), .unset] [(.ref o0), (.int p1), (.int c2)])) _
    refine X0.arraylength hx (by rw [e0]; exact Ar11.1) (State.isArrayOf_alike hZ.alike Ar11.2.1) (g := (mkF m 14 #[.val (.ref o0), .val (.int p1), .val (.int (2 : Int32)), .unset] [(.ref o0), (.int p1), (.int c2)])) rfl rfl (hb hby d1_14) _ ?_
    rw [len_of Sz11 Mn11]
    exact k)
  have pre13 : ∀ t, Steps p.tables e below (s₁.setTop (mkF m 18 #[.val (.ref o0), .val (.int p1), .val (.int (2 : Int32)), .unset] [(.int ((p1 - (3 : Int32)) + (2 : Int32))), (.int c2)])) t → Steps p.tables e below (s₁.setTop (entryFrame m #[(.ref o0), (.int p1)] 4)) t := fun t k => pre12 t (by
    show Steps p.tables e below (s₁.setTop (mkF m 15 #[.val (.ref o0), .val (.int p1), .val (.int (2 : Int32)), .unset] [(.int (3 : Int32)), (.int p1), (.int c2)])) _
    refine XS.isub X0.here hx rfl (hb hby d1_15) rfl ?_
    show Steps p.tables e below (s₁.setTop (mkF m 16 #[.val (.ref o0), .val (.int p1), .val (.int (2 : Int32)), .unset] [(.int (p1 - (3 : Int32))), (.int c2)])) _
    refine XS.iloadN X0.here hx rfl (hb hby d1_16) rfl ?_
    show Steps p.tables e below (s₁.setTop (mkF m 17 #[.val (.ref o0), .val (.int p1), .val (.int (2 : Int32)), .unset] [(.int (2 : Int32)), (.int (p1 - (3 : Int32))), (.int c2)])) _
    refine XS.iadd X0.here hx rfl (hb hby d1_17) rfl ?_
    exact k)
  by_cases hc18_1 : c2 = ((p1 - (3 : Int32)) + (2 : Int32))
  · have pre14 : ∀ t, Steps p.tables e below (s₁.setTop (mkF m 11 #[.val (.ref o0), .val (.int p1), .val (.int (1 : Int32)), .unset] [(.int (1 : Int32)), (.ref o0)])) t → Steps p.tables e below (s₁.setTop (entryFrame m #[(.ref o0), (.int p1)] 4)) t := fun t k => pre13 t (by
      show Steps p.tables e below (s₁.setTop (mkF m 18 #[.val (.ref o0), .val (.int p1), .val (.int (2 : Int32)), .unset] [(.int ((p1 - (3 : Int32)) + (2 : Int32))), (.int c2)])) _
      refine XS.icmpNo X0.here hx rfl (hb hby d1_18) rfl (teq hc18_1).2 ?_
      show Steps p.tables e below (s₁.setTop (mkF m 21 #[.val (.ref o0), .val (.int p1), .val (.int (2 : Int32)), .unset] [])) _
      refine XS.iinc X0.here hx rfl (hb hby d1_21) rfl (l' := #[.val (.ref o0), .val (.int p1), .val (.int (1 : Int32)), .unset]) rfl ?_
      show Steps p.tables e below (s₁.setTop (mkF m 24 #[.val (.ref o0), .val (.int p1), .val (.int (1 : Int32)), .unset] [])) _
      refine XS.goto X0.here hx rfl (pc0 := 24) (pc' := 5) rfl (hb hby d1_24) (by decide) (by decide) ?_
      show Steps p.tables e below (s₁.setTop (mkF m 5 #[.val (.ref o0), .val (.int p1), .val (.int (1 : Int32)), .unset] [])) _
      refine XS.iloadN X0.here hx rfl (hb hby d1_5) rfl ?_
      show Steps p.tables e below (s₁.setTop (mkF m 6 #[.val (.ref o0), .val (.int p1), .val (.int (1 : Int32)), .unset] [(.int (1 : Int32))])) _
      refine XS.ifNo X0.here hx rfl (hb hby d1_6) rfl (by decide) ?_
      show Steps p.tables e below (s₁.setTop (mkF m 9 #[.val (.ref o0), .val (.int p1), .val (.int (1 : Int32)), .unset] [])) _
      refine XS.aloadN X0.here hx rfl (hb hby d1_9) rfl rfl ?_
      show Steps p.tables e below (s₁.setTop (mkF m 10 #[.val (.ref o0), .val (.int p1), .val (.int (1 : Int32)), .unset] [(.ref o0)])) _
      refine XS.iloadN X0.here hx rfl (hb hby d1_10) rfl ?_
      exact k)
    obtain ⟨cl15, Ar15, -, Sz15, Mn15, Hs15, -⟩ := id I0
    have hin15 : ¬ ((1 : Int32) < 0 ∨ cl15.slots.size ≤ ((1 : Int32)).toNatClampNeg) := inb_of Sz15 ⟨by decide, by decide⟩
    have hat15 : cl15.slots[((1 : Int32)).toNatClampNeg]? = some (.int c1) := Hs15.at hin15 rfl
    have pre16 : ∀ t, Steps p.tables e below (s₁.setTop (mkF m 12 #[.val (.ref o0), .val (.int p1), .val (.int (1 : Int32)), .unset] [(.int c1)])) t → Steps p.tables e below (s₁.setTop (entryFrame m #[(.ref o0), (.int p1)] 4)) t := fun t k => pre14 t (by
      show Steps p.tables e below (s₁.setTop (mkF m 11 #[.val (.ref o0), .val (.int p1), .val (.int (1 : Int32)), .unset] [(.int (1 : Int32)), (.ref o0)])) _
      refine X0.iaload hx (j := (1 : Int32)) (v := (.int c1)) (by rw [e0]; exact Ar15.1) (State.isArrayOf_alike hZ.alike Ar15.2.1) Ar15.2.2 hin15 hat15 (g := (mkF m 11 #[.val (.ref o0), .val (.int p1), .val (.int (1 : Int32)), .unset] [(.int (1 : Int32)), (.ref o0)])) rfl rfl (hb hby d1_11) _ ?_
      exact k)
    have pre17 : ∀ t, Steps p.tables e below (s₁.setTop (mkF m 14 #[.val (.ref o0), .val (.int p1), .val (.int (1 : Int32)), .unset] [(.ref o0), (.int p1), (.int c1)])) t → Steps p.tables e below (s₁.setTop (entryFrame m #[(.ref o0), (.int p1)] 4)) t := fun t k => pre16 t (by
      show Steps p.tables e below (s₁.setTop (mkF m 12 #[.val (.ref o0), .val (.int p1), .val (.int (1 : Int32)), .unset] [(.int c1)])) _
      refine XS.iloadN X0.here hx rfl (hb hby d1_12) rfl ?_
      show Steps p.tables e below (s₁.setTop (mkF m 13 #[.val (.ref o0), .val (.int p1), .val (.int (1 : Int32)), .unset] [(.int p1), (.int c1)])) _
      refine XS.aloadN X0.here hx rfl (hb hby d1_13) rfl rfl ?_
      exact k)
    obtain ⟨cl18, Ar18, -, Sz18, Mn18, Hs18, -⟩ := id I0
    have pre19 : ∀ t, Steps p.tables e below (s₁.setTop (mkF m 15 #[.val (.ref o0), .val (.int p1), .val (.int (1 : Int32)), .unset] [(.int (3 : Int32)), (.int p1), (.int c1)])) t → Steps p.tables e below (s₁.setTop (entryFrame m #[(.ref o0), (.int p1)] 4)) t := fun t k => pre17 t (by
      show Steps p.tables e below (s₁.setTop (mkF m 14 #[.val (.ref o0), .val (.int p1), .val (.int (1 : Int32)), .unset] [(.ref o0), (.int p1), (.int c1)])) _
      refine X0.arraylength hx (by rw [e0]; exact Ar18.1) (State.isArrayOf_alike hZ.alike Ar18.2.1) (g := (mkF m 14 #[.val (.ref o0), .val (.int p1), .val (.int (1 : Int32)), .unset] [(.ref o0), (.int p1), (.int c1)])) rfl rfl (hb hby d1_14) _ ?_
      rw [len_of Sz18 Mn18]
      exact k)
    have pre20 : ∀ t, Steps p.tables e below (s₁.setTop (mkF m 18 #[.val (.ref o0), .val (.int p1), .val (.int (1 : Int32)), .unset] [(.int ((p1 - (3 : Int32)) + (1 : Int32))), (.int c1)])) t → Steps p.tables e below (s₁.setTop (entryFrame m #[(.ref o0), (.int p1)] 4)) t := fun t k => pre19 t (by
      show Steps p.tables e below (s₁.setTop (mkF m 15 #[.val (.ref o0), .val (.int p1), .val (.int (1 : Int32)), .unset] [(.int (3 : Int32)), (.int p1), (.int c1)])) _
      refine XS.isub X0.here hx rfl (hb hby d1_15) rfl ?_
      show Steps p.tables e below (s₁.setTop (mkF m 16 #[.val (.ref o0), .val (.int p1), .val (.int (1 : Int32)), .unset] [(.int (p1 - (3 : Int32))), (.int c1)])) _
      refine XS.iloadN X0.here hx rfl (hb hby d1_16) rfl ?_
      show Steps p.tables e below (s₁.setTop (mkF m 17 #[.val (.ref o0), .val (.int p1), .val (.int (1 : Int32)), .unset] [(.int (1 : Int32)), (.int (p1 - (3 : Int32))), (.int c1)])) _
      refine XS.iadd X0.here hx rfl (hb hby d1_17) rfl ?_
      exact k)
    by_cases hc18_2 : c1 = ((p1 - (3 : Int32)) + (1 : Int32))
    · have pre21 : ∀ t, Steps p.tables e below (s₁.setTop (mkF m 11 #[.val (.ref o0), .val (.int p1), .val (.int (0 : Int32)), .unset] [(.int (0 : Int32)), (.ref o0)])) t → Steps p.tables e below (s₁.setTop (entryFrame m #[(.ref o0), (.int p1)] 4)) t := fun t k => pre20 t (by
        show Steps p.tables e below (s₁.setTop (mkF m 18 #[.val (.ref o0), .val (.int p1), .val (.int (1 : Int32)), .unset] [(.int ((p1 - (3 : Int32)) + (1 : Int32))), (.int c1)])) _
        refine XS.icmpNo X0.here hx rfl (hb hby d1_18) rfl (teq hc18_2).2 ?_
        show Steps p.tables e below (s₁.setTop (mkF m 21 #[.val (.ref o0), .val (.int p1), .val (.int (1 : Int32)), .unset] [])) _
        refine XS.iinc X0.here hx rfl (hb hby d1_21) rfl (l' := #[.val (.ref o0), .val (.int p1), .val (.int (0 : Int32)), .unset]) rfl ?_
        show Steps p.tables e below (s₁.setTop (mkF m 24 #[.val (.ref o0), .val (.int p1), .val (.int (0 : Int32)), .unset] [])) _
        refine XS.goto X0.here hx rfl (pc0 := 24) (pc' := 5) rfl (hb hby d1_24) (by decide) (by decide) ?_
        show Steps p.tables e below (s₁.setTop (mkF m 5 #[.val (.ref o0), .val (.int p1), .val (.int (0 : Int32)), .unset] [])) _
        refine XS.iloadN X0.here hx rfl (hb hby d1_5) rfl ?_
        show Steps p.tables e below (s₁.setTop (mkF m 6 #[.val (.ref o0), .val (.int p1), .val (.int (0 : Int32)), .unset] [(.int (0 : Int32))])) _
        refine XS.ifNo X0.here hx rfl (hb hby d1_6) rfl (by decide) ?_
        show Steps p.tables e below (s₁.setTop (mkF m 9 #[.val (.ref o0), .val (.int p1), .val (.int (0 : Int32)), .unset] [])) _
        refine XS.aloadN X0.here hx rfl (hb hby d1_9) rfl rfl ?_
        show Steps p.tables e below (s₁.setTop (mkF m 10 #[.val (.ref o0), .val (.int p1), .val (.int (0 : Int32)), .unset] [(.ref o0)])) _
        refine XS.iloadN X0.here hx rfl (hb hby d1_10) rfl ?_
        exact k)
      obtain ⟨cl22, Ar22, -, Sz22, Mn22, Hs22, -⟩ := id I0
      have hin22 : ¬ ((0 : Int32) < 0 ∨ cl22.slots.size ≤ ((0 : Int32)).toNatClampNeg) := inb_of Sz22 ⟨by decide, by decide⟩
      have hat22 : cl22.slots[((0 : Int32)).toNatClampNeg]? = some (.int c0) := Hs22.at hin22 rfl
      have pre23 : ∀ t, Steps p.tables e below (s₁.setTop (mkF m 12 #[.val (.ref o0), .val (.int p1), .val (.int (0 : Int32)), .unset] [(.int c0)])) t → Steps p.tables e below (s₁.setTop (entryFrame m #[(.ref o0), (.int p1)] 4)) t := fun t k => pre21 t (by
        show Steps p.tables e below (s₁.setTop (mkF m 11 #[.val (.ref o0), .val (.int p1), .val (.int (0 : Int32)), .unset] [(.int (0 : Int32)), (.ref o0)])) _
        refine X0.iaload hx (j := (0 : Int32)) (v := (.int c0)) (by rw [e0]; exact Ar22.1) (State.isArrayOf_alike hZ.alike Ar22.2.1) Ar22.2.2 hin22 hat22 (g := (mkF m 11 #[.val (.ref o0), .val (.int p1), .val (.int (0 : Int32)), .unset] [(.int (0 : Int32)), (.ref o0)])) rfl rfl (hb hby d1_11) _ ?_
        exact k)
      have pre24 : ∀ t, Steps p.tables e below (s₁.setTop (mkF m 14 #[.val (.ref o0), .val (.int p1), .val (.int (0 : Int32)), .unset] [(.ref o0), (.int p1), (.int c0)])) t → Steps p.tables e below (s₁.setTop (entryFrame m #[(.ref o0), (.int p1)] 4)) t := fun t k => pre23 t (by
        show Steps p.tables e below (s₁.setTop (mkF m 12 #[.val (.ref o0), .val (.int p1), .val (.int (0 : Int32)), .unset] [(.int c0)])) _
        refine XS.iloadN X0.here hx rfl (hb hby d1_12) rfl ?_
        show Steps p.tables e below (s₁.setTop (mkF m 13 #[.val (.ref o0), .val (.int p1), .val (.int (0 : Int32)), .unset] [(.int p1), (.int c0)])) _
        refine XS.aloadN X0.here hx rfl (hb hby d1_13) rfl rfl ?_
        exact k)
      obtain ⟨cl25, Ar25, -, Sz25, Mn25, Hs25, -⟩ := id I0
      have pre26 : ∀ t, Steps p.tables e below (s₁.setTop (mkF m 15 #[.val (.ref o0), .val (.int p1), .val (.int (0 : Int32)), .unset] [(.int (3 : Int32)), (.int p1), (.int c0)])) t → Steps p.tables e below (s₁.setTop (entryFrame m #[(.ref o0), (.int p1)] 4)) t := fun t k => pre24 t (by
        show Steps p.tables e below (s₁.setTop (mkF m 14 #[.val (.ref o0), .val (.int p1), .val (.int (0 : Int32)), .unset] [(.ref o0), (.int p1), (.int c0)])) _
        refine X0.arraylength hx (by rw [e0]; exact Ar25.1) (State.isArrayOf_alike hZ.alike Ar25.2.1) (g := (mkF m 14 #[.val (.ref o0), .val (.int p1), .val (.int (0 : Int32)), .unset] [(.ref o0), (.int p1), (.int c0)])) rfl rfl (hb hby d1_14) _ ?_
        rw [len_of Sz25 Mn25]
        exact k)
      have pre27 : ∀ t, Steps p.tables e below (s₁.setTop (mkF m 18 #[.val (.ref o0), .val (.int p1), .val (.int (0 : Int32)), .unset] [(.int ((p1 - (3 : Int32)) + (0 : Int32))), (.int c0)])) t → Steps p.tables e below (s₁.setTop (entryFrame m #[(.ref o0), (.int p1)] 4)) t := fun t k => pre26 t (by
        show Steps p.tables e below (s₁.setTop (mkF m 15 #[.val (.ref o0), .val (.int p1), .val (.int (0 : Int32)), .unset] [(.int (3 : Int32)), (.int p1), (.int c0)])) _
        refine XS.isub X0.here hx rfl (hb hby d1_15) rfl ?_
        show Steps p.tables e below (s₁.setTop (mkF m 16 #[.val (.ref o0), .val (.int p1), .val (.int (0 : Int32)), .unset] [(.int (p1 - (3 : Int32))), (.int c0)])) _
        refine XS.iloadN X0.here hx rfl (hb hby d1_16) rfl ?_
        show Steps p.tables e below (s₁.setTop (mkF m 17 #[.val (.ref o0), .val (.int p1), .val (.int (0 : Int32)), .unset] [(.int (0 : Int32)), (.int (p1 - (3 : Int32))), (.int c0)])) _
        refine XS.iadd X0.here hx rfl (hb hby d1_17) rfl ?_
        exact k)
      by_cases hc18_3 : c0 = ((p1 - (3 : Int32)) + (0 : Int32))
      · have pre28 : ∀ t, Steps p.tables e below (s₁.setTop (mkF m 32 #[.val (.ref o0), .val (.int p1), .val (.int (-1 : Int32)), .unset] [(.int (0 : Int32))])) t → Steps p.tables e below (s₁.setTop (entryFrame m #[(.ref o0), (.int p1)] 4)) t := fun t k => pre27 t (by
          show Steps p.tables e below (s₁.setTop (mkF m 18 #[.val (.ref o0), .val (.int p1), .val (.int (0 : Int32)), .unset] [(.int ((p1 - (3 : Int32)) + (0 : Int32))), (.int c0)])) _
          refine XS.icmpNo X0.here hx rfl (hb hby d1_18) rfl (teq hc18_3).2 ?_
          show Steps p.tables e below (s₁.setTop (mkF m 21 #[.val (.ref o0), .val (.int p1), .val (.int (0 : Int32)), .unset] [])) _
          refine XS.iinc X0.here hx rfl (hb hby d1_21) rfl (l' := #[.val (.ref o0), .val (.int p1), .val (.int (-1 : Int32)), .unset]) rfl ?_
          show Steps p.tables e below (s₁.setTop (mkF m 24 #[.val (.ref o0), .val (.int p1), .val (.int (-1 : Int32)), .unset] [])) _
          refine XS.goto X0.here hx rfl (pc0 := 24) (pc' := 5) rfl (hb hby d1_24) (by decide) (by decide) ?_
          show Steps p.tables e below (s₁.setTop (mkF m 5 #[.val (.ref o0), .val (.int p1), .val (.int (-1 : Int32)), .unset] [])) _
          refine XS.iloadN X0.here hx rfl (hb hby d1_5) rfl ?_
          show Steps p.tables e below (s₁.setTop (mkF m 6 #[.val (.ref o0), .val (.int p1), .val (.int (-1 : Int32)), .unset] [(.int (-1 : Int32))])) _
          refine XS.ifYes X0.here hx rfl (pc0 := 6) (pc' := 27) rfl (hb hby d1_6) rfl (by decide) (by decide) (by decide) ?_
          show Steps p.tables e below (s₁.setTop (mkF m 27 #[.val (.ref o0), .val (.int p1), .val (.int (-1 : Int32)), .unset] [])) _
          refine XS.iloadN X0.here hx rfl (hb hby d1_27) rfl ?_
          show Steps p.tables e below (s₁.setTop (mkF m 28 #[.val (.ref o0), .val (.int p1), .val (.int (-1 : Int32)), .unset] [(.int (-1 : Int32))])) _
          refine XS.ifNo X0.here hx rfl (hb hby d1_28) rfl (by decide) ?_
          show Steps p.tables e below (s₁.setTop (mkF m 31 #[.val (.ref o0), .val (.int p1), .val (.int (-1 : Int32)), .unset] [])) _
          refine XS.iconst X0.here hx rfl (hb hby d1_31) ?_
          exact k)
        obtain ⟨fs, hr, hrun, hended, hW, hsame⟩ := X0.leave (v := some (.int (0 : Int32))) (fun h => by rw [Bd.returns] at h; cases h)
        refine ⟨_, _, ?_, hrun, hended, _, _, rfl, ?_, ⟨_, rfl⟩, hW, hsame.mono (by decide) (by decide)⟩
        · exact pre28 _ (retN X0 hx (t := .boolean) Bd.returns (by simp) (hb hby d1_32) hr)
        · show Q1_3 Z o0 p1 ka c0 c1 c2 h0 n0 _ s₁.heap _
          rw [e0]
          exact ⟨by simp only [f1_3, if_pos hc18_1, if_pos hc18_2, if_pos hc18_3], N0, K0, by rw [show (g1_3_o0_0 p1 c0 c1 c2) = c0 from by simp only [g1_3_o0_0, if_pos hc18_1, if_pos hc18_2, if_pos hc18_3], show (g1_3_o0_1 p1 c0 c1 c2) = c1 from by simp only [g1_3_o0_1, if_pos hc18_1, if_pos hc18_2, if_pos hc18_3], show (g1_3_o0_2 p1 c0 c1 c2) = c2 from by simp only [g1_3_o0_2, if_pos hc18_1, if_pos hc18_2, if_pos hc18_3]]; exact I0⟩
      · have pre29 : ∀ t, Steps p.tables e below (s₁.setTop (mkF m 36 #[.val (.ref o0), .val (.int p1), .val (.int (0 : Int32)), .unset] [(.int (0 : Int32)), (.ref o0), (.int (0 : Int32)), (.ref o0)])) t → Steps p.tables e below (s₁.setTop (entryFrame m #[(.ref o0), (.int p1)] 4)) t := fun t k => pre27 t (by
          show Steps p.tables e below (s₁.setTop (mkF m 18 #[.val (.ref o0), .val (.int p1), .val (.int (0 : Int32)), .unset] [(.int ((p1 - (3 : Int32)) + (0 : Int32))), (.int c0)])) _
          refine XS.icmpYes X0.here hx rfl (pc0 := 18) (pc' := 27) rfl (hb hby d1_18) rfl (feq hc18_3).2 (by decide) (by decide) ?_
          show Steps p.tables e below (s₁.setTop (mkF m 27 #[.val (.ref o0), .val (.int p1), .val (.int (0 : Int32)), .unset] [])) _
          refine XS.iloadN X0.here hx rfl (hb hby d1_27) rfl ?_
          show Steps p.tables e below (s₁.setTop (mkF m 28 #[.val (.ref o0), .val (.int p1), .val (.int (0 : Int32)), .unset] [(.int (0 : Int32))])) _
          refine XS.ifYes X0.here hx rfl (pc0 := 28) (pc' := 33) rfl (hb hby d1_28) rfl (by decide) (by decide) (by decide) ?_
          show Steps p.tables e below (s₁.setTop (mkF m 33 #[.val (.ref o0), .val (.int p1), .val (.int (0 : Int32)), .unset] [])) _
          refine XS.aloadN X0.here hx rfl (hb hby d1_33) rfl rfl ?_
          show Steps p.tables e below (s₁.setTop (mkF m 34 #[.val (.ref o0), .val (.int p1), .val (.int (0 : Int32)), .unset] [(.ref o0)])) _
          refine XS.iloadN X0.here hx rfl (hb hby d1_34) rfl ?_
          show Steps p.tables e below (s₁.setTop (mkF m 35 #[.val (.ref o0), .val (.int p1), .val (.int (0 : Int32)), .unset] [(.int (0 : Int32)), (.ref o0)])) _
          refine XT.dup2 X0.here hx rfl (hb hby d1_35) rfl rfl rfl ?_
          exact k)
        obtain ⟨cl30, Ar30, -, Sz30, Mn30, Hs30, -⟩ := id I0
        have hin30 : ¬ ((0 : Int32) < 0 ∨ cl30.slots.size ≤ ((0 : Int32)).toNatClampNeg) := inb_of Sz30 ⟨by decide, by decide⟩
        have hat30 : cl30.slots[((0 : Int32)).toNatClampNeg]? = some (.int c0) := Hs30.at hin30 rfl
        have pre31 : ∀ t, Steps p.tables e below (s₁.setTop (mkF m 37 #[.val (.ref o0), .val (.int p1), .val (.int (0 : Int32)), .unset] [(.int c0), (.int (0 : Int32)), (.ref o0)])) t → Steps p.tables e below (s₁.setTop (entryFrame m #[(.ref o0), (.int p1)] 4)) t := fun t k => pre29 t (by
          show Steps p.tables e below (s₁.setTop (mkF m 36 #[.val (.ref o0), .val (.int p1), .val (.int (0 : Int32)), .unset] [(.int (0 : Int32)), (.ref o0), (.int (0 : Int32)), (.ref o0)])) _
          refine X0.iaload hx (j := (0 : Int32)) (v := (.int c0)) (by rw [e0]; exact Ar30.1) (State.isArrayOf_alike hZ.alike Ar30.2.1) Ar30.2.2 hin30 hat30 (g := (mkF m 36 #[.val (.ref o0), .val (.int p1), .val (.int (0 : Int32)), .unset] [(.int (0 : Int32)), (.ref o0), (.int (0 : Int32)), (.ref o0)])) rfl rfl (hb hby d1_36) _ ?_
          exact k)
        have pre32 : ∀ t, Steps p.tables e below (s₁.setTop (mkF m 39 #[.val (.ref o0), .val (.int p1), .val (.int (0 : Int32)), .unset] [(.int (c0 + (1 : Int32))), (.int (0 : Int32)), (.ref o0)])) t → Steps p.tables e below (s₁.setTop (entryFrame m #[(.ref o0), (.int p1)] 4)) t := fun t k => pre31 t (by
          show Steps p.tables e below (s₁.setTop (mkF m 37 #[.val (.ref o0), .val (.int p1), .val (.int (0 : Int32)), .unset] [(.int c0), (.int (0 : Int32)), (.ref o0)])) _
          refine XS.iconst X0.here hx rfl (hb hby d1_37) ?_
          show Steps p.tables e below (s₁.setTop (mkF m 38 #[.val (.ref o0), .val (.int p1), .val (.int (0 : Int32)), .unset] [(.int (1 : Int32)), (.int c0), (.int (0 : Int32)), (.ref o0)])) _
          refine XS.iadd X0.here hx rfl (hb hby d1_38) rfl ?_
          exact k)
        obtain ⟨cl33, Ar33, q33, Sz33, Mn33, Hs33, Gs33⟩ := id I0
        have hin33 : ¬ ((0 : Int32) < 0 ∨ cl33.slots.size ≤ ((0 : Int32)).toNatClampNeg) := inb_of Sz33 ⟨by decide, by decide⟩
        obtain ⟨T33, h33, X33, e33, W33, st33⟩ := stI X0 hx hZ e0 Ar33 (j := (0 : Int32)) hin33 (g := (mkF m 39 #[.val (.ref o0), .val (.int p1), .val (.int (0 : Int32)), .unset] [(.int (c0 + (1 : Int32))), (.int (0 : Int32)), (.ref o0)])) rfl rfl (hb hby d1_39)
        have V33 : Arv Z h33 o0 ka .int (3 : Int32) [(.int (c0 + (1 : Int32))), (.int c1), (.int c2)] (.int (0 : Int32)) := Arv.set Ar33 q33 Sz33 Mn33 Hs33 Gs33 rfl W33 0 rfl (Nat.le_of_ble_eq_true rfl)
        have N33 := Fr.snoc X33 N0 gw_o0
        have K33 : Keep h0 h33 [o0] := K0.wr W33 (Or.inl (List.mem_of_getElem? (i := 0) rfl))
        have Z33 : n0 ≤ h33.size := Nat.le_trans Z0 (Keep.of_wr W33).1
        have pre34 : ∀ t, Steps p.tables e below (T33.setTop (mkF m 40 #[.val (.ref o0), .val (.int p1), .val (.int (0 : Int32)), .unset] [])) t → Steps p.tables e below (s₁.setTop (entryFrame m #[(.ref o0), (.int p1)] 4)) t := fun t k => pre32 t (st33 _ k)
        have pre35 : ∀ t, Steps p.tables e below (T33.setTop (mkF m 46 #[.val (.ref o0), .val (.int p1), .val (.int (0 : Int32)), .val (.int (1 : Int32))] [(.ref o0), (.int (1 : Int32))])) t → Steps p.tables e below (s₁.setTop (entryFrame m #[(.ref o0), (.int p1)] 4)) t := fun t k => pre34 t (by
          show Steps p.tables e below (T33.setTop (mkF m 40 #[.val (.ref o0), .val (.int p1), .val (.int (0 : Int32)), .unset] [])) _
          refine XS.iloadN X33.here hx rfl (hb hby d1_40) rfl ?_
          show Steps p.tables e below (T33.setTop (mkF m 41 #[.val (.ref o0), .val (.int p1), .val (.int (0 : Int32)), .unset] [(.int (0 : Int32))])) _
          refine XS.iconst X33.here hx rfl (hb hby d1_41) ?_
          show Steps p.tables e below (T33.setTop (mkF m 42 #[.val (.ref o0), .val (.int p1), .val (.int (0 : Int32)), .unset] [(.int (1 : Int32)), (.int (0 : Int32))])) _
          refine XS.iadd X33.here hx rfl (hb hby d1_42) rfl ?_
          show Steps p.tables e below (T33.setTop (mkF m 43 #[.val (.ref o0), .val (.int p1), .val (.int (0 : Int32)), .unset] [(.int (1 : Int32))])) _
          refine XS.istoreN X33.here hx rfl (hb hby d1_43) rfl (l' := #[.val (.ref o0), .val (.int p1), .val (.int (0 : Int32)), .val (.int (1 : Int32))]) rfl ?_
          show Steps p.tables e below (T33.setTop (mkF m 44 #[.val (.ref o0), .val (.int p1), .val (.int (0 : Int32)), .val (.int (1 : Int32))] [])) _
          refine XS.iloadN X33.here hx rfl (hb hby d1_44) rfl ?_
          show Steps p.tables e below (T33.setTop (mkF m 45 #[.val (.ref o0), .val (.int p1), .val (.int (0 : Int32)), .val (.int (1 : Int32))] [(.int (1 : Int32))])) _
          refine XS.aloadN X33.here hx rfl (hb hby d1_45) rfl rfl ?_
          exact k)
        obtain ⟨cl36, Ar36, -, Sz36, Mn36, Hs36, -⟩ := id V33
        have pre37 : ∀ t, Steps p.tables e below (T33.setTop (mkF m 47 #[.val (.ref o0), .val (.int p1), .val (.int (0 : Int32)), .val (.int (1 : Int32))] [(.int (3 : Int32)), (.int (1 : Int32))])) t → Steps p.tables e below (s₁.setTop (entryFrame m #[(.ref o0), (.int p1)] 4)) t := fun t k => pre35 t (by
          show Steps p.tables e below (T33.setTop (mkF m 46 #[.val (.ref o0), .val (.int p1), .val (.int (0 : Int32)), .val (.int (1 : Int32))] [(.ref o0), (.int (1 : Int32))])) _
          refine X33.arraylength hx (by rw [e33]; exact Ar36.1) (State.isArrayOf_alike hZ.alike Ar36.2.1) (g := (mkF m 46 #[.val (.ref o0), .val (.int p1), .val (.int (0 : Int32)), .val (.int (1 : Int32))] [(.ref o0), (.int (1 : Int32))])) rfl rfl (hb hby d1_46) _ ?_
          rw [len_of Sz36 Mn36]
          exact k)
        have pre38 : ∀ t, Steps p.tables e below (T33.setTop (mkF m 56 #[.val (.ref o0), .val (.int p1), .val (.int (0 : Int32)), .val (.int (1 : Int32))] [(.int (0 : Int32)), (.ref o0), (.int (1 : Int32)), (.ref o0)])) t → Steps p.tables e below (s₁.setTop (entryFrame m #[(.ref o0), (.int p1)] 4)) t := fun t k => pre37 t (by
          show Steps p.tables e below (T33.setTop (mkF m 47 #[.val (.ref o0), .val (.int p1), .val (.int (0 : Int32)), .val (.int (1 : Int32))] [(.int (3 : Int32)), (.int (1 : Int32))])) _
          refine XS.icmpNo X33.here hx rfl (hb hby d1_47) rfl (by decide) ?_
          show Steps p.tables e below (T33.setTop (mkF m 50 #[.val (.ref o0), .val (.int p1), .val (.int (0 : Int32)), .val (.int (1 : Int32))] [])) _
          refine XS.aloadN X33.here hx rfl (hb hby d1_50) rfl rfl ?_
          show Steps p.tables e below (T33.setTop (mkF m 51 #[.val (.ref o0), .val (.int p1), .val (.int (0 : Int32)), .val (.int (1 : Int32))] [(.ref o0)])) _
          refine XS.iloadN X33.here hx rfl (hb hby d1_51) rfl ?_
          show Steps p.tables e below (T33.setTop (mkF m 52 #[.val (.ref o0), .val (.int p1), .val (.int (0 : Int32)), .val (.int (1 : Int32))] [(.int (1 : Int32)), (.ref o0)])) _
          refine XS.aloadN X33.here hx rfl (hb hby d1_52) rfl rfl ?_
          show Steps p.tables e below (T33.setTop (mkF m 53 #[.val (.ref o0), .val (.int p1), .val (.int (0 : Int32)), .val (.int (1 : Int32))] [(.ref o0), (.int (1 : Int32)), (.ref o0)])) _
          refine XS.iloadN X33.here hx rfl (hb hby d1_53) rfl ?_
          show Steps p.tables e below (T33.setTop (mkF m 54 #[.val (.ref o0), .val (.int p1), .val (.int (0 : Int32)), .val (.int (1 : Int32))] [(.int (1 : Int32)), (.ref o0), (.int (1 : Int32)), (.ref o0)])) _
          refine XS.iconst X33.here hx rfl (hb hby d1_54) ?_
          show Steps p.tables e below (T33.setTop (mkF m 55 #[.val (.ref o0), .val (.int p1), .val (.int (0 : Int32)), .val (.int (1 : Int32))] [(.int (1 : Int32)), (.int (1 : Int32)), (.ref o0), (.int (1 : Int32)), (.ref o0)])) _
          refine XS.isub X33.here hx rfl (hb hby d1_55) rfl ?_
          exact k)
        obtain ⟨cl39, Ar39, -, Sz39, Mn39, Hs39, -⟩ := id V33
        have hin39 : ¬ ((0 : Int32) < 0 ∨ cl39.slots.size ≤ ((0 : Int32)).toNatClampNeg) := inb_of Sz39 ⟨by decide, by decide⟩
        have hat39 : cl39.slots[((0 : Int32)).toNatClampNeg]? = some (.int (c0 + (1 : Int32))) := Hs39.at hin39 rfl
        have pre40 : ∀ t, Steps p.tables e below (T33.setTop (mkF m 57 #[.val (.ref o0), .val (.int p1), .val (.int (0 : Int32)), .val (.int (1 : Int32))] [(.int (c0 + (1 : Int32))), (.int (1 : Int32)), (.ref o0)])) t → Steps p.tables e below (s₁.setTop (entryFrame m #[(.ref o0), (.int p1)] 4)) t := fun t k => pre38 t (by
          show Steps p.tables e below (T33.setTop (mkF m 56 #[.val (.ref o0), .val (.int p1), .val (.int (0 : Int32)), .val (.int (1 : Int32))] [(.int (0 : Int32)), (.ref o0), (.int (1 : Int32)), (.ref o0)])) _
          refine X33.iaload hx (j := (0 : Int32)) (v := (.int (c0 + (1 : Int32)))) (by rw [e33]; exact Ar39.1) (State.isArrayOf_alike hZ.alike Ar39.2.1) Ar39.2.2 hin39 hat39 (g := (mkF m 56 #[.val (.ref o0), .val (.int p1), .val (.int (0 : Int32)), .val (.int (1 : Int32))] [(.int (0 : Int32)), (.ref o0), (.int (1 : Int32)), (.ref o0)])) rfl rfl (hb hby d1_56) _ ?_
          exact k)
        have pre41 : ∀ t, Steps p.tables e below (T33.setTop (mkF m 59 #[.val (.ref o0), .val (.int p1), .val (.int (0 : Int32)), .val (.int (1 : Int32))] [(.int ((c0 + (1 : Int32)) + (1 : Int32))), (.int (1 : Int32)), (.ref o0)])) t → Steps p.tables e below (s₁.setTop (entryFrame m #[(.ref o0), (.int p1)] 4)) t := fun t k => pre40 t (by
          show Steps p.tables e below (T33.setTop (mkF m 57 #[.val (.ref o0), .val (.int p1), .val (.int (0 : Int32)), .val (.int (1 : Int32))] [(.int (c0 + (1 : Int32))), (.int (1 : Int32)), (.ref o0)])) _
          refine XS.iconst X33.here hx rfl (hb hby d1_57) ?_
          show Steps p.tables e below (T33.setTop (mkF m 58 #[.val (.ref o0), .val (.int p1), .val (.int (0 : Int32)), .val (.int (1 : Int32))] [(.int (1 : Int32)), (.int (c0 + (1 : Int32))), (.int (1 : Int32)), (.ref o0)])) _
          refine XS.iadd X33.here hx rfl (hb hby d1_58) rfl ?_
          exact k)
        obtain ⟨cl42, Ar42, q42, Sz42, Mn42, Hs42, Gs42⟩ := id V33
        have hin42 : ¬ ((1 : Int32) < 0 ∨ cl42.slots.size ≤ ((1 : Int32)).toNatClampNeg) := inb_of Sz42 ⟨by decide, by decide⟩
        obtain ⟨T42, h42, X42, e42, W42, st42⟩ := stI X33 hx hZ e33 Ar42 (j := (1 : Int32)) hin42 (g := (mkF m 59 #[.val (.ref o0), .val (.int p1), .val (.int (0 : Int32)), .val (.int (1 : Int32))] [(.int ((c0 + (1 : Int32)) + (1 : Int32))), (.int (1 : Int32)), (.ref o0)])) rfl rfl (hb hby d1_59)
        have V42 : Arv Z h42 o0 ka .int (3 : Int32) [(.int (c0 + (1 : Int32))), (.int ((c0 + (1 : Int32)) + (1 : Int32))), (.int c2)] (.int (0 : Int32)) := Arv.set Ar42 q42 Sz42 Mn42 Hs42 Gs42 rfl W42 1 rfl (Nat.le_of_ble_eq_true rfl)
        have N42 := Fr.snoc X42 N33 gw_o0
        have K42 : Keep h0 h42 [o0] := K33.wr W42 (Or.inl (List.mem_of_getElem? (i := 0) rfl))
        have Z42 : n0 ≤ h42.size := Nat.le_trans Z33 (Keep.of_wr W42).1
        have pre43 : ∀ t, Steps p.tables e below (T42.setTop (mkF m 60 #[.val (.ref o0), .val (.int p1), .val (.int (0 : Int32)), .val (.int (1 : Int32))] [])) t → Steps p.tables e below (s₁.setTop (entryFrame m #[(.ref o0), (.int p1)] 4)) t := fun t k => pre41 t (st42 _ k)
        have pre44 : ∀ t, Steps p.tables e below (T42.setTop (mkF m 46 #[.val (.ref o0), .val (.int p1), .val (.int (0 : Int32)), .val (.int (2 : Int32))] [(.ref o0), (.int (2 : Int32))])) t → Steps p.tables e below (s₁.setTop (entryFrame m #[(.ref o0), (.int p1)] 4)) t := fun t k => pre43 t (by
          show Steps p.tables e below (T42.setTop (mkF m 60 #[.val (.ref o0), .val (.int p1), .val (.int (0 : Int32)), .val (.int (1 : Int32))] [])) _
          refine XS.iinc X42.here hx rfl (hb hby d1_60) rfl (l' := #[.val (.ref o0), .val (.int p1), .val (.int (0 : Int32)), .val (.int (2 : Int32))]) rfl ?_
          show Steps p.tables e below (T42.setTop (mkF m 63 #[.val (.ref o0), .val (.int p1), .val (.int (0 : Int32)), .val (.int (2 : Int32))] [])) _
          refine XS.goto X42.here hx rfl (pc0 := 63) (pc' := 44) rfl (hb hby d1_63) (by decide) (by decide) ?_
          show Steps p.tables e below (T42.setTop (mkF m 44 #[.val (.ref o0), .val (.int p1), .val (.int (0 : Int32)), .val (.int (2 : Int32))] [])) _
          refine XS.iloadN X42.here hx rfl (hb hby d1_44) rfl ?_
          show Steps p.tables e below (T42.setTop (mkF m 45 #[.val (.ref o0), .val (.int p1), .val (.int (0 : Int32)), .val (.int (2 : Int32))] [(.int (2 : Int32))])) _
          refine XS.aloadN X42.here hx rfl (hb hby d1_45) rfl rfl ?_
          exact k)
        obtain ⟨cl45, Ar45, -, Sz45, Mn45, Hs45, -⟩ := id V42
        have pre46 : ∀ t, Steps p.tables e below (T42.setTop (mkF m 47 #[.val (.ref o0), .val (.int p1), .val (.int (0 : Int32)), .val (.int (2 : Int32))] [(.int (3 : Int32)), (.int (2 : Int32))])) t → Steps p.tables e below (s₁.setTop (entryFrame m #[(.ref o0), (.int p1)] 4)) t := fun t k => pre44 t (by
          show Steps p.tables e below (T42.setTop (mkF m 46 #[.val (.ref o0), .val (.int p1), .val (.int (0 : Int32)), .val (.int (2 : Int32))] [(.ref o0), (.int (2 : Int32))])) _
          refine X42.arraylength hx (by rw [e42]; exact Ar45.1) (State.isArrayOf_alike hZ.alike Ar45.2.1) (g := (mkF m 46 #[.val (.ref o0), .val (.int p1), .val (.int (0 : Int32)), .val (.int (2 : Int32))] [(.ref o0), (.int (2 : Int32))])) rfl rfl (hb hby d1_46) _ ?_
          rw [len_of Sz45 Mn45]
          exact k)
        have pre47 : ∀ t, Steps p.tables e below (T42.setTop (mkF m 56 #[.val (.ref o0), .val (.int p1), .val (.int (0 : Int32)), .val (.int (2 : Int32))] [(.int (1 : Int32)), (.ref o0), (.int (2 : Int32)), (.ref o0)])) t → Steps p.tables e below (s₁.setTop (entryFrame m #[(.ref o0), (.int p1)] 4)) t := fun t k => pre46 t (by
          show Steps p.tables e below (T42.setTop (mkF m 47 #[.val (.ref o0), .val (.int p1), .val (.int (0 : Int32)), .val (.int (2 : Int32))] [(.int (3 : Int32)), (.int (2 : Int32))])) _
          refine XS.icmpNo X42.here hx rfl (hb hby d1_47) rfl (by decide) ?_
          show Steps p.tables e below (T42.setTop (mkF m 50 #[.val (.ref o0), .val (.int p1), .val (.int (0 : Int32)), .val (.int (2 : Int32))] [])) _
          refine XS.aloadN X42.here hx rfl (hb hby d1_50) rfl rfl ?_
          show Steps p.tables e below (T42.setTop (mkF m 51 #[.val (.ref o0), .val (.int p1), .val (.int (0 : Int32)), .val (.int (2 : Int32))] [(.ref o0)])) _
          refine XS.iloadN X42.here hx rfl (hb hby d1_51) rfl ?_
          show Steps p.tables e below (T42.setTop (mkF m 52 #[.val (.ref o0), .val (.int p1), .val (.int (0 : Int32)), .val (.int (2 : Int32))] [(.int (2 : Int32)), (.ref o0)])) _
          refine XS.aloadN X42.here hx rfl (hb hby d1_52) rfl rfl ?_
          show Steps p.tables e below (T42.setTop (mkF m 53 #[.val (.ref o0), .val (.int p1), .val (.int (0 : Int32)), .val (.int (2 : Int32))] [(.ref o0), (.int (2 : Int32)), (.ref o0)])) _
          refine XS.iloadN X42.here hx rfl (hb hby d1_53) rfl ?_
          show Steps p.tables e below (T42.setTop (mkF m 54 #[.val (.ref o0), .val (.int p1), .val (.int (0 : Int32)), .val (.int (2 : Int32))] [(.int (2 : Int32)), (.ref o0), (.int (2 : Int32)), (.ref o0)])) _
          refine XS.iconst X42.here hx rfl (hb hby d1_54) ?_
          show Steps p.tables e below (T42.setTop (mkF m 55 #[.val (.ref o0), .val (.int p1), .val (.int (0 : Int32)), .val (.int (2 : Int32))] [(.int (1 : Int32)), (.int (2 : Int32)), (.ref o0), (.int (2 : Int32)), (.ref o0)])) _
          refine XS.isub X42.here hx rfl (hb hby d1_55) rfl ?_
          exact k)
        obtain ⟨cl48, Ar48, -, Sz48, Mn48, Hs48, -⟩ := id V42
        have hin48 : ¬ ((1 : Int32) < 0 ∨ cl48.slots.size ≤ ((1 : Int32)).toNatClampNeg) := inb_of Sz48 ⟨by decide, by decide⟩
        have hat48 : cl48.slots[((1 : Int32)).toNatClampNeg]? = some (.int ((c0 + (1 : Int32)) + (1 : Int32))) := Hs48.at hin48 rfl
        have pre49 : ∀ t, Steps p.tables e below (T42.setTop (mkF m 57 #[.val (.ref o0), .val (.int p1), .val (.int (0 : Int32)), .val (.int (2 : Int32))] [(.int ((c0 + (1 : Int32)) + (1 : Int32))), (.int (2 : Int32)), (.ref o0)])) t → Steps p.tables e below (s₁.setTop (entryFrame m #[(.ref o0), (.int p1)] 4)) t := fun t k => pre47 t (by
          show Steps p.tables e below (T42.setTop (mkF m 56 #[.val (.ref o0), .val (.int p1), .val (.int (0 : Int32)), .val (.int (2 : Int32))] [(.int (1 : Int32)), (.ref o0), (.int (2 : Int32)), (.ref o0)])) _
          refine X42.iaload hx (j := (1 : Int32)) (v := (.int ((c0 + (1 : Int32)) + (1 : Int32)))) (by rw [e42]; exact Ar48.1) (State.isArrayOf_alike hZ.alike Ar48.2.1) Ar48.2.2 hin48 hat48 (g := (mkF m 56 #[.val (.ref o0), .val (.int p1), .val (.int (0 : Int32)), .val (.int (2 : Int32))] [(.int (1 : Int32)), (.ref o0), (.int (2 : Int32)), (.ref o0)])) rfl rfl (hb hby d1_56) _ ?_
          exact k)
        have pre50 : ∀ t, Steps p.tables e below (T42.setTop (mkF m 59 #[.val (.ref o0), .val (.int p1), .val (.int (0 : Int32)), .val (.int (2 : Int32))] [(.int (((c0 + (1 : Int32)) + (1 : Int32)) + (1 : Int32))), (.int (2 : Int32)), (.ref o0)])) t → Steps p.tables e below (s₁.setTop (entryFrame m #[(.ref o0), (.int p1)] 4)) t := fun t k => pre49 t (by
          show Steps p.tables e below (T42.setTop (mkF m 57 #[.val (.ref o0), .val (.int p1), .val (.int (0 : Int32)), .val (.int (2 : Int32))] [(.int ((c0 + (1 : Int32)) + (1 : Int32))), (.int (2 : Int32)), (.ref o0)])) _
          refine XS.iconst X42.here hx rfl (hb hby d1_57) ?_
          show Steps p.tables e below (T42.setTop (mkF m 58 #[.val (.ref o0), .val (.int p1), .val (.int (0 : Int32)), .val (.int (2 : Int32))] [(.int (1 : Int32)), (.int ((c0 + (1 : Int32)) + (1 : Int32))), (.int (2 : Int32)), (.ref o0)])) _
          refine XS.iadd X42.here hx rfl (hb hby d1_58) rfl ?_
          exact k)
        obtain ⟨cl51, Ar51, q51, Sz51, Mn51, Hs51, Gs51⟩ := id V42
        have hin51 : ¬ ((2 : Int32) < 0 ∨ cl51.slots.size ≤ ((2 : Int32)).toNatClampNeg) := inb_of Sz51 ⟨by decide, by decide⟩
        obtain ⟨T51, h51, X51, e51, W51, st51⟩ := stI X42 hx hZ e42 Ar51 (j := (2 : Int32)) hin51 (g := (mkF m 59 #[.val (.ref o0), .val (.int p1), .val (.int (0 : Int32)), .val (.int (2 : Int32))] [(.int (((c0 + (1 : Int32)) + (1 : Int32)) + (1 : Int32))), (.int (2 : Int32)), (.ref o0)])) rfl rfl (hb hby d1_59)
        have V51 : Arv Z h51 o0 ka .int (3 : Int32) [(.int (c0 + (1 : Int32))), (.int ((c0 + (1 : Int32)) + (1 : Int32))), (.int (((c0 + (1 : Int32)) + (1 : Int32)) + (1 : Int32)))] (.int (0 : Int32)) := Arv.set Ar51 q51 Sz51 Mn51 Hs51 Gs51 rfl W51 2 rfl (Nat.le_of_ble_eq_true rfl)
        have N51 := Fr.snoc X51 N42 gw_o0
        have K51 : Keep h0 h51 [o0] := K42.wr W51 (Or.inl (List.mem_of_getElem? (i := 0) rfl))
        have Z51 : n0 ≤ h51.size := Nat.le_trans Z42 (Keep.of_wr W51).1
        have pre52 : ∀ t, Steps p.tables e below (T51.setTop (mkF m 60 #[.val (.ref o0), .val (.int p1), .val (.int (0 : Int32)), .val (.int (2 : Int32))] [])) t → Steps p.tables e below (s₁.setTop (entryFrame m #[(.ref o0), (.int p1)] 4)) t := fun t k => pre50 t (st51 _ k)
        have pre53 : ∀ t, Steps p.tables e below (T51.setTop (mkF m 46 #[.val (.ref o0), .val (.int p1), .val (.int (0 : Int32)), .val (.int (3 : Int32))] [(.ref o0), (.int (3 : Int32))])) t → Steps p.tables e below (s₁.setTop (entryFrame m #[(.ref o0), (.int p1)] 4)) t := fun t k => pre52 t (by
          show Steps p.tables e below (T51.setTop (mkF m 60 #[.val (.ref o0), .val (.int p1), .val (.int (0 : Int32)), .val (.int (2 : Int32))] [])) _
          refine XS.iinc X51.here hx rfl (hb hby d1_60) rfl (l' := #[.val (.ref o0), .val (.int p1), .val (.int (0 : Int32)), .val (.int (3 : Int32))]) rfl ?_
          show Steps p.tables e below (T51.setTop (mkF m 63 #[.val (.ref o0), .val (.int p1), .val (.int (0 : Int32)), .val (.int (3 : Int32))] [])) _
          refine XS.goto X51.here hx rfl (pc0 := 63) (pc' := 44) rfl (hb hby d1_63) (by decide) (by decide) ?_
          show Steps p.tables e below (T51.setTop (mkF m 44 #[.val (.ref o0), .val (.int p1), .val (.int (0 : Int32)), .val (.int (3 : Int32))] [])) _
          refine XS.iloadN X51.here hx rfl (hb hby d1_44) rfl ?_
          show Steps p.tables e below (T51.setTop (mkF m 45 #[.val (.ref o0), .val (.int p1), .val (.int (0 : Int32)), .val (.int (3 : Int32))] [(.int (3 : Int32))])) _
          refine XS.aloadN X51.here hx rfl (hb hby d1_45) rfl rfl ?_
          exact k)
        obtain ⟨cl54, Ar54, -, Sz54, Mn54, Hs54, -⟩ := id V51
        have pre55 : ∀ t, Steps p.tables e below (T51.setTop (mkF m 47 #[.val (.ref o0), .val (.int p1), .val (.int (0 : Int32)), .val (.int (3 : Int32))] [(.int (3 : Int32)), (.int (3 : Int32))])) t → Steps p.tables e below (s₁.setTop (entryFrame m #[(.ref o0), (.int p1)] 4)) t := fun t k => pre53 t (by
          show Steps p.tables e below (T51.setTop (mkF m 46 #[.val (.ref o0), .val (.int p1), .val (.int (0 : Int32)), .val (.int (3 : Int32))] [(.ref o0), (.int (3 : Int32))])) _
          refine X51.arraylength hx (by rw [e51]; exact Ar54.1) (State.isArrayOf_alike hZ.alike Ar54.2.1) (g := (mkF m 46 #[.val (.ref o0), .val (.int p1), .val (.int (0 : Int32)), .val (.int (3 : Int32))] [(.ref o0), (.int (3 : Int32))])) rfl rfl (hb hby d1_46) _ ?_
          rw [len_of Sz54 Mn54]
          exact k)
        have pre56 : ∀ t, Steps p.tables e below (T51.setTop (mkF m 67 #[.val (.ref o0), .val (.int p1), .val (.int (0 : Int32)), .val (.int (3 : Int32))] [(.int (1 : Int32))])) t → Steps p.tables e below (s₁.setTop (entryFrame m #[(.ref o0), (.int p1)] 4)) t := fun t k => pre55 t (by
          show Steps p.tables e below (T51.setTop (mkF m 47 #[.val (.ref o0), .val (.int p1), .val (.int (0 : Int32)), .val (.int (3 : Int32))] [(.int (3 : Int32)), (.int (3 : Int32))])) _
          refine XS.icmpYes X51.here hx rfl (pc0 := 47) (pc' := 66) rfl (hb hby d1_47) rfl (by decide) (by decide) (by decide) ?_
          show Steps p.tables e below (T51.setTop (mkF m 66 #[.val (.ref o0), .val (.int p1), .val (.int (0 : Int32)), .val (.int (3 : Int32))] [])) _
          refine XS.iconst X51.here hx rfl (hb hby d1_66) ?_
          exact k)
        obtain ⟨fs, hr, hrun, hended, hW, hsame⟩ := X51.leave (v := some (.int (1 : Int32))) (fun h => by rw [Bd.returns] at h; cases h)
        refine ⟨_, _, ?_, hrun, hended, _, _, rfl, ?_, ⟨_, rfl⟩, hW, hsame.mono (by decide) (by decide)⟩
        · exact pre56 _ (retN X51 hx (t := .boolean) Bd.returns (by simp) (hb hby d1_67) hr)
        · show Q1_3 Z o0 p1 ka c0 c1 c2 h0 n0 _ T51.heap _
          rw [e51]
          exact ⟨by simp only [f1_3, if_pos hc18_1, if_pos hc18_2, if_neg hc18_3], N51, K51, by rw [show (g1_3_o0_0 p1 c0 c1 c2) = (c0 + (1 : Int32)) from by simp only [g1_3_o0_0, if_pos hc18_1, if_pos hc18_2, if_neg hc18_3], show (g1_3_o0_1 p1 c0 c1 c2) = ((c0 + (1 : Int32)) + (1 : Int32)) from by simp only [g1_3_o0_1, if_pos hc18_1, if_pos hc18_2, if_neg hc18_3], show (g1_3_o0_2 p1 c0 c1 c2) = (((c0 + (1 : Int32)) + (1 : Int32)) + (1 : Int32)) from by simp only [g1_3_o0_2, if_pos hc18_1, if_pos hc18_2, if_neg hc18_3]]; exact V51⟩
    · have pre57 : ∀ t, Steps p.tables e below (s₁.setTop (mkF m 36 #[.val (.ref o0), .val (.int p1), .val (.int (1 : Int32)), .unset] [(.int (1 : Int32)), (.ref o0), (.int (1 : Int32)), (.ref o0)])) t → Steps p.tables e below (s₁.setTop (entryFrame m #[(.ref o0), (.int p1)] 4)) t := fun t k => pre20 t (by
        show Steps p.tables e below (s₁.setTop (mkF m 18 #[.val (.ref o0), .val (.int p1), .val (.int (1 : Int32)), .unset] [(.int ((p1 - (3 : Int32)) + (1 : Int32))), (.int c1)])) _
        refine XS.icmpYes X0.here hx rfl (pc0 := 18) (pc' := 27) rfl (hb hby d1_18) rfl (feq hc18_2).2 (by decide) (by decide) ?_
        show Steps p.tables e below (s₁.setTop (mkF m 27 #[.val (.ref o0), .val (.int p1), .val (.int (1 : Int32)), .unset] [])) _
        refine XS.iloadN X0.here hx rfl (hb hby d1_27) rfl ?_
        show Steps p.tables e below (s₁.setTop (mkF m 28 #[.val (.ref o0), .val (.int p1), .val (.int (1 : Int32)), .unset] [(.int (1 : Int32))])) _
        refine XS.ifYes X0.here hx rfl (pc0 := 28) (pc' := 33) rfl (hb hby d1_28) rfl (by decide) (by decide) (by decide) ?_
        show Steps p.tables e below (s₁.setTop (mkF m 33 #[.val (.ref o0), .val (.int p1), .val (.int (1 : Int32)), .unset] [])) _
        refine XS.aloadN X0.here hx rfl (hb hby d1_33) rfl rfl ?_
        show Steps p.tables e below (s₁.setTop (mkF m 34 #[.val (.ref o0), .val (.int p1), .val (.int (1 : Int32)), .unset] [(.ref o0)])) _
        refine XS.iloadN X0.here hx rfl (hb hby d1_34) rfl ?_
        show Steps p.tables e below (s₁.setTop (mkF m 35 #[.val (.ref o0), .val (.int p1), .val (.int (1 : Int32)), .unset] [(.int (1 : Int32)), (.ref o0)])) _
        refine XT.dup2 X0.here hx rfl (hb hby d1_35) rfl rfl rfl ?_
        exact k)
      obtain ⟨cl58, Ar58, -, Sz58, Mn58, Hs58, -⟩ := id I0
      have hin58 : ¬ ((1 : Int32) < 0 ∨ cl58.slots.size ≤ ((1 : Int32)).toNatClampNeg) := inb_of Sz58 ⟨by decide, by decide⟩
      have hat58 : cl58.slots[((1 : Int32)).toNatClampNeg]? = some (.int c1) := Hs58.at hin58 rfl
      have pre59 : ∀ t, Steps p.tables e below (s₁.setTop (mkF m 37 #[.val (.ref o0), .val (.int p1), .val (.int (1 : Int32)), .unset] [(.int c1), (.int (1 : Int32)), (.ref o0)])) t → Steps p.tables e below (s₁.setTop (entryFrame m #[(.ref o0), (.int p1)] 4)) t := fun t k => pre57 t (by
        show Steps p.tables e below (s₁.setTop (mkF m 36 #[.val (.ref o0), .val (.int p1), .val (.int (1 : Int32)), .unset] [(.int (1 : Int32)), (.ref o0), (.int (1 : Int32)), (.ref o0)])) _
        refine X0.iaload hx (j := (1 : Int32)) (v := (.int c1)) (by rw [e0]; exact Ar58.1) (State.isArrayOf_alike hZ.alike Ar58.2.1) Ar58.2.2 hin58 hat58 (g := (mkF m 36 #[.val (.ref o0), .val (.int p1), .val (.int (1 : Int32)), .unset] [(.int (1 : Int32)), (.ref o0), (.int (1 : Int32)), (.ref o0)])) rfl rfl (hb hby d1_36) _ ?_
        exact k)
      have pre60 : ∀ t, Steps p.tables e below (s₁.setTop (mkF m 39 #[.val (.ref o0), .val (.int p1), .val (.int (1 : Int32)), .unset] [(.int (c1 + (1 : Int32))), (.int (1 : Int32)), (.ref o0)])) t → Steps p.tables e below (s₁.setTop (entryFrame m #[(.ref o0), (.int p1)] 4)) t := fun t k => pre59 t (by
        show Steps p.tables e below (s₁.setTop (mkF m 37 #[.val (.ref o0), .val (.int p1), .val (.int (1 : Int32)), .unset] [(.int c1), (.int (1 : Int32)), (.ref o0)])) _
        refine XS.iconst X0.here hx rfl (hb hby d1_37) ?_
        show Steps p.tables e below (s₁.setTop (mkF m 38 #[.val (.ref o0), .val (.int p1), .val (.int (1 : Int32)), .unset] [(.int (1 : Int32)), (.int c1), (.int (1 : Int32)), (.ref o0)])) _
        refine XS.iadd X0.here hx rfl (hb hby d1_38) rfl ?_
        exact k)
      obtain ⟨cl61, Ar61, q61, Sz61, Mn61, Hs61, Gs61⟩ := id I0
      have hin61 : ¬ ((1 : Int32) < 0 ∨ cl61.slots.size ≤ ((1 : Int32)).toNatClampNeg) := inb_of Sz61 ⟨by decide, by decide⟩
      obtain ⟨T61, h61, X61, e61, W61, st61⟩ := stI X0 hx hZ e0 Ar61 (j := (1 : Int32)) hin61 (g := (mkF m 39 #[.val (.ref o0), .val (.int p1), .val (.int (1 : Int32)), .unset] [(.int (c1 + (1 : Int32))), (.int (1 : Int32)), (.ref o0)])) rfl rfl (hb hby d1_39)
      have V61 : Arv Z h61 o0 ka .int (3 : Int32) [(.int c0), (.int (c1 + (1 : Int32))), (.int c2)] (.int (0 : Int32)) := Arv.set Ar61 q61 Sz61 Mn61 Hs61 Gs61 rfl W61 1 rfl (Nat.le_of_ble_eq_true rfl)
      have N61 := Fr.snoc X61 N0 gw_o0
      have K61 : Keep h0 h61 [o0] := K0.wr W61 (Or.inl (List.mem_of_getElem? (i := 0) rfl))
      have Z61 : n0 ≤ h61.size := Nat.le_trans Z0 (Keep.of_wr W61).1
      have pre62 : ∀ t, Steps p.tables e below (T61.setTop (mkF m 40 #[.val (.ref o0), .val (.int p1), .val (.int (1 : Int32)), .unset] [])) t → Steps p.tables e below (s₁.setTop (entryFrame m #[(.ref o0), (.int p1)] 4)) t := fun t k => pre60 t (st61 _ k)
      have pre63 : ∀ t, Steps p.tables e below (T61.setTop (mkF m 46 #[.val (.ref o0), .val (.int p1), .val (.int (1 : Int32)), .val (.int (2 : Int32))] [(.ref o0), (.int (2 : Int32))])) t → Steps p.tables e below (s₁.setTop (entryFrame m #[(.ref o0), (.int p1)] 4)) t := fun t k => pre62 t (by
        show Steps p.tables e below (T61.setTop (mkF m 40 #[.val (.ref o0), .val (.int p1), .val (.int (1 : Int32)), .unset] [])) _
        refine XS.iloadN X61.here hx rfl (hb hby d1_40) rfl ?_
        show Steps p.tables e below (T61.setTop (mkF m 41 #[.val (.ref o0), .val (.int p1), .val (.int (1 : Int32)), .unset] [(.int (1 : Int32))])) _
        refine XS.iconst X61.here hx rfl (hb hby d1_41) ?_
        show Steps p.tables e below (T61.setTop (mkF m 42 #[.val (.ref o0), .val (.int p1), .val (.int (1 : Int32)), .unset] [(.int (1 : Int32)), (.int (1 : Int32))])) _
        refine XS.iadd X61.here hx rfl (hb hby d1_42) rfl ?_
        show Steps p.tables e below (T61.setTop (mkF m 43 #[.val (.ref o0), .val (.int p1), .val (.int (1 : Int32)), .unset] [(.int (2 : Int32))])) _
        refine XS.istoreN X61.here hx rfl (hb hby d1_43) rfl (l' := #[.val (.ref o0), .val (.int p1), .val (.int (1 : Int32)), .val (.int (2 : Int32))]) rfl ?_
        show Steps p.tables e below (T61.setTop (mkF m 44 #[.val (.ref o0), .val (.int p1), .val (.int (1 : Int32)), .val (.int (2 : Int32))] [])) _
        refine XS.iloadN X61.here hx rfl (hb hby d1_44) rfl ?_
        show Steps p.tables e below (T61.setTop (mkF m 45 #[.val (.ref o0), .val (.int p1), .val (.int (1 : Int32)), .val (.int (2 : Int32))] [(.int (2 : Int32))])) _
        refine XS.aloadN X61.here hx rfl (hb hby d1_45) rfl rfl ?_
        exact k)
      obtain ⟨cl64, Ar64, -, Sz64, Mn64, Hs64, -⟩ := id V61
      have pre65 : ∀ t, Steps p.tables e below (T61.setTop (mkF m 47 #[.val (.ref o0), .val (.int p1), .val (.int (1 : Int32)), .val (.int (2 : Int32))] [(.int (3 : Int32)), (.int (2 : Int32))])) t → Steps p.tables e below (s₁.setTop (entryFrame m #[(.ref o0), (.int p1)] 4)) t := fun t k => pre63 t (by
        show Steps p.tables e below (T61.setTop (mkF m 46 #[.val (.ref o0), .val (.int p1), .val (.int (1 : Int32)), .val (.int (2 : Int32))] [(.ref o0), (.int (2 : Int32))])) _
        refine X61.arraylength hx (by rw [e61]; exact Ar64.1) (State.isArrayOf_alike hZ.alike Ar64.2.1) (g := (mkF m 46 #[.val (.ref o0), .val (.int p1), .val (.int (1 : Int32)), .val (.int (2 : Int32))] [(.ref o0), (.int (2 : Int32))])) rfl rfl (hb hby d1_46) _ ?_
        rw [len_of Sz64 Mn64]
        exact k)
      have pre66 : ∀ t, Steps p.tables e below (T61.setTop (mkF m 56 #[.val (.ref o0), .val (.int p1), .val (.int (1 : Int32)), .val (.int (2 : Int32))] [(.int (1 : Int32)), (.ref o0), (.int (2 : Int32)), (.ref o0)])) t → Steps p.tables e below (s₁.setTop (entryFrame m #[(.ref o0), (.int p1)] 4)) t := fun t k => pre65 t (by
        show Steps p.tables e below (T61.setTop (mkF m 47 #[.val (.ref o0), .val (.int p1), .val (.int (1 : Int32)), .val (.int (2 : Int32))] [(.int (3 : Int32)), (.int (2 : Int32))])) _
        refine XS.icmpNo X61.here hx rfl (hb hby d1_47) rfl (by decide) ?_
        show Steps p.tables e below (T61.setTop (mkF m 50 #[.val (.ref o0), .val (.int p1), .val (.int (1 : Int32)), .val (.int (2 : Int32))] [])) _
        refine XS.aloadN X61.here hx rfl (hb hby d1_50) rfl rfl ?_
        show Steps p.tables e below (T61.setTop (mkF m 51 #[.val (.ref o0), .val (.int p1), .val (.int (1 : Int32)), .val (.int (2 : Int32))] [(.ref o0)])) _
        refine XS.iloadN X61.here hx rfl (hb hby d1_51) rfl ?_
        show Steps p.tables e below (T61.setTop (mkF m 52 #[.val (.ref o0), .val (.int p1), .val (.int (1 : Int32)), .val (.int (2 : Int32))] [(.int (2 : Int32)), (.ref o0)])) _
        refine XS.aloadN X61.here hx rfl (hb hby d1_52) rfl rfl ?_
        show Steps p.tables e below (T61.setTop (mkF m 53 #[.val (.ref o0), .val (.int p1), .val (.int (1 : Int32)), .val (.int (2 : Int32))] [(.ref o0), (.int (2 : Int32)), (.ref o0)])) _
        refine XS.iloadN X61.here hx rfl (hb hby d1_53) rfl ?_
        show Steps p.tables e below (T61.setTop (mkF m 54 #[.val (.ref o0), .val (.int p1), .val (.int (1 : Int32)), .val (.int (2 : Int32))] [(.int (2 : Int32)), (.ref o0), (.int (2 : Int32)), (.ref o0)])) _
        refine XS.iconst X61.here hx rfl (hb hby d1_54) ?_
        show Steps p.tables e below (T61.setTop (mkF m 55 #[.val (.ref o0), .val (.int p1), .val (.int (1 : Int32)), .val (.int (2 : Int32))] [(.int (1 : Int32)), (.int (2 : Int32)), (.ref o0), (.int (2 : Int32)), (.ref o0)])) _
        refine XS.isub X61.here hx rfl (hb hby d1_55) rfl ?_
        exact k)
      obtain ⟨cl67, Ar67, -, Sz67, Mn67, Hs67, -⟩ := id V61
      have hin67 : ¬ ((1 : Int32) < 0 ∨ cl67.slots.size ≤ ((1 : Int32)).toNatClampNeg) := inb_of Sz67 ⟨by decide, by decide⟩
      have hat67 : cl67.slots[((1 : Int32)).toNatClampNeg]? = some (.int (c1 + (1 : Int32))) := Hs67.at hin67 rfl
      have pre68 : ∀ t, Steps p.tables e below (T61.setTop (mkF m 57 #[.val (.ref o0), .val (.int p1), .val (.int (1 : Int32)), .val (.int (2 : Int32))] [(.int (c1 + (1 : Int32))), (.int (2 : Int32)), (.ref o0)])) t → Steps p.tables e below (s₁.setTop (entryFrame m #[(.ref o0), (.int p1)] 4)) t := fun t k => pre66 t (by
        show Steps p.tables e below (T61.setTop (mkF m 56 #[.val (.ref o0), .val (.int p1), .val (.int (1 : Int32)), .val (.int (2 : Int32))] [(.int (1 : Int32)), (.ref o0), (.int (2 : Int32)), (.ref o0)])) _
        refine X61.iaload hx (j := (1 : Int32)) (v := (.int (c1 + (1 : Int32)))) (by rw [e61]; exact Ar67.1) (State.isArrayOf_alike hZ.alike Ar67.2.1) Ar67.2.2 hin67 hat67 (g := (mkF m 56 #[.val (.ref o0), .val (.int p1), .val (.int (1 : Int32)), .val (.int (2 : Int32))] [(.int (1 : Int32)), (.ref o0), (.int (2 : Int32)), (.ref o0)])) rfl rfl (hb hby d1_56) _ ?_
        exact k)
      have pre69 : ∀ t, Steps p.tables e below (T61.setTop (mkF m 59 #[.val (.ref o0), .val (.int p1), .val (.int (1 : Int32)), .val (.int (2 : Int32))] [(.int ((c1 + (1 : Int32)) + (1 : Int32))), (.int (2 : Int32)), (.ref o0)])) t → Steps p.tables e below (s₁.setTop (entryFrame m #[(.ref o0), (.int p1)] 4)) t := fun t k => pre68 t (by
        show Steps p.tables e below (T61.setTop (mkF m 57 #[.val (.ref o0), .val (.int p1), .val (.int (1 : Int32)), .val (.int (2 : Int32))] [(.int (c1 + (1 : Int32))), (.int (2 : Int32)), (.ref o0)])) _
        refine XS.iconst X61.here hx rfl (hb hby d1_57) ?_
        show Steps p.tables e below (T61.setTop (mkF m 58 #[.val (.ref o0), .val (.int p1), .val (.int (1 : Int32)), .val (.int (2 : Int32))] [(.int (1 : Int32)), (.int (c1 + (1 : Int32))), (.int (2 : Int32)), (.ref o0)])) _
        refine XS.iadd X61.here hx rfl (hb hby d1_58) rfl ?_
        exact k)
      obtain ⟨cl70, Ar70, q70, Sz70, Mn70, Hs70, Gs70⟩ := id V61
      have hin70 : ¬ ((2 : Int32) < 0 ∨ cl70.slots.size ≤ ((2 : Int32)).toNatClampNeg) := inb_of Sz70 ⟨by decide, by decide⟩
      obtain ⟨T70, h70, X70, e70, W70, st70⟩ := stI X61 hx hZ e61 Ar70 (j := (2 : Int32)) hin70 (g := (mkF m 59 #[.val (.ref o0), .val (.int p1), .val (.int (1 : Int32)), .val (.int (2 : Int32))] [(.int ((c1 + (1 : Int32)) + (1 : Int32))), (.int (2 : Int32)), (.ref o0)])) rfl rfl (hb hby d1_59)
      have V70 : Arv Z h70 o0 ka .int (3 : Int32) [(.int c0), (.int (c1 + (1 : Int32))), (.int ((c1 + (1 : Int32)) + (1 : Int32)))] (.int (0 : Int32)) := Arv.set Ar70 q70 Sz70 Mn70 Hs70 Gs70 rfl W70 2 rfl (Nat.le_of_ble_eq_true rfl)
      have N70 := Fr.snoc X70 N61 gw_o0
      have K70 : Keep h0 h70 [o0] := K61.wr W70 (Or.inl (List.mem_of_getElem? (i := 0) rfl))
      have Z70 : n0 ≤ h70.size := Nat.le_trans Z61 (Keep.of_wr W70).1
      have pre71 : ∀ t, Steps p.tables e below (T70.setTop (mkF m 60 #[.val (.ref o0), .val (.int p1), .val (.int (1 : Int32)), .val (.int (2 : Int32))] [])) t → Steps p.tables e below (s₁.setTop (entryFrame m #[(.ref o0), (.int p1)] 4)) t := fun t k => pre69 t (st70 _ k)
      have pre72 : ∀ t, Steps p.tables e below (T70.setTop (mkF m 46 #[.val (.ref o0), .val (.int p1), .val (.int (1 : Int32)), .val (.int (3 : Int32))] [(.ref o0), (.int (3 : Int32))])) t → Steps p.tables e below (s₁.setTop (entryFrame m #[(.ref o0), (.int p1)] 4)) t := fun t k => pre71 t (by
        show Steps p.tables e below (T70.setTop (mkF m 60 #[.val (.ref o0), .val (.int p1), .val (.int (1 : Int32)), .val (.int (2 : Int32))] [])) _
        refine XS.iinc X70.here hx rfl (hb hby d1_60) rfl (l' := #[.val (.ref o0), .val (.int p1), .val (.int (1 : Int32)), .val (.int (3 : Int32))]) rfl ?_
        show Steps p.tables e below (T70.setTop (mkF m 63 #[.val (.ref o0), .val (.int p1), .val (.int (1 : Int32)), .val (.int (3 : Int32))] [])) _
        refine XS.goto X70.here hx rfl (pc0 := 63) (pc' := 44) rfl (hb hby d1_63) (by decide) (by decide) ?_
        show Steps p.tables e below (T70.setTop (mkF m 44 #[.val (.ref o0), .val (.int p1), .val (.int (1 : Int32)), .val (.int (3 : Int32))] [])) _
        refine XS.iloadN X70.here hx rfl (hb hby d1_44) rfl ?_
        show Steps p.tables e below (T70.setTop (mkF m 45 #[.val (.ref o0), .val (.int p1), .val (.int (1 : Int32)), .val (.int (3 : Int32))] [(.int (3 : Int32))])) _
        refine XS.aloadN X70.here hx rfl (hb hby d1_45) rfl rfl ?_
        exact k)
      obtain ⟨cl73, Ar73, -, Sz73, Mn73, Hs73, -⟩ := id V70
      have pre74 : ∀ t, Steps p.tables e below (T70.setTop (mkF m 47 #[.val (.ref o0), .val (.int p1), .val (.int (1 : Int32)), .val (.int (3 : Int32))] [(.int (3 : Int32)), (.int (3 : Int32))])) t → Steps p.tables e below (s₁.setTop (entryFrame m #[(.ref o0), (.int p1)] 4)) t := fun t k => pre72 t (by
        show Steps p.tables e below (T70.setTop (mkF m 46 #[.val (.ref o0), .val (.int p1), .val (.int (1 : Int32)), .val (.int (3 : Int32))] [(.ref o0), (.int (3 : Int32))])) _
        refine X70.arraylength hx (by rw [e70]; exact Ar73.1) (State.isArrayOf_alike hZ.alike Ar73.2.1) (g := (mkF m 46 #[.val (.ref o0), .val (.int p1), .val (.int (1 : Int32)), .val (.int (3 : Int32))] [(.ref o0), (.int (3 : Int32))])) rfl rfl (hb hby d1_46) _ ?_
        rw [len_of Sz73 Mn73]
        exact k)
      have pre75 : ∀ t, Steps p.tables e below (T70.setTop (mkF m 67 #[.val (.ref o0), .val (.int p1), .val (.int (1 : Int32)), .val (.int (3 : Int32))] [(.int (1 : Int32))])) t → Steps p.tables e below (s₁.setTop (entryFrame m #[(.ref o0), (.int p1)] 4)) t := fun t k => pre74 t (by
        show Steps p.tables e below (T70.setTop (mkF m 47 #[.val (.ref o0), .val (.int p1), .val (.int (1 : Int32)), .val (.int (3 : Int32))] [(.int (3 : Int32)), (.int (3 : Int32))])) _
        refine XS.icmpYes X70.here hx rfl (pc0 := 47) (pc' := 66) rfl (hb hby d1_47) rfl (by decide) (by decide) (by decide) ?_
        show Steps p.tables e below (T70.setTop (mkF m 66 #[.val (.ref o0), .val (.int p1), .val (.int (1 : Int32)), .val (.int (3 : Int32))] [])) _
        refine XS.iconst X70.here hx rfl (hb hby d1_66) ?_
        exact k)
      obtain ⟨fs, hr, hrun, hended, hW, hsame⟩ := X70.leave (v := some (.int (1 : Int32))) (fun h => by rw [Bd.returns] at h; cases h)
      refine ⟨_, _, ?_, hrun, hended, _, _, rfl, ?_, ⟨_, rfl⟩, hW, hsame.mono (by decide) (by decide)⟩
      · exact pre75 _ (retN X70 hx (t := .boolean) Bd.returns (by simp) (hb hby d1_67) hr)
      · show Q1_3 Z o0 p1 ka c0 c1 c2 h0 n0 _ T70.heap _
        rw [e70]
        exact ⟨by simp only [f1_3, if_pos hc18_1, if_neg hc18_2], N70, K70, by rw [show (g1_3_o0_0 p1 c0 c1 c2) = c0 from by simp only [g1_3_o0_0, if_pos hc18_1, if_neg hc18_2], show (g1_3_o0_1 p1 c0 c1 c2) = (c1 + (1 : Int32)) from by simp only [g1_3_o0_1, if_pos hc18_1, if_neg hc18_2], show (g1_3_o0_2 p1 c0 c1 c2) = ((c1 + (1 : Int32)) + (1 : Int32)) from by simp only [g1_3_o0_2, if_pos hc18_1, if_neg hc18_2]]; exact V70⟩
  · have pre76 : ∀ t, Steps p.tables e below (s₁.setTop (mkF m 36 #[.val (.ref o0), .val (.int p1), .val (.int (2 : Int32)), .unset] [(.int (2 : Int32)), (.ref o0), (.int (2 : Int32)), (.ref o0)])) t → Steps p.tables e below (s₁.setTop (entryFrame m #[(.ref o0), (.int p1)] 4)) t := fun t k => pre13 t (by
      show Steps p.tables e below (s₁.setTop (mkF m 18 #[.val (.ref o0), .val (.int p1), .val (.int (2 : Int32)), .unset] [(.int ((p1 - (3 : Int32)) + (2 : Int32))), (.int c2)])) _
      refine XS.icmpYes X0.here hx rfl (pc0 := 18) (pc' := 27) rfl (hb hby d1_18) rfl (feq hc18_1).2 (by decide) (by decide) ?_
      show Steps p.tables e below (s₁.setTop (mkF m 27 #[.val (.ref o0), .val (.int p1), .val (.int (2 : Int32)), .unset] [])) _
      refine XS.iloadN X0.here hx rfl (hb hby d1_27) rfl ?_
      show Steps p.tables e below (s₁.setTop (mkF m 28 #[.val (.ref o0), .val (.int p1), .val (.int (2 : Int32)), .unset] [(.int (2 : Int32))])) _
      refine XS.ifYes X0.here hx rfl (pc0 := 28) (pc' := 33) rfl (hb hby d1_28) rfl (by decide) (by decide) (by decide) ?_
      show Steps p.tables e below (s₁.setTop (mkF m 33 #[.val (.ref o0), .val (.int p1), .val (.int (2 : Int32)), .unset] [])) _
      refine XS.aloadN X0.here hx rfl (hb hby d1_33) rfl rfl ?_
      show Steps p.tables e below (s₁.setTop (mkF m 34 #[.val (.ref o0), .val (.int p1), .val (.int (2 : Int32)), .unset] [(.ref o0)])) _
      refine XS.iloadN X0.here hx rfl (hb hby d1_34) rfl ?_
      show Steps p.tables e below (s₁.setTop (mkF m 35 #[.val (.ref o0), .val (.int p1), .val (.int (2 : Int32)), .unset] [(.int (2 : Int32)), (.ref o0)])) _
      refine XT.dup2 X0.here hx rfl (hb hby d1_35) rfl rfl rfl ?_
      exact k)
    obtain ⟨cl77, Ar77, -, Sz77, Mn77, Hs77, -⟩ := id I0
    have hin77 : ¬ ((2 : Int32) < 0 ∨ cl77.slots.size ≤ ((2 : Int32)).toNatClampNeg) := inb_of Sz77 ⟨by decide, by decide⟩
    have hat77 : cl77.slots[((2 : Int32)).toNatClampNeg]? = some (.int c2) := Hs77.at hin77 rfl
    have pre78 : ∀ t, Steps p.tables e below (s₁.setTop (mkF m 37 #[.val (.ref o0), .val (.int p1), .val (.int (2 : Int32)), .unset] [(.int c2), (.int (2 : Int32)), (.ref o0)])) t → Steps p.tables e below (s₁.setTop (entryFrame m #[(.ref o0), (.int p1)] 4)) t := fun t k => pre76 t (by
      show Steps p.tables e below (s₁.setTop (mkF m 36 #[.val (.ref o0), .val (.int p1), .val (.int (2 : Int32)), .unset] [(.int (2 : Int32)), (.ref o0), (.int (2 : Int32)), (.ref o0)])) _
      refine X0.iaload hx (j := (2 : Int32)) (v := (.int c2)) (by rw [e0]; exact Ar77.1) (State.isArrayOf_alike hZ.alike Ar77.2.1) Ar77.2.2 hin77 hat77 (g := (mkF m 36 #[.val (.ref o0), .val (.int p1), .val (.int (2 : Int32)), .unset] [(.int (2 : Int32)), (.ref o0), (.int (2 : Int32)), (.ref o0)])) rfl rfl (hb hby d1_36) _ ?_
      exact k)
    have pre79 : ∀ t, Steps p.tables e below (s₁.setTop (mkF m 39 #[.val (.ref o0), .val (.int p1), .val (.int (2 : Int32)), .unset] [(.int (c2 + (1 : Int32))), (.int (2 : Int32)), (.ref o0)])) t → Steps p.tables e below (s₁.setTop (entryFrame m #[(.ref o0), (.int p1)] 4)) t := fun t k => pre78 t (by
      show Steps p.tables e below (s₁.setTop (mkF m 37 #[.val (.ref o0), .val (.int p1), .val (.int (2 : Int32)), .unset] [(.int c2), (.int (2 : Int32)), (.ref o0)])) _
      refine XS.iconst X0.here hx rfl (hb hby d1_37) ?_
      show Steps p.tables e below (s₁.setTop (mkF m 38 #[.val (.ref o0), .val (.int p1), .val (.int (2 : Int32)), .unset] [(.int (1 : Int32)), (.int c2), (.int (2 : Int32)), (.ref o0)])) _
      refine XS.iadd X0.here hx rfl (hb hby d1_38) rfl ?_
      exact k)
    obtain ⟨cl80, Ar80, q80, Sz80, Mn80, Hs80, Gs80⟩ := id I0
    have hin80 : ¬ ((2 : Int32) < 0 ∨ cl80.slots.size ≤ ((2 : Int32)).toNatClampNeg) := inb_of Sz80 ⟨by decide, by decide⟩
    obtain ⟨T80, h80, X80, e80, W80, st80⟩ := stI X0 hx hZ e0 Ar80 (j := (2 : Int32)) hin80 (g := (mkF m 39 #[.val (.ref o0), .val (.int p1), .val (.int (2 : Int32)), .unset] [(.int (c2 + (1 : Int32))), (.int (2 : Int32)), (.ref o0)])) rfl rfl (hb hby d1_39)
    have V80 : Arv Z h80 o0 ka .int (3 : Int32) [(.int c0), (.int c1), (.int (c2 + (1 : Int32)))] (.int (0 : Int32)) := Arv.set Ar80 q80 Sz80 Mn80 Hs80 Gs80 rfl W80 2 rfl (Nat.le_of_ble_eq_true rfl)
    have N80 := Fr.snoc X80 N0 gw_o0
    have K80 : Keep h0 h80 [o0] := K0.wr W80 (Or.inl (List.mem_of_getElem? (i := 0) rfl))
    have Z80 : n0 ≤ h80.size := Nat.le_trans Z0 (Keep.of_wr W80).1
    have pre81 : ∀ t, Steps p.tables e below (T80.setTop (mkF m 40 #[.val (.ref o0), .val (.int p1), .val (.int (2 : Int32)), .unset] [])) t → Steps p.tables e below (s₁.setTop (entryFrame m #[(.ref o0), (.int p1)] 4)) t := fun t k => pre79 t (st80 _ k)
    have pre82 : ∀ t, Steps p.tables e below (T80.setTop (mkF m 46 #[.val (.ref o0), .val (.int p1), .val (.int (2 : Int32)), .val (.int (3 : Int32))] [(.ref o0), (.int (3 : Int32))])) t → Steps p.tables e below (s₁.setTop (entryFrame m #[(.ref o0), (.int p1)] 4)) t := fun t k => pre81 t (by
      show Steps p.tables e below (T80.setTop (mkF m 40 #[.val (.ref o0), .val (.int p1), .val (.int (2 : Int32)), .unset] [])) _
      refine XS.iloadN X80.here hx rfl (hb hby d1_40) rfl ?_
      show Steps p.tables e below (T80.setTop (mkF m 41 #[.val (.ref o0), .val (.int p1), .val (.int (2 : Int32)), .unset] [(.int (2 : Int32))])) _
      refine XS.iconst X80.here hx rfl (hb hby d1_41) ?_
      show Steps p.tables e below (T80.setTop (mkF m 42 #[.val (.ref o0), .val (.int p1), .val (.int (2 : Int32)), .unset] [(.int (1 : Int32)), (.int (2 : Int32))])) _
      refine XS.iadd X80.here hx rfl (hb hby d1_42) rfl ?_
      show Steps p.tables e below (T80.setTop (mkF m 43 #[.val (.ref o0), .val (.int p1), .val (.int (2 : Int32)), .unset] [(.int (3 : Int32))])) _
      refine XS.istoreN X80.here hx rfl (hb hby d1_43) rfl (l' := #[.val (.ref o0), .val (.int p1), .val (.int (2 : Int32)), .val (.int (3 : Int32))]) rfl ?_
      show Steps p.tables e below (T80.setTop (mkF m 44 #[.val (.ref o0), .val (.int p1), .val (.int (2 : Int32)), .val (.int (3 : Int32))] [])) _
      refine XS.iloadN X80.here hx rfl (hb hby d1_44) rfl ?_
      show Steps p.tables e below (T80.setTop (mkF m 45 #[.val (.ref o0), .val (.int p1), .val (.int (2 : Int32)), .val (.int (3 : Int32))] [(.int (3 : Int32))])) _
      refine XS.aloadN X80.here hx rfl (hb hby d1_45) rfl rfl ?_
      exact k)
    obtain ⟨cl83, Ar83, -, Sz83, Mn83, Hs83, -⟩ := id V80
    have pre84 : ∀ t, Steps p.tables e below (T80.setTop (mkF m 47 #[.val (.ref o0), .val (.int p1), .val (.int (2 : Int32)), .val (.int (3 : Int32))] [(.int (3 : Int32)), (.int (3 : Int32))])) t → Steps p.tables e below (s₁.setTop (entryFrame m #[(.ref o0), (.int p1)] 4)) t := fun t k => pre82 t (by
      show Steps p.tables e below (T80.setTop (mkF m 46 #[.val (.ref o0), .val (.int p1), .val (.int (2 : Int32)), .val (.int (3 : Int32))] [(.ref o0), (.int (3 : Int32))])) _
      refine X80.arraylength hx (by rw [e80]; exact Ar83.1) (State.isArrayOf_alike hZ.alike Ar83.2.1) (g := (mkF m 46 #[.val (.ref o0), .val (.int p1), .val (.int (2 : Int32)), .val (.int (3 : Int32))] [(.ref o0), (.int (3 : Int32))])) rfl rfl (hb hby d1_46) _ ?_
      rw [len_of Sz83 Mn83]
      exact k)
    have pre85 : ∀ t, Steps p.tables e below (T80.setTop (mkF m 67 #[.val (.ref o0), .val (.int p1), .val (.int (2 : Int32)), .val (.int (3 : Int32))] [(.int (1 : Int32))])) t → Steps p.tables e below (s₁.setTop (entryFrame m #[(.ref o0), (.int p1)] 4)) t := fun t k => pre84 t (by
      show Steps p.tables e below (T80.setTop (mkF m 47 #[.val (.ref o0), .val (.int p1), .val (.int (2 : Int32)), .val (.int (3 : Int32))] [(.int (3 : Int32)), (.int (3 : Int32))])) _
      refine XS.icmpYes X80.here hx rfl (pc0 := 47) (pc' := 66) rfl (hb hby d1_47) rfl (by decide) (by decide) (by decide) ?_
      show Steps p.tables e below (T80.setTop (mkF m 66 #[.val (.ref o0), .val (.int p1), .val (.int (2 : Int32)), .val (.int (3 : Int32))] [])) _
      refine XS.iconst X80.here hx rfl (hb hby d1_66) ?_
      exact k)
    obtain ⟨fs, hr, hrun, hended, hW, hsame⟩ := X80.leave (v := some (.int (1 : Int32))) (fun h => by rw [Bd.returns] at h; cases h)
    refine ⟨_, _, ?_, hrun, hended, _, _, rfl, ?_, ⟨_, rfl⟩, hW, hsame.mono (by decide) (by decide)⟩
    · exact pre85 _ (retN X80 hx (t := .boolean) Bd.returns (by simp) (hb hby d1_67) hr)
    · show Q1_3 Z o0 p1 ka c0 c1 c2 h0 n0 _ T80.heap _
      rw [e80]
      exact ⟨by simp only [f1_3, if_neg hc18_1], N80, K80, by rw [show (g1_3_o0_0 p1 c0 c1 c2) = c0 from by simp only [g1_3_o0_0, if_neg hc18_1], show (g1_3_o0_1 p1 c0 c1 c2) = c1 from by simp only [g1_3_o0_1, if_neg hc18_1], show (g1_3_o0_2 p1 c0 c1 c2) = (c2 + (1 : Int32)) from by simp only [g1_3_o0_2, if_neg hc18_1]]; exact V80⟩
theorem pn_0 : plainName "com/example/modloc/modloc/localize/LocalizerAdvancePinLaw" = true := by first | (simp [plainName, overriddenIn]; done) | decide +kernel
theorem pd___II_Z : parseMethodDescriptor "([II)Z" = some ⟨[(.array .int), .int], some .boolean⟩ := by decide +kernel
theorem ef_0 (m : MethodId) (x0 : Int32) (x1 : Int32) (x2 : Int32) (x3 : Int32) (x4 : Int32) : entryFrame m #[(.int x0), (.int x1), (.int x2), (.int x3), (.int x4)] maxLocals = mkF m 0 #[.val (.int x0), .val (.int x1), .val (.int x2), .val (.int x3), .val (.int x4), .unset, .unset, .unset, .unset, .unset, .unset, .unset, .unset, .unset, .unset, .unset, .unset, .unset] [] := by first | (simp [entryFrame, mkF, argsToLocals, Value.category, maxLocals]; done) | rfl
def v0_0_9 (p1 : Int32) : Int32 := (p1 &&& (7 : Int32))
def v0_0_20 (p1 : Int32) (p2 : Int32) : Int32 := (((v0_0_9 p1) + (1 : Int32)) + (p2 &&& (7 : Int32)))
def v0_0_31 (p1 : Int32) (p2 : Int32) (p3 : Int32) : Int32 := (((v0_0_20 p1 p2) + (1 : Int32)) + (p3 &&& (7 : Int32)))
def v0_0_78 (p4 : Int32) : Int32 := ((0 : Int32) + (p4 &&& (7 : Int32)))
def f0_0 : Int32 := (if (f1_0) = (0 : Int32) then (1 : Int32) else (0 : Int32))
set_option maxRecDepth 65536 in
set_option maxHeartbeats 40000000 in
theorem rm0_0 (l : Launch) (Z : State) (a0 : Array Value) (hw : ∀ d ∈ tables_1, d.before a0 Z = true) (ws : List Jvm.Cond) (p0 : Int32) (p1 : Int32) (p2 : Int32) (p3 : Int32) (p4 : Int32) (h0 : Heap) (n0 : Nat) (Z0 : n0 ≤ h0.size) (hk : (p0 &&& (3 : Int32)) = (0 : Int32)) :
    MetFree l x (head1 (Jvm.Cond.code x code maxLocals ret :: ws) room_1) (fun a U => a = #[(.int p0), (.int p1), (.int p2), (.int p3), (.int p4)] ∧ Z.Warmed39 U.vm ∧ U.heap = h0) (fun _ _ _ _ _ => True) (fun _ U o U' => ∃ v L, o = .returned v ∧ QL (some (.int (f0_0))) n0 v U'.heap L ∧ FrameEnd U o U' L room_1.cells room_1.slots) := by
  refine MetFree.of_bodySF (plainFor_of_name pn_0) hisR ?_
  intro p e s m args below meth c s₁ Bd hml0 hP hK
  obtain ⟨rfl, hZ, hh⟩ := hP
  have hx := Bd.exec
  have hby := Bd.bytes
  have hml : c.maxLocals = 18 := hml0
  have hown : s.vm.findClass "com/example/modloc/modloc/localize/LocalizerAdvancePinLaw" = some m.cls := findClass_of_methodNamed Bd.named
  have hnm := (name_of_methodNamed Bd.named Bd.method).1
  have X0 : Stand p l e room_1 s m #[(.int p0), (.int p1), (.int p2), (.int p3), (.int p4)] below meth c s₁ [] 0 0 := Stand.of_body Bd
  have e0 : s₁.heap = h0 := by rw [← hh, Bd.state]; rfl
  have N0 := Fr.nil n0
  have K0 : Keep h0 h0 [] := Keep.refl _ _
  have pre0 : ∀ t, Steps p.tables e below (s₁.setTop (mkF m 0 #[.val (.int p0), .val (.int p1), .val (.int p2), .val (.int p3), .val (.int p4), .unset, .unset, .unset, .unset, .unset, .unset, .unset, .unset, .unset, .unset, .unset, .unset, .unset] [])) t → Steps p.tables e below (s₁.setTop (entryFrame m #[(.int p0), (.int p1), (.int p2), (.int p3), (.int p4)] maxLocals)) t := fun t k => castTop (ef_0 m p0 p1 p2 p3 p4) k
  have pre2 : ∀ t, Steps p.tables e below (s₁.setTop (mkF m 82 #[.val (.int p0), .val (.int p1), .val (.int p2), .val (.int p3), .val (.int p4), .val (.int (0 : Int32)), .val (.int (v0_0_9 p1)), .val (.int (v0_0_20 p1 p2)), .val (.int (v0_0_31 p1 p2 p3)), .val (.int (-1 : Int32)), .val (.int (v0_0_78 p4)), .unset, .unset, .unset, .unset, .unset, .unset, .unset] [(.int (0 : Int32))])) t → Steps p.tables e below (s₁.setTop (entryFrame m #[(.int p0), (.int p1), (.int p2), (.int p3), (.int p4)] maxLocals)) t := fun t k => pre0 t (by
    show Steps p.tables e below (s₁.setTop (mkF m 0 #[.val (.int p0), .val (.int p1), .val (.int p2), .val (.int p3), .val (.int p4), .unset, .unset, .unset, .unset, .unset, .unset, .unset, .unset, .unset, .unset, .unset, .unset, .unset] [])) _
    refine XS.iloadN X0.here hx rfl (hb hby at_0) rfl ?_
    show Steps p.tables e below (s₁.setTop (mkF m 1 #[.val (.int p0), .val (.int p1), .val (.int p2), .val (.int p3), .val (.int p4), .unset, .unset, .unset, .unset, .unset, .unset, .unset, .unset, .unset, .unset, .unset, .unset, .unset] [(.int p0)])) _
    refine XS.iconst X0.here hx rfl (hb hby at_1) ?_
    show Steps p.tables e below (s₁.setTop (mkF m 2 #[.val (.int p0), .val (.int p1), .val (.int p2), .val (.int p3), .val (.int p4), .unset, .unset, .unset, .unset, .unset, .unset, .unset, .unset, .unset, .unset, .unset, .unset, .unset] [(.int (3 : Int32)), (.int p0)])) _
    refine XS.iand X0.here hx rfl (hb hby at_2) rfl ?_
    show Steps p.tables e below (s₁.setTop (mkF m 3 #[.val (.int p0), .val (.int p1), .val (.int p2), .val (.int p3), .val (.int p4), .unset, .unset, .unset, .unset, .unset, .unset, .unset, .unset, .unset, .unset, .unset, .unset, .unset] [(.int (p0 &&& (3 : Int32)))])) _
    rw [hk]
    show Steps p.tables e below (s₁.setTop (mkF m 3 #[.val (.int p0), .val (.int p1), .val (.int p2), .val (.int p3), .val (.int p4), .unset, .unset, .unset, .unset, .unset, .unset, .unset, .unset, .unset, .unset, .unset, .unset, .unset] [(.int (0 : Int32))])) _
    refine XS.istore X0.here hx rfl (hb hby at_3) rfl (l' := #[.val (.int p0), .val (.int p1), .val (.int p2), .val (.int p3), .val (.int p4), .val (.int (0 : Int32)), .unset, .unset, .unset, .unset, .unset, .unset, .unset, .unset, .unset, .unset, .unset, .unset]) rfl ?_
    show Steps p.tables e below (s₁.setTop (mkF m 5 #[.val (.int p0), .val (.int p1), .val (.int p2), .val (.int p3), .val (.int p4), .val (.int (0 : Int32)), .unset, .unset, .unset, .unset, .unset, .unset, .unset, .unset, .unset, .unset, .unset, .unset] [])) _
    refine XS.iloadN X0.here hx rfl (hb hby at_5) rfl ?_
    show Steps p.tables e below (s₁.setTop (mkF m 6 #[.val (.int p0), .val (.int p1), .val (.int p2), .val (.int p3), .val (.int p4), .val (.int (0 : Int32)), .unset, .unset, .unset, .unset, .unset, .unset, .unset, .unset, .unset, .unset, .unset, .unset] [(.int p1)])) _
    refine XS.bipush X0.here hx rfl (hb hby at_6) ?_
    show Steps p.tables e below (s₁.setTop (mkF m 8 #[.val (.int p0), .val (.int p1), .val (.int p2), .val (.int p3), .val (.int p4), .val (.int (0 : Int32)), .unset, .unset, .unset, .unset, .unset, .unset, .unset, .unset, .unset, .unset, .unset, .unset] [(.int (7 : Int32)), (.int p1)])) _
    refine XS.iand X0.here hx rfl (hb hby at_8) rfl ?_
    show Steps p.tables e below (s₁.setTop (mkF m 9 #[.val (.int p0), .val (.int p1), .val (.int p2), .val (.int p3), .val (.int p4), .val (.int (0 : Int32)), .unset, .unset, .unset, .unset, .unset, .unset, .unset, .unset, .unset, .unset, .unset, .unset] [(.int (p1 &&& (7 : Int32)))])) _
    refine XS.istore X0.here hx rfl (hb hby at_9) rfl (l' := #[.val (.int p0), .val (.int p1), .val (.int p2), .val (.int p3), .val (.int p4), .val (.int (0 : Int32)), .val (.int (v0_0_9 p1)), .unset, .unset, .unset, .unset, .unset, .unset, .unset, .unset, .unset, .unset, .unset]) rfl ?_
    show Steps p.tables e below (s₁.setTop (mkF m 11 #[.val (.int p0), .val (.int p1), .val (.int p2), .val (.int p3), .val (.int p4), .val (.int (0 : Int32)), .val (.int (v0_0_9 p1)), .unset, .unset, .unset, .unset, .unset, .unset, .unset, .unset, .unset, .unset, .unset] [])) _
    refine XS.iload X0.here hx rfl (hb hby at_11) rfl ?_
    show Steps p.tables e below (s₁.setTop (mkF m 13 #[.val (.int p0), .val (.int p1), .val (.int p2), .val (.int p3), .val (.int p4), .val (.int (0 : Int32)), .val (.int (v0_0_9 p1)), .unset, .unset, .unset, .unset, .unset, .unset, .unset, .unset, .unset, .unset, .unset] [(.int (v0_0_9 p1))])) _
    refine XS.iconst X0.here hx rfl (hb hby at_13) ?_
    show Steps p.tables e below (s₁.setTop (mkF m 14 #[.val (.int p0), .val (.int p1), .val (.int p2), .val (.int p3), .val (.int p4), .val (.int (0 : Int32)), .val (.int (v0_0_9 p1)), .unset, .unset, .unset, .unset, .unset, .unset, .unset, .unset, .unset, .unset, .unset] [(.int (1 : Int32)), (.int (v0_0_9 p1))])) _
    refine XS.iadd X0.here hx rfl (hb hby at_14) rfl ?_
    show Steps p.tables e below (s₁.setTop (mkF m 15 #[.val (.int p0), .val (.int p1), .val (.int p2), .val (.int p3), .val (.int p4), .val (.int (0 : Int32)), .val (.int (v0_0_9 p1)), .unset, .unset, .unset, .unset, .unset, .unset, .unset, .unset, .unset, .unset, .unset] [(.int ((v0_0_9 p1) + (1 : Int32)))])) _
    refine XS.iloadN X0.here hx rfl (hb hby at_15) rfl ?_
    show Steps p.tables e below (s₁.setTop (mkF m 16 #[.val (.int p0), .val (.int p1), .val (.int p2), .val (.int p3), .val (.int p4), .val (.int (0 : Int32)), .val (.int (v0_0_9 p1)), .unset, .unset, .unset, .unset, .unset, .unset, .unset, .unset, .unset, .unset, .unset] [(.int p2), (.int ((v0_0_9 p1) + (1 : Int32)))])) _
    refine XS.bipush X0.here hx rfl (hb hby at_16) ?_
    show Steps p.tables e below (s₁.setTop (mkF m 18 #[.val (.int p0), .val (.int p1), .val (.int p2), .val (.int p3), .val (.int p4), .val (.int (0 : Int32)), .val (.int (v0_0_9 p1)), .unset, .unset, .unset, .unset, .unset, .unset, .unset, .unset, .unset, .unset, .unset] [(.int (7 : Int32)), (.int p2), (.int ((v0_0_9 p1) + (1 : Int32)))])) _
    refine XS.iand X0.here hx rfl (hb hby at_18) rfl ?_
    show Steps p.tables e below (s₁.setTop (mkF m 19 #[.val (.int p0), .val (.int p1), .val (.int p2), .val (.int p3), .val (.int p4), .val (.int (0 : Int32)), .val (.int (v0_0_9 p1)), .unset, .unset, .unset, .unset, .unset, .unset, .unset, .unset, .unset, .unset, .unset] [(.int (p2 &&& (7 : Int32))), (.int ((v0_0_9 p1) + (1 : Int32)))])) _
    refine XS.iadd X0.here hx rfl (hb hby at_19) rfl ?_
    show Steps p.tables e below (s₁.setTop (mkF m 20 #[.val (.int p0), .val (.int p1), .val (.int p2), .val (.int p3), .val (.int p4), .val (.int (0 : Int32)), .val (.int (v0_0_9 p1)), .unset, .unset, .unset, .unset, .unset, .unset, .unset, .unset, .unset, .unset, .unset] [(.int (((v0_0_9 p1) + (1 : Int32)) + (p2 &&& (7 : Int32))))])) _
    refine XS.istore X0.here hx rfl (hb hby at_20) rfl (l' := #[.val (.int p0), .val (.int p1), .val (.int p2), .val (.int p3), .val (.int p4), .val (.int (0 : Int32)), .val (.int (v0_0_9 p1)), .val (.int (v0_0_20 p1 p2)), .unset, .unset, .unset, .unset, .unset, .unset, .unset, .unset, .unset, .unset]) rfl ?_
    show Steps p.tables e below (s₁.setTop (mkF m 22 #[.val (.int p0), .val (.int p1), .val (.int p2), .val (.int p3), .val (.int p4), .val (.int (0 : Int32)), .val (.int (v0_0_9 p1)), .val (.int (v0_0_20 p1 p2)), .unset, .unset, .unset, .unset, .unset, .unset, .unset, .unset, .unset, .unset] [])) _
    refine XS.iload X0.here hx rfl (hb hby at_22) rfl ?_
    show Steps p.tables e below (s₁.setTop (mkF m 24 #[.val (.int p0), .val (.int p1), .val (.int p2), .val (.int p3), .val (.int p4), .val (.int (0 : Int32)), .val (.int (v0_0_9 p1)), .val (.int (v0_0_20 p1 p2)), .unset, .unset, .unset, .unset, .unset, .unset, .unset, .unset, .unset, .unset] [(.int (v0_0_20 p1 p2))])) _
    refine XS.iconst X0.here hx rfl (hb hby at_24) ?_
    show Steps p.tables e below (s₁.setTop (mkF m 25 #[.val (.int p0), .val (.int p1), .val (.int p2), .val (.int p3), .val (.int p4), .val (.int (0 : Int32)), .val (.int (v0_0_9 p1)), .val (.int (v0_0_20 p1 p2)), .unset, .unset, .unset, .unset, .unset, .unset, .unset, .unset, .unset, .unset] [(.int (1 : Int32)), (.int (v0_0_20 p1 p2))])) _
    refine XS.iadd X0.here hx rfl (hb hby at_25) rfl ?_
    show Steps p.tables e below (s₁.setTop (mkF m 26 #[.val (.int p0), .val (.int p1), .val (.int p2), .val (.int p3), .val (.int p4), .val (.int (0 : Int32)), .val (.int (v0_0_9 p1)), .val (.int (v0_0_20 p1 p2)), .unset, .unset, .unset, .unset, .unset, .unset, .unset, .unset, .unset, .unset] [(.int ((v0_0_20 p1 p2) + (1 : Int32)))])) _
    refine XS.iloadN X0.here hx rfl (hb hby at_26) rfl ?_
    show Steps p.tables e below (s₁.setTop (mkF m 27 #[.val (.int p0), .val (.int p1), .val (.int p2), .val (.int p3), .val (.int p4), .val (.int (0 : Int32)), .val (.int (v0_0_9 p1)), .val (.int (v0_0_20 p1 p2)), .unset, .unset, .unset, .unset, .unset, .unset, .unset, .unset, .unset, .unset] [(.int p3), (.int ((v0_0_20 p1 p2) + (1 : Int32)))])) _
    refine XS.bipush X0.here hx rfl (hb hby at_27) ?_
    show Steps p.tables e below (s₁.setTop (mkF m 29 #[.val (.int p0), .val (.int p1), .val (.int p2), .val (.int p3), .val (.int p4), .val (.int (0 : Int32)), .val (.int (v0_0_9 p1)), .val (.int (v0_0_20 p1 p2)), .unset, .unset, .unset, .unset, .unset, .unset, .unset, .unset, .unset, .unset] [(.int (7 : Int32)), (.int p3), (.int ((v0_0_20 p1 p2) + (1 : Int32)))])) _
    refine XS.iand X0.here hx rfl (hb hby at_29) rfl ?_
    show Steps p.tables e below (s₁.setTop (mkF m 30 #[.val (.int p0), .val (.int p1), .val (.int p2), .val (.int p3), .val (.int p4), .val (.int (0 : Int32)), .val (.int (v0_0_9 p1)), .val (.int (v0_0_20 p1 p2)), .unset, .unset, .unset, .unset, .unset, .unset, .unset, .unset, .unset, .unset] [(.int (p3 &&& (7 : Int32))), (.int ((v0_0_20 p1 p2) + (1 : Int32)))])) _
    refine XS.iadd X0.here hx rfl (hb hby at_30) rfl ?_
    show Steps p.tables e below (s₁.setTop (mkF m 31 #[.val (.int p0), .val (.int p1), .val (.int p2), .val (.int p3), .val (.int p4), .val (.int (0 : Int32)), .val (.int (v0_0_9 p1)), .val (.int (v0_0_20 p1 p2)), .unset, .unset, .unset, .unset, .unset, .unset, .unset, .unset, .unset, .unset] [(.int (((v0_0_20 p1 p2) + (1 : Int32)) + (p3 &&& (7 : Int32))))])) _
    refine XS.istore X0.here hx rfl (hb hby at_31) rfl (l' := #[.val (.int p0), .val (.int p1), .val (.int p2), .val (.int p3), .val (.int p4), .val (.int (0 : Int32)), .val (.int (v0_0_9 p1)), .val (.int (v0_0_20 p1 p2)), .val (.int (v0_0_31 p1 p2 p3)), .unset, .unset, .unset, .unset, .unset, .unset, .unset, .unset, .unset]) rfl ?_
    show Steps p.tables e below (s₁.setTop (mkF m 33 #[.val (.int p0), .val (.int p1), .val (.int p2), .val (.int p3), .val (.int p4), .val (.int (0 : Int32)), .val (.int (v0_0_9 p1)), .val (.int (v0_0_20 p1 p2)), .val (.int (v0_0_31 p1 p2 p3)), .unset, .unset, .unset, .unset, .unset, .unset, .unset, .unset, .unset] [])) _
    refine XS.iload X0.here hx rfl (hb hby at_33) rfl ?_
    show Steps p.tables e below (s₁.setTop (mkF m 35 #[.val (.int p0), .val (.int p1), .val (.int p2), .val (.int p3), .val (.int p4), .val (.int (0 : Int32)), .val (.int (v0_0_9 p1)), .val (.int (v0_0_20 p1 p2)), .val (.int (v0_0_31 p1 p2 p3)), .unset, .unset, .unset, .unset, .unset, .unset, .unset, .unset, .unset] [(.int (0 : Int32))])) _
    refine XS.ifNo X0.here hx rfl (hb hby at_35) rfl (by decide) ?_
    show Steps p.tables e below (s₁.setTop (mkF m 38 #[.val (.int p0), .val (.int p1), .val (.int p2), .val (.int p3), .val (.int p4), .val (.int (0 : Int32)), .val (.int (v0_0_9 p1)), .val (.int (v0_0_20 p1 p2)), .val (.int (v0_0_31 p1 p2 p3)), .unset, .unset, .unset, .unset, .unset, .unset, .unset, .unset, .unset] [])) _
    refine XS.iconst X0.here hx rfl (hb hby at_38) ?_
    show Steps p.tables e below (s₁.setTop (mkF m 39 #[.val (.int p0), .val (.int p1), .val (.int p2), .val (.int p3), .val (.int p4), .val (.int (0 : Int32)), .val (.int (v0_0_9 p1)), .val (.int (v0_0_20 p1 p2)), .val (.int (v0_0_31 p1 p2 p3)), .unset, .unset, .unset, .unset, .unset, .unset, .unset, .unset, .unset] [(.int (-1 : Int32))])) _
    refine XS.goto X0.here hx rfl (pc0 := 39) (pc' := 66) rfl (hb hby at_39) (by decide) (by decide) ?_
    show Steps p.tables e below (s₁.setTop (mkF m 66 #[.val (.int p0), .val (.int p1), .val (.int p2), .val (.int p3), .val (.int p4), .val (.int (0 : Int32)), .val (.int (v0_0_9 p1)), .val (.int (v0_0_20 p1 p2)), .val (.int (v0_0_31 p1 p2 p3)), .unset, .unset, .unset, .unset, .unset, .unset, .unset, .unset, .unset] [(.int (-1 : Int32))])) _
    refine XS.istore X0.here hx rfl (hb hby at_66) rfl (l' := #[.val (.int p0), .val (.int p1), .val (.int p2), .val (.int p3), .val (.int p4), .val (.int (0 : Int32)), .val (.int (v0_0_9 p1)), .val (.int (v0_0_20 p1 p2)), .val (.int (v0_0_31 p1 p2 p3)), .val (.int (-1 : Int32)), .unset, .unset, .unset, .unset, .unset, .unset, .unset, .unset]) rfl ?_
    show Steps p.tables e below (s₁.setTop (mkF m 68 #[.val (.int p0), .val (.int p1), .val (.int p2), .val (.int p3), .val (.int p4), .val (.int (0 : Int32)), .val (.int (v0_0_9 p1)), .val (.int (v0_0_20 p1 p2)), .val (.int (v0_0_31 p1 p2 p3)), .val (.int (-1 : Int32)), .unset, .unset, .unset, .unset, .unset, .unset, .unset, .unset] [])) _
    refine XS.iload X0.here hx rfl (hb hby at_68) rfl ?_
    show Steps p.tables e below (s₁.setTop (mkF m 70 #[.val (.int p0), .val (.int p1), .val (.int p2), .val (.int p3), .val (.int p4), .val (.int (0 : Int32)), .val (.int (v0_0_9 p1)), .val (.int (v0_0_20 p1 p2)), .val (.int (v0_0_31 p1 p2 p3)), .val (.int (-1 : Int32)), .unset, .unset, .unset, .unset, .unset, .unset, .unset, .unset] [(.int (-1 : Int32))])) _
    refine XS.iconst X0.here hx rfl (hb hby at_70) ?_
    show Steps p.tables e below (s₁.setTop (mkF m 71 #[.val (.int p0), .val (.int p1), .val (.int p2), .val (.int p3), .val (.int p4), .val (.int (0 : Int32)), .val (.int (v0_0_9 p1)), .val (.int (v0_0_20 p1 p2)), .val (.int (v0_0_31 p1 p2 p3)), .val (.int (-1 : Int32)), .unset, .unset, .unset, .unset, .unset, .unset, .unset, .unset] [(.int (1 : Int32)), (.int (-1 : Int32))])) _
    refine XS.iadd X0.here hx rfl (hb hby at_71) rfl ?_
    show Steps p.tables e below (s₁.setTop (mkF m 72 #[.val (.int p0), .val (.int p1), .val (.int p2), .val (.int p3), .val (.int p4), .val (.int (0 : Int32)), .val (.int (v0_0_9 p1)), .val (.int (v0_0_20 p1 p2)), .val (.int (v0_0_31 p1 p2 p3)), .val (.int (-1 : Int32)), .unset, .unset, .unset, .unset, .unset, .unset, .unset, .unset] [(.int (0 : Int32))])) _
    refine XS.iload X0.here hx rfl (hb hby at_72) rfl ?_
    show Steps p.tables e below (s₁.setTop (mkF m 74 #[.val (.int p0), .val (.int p1), .val (.int p2), .val (.int p3), .val (.int p4), .val (.int (0 : Int32)), .val (.int (v0_0_9 p1)), .val (.int (v0_0_20 p1 p2)), .val (.int (v0_0_31 p1 p2 p3)), .val (.int (-1 : Int32)), .unset, .unset, .unset, .unset, .unset, .unset, .unset, .unset] [(.int p4), (.int (0 : Int32))])) _
    refine XS.bipush X0.here hx rfl (hb hby at_74) ?_
    show Steps p.tables e below (s₁.setTop (mkF m 76 #[.val (.int p0), .val (.int p1), .val (.int p2), .val (.int p3), .val (.int p4), .val (.int (0 : Int32)), .val (.int (v0_0_9 p1)), .val (.int (v0_0_20 p1 p2)), .val (.int (v0_0_31 p1 p2 p3)), .val (.int (-1 : Int32)), .unset, .unset, .unset, .unset, .unset, .unset, .unset, .unset] [(.int (7 : Int32)), (.int p4), (.int (0 : Int32))])) _
    refine XS.iand X0.here hx rfl (hb hby at_76) rfl ?_
    show Steps p.tables e below (s₁.setTop (mkF m 77 #[.val (.int p0), .val (.int p1), .val (.int p2), .val (.int p3), .val (.int p4), .val (.int (0 : Int32)), .val (.int (v0_0_9 p1)), .val (.int (v0_0_20 p1 p2)), .val (.int (v0_0_31 p1 p2 p3)), .val (.int (-1 : Int32)), .unset, .unset, .unset, .unset, .unset, .unset, .unset, .unset] [(.int (p4 &&& (7 : Int32))), (.int (0 : Int32))])) _
    refine XS.iadd X0.here hx rfl (hb hby at_77) rfl ?_
    show Steps p.tables e below (s₁.setTop (mkF m 78 #[.val (.int p0), .val (.int p1), .val (.int p2), .val (.int p3), .val (.int p4), .val (.int (0 : Int32)), .val (.int (v0_0_9 p1)), .val (.int (v0_0_20 p1 p2)), .val (.int (v0_0_31 p1 p2 p3)), .val (.int (-1 : Int32)), .unset, .unset, .unset, .unset, .unset, .unset, .unset, .unset] [(.int ((0 : Int32) + (p4 &&& (7 : Int32))))])) _
    refine XS.istore X0.here hx rfl (hb hby at_78) rfl (l' := #[.val (.int p0), .val (.int p1), .val (.int p2), .val (.int p3), .val (.int p4), .val (.int (0 : Int32)), .val (.int (v0_0_9 p1)), .val (.int (v0_0_20 p1 p2)), .val (.int (v0_0_31 p1 p2 p3)), .val (.int (-1 : Int32)), .val (.int (v0_0_78 p4)), .unset, .unset, .unset, .unset, .unset, .unset, .unset]) rfl ?_
    show Steps p.tables e below (s₁.setTop (mkF m 80 #[.val (.int p0), .val (.int p1), .val (.int p2), .val (.int p3), .val (.int p4), .val (.int (0 : Int32)), .val (.int (v0_0_9 p1)), .val (.int (v0_0_20 p1 p2)), .val (.int (v0_0_31 p1 p2 p3)), .val (.int (-1 : Int32)), .val (.int (v0_0_78 p4)), .unset, .unset, .unset, .unset, .unset, .unset, .unset] [])) _
    refine XS.iload X0.here hx rfl (hb hby at_80) rfl ?_
    exact k)
  obtain ⟨T3, h3, k3, X3, e3, E3, A3, st3⟩ := newP X0 hx hZ (hw _ (List.mem_of_getElem? (i := 0) rfl)) e0 (g := (mkF m 82 #[.val (.int p0), .val (.int p1), .val (.int p2), .val (.int p3), .val (.int p4), .val (.int (0 : Int32)), .val (.int (v0_0_9 p1)), .val (.int (v0_0_20 p1 p2)), .val (.int (v0_0_31 p1 p2 p3)), .val (.int (-1 : Int32)), .val (.int (v0_0_78 p4)), .unset, .unset, .unset, .unset, .unset, .unset, .unset] [(.int (0 : Int32))])) rfl (hb hby at_82) rfl (by decide) (cap := 0) (by decide) (by decide) (by decide) (by decide)
  obtain ⟨b82, g3⟩ : ∃ z, z = h0.size := ⟨_, rfl⟩
  rw [← g3] at A3 st3
  have gg3 : n0 ≤ b82 := Nat.le_trans Z0 (Nat.le_of_eq g3.symm)
  have sz3 : h0.size ≤ b82 := Nat.le_trans K0.1 (Nat.le_of_eq g3.symm)
  have K3 : Keep h0 h3 [] := K0.ext E3
  have Z3 : n0 ≤ h3.size := Nat.le_trans Z0 E3.1
  have V3 : Arv Z h3 b82 k3 .int (0 : Int32) [] (.int (0 : Int32)) := (Arv.new A3 (by decide)).pad (pad_rep [] (.int (0 : Int32)) 0)
  have pre4 : ∀ t, Steps p.tables e below (T3.setTop (mkF m 84 #[.val (.int p0), .val (.int p1), .val (.int p2), .val (.int p3), .val (.int p4), .val (.int (0 : Int32)), .val (.int (v0_0_9 p1)), .val (.int (v0_0_20 p1 p2)), .val (.int (v0_0_31 p1 p2 p3)), .val (.int (-1 : Int32)), .val (.int (v0_0_78 p4)), .unset, .unset, .unset, .unset, .unset, .unset, .unset] [(.ref b82)])) t → Steps p.tables e below (s₁.setTop (entryFrame m #[(.int p0), (.int p1), (.int p2), (.int p3), (.int p4)] maxLocals)) t := fun t k => pre2 t (st3 _ k)
  have pre5 : ∀ t, Steps p.tables e below (T3.setTop (mkF m 324 #[.val (.int p0), .val (.int p1), .val (.int p2), .val (.int p3), .val (.int p4), .val (.int (0 : Int32)), .val (.int (v0_0_9 p1)), .val (.int (v0_0_20 p1 p2)), .val (.int (v0_0_31 p1 p2 p3)), .val (.int (-1 : Int32)), .val (.int (v0_0_78 p4)), .val (.ref b82), .val (.int (v0_0_9 p1)), .val (.int (v0_0_20 p1 p2)), .val (.int (v0_0_31 p1 p2 p3)), .val (.int (0 : Int32)), .unset, .unset] [(.int (v0_0_78 p4)), (.ref b82)])) t → Steps p.tables e below (s₁.setTop (entryFrame m #[(.int p0), (.int p1), (.int p2), (.int p3), (.int p4)] maxLocals)) t := fun t k => pre4 t (by
    show Steps p.tables e below (T3.setTop (mkF m 84 #[.val (.int p0), .val (.int p1), .val (.int p2), .val (.int p3), .val (.int p4), .val (.int (0 : Int32)), .val (.int (v0_0_9 p1)), .val (.int (v0_0_20 p1 p2)), .val (.int (v0_0_31 p1 p2 p3)), .val (.int (-1 : Int32)), .val (.int (v0_0_78 p4)), .unset, .unset, .unset, .unset, .unset, .unset, .unset] [(.ref b82)])) _
    refine XS.astore X3.here hx rfl (hb hby at_84) rfl rfl (l' := #[.val (.int p0), .val (.int p1), .val (.int p2), .val (.int p3), .val (.int p4), .val (.int (0 : Int32)), .val (.int (v0_0_9 p1)), .val (.int (v0_0_20 p1 p2)), .val (.int (v0_0_31 p1 p2 p3)), .val (.int (-1 : Int32)), .val (.int (v0_0_78 p4)), .val (.ref b82), .unset, .unset, .unset, .unset, .unset, .unset]) rfl ?_
    show Steps p.tables e below (T3.setTop (mkF m 86 #[.val (.int p0), .val (.int p1), .val (.int p2), .val (.int p3), .val (.int p4), .val (.int (0 : Int32)), .val (.int (v0_0_9 p1)), .val (.int (v0_0_20 p1 p2)), .val (.int (v0_0_31 p1 p2 p3)), .val (.int (-1 : Int32)), .val (.int (v0_0_78 p4)), .val (.ref b82), .unset, .unset, .unset, .unset, .unset, .unset] [])) _
    refine XS.iload X3.here hx rfl (hb hby at_86) rfl ?_
    show Steps p.tables e below (T3.setTop (mkF m 88 #[.val (.int p0), .val (.int p1), .val (.int p2), .val (.int p3), .val (.int p4), .val (.int (0 : Int32)), .val (.int (v0_0_9 p1)), .val (.int (v0_0_20 p1 p2)), .val (.int (v0_0_31 p1 p2 p3)), .val (.int (-1 : Int32)), .val (.int (v0_0_78 p4)), .val (.ref b82), .unset, .unset, .unset, .unset, .unset, .unset] [(.int (0 : Int32))])) _
    refine XS.iconst X3.here hx rfl (hb hby at_88) ?_
    show Steps p.tables e below (T3.setTop (mkF m 89 #[.val (.int p0), .val (.int p1), .val (.int p2), .val (.int p3), .val (.int p4), .val (.int (0 : Int32)), .val (.int (v0_0_9 p1)), .val (.int (v0_0_20 p1 p2)), .val (.int (v0_0_31 p1 p2 p3)), .val (.int (-1 : Int32)), .val (.int (v0_0_78 p4)), .val (.ref b82), .unset, .unset, .unset, .unset, .unset, .unset] [(.int (1 : Int32)), (.int (0 : Int32))])) _
    refine XS.icmpYes X3.here hx rfl (pc0 := 89) (pc' := 98) rfl (hb hby at_89) rfl (by decide) (by decide) (by decide) ?_
    show Steps p.tables e below (T3.setTop (mkF m 98 #[.val (.int p0), .val (.int p1), .val (.int p2), .val (.int p3), .val (.int p4), .val (.int (0 : Int32)), .val (.int (v0_0_9 p1)), .val (.int (v0_0_20 p1 p2)), .val (.int (v0_0_31 p1 p2 p3)), .val (.int (-1 : Int32)), .val (.int (v0_0_78 p4)), .val (.ref b82), .unset, .unset, .unset, .unset, .unset, .unset] [])) _
    refine XS.iload X3.here hx rfl (hb hby at_98) rfl ?_
    show Steps p.tables e below (T3.setTop (mkF m 100 #[.val (.int p0), .val (.int p1), .val (.int p2), .val (.int p3), .val (.int p4), .val (.int (0 : Int32)), .val (.int (v0_0_9 p1)), .val (.int (v0_0_20 p1 p2)), .val (.int (v0_0_31 p1 p2 p3)), .val (.int (-1 : Int32)), .val (.int (v0_0_78 p4)), .val (.ref b82), .unset, .unset, .unset, .unset, .unset, .unset] [(.int (0 : Int32))])) _
    refine XS.iconst X3.here hx rfl (hb hby at_100) ?_
    show Steps p.tables e below (T3.setTop (mkF m 101 #[.val (.int p0), .val (.int p1), .val (.int p2), .val (.int p3), .val (.int p4), .val (.int (0 : Int32)), .val (.int (v0_0_9 p1)), .val (.int (v0_0_20 p1 p2)), .val (.int (v0_0_31 p1 p2 p3)), .val (.int (-1 : Int32)), .val (.int (v0_0_78 p4)), .val (.ref b82), .unset, .unset, .unset, .unset, .unset, .unset] [(.int (2 : Int32)), (.int (0 : Int32))])) _
    refine XS.icmpYes X3.here hx rfl (pc0 := 101) (pc' := 110) rfl (hb hby at_101) rfl (by decide) (by decide) (by decide) ?_
    show Steps p.tables e below (T3.setTop (mkF m 110 #[.val (.int p0), .val (.int p1), .val (.int p2), .val (.int p3), .val (.int p4), .val (.int (0 : Int32)), .val (.int (v0_0_9 p1)), .val (.int (v0_0_20 p1 p2)), .val (.int (v0_0_31 p1 p2 p3)), .val (.int (-1 : Int32)), .val (.int (v0_0_78 p4)), .val (.ref b82), .unset, .unset, .unset, .unset, .unset, .unset] [])) _
    refine XS.iload X3.here hx rfl (hb hby at_110) rfl ?_
    show Steps p.tables e below (T3.setTop (mkF m 112 #[.val (.int p0), .val (.int p1), .val (.int p2), .val (.int p3), .val (.int p4), .val (.int (0 : Int32)), .val (.int (v0_0_9 p1)), .val (.int (v0_0_20 p1 p2)), .val (.int (v0_0_31 p1 p2 p3)), .val (.int (-1 : Int32)), .val (.int (v0_0_78 p4)), .val (.ref b82), .unset, .unset, .unset, .unset, .unset, .unset] [(.int (0 : Int32))])) _
    refine XS.iconst X3.here hx rfl (hb hby at_112) ?_
    show Steps p.tables e below (T3.setTop (mkF m 113 #[.val (.int p0), .val (.int p1), .val (.int p2), .val (.int p3), .val (.int p4), .val (.int (0 : Int32)), .val (.int (v0_0_9 p1)), .val (.int (v0_0_20 p1 p2)), .val (.int (v0_0_31 p1 p2 p3)), .val (.int (-1 : Int32)), .val (.int (v0_0_78 p4)), .val (.ref b82), .unset, .unset, .unset, .unset, .unset, .unset] [(.int (3 : Int32)), (.int (0 : Int32))])) _
    refine XS.icmpYes X3.here hx rfl (pc0 := 113) (pc' := 122) rfl (hb hby at_113) rfl (by decide) (by decide) (by decide) ?_
    show Steps p.tables e below (T3.setTop (mkF m 122 #[.val (.int p0), .val (.int p1), .val (.int p2), .val (.int p3), .val (.int p4), .val (.int (0 : Int32)), .val (.int (v0_0_9 p1)), .val (.int (v0_0_20 p1 p2)), .val (.int (v0_0_31 p1 p2 p3)), .val (.int (-1 : Int32)), .val (.int (v0_0_78 p4)), .val (.ref b82), .unset, .unset, .unset, .unset, .unset, .unset] [])) _
    refine XS.iload X3.here hx rfl (hb hby at_122) rfl ?_
    show Steps p.tables e below (T3.setTop (mkF m 124 #[.val (.int p0), .val (.int p1), .val (.int p2), .val (.int p3), .val (.int p4), .val (.int (0 : Int32)), .val (.int (v0_0_9 p1)), .val (.int (v0_0_20 p1 p2)), .val (.int (v0_0_31 p1 p2 p3)), .val (.int (-1 : Int32)), .val (.int (v0_0_78 p4)), .val (.ref b82), .unset, .unset, .unset, .unset, .unset, .unset] [(.int (v0_0_9 p1))])) _
    refine XS.istore X3.here hx rfl (hb hby at_124) rfl (l' := #[.val (.int p0), .val (.int p1), .val (.int p2), .val (.int p3), .val (.int p4), .val (.int (0 : Int32)), .val (.int (v0_0_9 p1)), .val (.int (v0_0_20 p1 p2)), .val (.int (v0_0_31 p1 p2 p3)), .val (.int (-1 : Int32)), .val (.int (v0_0_78 p4)), .val (.ref b82), .val (.int (v0_0_9 p1)), .unset, .unset, .unset, .unset, .unset]) rfl ?_
    show Steps p.tables e below (T3.setTop (mkF m 126 #[.val (.int p0), .val (.int p1), .val (.int p2), .val (.int p3), .val (.int p4), .val (.int (0 : Int32)), .val (.int (v0_0_9 p1)), .val (.int (v0_0_20 p1 p2)), .val (.int (v0_0_31 p1 p2 p3)), .val (.int (-1 : Int32)), .val (.int (v0_0_78 p4)), .val (.ref b82), .val (.int (v0_0_9 p1)), .unset, .unset, .unset, .unset, .unset] [])) _
    refine XS.iload X3.here hx rfl (hb hby at_126) rfl ?_
    show Steps p.tables e below (T3.setTop (mkF m 128 #[.val (.int p0), .val (.int p1), .val (.int p2), .val (.int p3), .val (.int p4), .val (.int (0 : Int32)), .val (.int (v0_0_9 p1)), .val (.int (v0_0_20 p1 p2)), .val (.int (v0_0_31 p1 p2 p3)), .val (.int (-1 : Int32)), .val (.int (v0_0_78 p4)), .val (.ref b82), .val (.int (v0_0_9 p1)), .unset, .unset, .unset, .unset, .unset] [(.int (v0_0_20 p1 p2))])) _
    refine XS.istore X3.here hx rfl (hb hby at_128) rfl (l' := #[.val (.int p0), .val (.int p1), .val (.int p2), .val (.int p3), .val (.int p4), .val (.int (0 : Int32)), .val (.int (v0_0_9 p1)), .val (.int (v0_0_20 p1 p2)), .val (.int (v0_0_31 p1 p2 p3)), .val (.int (-1 : Int32)), .val (.int (v0_0_78 p4)), .val (.ref b82), .val (.int (v0_0_9 p1)), .val (.int (v0_0_20 p1 p2)), .unset, .unset, .unset, .unset]) rfl ?_
    show Steps p.tables e below (T3.setTop (mkF m 130 #[.val (.int p0), .val (.int p1), .val (.int p2), .val (.int p3), .val (.int p4), .val (.int (0 : Int32)), .val (.int (v0_0_9 p1)), .val (.int (v0_0_20 p1 p2)), .val (.int (v0_0_31 p1 p2 p3)), .val (.int (-1 : Int32)), .val (.int (v0_0_78 p4)), .val (.ref b82), .val (.int (v0_0_9 p1)), .val (.int (v0_0_20 p1 p2)), .unset, .unset, .unset, .unset] [])) _
    refine XS.iload X3.here hx rfl (hb hby at_130) rfl ?_
    show Steps p.tables e below (T3.setTop (mkF m 132 #[.val (.int p0), .val (.int p1), .val (.int p2), .val (.int p3), .val (.int p4), .val (.int (0 : Int32)), .val (.int (v0_0_9 p1)), .val (.int (v0_0_20 p1 p2)), .val (.int (v0_0_31 p1 p2 p3)), .val (.int (-1 : Int32)), .val (.int (v0_0_78 p4)), .val (.ref b82), .val (.int (v0_0_9 p1)), .val (.int (v0_0_20 p1 p2)), .unset, .unset, .unset, .unset] [(.int (v0_0_31 p1 p2 p3))])) _
    refine XS.istore X3.here hx rfl (hb hby at_132) rfl (l' := #[.val (.int p0), .val (.int p1), .val (.int p2), .val (.int p3), .val (.int p4), .val (.int (0 : Int32)), .val (.int (v0_0_9 p1)), .val (.int (v0_0_20 p1 p2)), .val (.int (v0_0_31 p1 p2 p3)), .val (.int (-1 : Int32)), .val (.int (v0_0_78 p4)), .val (.ref b82), .val (.int (v0_0_9 p1)), .val (.int (v0_0_20 p1 p2)), .val (.int (v0_0_31 p1 p2 p3)), .unset, .unset, .unset]) rfl ?_
    show Steps p.tables e below (T3.setTop (mkF m 134 #[.val (.int p0), .val (.int p1), .val (.int p2), .val (.int p3), .val (.int p4), .val (.int (0 : Int32)), .val (.int (v0_0_9 p1)), .val (.int (v0_0_20 p1 p2)), .val (.int (v0_0_31 p1 p2 p3)), .val (.int (-1 : Int32)), .val (.int (v0_0_78 p4)), .val (.ref b82), .val (.int (v0_0_9 p1)), .val (.int (v0_0_20 p1 p2)), .val (.int (v0_0_31 p1 p2 p3)), .unset, .unset, .unset] [])) _
    refine XS.iload X3.here hx rfl (hb hby at_134) rfl ?_
    show Steps p.tables e below (T3.setTop (mkF m 136 #[.val (.int p0), .val (.int p1), .val (.int p2), .val (.int p3), .val (.int p4), .val (.int (0 : Int32)), .val (.int (v0_0_9 p1)), .val (.int (v0_0_20 p1 p2)), .val (.int (v0_0_31 p1 p2 p3)), .val (.int (-1 : Int32)), .val (.int (v0_0_78 p4)), .val (.ref b82), .val (.int (v0_0_9 p1)), .val (.int (v0_0_20 p1 p2)), .val (.int (v0_0_31 p1 p2 p3)), .unset, .unset, .unset] [(.int (0 : Int32))])) _
    refine XS.ifNo X3.here hx rfl (hb hby at_136) rfl (by decide) ?_
    show Steps p.tables e below (T3.setTop (mkF m 139 #[.val (.int p0), .val (.int p1), .val (.int p2), .val (.int p3), .val (.int p4), .val (.int (0 : Int32)), .val (.int (v0_0_9 p1)), .val (.int (v0_0_20 p1 p2)), .val (.int (v0_0_31 p1 p2 p3)), .val (.int (-1 : Int32)), .val (.int (v0_0_78 p4)), .val (.ref b82), .val (.int (v0_0_9 p1)), .val (.int (v0_0_20 p1 p2)), .val (.int (v0_0_31 p1 p2 p3)), .unset, .unset, .unset] [])) _
    refine XS.iconst X3.here hx rfl (hb hby at_139) ?_
    show Steps p.tables e below (T3.setTop (mkF m 140 #[.val (.int p0), .val (.int p1), .val (.int p2), .val (.int p3), .val (.int p4), .val (.int (0 : Int32)), .val (.int (v0_0_9 p1)), .val (.int (v0_0_20 p1 p2)), .val (.int (v0_0_31 p1 p2 p3)), .val (.int (-1 : Int32)), .val (.int (v0_0_78 p4)), .val (.ref b82), .val (.int (v0_0_9 p1)), .val (.int (v0_0_20 p1 p2)), .val (.int (v0_0_31 p1 p2 p3)), .unset, .unset, .unset] [(.int (0 : Int32))])) _
    refine XS.istore X3.here hx rfl (hb hby at_140) rfl (l' := #[.val (.int p0), .val (.int p1), .val (.int p2), .val (.int p3), .val (.int p4), .val (.int (0 : Int32)), .val (.int (v0_0_9 p1)), .val (.int (v0_0_20 p1 p2)), .val (.int (v0_0_31 p1 p2 p3)), .val (.int (-1 : Int32)), .val (.int (v0_0_78 p4)), .val (.ref b82), .val (.int (v0_0_9 p1)), .val (.int (v0_0_20 p1 p2)), .val (.int (v0_0_31 p1 p2 p3)), .val (.int (0 : Int32)), .unset, .unset]) rfl ?_
    show Steps p.tables e below (T3.setTop (mkF m 142 #[.val (.int p0), .val (.int p1), .val (.int p2), .val (.int p3), .val (.int p4), .val (.int (0 : Int32)), .val (.int (v0_0_9 p1)), .val (.int (v0_0_20 p1 p2)), .val (.int (v0_0_31 p1 p2 p3)), .val (.int (-1 : Int32)), .val (.int (v0_0_78 p4)), .val (.ref b82), .val (.int (v0_0_9 p1)), .val (.int (v0_0_20 p1 p2)), .val (.int (v0_0_31 p1 p2 p3)), .val (.int (0 : Int32)), .unset, .unset] [])) _
    refine XS.goto X3.here hx rfl (pc0 := 142) (pc' := 320) rfl (hb hby at_142) (by decide) (by decide) ?_
    show Steps p.tables e below (T3.setTop (mkF m 320 #[.val (.int p0), .val (.int p1), .val (.int p2), .val (.int p3), .val (.int p4), .val (.int (0 : Int32)), .val (.int (v0_0_9 p1)), .val (.int (v0_0_20 p1 p2)), .val (.int (v0_0_31 p1 p2 p3)), .val (.int (-1 : Int32)), .val (.int (v0_0_78 p4)), .val (.ref b82), .val (.int (v0_0_9 p1)), .val (.int (v0_0_20 p1 p2)), .val (.int (v0_0_31 p1 p2 p3)), .val (.int (0 : Int32)), .unset, .unset] [])) _
    refine XS.aload X3.here hx rfl (hb hby at_320) rfl rfl ?_
    show Steps p.tables e below (T3.setTop (mkF m 322 #[.val (.int p0), .val (.int p1), .val (.int p2), .val (.int p3), .val (.int p4), .val (.int (0 : Int32)), .val (.int (v0_0_9 p1)), .val (.int (v0_0_20 p1 p2)), .val (.int (v0_0_31 p1 p2 p3)), .val (.int (-1 : Int32)), .val (.int (v0_0_78 p4)), .val (.ref b82), .val (.int (v0_0_9 p1)), .val (.int (v0_0_20 p1 p2)), .val (.int (v0_0_31 p1 p2 p3)), .val (.int (0 : Int32)), .unset, .unset] [(.ref b82)])) _
    refine XS.iload X3.here hx rfl (hb hby at_322) rfl ?_
    exact k)
  obtain ⟨_, _, ⟨T6, L6, k6, n6⟩, -, X6, ⟨Lc6, hQ6, l6, y6, z6⟩, st6⟩ := Jvm.LawKit.callS X3 hx (y := (⟨"com/example/modloc/modloc/localize/Localizer", "advance", "([II)Z"⟩ : MethodName)) hown (mvT hZ (hw _ (List.mem_of_getElem? (i := 1) rfl))) (mvT hZ (hw _ (List.mem_of_getElem? (i := 2) rfl))) (mvT hZ (hw _ (List.mem_of_getElem? (i := 3) rfl))) (mvT hZ (hw _ (List.mem_of_getElem? (i := 4) rfl))) (by decide) (backOf (W := 0) (rm1_0 l Z a0 hw [] b82 (v0_0_78 p4) _ h3 n0 Z3 V3 gg3) hZ (hw _ (List.mem_of_getElem? (i := 4) rfl)) (hw _ (List.mem_of_getElem? (i := 3) rfl)) (by decide) (by decide)) (g := (mkF m 324 #[.val (.int p0), .val (.int p1), .val (.int p2), .val (.int p3), .val (.int p4), .val (.int (0 : Int32)), .val (.int (v0_0_9 p1)), .val (.int (v0_0_20 p1 p2)), .val (.int (v0_0_31 p1 p2 p3)), .val (.int (-1 : Int32)), .val (.int (v0_0_78 p4)), .val (.ref b82), .val (.int (v0_0_9 p1)), .val (.int (v0_0_20 p1 p2)), .val (.int (v0_0_31 p1 p2 p3)), .val (.int (0 : Int32)), .unset, .unset] [(.int (v0_0_78 p4)), (.ref b82)])) rfl (by rw [hml]; rfl) (argsL := [(.ref b82), (.int (v0_0_78 p4))]) (rest := []) (lenOf pd___II_Z rfl) rfl (by show 2 * 0 + _ ≤ _; exact Nat.le_of_eq rfl) (hb hby at_324) (fun _ _ => ⟨rfl, e3, (by decide : 1 + 0 ≤ _), (by decide : 0 + 0 ≤ _)⟩)
  dsimp only [Pt.U, Pt.locs, Pt.cells, Pt.slots] at X6 l6 y6 z6 st6 hQ6
  subst l6 y6 z6
  obtain ⟨rfl, Nq6, e6⟩ := hQ6
  have N6 := Fr.app N0 Nq6
  have pre7 : ∀ t, Steps p.tables e below (T6.setTop (mkF m 327 #[.val (.int p0), .val (.int p1), .val (.int p2), .val (.int p3), .val (.int p4), .val (.int (0 : Int32)), .val (.int (v0_0_9 p1)), .val (.int (v0_0_20 p1 p2)), .val (.int (v0_0_31 p1 p2 p3)), .val (.int (-1 : Int32)), .val (.int (v0_0_78 p4)), .val (.ref b82), .val (.int (v0_0_9 p1)), .val (.int (v0_0_20 p1 p2)), .val (.int (v0_0_31 p1 p2 p3)), .val (.int (0 : Int32)), .unset, .unset] [(.int (f1_0))])) t → Steps p.tables e below (s₁.setTop (entryFrame m #[(.int p0), (.int p1), (.int p2), (.int p3), (.int p4)] maxLocals)) t := fun t k => pre5 t (st6 _ k)
  have pre8 : ∀ t, Steps p.tables e below (T6.setTop (mkF m 333 #[.val (.int p0), .val (.int p1), .val (.int p2), .val (.int p3), .val (.int p4), .val (.int (0 : Int32)), .val (.int (v0_0_9 p1)), .val (.int (v0_0_20 p1 p2)), .val (.int (v0_0_31 p1 p2 p3)), .val (.int (-1 : Int32)), .val (.int (v0_0_78 p4)), .val (.ref b82), .val (.int (v0_0_9 p1)), .val (.int (v0_0_20 p1 p2)), .val (.int (v0_0_31 p1 p2 p3)), .val (.int (0 : Int32)), .val (.int (f1_0)), .unset] [(.int (0 : Int32)), (.int (f1_0))])) t → Steps p.tables e below (s₁.setTop (entryFrame m #[(.int p0), (.int p1), (.int p2), (.int p3), (.int p4)] maxLocals)) t := fun t k => pre7 t (by
    show Steps p.tables e below (T6.setTop (mkF m 327 #[.val (.int p0), .val (.int p1), .val (.int p2), .val (.int p3), .val (.int p4), .val (.int (0 : Int32)), .val (.int (v0_0_9 p1)), .val (.int (v0_0_20 p1 p2)), .val (.int (v0_0_31 p1 p2 p3)), .val (.int (-1 : Int32)), .val (.int (v0_0_78 p4)), .val (.ref b82), .val (.int (v0_0_9 p1)), .val (.int (v0_0_20 p1 p2)), .val (.int (v0_0_31 p1 p2 p3)), .val (.int (0 : Int32)), .unset, .unset] [(.int (f1_0))])) _
    refine XS.istore X6.here hx rfl (hb hby at_327) rfl (l' := #[.val (.int p0), .val (.int p1), .val (.int p2), .val (.int p3), .val (.int p4), .val (.int (0 : Int32)), .val (.int (v0_0_9 p1)), .val (.int (v0_0_20 p1 p2)), .val (.int (v0_0_31 p1 p2 p3)), .val (.int (-1 : Int32)), .val (.int (v0_0_78 p4)), .val (.ref b82), .val (.int (v0_0_9 p1)), .val (.int (v0_0_20 p1 p2)), .val (.int (v0_0_31 p1 p2 p3)), .val (.int (0 : Int32)), .val (.int (f1_0)), .unset]) rfl ?_
    show Steps p.tables e below (T6.setTop (mkF m 329 #[.val (.int p0), .val (.int p1), .val (.int p2), .val (.int p3), .val (.int p4), .val (.int (0 : Int32)), .val (.int (v0_0_9 p1)), .val (.int (v0_0_20 p1 p2)), .val (.int (v0_0_31 p1 p2 p3)), .val (.int (-1 : Int32)), .val (.int (v0_0_78 p4)), .val (.ref b82), .val (.int (v0_0_9 p1)), .val (.int (v0_0_20 p1 p2)), .val (.int (v0_0_31 p1 p2 p3)), .val (.int (0 : Int32)), .val (.int (f1_0)), .unset] [])) _
    refine XS.iload X6.here hx rfl (hb hby at_329) rfl ?_
    show Steps p.tables e below (T6.setTop (mkF m 331 #[.val (.int p0), .val (.int p1), .val (.int p2), .val (.int p3), .val (.int p4), .val (.int (0 : Int32)), .val (.int (v0_0_9 p1)), .val (.int (v0_0_20 p1 p2)), .val (.int (v0_0_31 p1 p2 p3)), .val (.int (-1 : Int32)), .val (.int (v0_0_78 p4)), .val (.ref b82), .val (.int (v0_0_9 p1)), .val (.int (v0_0_20 p1 p2)), .val (.int (v0_0_31 p1 p2 p3)), .val (.int (0 : Int32)), .val (.int (f1_0)), .unset] [(.int (f1_0))])) _
    refine XS.iload X6.here hx rfl (hb hby at_331) rfl ?_
    exact k)
  by_cases hc333_1 : (f1_0) = (0 : Int32)
  · have pre9 : ∀ t, Steps p.tables e below (T6.setTop (mkF m 344 #[.val (.int p0), .val (.int p1), .val (.int p2), .val (.int p3), .val (.int p4), .val (.int (0 : Int32)), .val (.int (v0_0_9 p1)), .val (.int (v0_0_20 p1 p2)), .val (.int (v0_0_31 p1 p2 p3)), .val (.int (-1 : Int32)), .val (.int (v0_0_78 p4)), .val (.ref b82), .val (.int (v0_0_9 p1)), .val (.int (v0_0_20 p1 p2)), .val (.int (v0_0_31 p1 p2 p3)), .val (.int (0 : Int32)), .val (.int (f1_0)), .unset] [(.int (1 : Int32))])) t → Steps p.tables e below (s₁.setTop (entryFrame m #[(.int p0), (.int p1), (.int p2), (.int p3), (.int p4)] maxLocals)) t := fun t k => pre8 t (by
      show Steps p.tables e below (T6.setTop (mkF m 333 #[.val (.int p0), .val (.int p1), .val (.int p2), .val (.int p3), .val (.int p4), .val (.int (0 : Int32)), .val (.int (v0_0_9 p1)), .val (.int (v0_0_20 p1 p2)), .val (.int (v0_0_31 p1 p2 p3)), .val (.int (-1 : Int32)), .val (.int (v0_0_78 p4)), .val (.ref b82), .val (.int (v0_0_9 p1)), .val (.int (v0_0_20 p1 p2)), .val (.int (v0_0_31 p1 p2 p3)), .val (.int (0 : Int32)), .val (.int (f1_0)), .unset] [(.int (0 : Int32)), (.int (f1_0))])) _
      refine XS.icmpYes X6.here hx rfl (pc0 := 333) (pc' := 338) rfl (hb hby at_333) rfl (teq hc333_1).1 (by decide) (by decide) ?_
      show Steps p.tables e below (T6.setTop (mkF m 338 #[.val (.int p0), .val (.int p1), .val (.int p2), .val (.int p3), .val (.int p4), .val (.int (0 : Int32)), .val (.int (v0_0_9 p1)), .val (.int (v0_0_20 p1 p2)), .val (.int (v0_0_31 p1 p2 p3)), .val (.int (-1 : Int32)), .val (.int (v0_0_78 p4)), .val (.ref b82), .val (.int (v0_0_9 p1)), .val (.int (v0_0_20 p1 p2)), .val (.int (v0_0_31 p1 p2 p3)), .val (.int (0 : Int32)), .val (.int (f1_0)), .unset] [])) _
      refine XS.iload X6.here hx rfl (hb hby at_338) rfl ?_
      show Steps p.tables e below (T6.setTop (mkF m 340 #[.val (.int p0), .val (.int p1), .val (.int p2), .val (.int p3), .val (.int p4), .val (.int (0 : Int32)), .val (.int (v0_0_9 p1)), .val (.int (v0_0_20 p1 p2)), .val (.int (v0_0_31 p1 p2 p3)), .val (.int (-1 : Int32)), .val (.int (v0_0_78 p4)), .val (.ref b82), .val (.int (v0_0_9 p1)), .val (.int (v0_0_20 p1 p2)), .val (.int (v0_0_31 p1 p2 p3)), .val (.int (0 : Int32)), .val (.int (f1_0)), .unset] [(.int (0 : Int32))])) _
      refine XS.ifNo X6.here hx rfl (hb hby at_340) rfl (by decide) ?_
      show Steps p.tables e below (T6.setTop (mkF m 343 #[.val (.int p0), .val (.int p1), .val (.int p2), .val (.int p3), .val (.int p4), .val (.int (0 : Int32)), .val (.int (v0_0_9 p1)), .val (.int (v0_0_20 p1 p2)), .val (.int (v0_0_31 p1 p2 p3)), .val (.int (-1 : Int32)), .val (.int (v0_0_78 p4)), .val (.ref b82), .val (.int (v0_0_9 p1)), .val (.int (v0_0_20 p1 p2)), .val (.int (v0_0_31 p1 p2 p3)), .val (.int (0 : Int32)), .val (.int (f1_0)), .unset] [])) _
      refine XS.iconst X6.here hx rfl (hb hby at_343) ?_
      exact k)
    obtain ⟨fs, hr, hrun, hended, hW, hsame⟩ := X6.leave (v := some (.int (1 : Int32))) (fun h => by rw [Bd.returns] at h; cases h)
    refine ⟨_, _, ?_, hrun, hended, _, _, rfl, ?_, ⟨_, rfl⟩, hW, hsame.mono (by decide) (by decide)⟩
    · exact pre9 _ (retN X6 hx (t := .boolean) Bd.returns (by simp) (hb hby at_344) hr)
    · exact ⟨by simp only [f0_0, if_pos hc333_1], N6, trivial⟩
  · have pre10 : ∀ t, Steps p.tables e below (T6.setTop (mkF m 337 #[.val (.int p0), .val (.int p1), .val (.int p2), .val (.int p3), .val (.int p4), .val (.int (0 : Int32)), .val (.int (v0_0_9 p1)), .val (.int (v0_0_20 p1 p2)), .val (.int (v0_0_31 p1 p2 p3)), .val (.int (-1 : Int32)), .val (.int (v0_0_78 p4)), .val (.ref b82), .val (.int (v0_0_9 p1)), .val (.int (v0_0_20 p1 p2)), .val (.int (v0_0_31 p1 p2 p3)), .val (.int (0 : Int32)), .val (.int (f1_0)), .unset] [(.int (0 : Int32))])) t → Steps p.tables e below (s₁.setTop (entryFrame m #[(.int p0), (.int p1), (.int p2), (.int p3), (.int p4)] maxLocals)) t := fun t k => pre8 t (by
      show Steps p.tables e below (T6.setTop (mkF m 333 #[.val (.int p0), .val (.int p1), .val (.int p2), .val (.int p3), .val (.int p4), .val (.int (0 : Int32)), .val (.int (v0_0_9 p1)), .val (.int (v0_0_20 p1 p2)), .val (.int (v0_0_31 p1 p2 p3)), .val (.int (-1 : Int32)), .val (.int (v0_0_78 p4)), .val (.ref b82), .val (.int (v0_0_9 p1)), .val (.int (v0_0_20 p1 p2)), .val (.int (v0_0_31 p1 p2 p3)), .val (.int (0 : Int32)), .val (.int (f1_0)), .unset] [(.int (0 : Int32)), (.int (f1_0))])) _
      refine XS.icmpNo X6.here hx rfl (hb hby at_333) rfl (feq hc333_1).1 ?_
      show Steps p.tables e below (T6.setTop (mkF m 336 #[.val (.int p0), .val (.int p1), .val (.int p2), .val (.int p3), .val (.int p4), .val (.int (0 : Int32)), .val (.int (v0_0_9 p1)), .val (.int (v0_0_20 p1 p2)), .val (.int (v0_0_31 p1 p2 p3)), .val (.int (-1 : Int32)), .val (.int (v0_0_78 p4)), .val (.ref b82), .val (.int (v0_0_9 p1)), .val (.int (v0_0_20 p1 p2)), .val (.int (v0_0_31 p1 p2 p3)), .val (.int (0 : Int32)), .val (.int (f1_0)), .unset] [])) _
      refine XS.iconst X6.here hx rfl (hb hby at_336) ?_
      exact k)
    obtain ⟨fs, hr, hrun, hended, hW, hsame⟩ := X6.leave (v := some (.int (0 : Int32))) (fun h => by rw [Bd.returns] at h; cases h)
    refine ⟨_, _, ?_, hrun, hended, _, _, rfl, ?_, ⟨_, rfl⟩, hW, hsame.mono (by decide) (by decide)⟩
    · exact pre10 _ (retN X6 hx (t := .boolean) Bd.returns (by simp) (hb hby at_337) hr)
    · exact ⟨by simp only [f0_0, if_neg hc333_1], N6, trivial⟩
def v0_1_9 (p1 : Int32) : Int32 := (p1 &&& (7 : Int32))
def v0_1_20 (p1 : Int32) (p2 : Int32) : Int32 := (((v0_1_9 p1) + (1 : Int32)) + (p2 &&& (7 : Int32)))
def v0_1_31 (p1 : Int32) (p2 : Int32) (p3 : Int32) : Int32 := (((v0_1_20 p1 p2) + (1 : Int32)) + (p3 &&& (7 : Int32)))
def v0_1_78 (p1 : Int32) (p4 : Int32) : Int32 := (((v0_1_9 p1) + (1 : Int32)) + (p4 &&& (7 : Int32)))
def v0_1_165_s0 (p1 : Int32) (p4 : Int32) : Int32 := (if (v0_1_9 p1) < ((v0_1_78 p1 p4) - (1 : Int32)) then (1 : Int32) else (0 : Int32))
def v0_1_171 (p1 : Int32) : Int32 := ((v0_1_9 p1) + (1 : Int32))
def v0_1_327 (p1 : Int32) (p4 : Int32) : Int32 := (f1_1 (v0_1_78 p1 p4) (v0_1_9 p1))
def v0_1_373_s0 (p1 : Int32) (p4 : Int32) : Int32 := (if (g1_1_o0_0 (v0_1_78 p1 p4) (v0_1_9 p1)) = (v0_1_171 p1) then (1 : Int32) else (0 : Int32))
def f0_1 (p1 : Int32) (p4 : Int32) : Int32 := (if (v0_1_327 p1 p4) = (v0_1_165_s0 p1 p4) then (if (v0_1_165_s0 p1 p4) = (0 : Int32) then (1 : Int32) else (nar .boolean (v0_1_373_s0 p1 p4))) else (0 : Int32))
set_option maxRecDepth 65536 in
set_option maxHeartbeats 40000000 in
theorem rm0_1 (l : Launch) (Z : State) (a0 : Array Value) (hw : ∀ d ∈ tables_1, d.before a0 Z = true) (ws : List Jvm.Cond) (p0 : Int32) (p1 : Int32) (p2 : Int32) (p3 : Int32) (p4 : Int32) (h0 : Heap) (n0 : Nat) (Z0 : n0 ≤ h0.size) (hk : (p0 &&& (3 : Int32)) = (1 : Int32)) :
    MetFree l x (head1 (Jvm.Cond.code x code maxLocals ret :: ws) room_1) (fun a U => a = #[(.int p0), (.int p1), (.int p2), (.int p3), (.int p4)] ∧ Z.Warmed39 U.vm ∧ U.heap = h0) (fun _ _ _ _ _ => True) (fun _ U o U' => ∃ v L, o = .returned v ∧ QL (some (.int (f0_1 p1 p4))) n0 v U'.heap L ∧ FrameEnd U o U' L room_1.cells room_1.slots) := by
  refine MetFree.of_bodySF (plainFor_of_name pn_0) hisR ?_
  intro p e s m args below meth c s₁ Bd hml0 hP hK
  obtain ⟨rfl, hZ, hh⟩ := hP
  have hx := Bd.exec
  have hby := Bd.bytes
  have hml : c.maxLocals = 18 := hml0
  have hown : s.vm.findClass "com/example/modloc/modloc/localize/LocalizerAdvancePinLaw" = some m.cls := findClass_of_methodNamed Bd.named
  have hnm := (name_of_methodNamed Bd.named Bd.method).1
  have X0 : Stand p l e room_1 s m #[(.int p0), (.int p1), (.int p2), (.int p3), (.int p4)] below meth c s₁ [] 0 0 := Stand.of_body Bd
  have e0 : s₁.heap = h0 := by rw [← hh, Bd.state]; rfl
  have N0 := Fr.nil n0
  have K0 : Keep h0 h0 [] := Keep.refl _ _
  have pre0 : ∀ t, Steps p.tables e below (s₁.setTop (mkF m 0 #[.val (.int p0), .val (.int p1), .val (.int p2), .val (.int p3), .val (.int p4), .unset, .unset, .unset, .unset, .unset, .unset, .unset, .unset, .unset, .unset, .unset, .unset, .unset] [])) t → Steps p.tables e below (s₁.setTop (entryFrame m #[(.int p0), (.int p1), (.int p2), (.int p3), (.int p4)] maxLocals)) t := fun t k => castTop (ef_0 m p0 p1 p2 p3 p4) k
  have pre5 : ∀ t, Steps p.tables e below (s₁.setTop (mkF m 82 #[.val (.int p0), .val (.int p1), .val (.int p2), .val (.int p3), .val (.int p4), .val (.int (1 : Int32)), .val (.int (v0_1_9 p1)), .val (.int (v0_1_20 p1 p2)), .val (.int (v0_1_31 p1 p2 p3)), .val (.int (v0_1_9 p1)), .val (.int (v0_1_78 p1 p4)), .unset, .unset, .unset, .unset, .unset, .unset, .unset] [(.int (1 : Int32))])) t → Steps p.tables e below (s₁.setTop (entryFrame m #[(.int p0), (.int p1), (.int p2), (.int p3), (.int p4)] maxLocals)) t := fun t k => pre0 t (by
    show Steps p.tables e below (s₁.setTop (mkF m 0 #[.val (.int p0), .val (.int p1), .val (.int p2), .val (.int p3), .val (.int p4), .unset, .unset, .unset, .unset, .unset, .unset, .unset, .unset, .unset, .unset, .unset, .unset, .unset] [])) _
    refine XS.iloadN X0.here hx rfl (hb hby at_0) rfl ?_
    show Steps p.tables e below (s₁.setTop (mkF m 1 #[.val (.int p0), .val (.int p1), .val (.int p2), .val (.int p3), .val (.int p4), .unset, .unset, .unset, .unset, .unset, .unset, .unset, .unset, .unset, .unset, .unset, .unset, .unset] [(.int p0)])) _
    refine XS.iconst X0.here hx rfl (hb hby at_1) ?_
    show Steps p.tables e below (s₁.setTop (mkF m 2 #[.val (.int p0), .val (.int p1), .val (.int p2), .val (.int p3), .val (.int p4), .unset, .unset, .unset, .unset, .unset, .unset, .unset, .unset, .unset, .unset, .unset, .unset, .unset] [(.int (3 : Int32)), (.int p0)])) _
    refine XS.iand X0.here hx rfl (hb hby at_2) rfl ?_
    show Steps p.tables e below (s₁.setTop (mkF m 3 #[.val (.int p0), .val (.int p1), .val (.int p2), .val (.int p3), .val (.int p4), .unset, .unset, .unset, .unset, .unset, .unset, .unset, .unset, .unset, .unset, .unset, .unset, .unset] [(.int (p0 &&& (3 : Int32)))])) _
    rw [hk]
    show Steps p.tables e below (s₁.setTop (mkF m 3 #[.val (.int p0), .val (.int p1), .val (.int p2), .val (.int p3), .val (.int p4), .unset, .unset, .unset, .unset, .unset, .unset, .unset, .unset, .unset, .unset, .unset, .unset, .unset] [(.int (1 : Int32))])) _
    refine XS.istore X0.here hx rfl (hb hby at_3) rfl (l' := #[.val (.int p0), .val (.int p1), .val (.int p2), .val (.int p3), .val (.int p4), .val (.int (1 : Int32)), .unset, .unset, .unset, .unset, .unset, .unset, .unset, .unset, .unset, .unset, .unset, .unset]) rfl ?_
    show Steps p.tables e below (s₁.setTop (mkF m 5 #[.val (.int p0), .val (.int p1), .val (.int p2), .val (.int p3), .val (.int p4), .val (.int (1 : Int32)), .unset, .unset, .unset, .unset, .unset, .unset, .unset, .unset, .unset, .unset, .unset, .unset] [])) _
    refine XS.iloadN X0.here hx rfl (hb hby at_5) rfl ?_
    show Steps p.tables e below (s₁.setTop (mkF m 6 #[.val (.int p0), .val (.int p1), .val (.int p2), .val (.int p3), .val (.int p4), .val (.int (1 : Int32)), .unset, .unset, .unset, .unset, .unset, .unset, .unset, .unset, .unset, .unset, .unset, .unset] [(.int p1)])) _
    refine XS.bipush X0.here hx rfl (hb hby at_6) ?_
    show Steps p.tables e below (s₁.setTop (mkF m 8 #[.val (.int p0), .val (.int p1), .val (.int p2), .val (.int p3), .val (.int p4), .val (.int (1 : Int32)), .unset, .unset, .unset, .unset, .unset, .unset, .unset, .unset, .unset, .unset, .unset, .unset] [(.int (7 : Int32)), (.int p1)])) _
    refine XS.iand X0.here hx rfl (hb hby at_8) rfl ?_
    show Steps p.tables e below (s₁.setTop (mkF m 9 #[.val (.int p0), .val (.int p1), .val (.int p2), .val (.int p3), .val (.int p4), .val (.int (1 : Int32)), .unset, .unset, .unset, .unset, .unset, .unset, .unset, .unset, .unset, .unset, .unset, .unset] [(.int (p1 &&& (7 : Int32)))])) _
    refine XS.istore X0.here hx rfl (hb hby at_9) rfl (l' := #[.val (.int p0), .val (.int p1), .val (.int p2), .val (.int p3), .val (.int p4), .val (.int (1 : Int32)), .val (.int (v0_1_9 p1)), .unset, .unset, .unset, .unset, .unset, .unset, .unset, .unset, .unset, .unset, .unset]) rfl ?_
    show Steps p.tables e below (s₁.setTop (mkF m 11 #[.val (.int p0), .val (.int p1), .val (.int p2), .val (.int p3), .val (.int p4), .val (.int (1 : Int32)), .val (.int (v0_1_9 p1)), .unset, .unset, .unset, .unset, .unset, .unset, .unset, .unset, .unset, .unset, .unset] [])) _
    refine XS.iload X0.here hx rfl (hb hby at_11) rfl ?_
    show Steps p.tables e below (s₁.setTop (mkF m 13 #[.val (.int p0), .val (.int p1), .val (.int p2), .val (.int p3), .val (.int p4), .val (.int (1 : Int32)), .val (.int (v0_1_9 p1)), .unset, .unset, .unset, .unset, .unset, .unset, .unset, .unset, .unset, .unset, .unset] [(.int (v0_1_9 p1))])) _
    refine XS.iconst X0.here hx rfl (hb hby at_13) ?_
    show Steps p.tables e below (s₁.setTop (mkF m 14 #[.val (.int p0), .val (.int p1), .val (.int p2), .val (.int p3), .val (.int p4), .val (.int (1 : Int32)), .val (.int (v0_1_9 p1)), .unset, .unset, .unset, .unset, .unset, .unset, .unset, .unset, .unset, .unset, .unset] [(.int (1 : Int32)), (.int (v0_1_9 p1))])) _
    refine XS.iadd X0.here hx rfl (hb hby at_14) rfl ?_
    show Steps p.tables e below (s₁.setTop (mkF m 15 #[.val (.int p0), .val (.int p1), .val (.int p2), .val (.int p3), .val (.int p4), .val (.int (1 : Int32)), .val (.int (v0_1_9 p1)), .unset, .unset, .unset, .unset, .unset, .unset, .unset, .unset, .unset, .unset, .unset] [(.int ((v0_1_9 p1) + (1 : Int32)))])) _
    refine XS.iloadN X0.here hx rfl (hb hby at_15) rfl ?_
    show Steps p.tables e below (s₁.setTop (mkF m 16 #[.val (.int p0), .val (.int p1), .val (.int p2), .val (.int p3), .val (.int p4), .val (.int (1 : Int32)), .val (.int (v0_1_9 p1)), .unset, .unset, .unset, .unset, .unset, .unset, .unset, .unset, .unset, .unset, .unset] [(.int p2), (.int ((v0_1_9 p1) + (1 : Int32)))])) _
    refine XS.bipush X0.here hx rfl (hb hby at_16) ?_
    show Steps p.tables e below (s₁.setTop (mkF m 18 #[.val (.int p0), .val (.int p1), .val (.int p2), .val (.int p3), .val (.int p4), .val (.int (1 : Int32)), .val (.int (v0_1_9 p1)), .unset, .unset, .unset, .unset, .unset, .unset, .unset, .unset, .unset, .unset, .unset] [(.int (7 : Int32)), (.int p2), (.int ((v0_1_9 p1) + (1 : Int32)))])) _
    refine XS.iand X0.here hx rfl (hb hby at_18) rfl ?_
    show Steps p.tables e below (s₁.setTop (mkF m 19 #[.val (.int p0), .val (.int p1), .val (.int p2), .val (.int p3), .val (.int p4), .val (.int (1 : Int32)), .val (.int (v0_1_9 p1)), .unset, .unset, .unset, .unset, .unset, .unset, .unset, .unset, .unset, .unset, .unset] [(.int (p2 &&& (7 : Int32))), (.int ((v0_1_9 p1) + (1 : Int32)))])) _
    refine XS.iadd X0.here hx rfl (hb hby at_19) rfl ?_
    show Steps p.tables e below (s₁.setTop (mkF m 20 #[.val (.int p0), .val (.int p1), .val (.int p2), .val (.int p3), .val (.int p4), .val (.int (1 : Int32)), .val (.int (v0_1_9 p1)), .unset, .unset, .unset, .unset, .unset, .unset, .unset, .unset, .unset, .unset, .unset] [(.int (((v0_1_9 p1) + (1 : Int32)) + (p2 &&& (7 : Int32))))])) _
    refine XS.istore X0.here hx rfl (hb hby at_20) rfl (l' := #[.val (.int p0), .val (.int p1), .val (.int p2), .val (.int p3), .val (.int p4), .val (.int (1 : Int32)), .val (.int (v0_1_9 p1)), .val (.int (v0_1_20 p1 p2)), .unset, .unset, .unset, .unset, .unset, .unset, .unset, .unset, .unset, .unset]) rfl ?_
    show Steps p.tables e below (s₁.setTop (mkF m 22 #[.val (.int p0), .val (.int p1), .val (.int p2), .val (.int p3), .val (.int p4), .val (.int (1 : Int32)), .val (.int (v0_1_9 p1)), .val (.int (v0_1_20 p1 p2)), .unset, .unset, .unset, .unset, .unset, .unset, .unset, .unset, .unset, .unset] [])) _
    refine XS.iload X0.here hx rfl (hb hby at_22) rfl ?_
    show Steps p.tables e below (s₁.setTop (mkF m 24 #[.val (.int p0), .val (.int p1), .val (.int p2), .val (.int p3), .val (.int p4), .val (.int (1 : Int32)), .val (.int (v0_1_9 p1)), .val (.int (v0_1_20 p1 p2)), .unset, .unset, .unset, .unset, .unset, .unset, .unset, .unset, .unset, .unset] [(.int (v0_1_20 p1 p2))])) _
    refine XS.iconst X0.here hx rfl (hb hby at_24) ?_
    show Steps p.tables e below (s₁.setTop (mkF m 25 #[.val (.int p0), .val (.int p1), .val (.int p2), .val (.int p3), .val (.int p4), .val (.int (1 : Int32)), .val (.int (v0_1_9 p1)), .val (.int (v0_1_20 p1 p2)), .unset, .unset, .unset, .unset, .unset, .unset, .unset, .unset, .unset, .unset] [(.int (1 : Int32)), (.int (v0_1_20 p1 p2))])) _
    refine XS.iadd X0.here hx rfl (hb hby at_25) rfl ?_
    show Steps p.tables e below (s₁.setTop (mkF m 26 #[.val (.int p0), .val (.int p1), .val (.int p2), .val (.int p3), .val (.int p4), .val (.int (1 : Int32)), .val (.int (v0_1_9 p1)), .val (.int (v0_1_20 p1 p2)), .unset, .unset, .unset, .unset, .unset, .unset, .unset, .unset, .unset, .unset] [(.int ((v0_1_20 p1 p2) + (1 : Int32)))])) _
    refine XS.iloadN X0.here hx rfl (hb hby at_26) rfl ?_
    show Steps p.tables e below (s₁.setTop (mkF m 27 #[.val (.int p0), .val (.int p1), .val (.int p2), .val (.int p3), .val (.int p4), .val (.int (1 : Int32)), .val (.int (v0_1_9 p1)), .val (.int (v0_1_20 p1 p2)), .unset, .unset, .unset, .unset, .unset, .unset, .unset, .unset, .unset, .unset] [(.int p3), (.int ((v0_1_20 p1 p2) + (1 : Int32)))])) _
    refine XS.bipush X0.here hx rfl (hb hby at_27) ?_
    show Steps p.tables e below (s₁.setTop (mkF m 29 #[.val (.int p0), .val (.int p1), .val (.int p2), .val (.int p3), .val (.int p4), .val (.int (1 : Int32)), .val (.int (v0_1_9 p1)), .val (.int (v0_1_20 p1 p2)), .unset, .unset, .unset, .unset, .unset, .unset, .unset, .unset, .unset, .unset] [(.int (7 : Int32)), (.int p3), (.int ((v0_1_20 p1 p2) + (1 : Int32)))])) _
    refine XS.iand X0.here hx rfl (hb hby at_29) rfl ?_
    show Steps p.tables e below (s₁.setTop (mkF m 30 #[.val (.int p0), .val (.int p1), .val (.int p2), .val (.int p3), .val (.int p4), .val (.int (1 : Int32)), .val (.int (v0_1_9 p1)), .val (.int (v0_1_20 p1 p2)), .unset, .unset, .unset, .unset, .unset, .unset, .unset, .unset, .unset, .unset] [(.int (p3 &&& (7 : Int32))), (.int ((v0_1_20 p1 p2) + (1 : Int32)))])) _
    refine XS.iadd X0.here hx rfl (hb hby at_30) rfl ?_
    show Steps p.tables e below (s₁.setTop (mkF m 31 #[.val (.int p0), .val (.int p1), .val (.int p2), .val (.int p3), .val (.int p4), .val (.int (1 : Int32)), .val (.int (v0_1_9 p1)), .val (.int (v0_1_20 p1 p2)), .unset, .unset, .unset, .unset, .unset, .unset, .unset, .unset, .unset, .unset] [(.int (((v0_1_20 p1 p2) + (1 : Int32)) + (p3 &&& (7 : Int32))))])) _
    refine XS.istore X0.here hx rfl (hb hby at_31) rfl (l' := #[.val (.int p0), .val (.int p1), .val (.int p2), .val (.int p3), .val (.int p4), .val (.int (1 : Int32)), .val (.int (v0_1_9 p1)), .val (.int (v0_1_20 p1 p2)), .val (.int (v0_1_31 p1 p2 p3)), .unset, .unset, .unset, .unset, .unset, .unset, .unset, .unset, .unset]) rfl ?_
    show Steps p.tables e below (s₁.setTop (mkF m 33 #[.val (.int p0), .val (.int p1), .val (.int p2), .val (.int p3), .val (.int p4), .val (.int (1 : Int32)), .val (.int (v0_1_9 p1)), .val (.int (v0_1_20 p1 p2)), .val (.int (v0_1_31 p1 p2 p3)), .unset, .unset, .unset, .unset, .unset, .unset, .unset, .unset, .unset] [])) _
    refine XS.iload X0.here hx rfl (hb hby at_33) rfl ?_
    show Steps p.tables e below (s₁.setTop (mkF m 35 #[.val (.int p0), .val (.int p1), .val (.int p2), .val (.int p3), .val (.int p4), .val (.int (1 : Int32)), .val (.int (v0_1_9 p1)), .val (.int (v0_1_20 p1 p2)), .val (.int (v0_1_31 p1 p2 p3)), .unset, .unset, .unset, .unset, .unset, .unset, .unset, .unset, .unset] [(.int (1 : Int32))])) _
    refine XS.ifYes X0.here hx rfl (pc0 := 35) (pc' := 42) rfl (hb hby at_35) rfl (by decide) (by decide) (by decide) ?_
    show Steps p.tables e below (s₁.setTop (mkF m 42 #[.val (.int p0), .val (.int p1), .val (.int p2), .val (.int p3), .val (.int p4), .val (.int (1 : Int32)), .val (.int (v0_1_9 p1)), .val (.int (v0_1_20 p1 p2)), .val (.int (v0_1_31 p1 p2 p3)), .unset, .unset, .unset, .unset, .unset, .unset, .unset, .unset, .unset] [])) _
    refine XS.iload X0.here hx rfl (hb hby at_42) rfl ?_
    show Steps p.tables e below (s₁.setTop (mkF m 44 #[.val (.int p0), .val (.int p1), .val (.int p2), .val (.int p3), .val (.int p4), .val (.int (1 : Int32)), .val (.int (v0_1_9 p1)), .val (.int (v0_1_20 p1 p2)), .val (.int (v0_1_31 p1 p2 p3)), .unset, .unset, .unset, .unset, .unset, .unset, .unset, .unset, .unset] [(.int (1 : Int32))])) _
    refine XS.iconst X0.here hx rfl (hb hby at_44) ?_
    show Steps p.tables e below (s₁.setTop (mkF m 45 #[.val (.int p0), .val (.int p1), .val (.int p2), .val (.int p3), .val (.int p4), .val (.int (1 : Int32)), .val (.int (v0_1_9 p1)), .val (.int (v0_1_20 p1 p2)), .val (.int (v0_1_31 p1 p2 p3)), .unset, .unset, .unset, .unset, .unset, .unset, .unset, .unset, .unset] [(.int (1 : Int32)), (.int (1 : Int32))])) _
    refine XS.icmpNo X0.here hx rfl (hb hby at_45) rfl (by decide) ?_
    show Steps p.tables e below (s₁.setTop (mkF m 48 #[.val (.int p0), .val (.int p1), .val (.int p2), .val (.int p3), .val (.int p4), .val (.int (1 : Int32)), .val (.int (v0_1_9 p1)), .val (.int (v0_1_20 p1 p2)), .val (.int (v0_1_31 p1 p2 p3)), .unset, .unset, .unset, .unset, .unset, .unset, .unset, .unset, .unset] [])) _
    refine XS.iload X0.here hx rfl (hb hby at_48) rfl ?_
    show Steps p.tables e below (s₁.setTop (mkF m 50 #[.val (.int p0), .val (.int p1), .val (.int p2), .val (.int p3), .val (.int p4), .val (.int (1 : Int32)), .val (.int (v0_1_9 p1)), .val (.int (v0_1_20 p1 p2)), .val (.int (v0_1_31 p1 p2 p3)), .unset, .unset, .unset, .unset, .unset, .unset, .unset, .unset, .unset] [(.int (v0_1_9 p1))])) _
    refine XS.goto X0.here hx rfl (pc0 := 50) (pc' := 66) rfl (hb hby at_50) (by decide) (by decide) ?_
    show Steps p.tables e below (s₁.setTop (mkF m 66 #[.val (.int p0), .val (.int p1), .val (.int p2), .val (.int p3), .val (.int p4), .val (.int (1 : Int32)), .val (.int (v0_1_9 p1)), .val (.int (v0_1_20 p1 p2)), .val (.int (v0_1_31 p1 p2 p3)), .unset, .unset, .unset, .unset, .unset, .unset, .unset, .unset, .unset] [(.int (v0_1_9 p1))])) _
    refine XS.istore X0.here hx rfl (hb hby at_66) rfl (l' := #[.val (.int p0), .val (.int p1), .val (.int p2), .val (.int p3), .val (.int p4), .val (.int (1 : Int32)), .val (.int (v0_1_9 p1)), .val (.int (v0_1_20 p1 p2)), .val (.int (v0_1_31 p1 p2 p3)), .val (.int (v0_1_9 p1)), .unset, .unset, .unset, .unset, .unset, .unset, .unset, .unset]) rfl ?_
    show Steps p.tables e below (s₁.setTop (mkF m 68 #[.val (.int p0), .val (.int p1), .val (.int p2), .val (.int p3), .val (.int p4), .val (.int (1 : Int32)), .val (.int (v0_1_9 p1)), .val (.int (v0_1_20 p1 p2)), .val (.int (v0_1_31 p1 p2 p3)), .val (.int (v0_1_9 p1)), .unset, .unset, .unset, .unset, .unset, .unset, .unset, .unset] [])) _
    refine XS.iload X0.here hx rfl (hb hby at_68) rfl ?_
    show Steps p.tables e below (s₁.setTop (mkF m 70 #[.val (.int p0), .val (.int p1), .val (.int p2), .val (.int p3), .val (.int p4), .val (.int (1 : Int32)), .val (.int (v0_1_9 p1)), .val (.int (v0_1_20 p1 p2)), .val (.int (v0_1_31 p1 p2 p3)), .val (.int (v0_1_9 p1)), .unset, .unset, .unset, .unset, .unset, .unset, .unset, .unset] [(.int (v0_1_9 p1))])) _
    refine XS.iconst X0.here hx rfl (hb hby at_70) ?_
    show Steps p.tables e below (s₁.setTop (mkF m 71 #[.val (.int p0), .val (.int p1), .val (.int p2), .val (.int p3), .val (.int p4), .val (.int (1 : Int32)), .val (.int (v0_1_9 p1)), .val (.int (v0_1_20 p1 p2)), .val (.int (v0_1_31 p1 p2 p3)), .val (.int (v0_1_9 p1)), .unset, .unset, .unset, .unset, .unset, .unset, .unset, .unset] [(.int (1 : Int32)), (.int (v0_1_9 p1))])) _
    refine XS.iadd X0.here hx rfl (hb hby at_71) rfl ?_
    show Steps p.tables e below (s₁.setTop (mkF m 72 #[.val (.int p0), .val (.int p1), .val (.int p2), .val (.int p3), .val (.int p4), .val (.int (1 : Int32)), .val (.int (v0_1_9 p1)), .val (.int (v0_1_20 p1 p2)), .val (.int (v0_1_31 p1 p2 p3)), .val (.int (v0_1_9 p1)), .unset, .unset, .unset, .unset, .unset, .unset, .unset, .unset] [(.int ((v0_1_9 p1) + (1 : Int32)))])) _
    refine XS.iload X0.here hx rfl (hb hby at_72) rfl ?_
    show Steps p.tables e below (s₁.setTop (mkF m 74 #[.val (.int p0), .val (.int p1), .val (.int p2), .val (.int p3), .val (.int p4), .val (.int (1 : Int32)), .val (.int (v0_1_9 p1)), .val (.int (v0_1_20 p1 p2)), .val (.int (v0_1_31 p1 p2 p3)), .val (.int (v0_1_9 p1)), .unset, .unset, .unset, .unset, .unset, .unset, .unset, .unset] [(.int p4), (.int ((v0_1_9 p1) + (1 : Int32)))])) _
    refine XS.bipush X0.here hx rfl (hb hby at_74) ?_
    show Steps p.tables e below (s₁.setTop (mkF m 76 #[.val (.int p0), .val (.int p1), .val (.int p2), .val (.int p3), .val (.int p4), .val (.int (1 : Int32)), .val (.int (v0_1_9 p1)), .val (.int (v0_1_20 p1 p2)), .val (.int (v0_1_31 p1 p2 p3)), .val (.int (v0_1_9 p1)), .unset, .unset, .unset, .unset, .unset, .unset, .unset, .unset] [(.int (7 : Int32)), (.int p4), (.int ((v0_1_9 p1) + (1 : Int32)))])) _
    refine XS.iand X0.here hx rfl (hb hby at_76) rfl ?_
    show Steps p.tables e below (s₁.setTop (mkF m 77 #[.val (.int p0), .val (.int p1), .val (.int p2), .val (.int p3), .val (.int p4), .val (.int (1 : Int32)), .val (.int (v0_1_9 p1)), .val (.int (v0_1_20 p1 p2)), .val (.int (v0_1_31 p1 p2 p3)), .val (.int (v0_1_9 p1)), .unset, .unset, .unset, .unset, .unset, .unset, .unset, .unset] [(.int (p4 &&& (7 : Int32))), (.int ((v0_1_9 p1) + (1 : Int32)))])) _
    refine XS.iadd X0.here hx rfl (hb hby at_77) rfl ?_
    show Steps p.tables e below (s₁.setTop (mkF m 78 #[.val (.int p0), .val (.int p1), .val (.int p2), .val (.int p3), .val (.int p4), .val (.int (1 : Int32)), .val (.int (v0_1_9 p1)), .val (.int (v0_1_20 p1 p2)), .val (.int (v0_1_31 p1 p2 p3)), .val (.int (v0_1_9 p1)), .unset, .unset, .unset, .unset, .unset, .unset, .unset, .unset] [(.int (((v0_1_9 p1) + (1 : Int32)) + (p4 &&& (7 : Int32))))])) _
    refine XS.istore X0.here hx rfl (hb hby at_78) rfl (l' := #[.val (.int p0), .val (.int p1), .val (.int p2), .val (.int p3), .val (.int p4), .val (.int (1 : Int32)), .val (.int (v0_1_9 p1)), .val (.int (v0_1_20 p1 p2)), .val (.int (v0_1_31 p1 p2 p3)), .val (.int (v0_1_9 p1)), .val (.int (v0_1_78 p1 p4)), .unset, .unset, .unset, .unset, .unset, .unset, .unset]) rfl ?_
    show Steps p.tables e below (s₁.setTop (mkF m 80 #[.val (.int p0), .val (.int p1), .val (.int p2), .val (.int p3), .val (.int p4), .val (.int (1 : Int32)), .val (.int (v0_1_9 p1)), .val (.int (v0_1_20 p1 p2)), .val (.int (v0_1_31 p1 p2 p3)), .val (.int (v0_1_9 p1)), .val (.int (v0_1_78 p1 p4)), .unset, .unset, .unset, .unset, .unset, .unset, .unset] [])) _
    refine XS.iload X0.here hx rfl (hb hby at_80) rfl ?_
    exact k)
  obtain ⟨T6, h6, k6, X6, e6, E6, A6, st6⟩ := newP X0 hx hZ (hw _ (List.mem_of_getElem? (i := 0) rfl)) e0 (g := (mkF m 82 #[.val (.int p0), .val (.int p1), .val (.int p2), .val (.int p3), .val (.int p4), .val (.int (1 : Int32)), .val (.int (v0_1_9 p1)), .val (.int (v0_1_20 p1 p2)), .val (.int (v0_1_31 p1 p2 p3)), .val (.int (v0_1_9 p1)), .val (.int (v0_1_78 p1 p4)), .unset, .unset, .unset, .unset, .unset, .unset, .unset] [(.int (1 : Int32))])) rfl (hb hby at_82) rfl (by decide) (cap := 1) (by decide) (by decide) (by decide) (by decide)
  obtain ⟨b82, g6⟩ : ∃ z, z = h0.size := ⟨_, rfl⟩
  rw [← g6] at A6 st6
  have gg6 : n0 ≤ b82 := Nat.le_trans Z0 (Nat.le_of_eq g6.symm)
  have sz6 : h0.size ≤ b82 := Nat.le_trans K0.1 (Nat.le_of_eq g6.symm)
  have K6 : Keep h0 h6 [] := K0.ext E6
  have Z6 : n0 ≤ h6.size := Nat.le_trans Z0 E6.1
  have V6 : Arv Z h6 b82 k6 .int (1 : Int32) [(.int (0 : Int32))] (.int (0 : Int32)) := (Arv.new A6 (by decide)).pad (pad_rep [] (.int (0 : Int32)) 1)
  have pre7 : ∀ t, Steps p.tables e below (T6.setTop (mkF m 84 #[.val (.int p0), .val (.int p1), .val (.int p2), .val (.int p3), .val (.int p4), .val (.int (1 : Int32)), .val (.int (v0_1_9 p1)), .val (.int (v0_1_20 p1 p2)), .val (.int (v0_1_31 p1 p2 p3)), .val (.int (v0_1_9 p1)), .val (.int (v0_1_78 p1 p4)), .unset, .unset, .unset, .unset, .unset, .unset, .unset] [(.ref b82)])) t → Steps p.tables e below (s₁.setTop (entryFrame m #[(.int p0), (.int p1), (.int p2), (.int p3), (.int p4)] maxLocals)) t := fun t k => pre5 t (st6 _ k)
  have pre8 : ∀ t, Steps p.tables e below (T6.setTop (mkF m 97 #[.val (.int p0), .val (.int p1), .val (.int p2), .val (.int p3), .val (.int p4), .val (.int (1 : Int32)), .val (.int (v0_1_9 p1)), .val (.int (v0_1_20 p1 p2)), .val (.int (v0_1_31 p1 p2 p3)), .val (.int (v0_1_9 p1)), .val (.int (v0_1_78 p1 p4)), .val (.ref b82), .unset, .unset, .unset, .unset, .unset, .unset] [(.int (v0_1_9 p1)), (.int (0 : Int32)), (.ref b82)])) t → Steps p.tables e below (s₁.setTop (entryFrame m #[(.int p0), (.int p1), (.int p2), (.int p3), (.int p4)] maxLocals)) t := fun t k => pre7 t (by
    show Steps p.tables e below (T6.setTop (mkF m 84 #[.val (.int p0), .val (.int p1), .val (.int p2), .val (.int p3), .val (.int p4), .val (.int (1 : Int32)), .val (.int (v0_1_9 p1)), .val (.int (v0_1_20 p1 p2)), .val (.int (v0_1_31 p1 p2 p3)), .val (.int (v0_1_9 p1)), .val (.int (v0_1_78 p1 p4)), .unset, .unset, .unset, .unset, .unset, .unset, .unset] [(.ref b82)])) _
    refine XS.astore X6.here hx rfl (hb hby at_84) rfl rfl (l' := #[.val (.int p0), .val (.int p1), .val (.int p2), .val (.int p3), .val (.int p4), .val (.int (1 : Int32)), .val (.int (v0_1_9 p1)), .val (.int (v0_1_20 p1 p2)), .val (.int (v0_1_31 p1 p2 p3)), .val (.int (v0_1_9 p1)), .val (.int (v0_1_78 p1 p4)), .val (.ref b82), .unset, .unset, .unset, .unset, .unset, .unset]) rfl ?_
    show Steps p.tables e below (T6.setTop (mkF m 86 #[.val (.int p0), .val (.int p1), .val (.int p2), .val (.int p3), .val (.int p4), .val (.int (1 : Int32)), .val (.int (v0_1_9 p1)), .val (.int (v0_1_20 p1 p2)), .val (.int (v0_1_31 p1 p2 p3)), .val (.int (v0_1_9 p1)), .val (.int (v0_1_78 p1 p4)), .val (.ref b82), .unset, .unset, .unset, .unset, .unset, .unset] [])) _
    refine XS.iload X6.here hx rfl (hb hby at_86) rfl ?_
    show Steps p.tables e below (T6.setTop (mkF m 88 #[.val (.int p0), .val (.int p1), .val (.int p2), .val (.int p3), .val (.int p4), .val (.int (1 : Int32)), .val (.int (v0_1_9 p1)), .val (.int (v0_1_20 p1 p2)), .val (.int (v0_1_31 p1 p2 p3)), .val (.int (v0_1_9 p1)), .val (.int (v0_1_78 p1 p4)), .val (.ref b82), .unset, .unset, .unset, .unset, .unset, .unset] [(.int (1 : Int32))])) _
    refine XS.iconst X6.here hx rfl (hb hby at_88) ?_
    show Steps p.tables e below (T6.setTop (mkF m 89 #[.val (.int p0), .val (.int p1), .val (.int p2), .val (.int p3), .val (.int p4), .val (.int (1 : Int32)), .val (.int (v0_1_9 p1)), .val (.int (v0_1_20 p1 p2)), .val (.int (v0_1_31 p1 p2 p3)), .val (.int (v0_1_9 p1)), .val (.int (v0_1_78 p1 p4)), .val (.ref b82), .unset, .unset, .unset, .unset, .unset, .unset] [(.int (1 : Int32)), (.int (1 : Int32))])) _
    refine XS.icmpNo X6.here hx rfl (hb hby at_89) rfl (by decide) ?_
    show Steps p.tables e below (T6.setTop (mkF m 92 #[.val (.int p0), .val (.int p1), .val (.int p2), .val (.int p3), .val (.int p4), .val (.int (1 : Int32)), .val (.int (v0_1_9 p1)), .val (.int (v0_1_20 p1 p2)), .val (.int (v0_1_31 p1 p2 p3)), .val (.int (v0_1_9 p1)), .val (.int (v0_1_78 p1 p4)), .val (.ref b82), .unset, .unset, .unset, .unset, .unset, .unset] [])) _
    refine XS.aload X6.here hx rfl (hb hby at_92) rfl rfl ?_
    show Steps p.tables e below (T6.setTop (mkF m 94 #[.val (.int p0), .val (.int p1), .val (.int p2), .val (.int p3), .val (.int p4), .val (.int (1 : Int32)), .val (.int (v0_1_9 p1)), .val (.int (v0_1_20 p1 p2)), .val (.int (v0_1_31 p1 p2 p3)), .val (.int (v0_1_9 p1)), .val (.int (v0_1_78 p1 p4)), .val (.ref b82), .unset, .unset, .unset, .unset, .unset, .unset] [(.ref b82)])) _
    refine XS.iconst X6.here hx rfl (hb hby at_94) ?_
    show Steps p.tables e below (T6.setTop (mkF m 95 #[.val (.int p0), .val (.int p1), .val (.int p2), .val (.int p3), .val (.int p4), .val (.int (1 : Int32)), .val (.int (v0_1_9 p1)), .val (.int (v0_1_20 p1 p2)), .val (.int (v0_1_31 p1 p2 p3)), .val (.int (v0_1_9 p1)), .val (.int (v0_1_78 p1 p4)), .val (.ref b82), .unset, .unset, .unset, .unset, .unset, .unset] [(.int (0 : Int32)), (.ref b82)])) _
    refine XS.iload X6.here hx rfl (hb hby at_95) rfl ?_
    exact k)
  obtain ⟨cl9, Ar9, q9, Sz9, Mn9, Hs9, Gs9⟩ := id V6
  have hin9 : ¬ ((0 : Int32) < 0 ∨ cl9.slots.size ≤ ((0 : Int32)).toNatClampNeg) := inb_of Sz9 ⟨by decide, by decide⟩
  obtain ⟨T9, h9, X9, e9, W9, st9⟩ := stI X6 hx hZ e6 Ar9 (j := (0 : Int32)) hin9 (g := (mkF m 97 #[.val (.int p0), .val (.int p1), .val (.int p2), .val (.int p3), .val (.int p4), .val (.int (1 : Int32)), .val (.int (v0_1_9 p1)), .val (.int (v0_1_20 p1 p2)), .val (.int (v0_1_31 p1 p2 p3)), .val (.int (v0_1_9 p1)), .val (.int (v0_1_78 p1 p4)), .val (.ref b82), .unset, .unset, .unset, .unset, .unset, .unset] [(.int (v0_1_9 p1)), (.int (0 : Int32)), (.ref b82)])) rfl rfl (hb hby at_97)
  have V9 : Arv Z h9 b82 k6 .int (1 : Int32) [(.int (v0_1_9 p1))] (.int (0 : Int32)) := Arv.set Ar9 q9 Sz9 Mn9 Hs9 Gs9 rfl W9 0 rfl (Nat.le_of_ble_eq_true rfl)
  have N9 := Fr.snoc X9 N0 gg6
  have K9 : Keep h0 h9 [] := K6.wr W9 (Or.inr sz6)
  have Z9 : n0 ≤ h9.size := Nat.le_trans Z6 (Keep.of_wr W9).1
  have pre10 : ∀ t, Steps p.tables e below (T9.setTop (mkF m 98 #[.val (.int p0), .val (.int p1), .val (.int p2), .val (.int p3), .val (.int p4), .val (.int (1 : Int32)), .val (.int (v0_1_9 p1)), .val (.int (v0_1_20 p1 p2)), .val (.int (v0_1_31 p1 p2 p3)), .val (.int (v0_1_9 p1)), .val (.int (v0_1_78 p1 p4)), .val (.ref b82), .unset, .unset, .unset, .unset, .unset, .unset] [])) t → Steps p.tables e below (s₁.setTop (entryFrame m #[(.int p0), (.int p1), (.int p2), (.int p3), (.int p4)] maxLocals)) t := fun t k => pre8 t (st9 _ k)
  have pre11 : ∀ t, Steps p.tables e below (T9.setTop (mkF m 157 #[.val (.int p0), .val (.int p1), .val (.int p2), .val (.int p3), .val (.int p4), .val (.int (1 : Int32)), .val (.int (v0_1_9 p1)), .val (.int (v0_1_20 p1 p2)), .val (.int (v0_1_31 p1 p2 p3)), .val (.int (v0_1_9 p1)), .val (.int (v0_1_78 p1 p4)), .val (.ref b82), .val (.int (v0_1_9 p1)), .val (.int (v0_1_20 p1 p2)), .val (.int (v0_1_31 p1 p2 p3)), .unset, .unset, .unset] [(.int ((v0_1_78 p1 p4) - (1 : Int32))), (.int (v0_1_9 p1))])) t → Steps p.tables e below (s₁.setTop (entryFrame m #[(.int p0), (.int p1), (.int p2), (.int p3), (.int p4)] maxLocals)) t := fun t k => pre10 t (by
    show Steps p.tables e below (T9.setTop (mkF m 98 #[.val (.int p0), .val (.int p1), .val (.int p2), .val (.int p3), .val (.int p4), .val (.int (1 : Int32)), .val (.int (v0_1_9 p1)), .val (.int (v0_1_20 p1 p2)), .val (.int (v0_1_31 p1 p2 p3)), .val (.int (v0_1_9 p1)), .val (.int (v0_1_78 p1 p4)), .val (.ref b82), .unset, .unset, .unset, .unset, .unset, .unset] [])) _
    refine XS.iload X9.here hx rfl (hb hby at_98) rfl ?_
    show Steps p.tables e below (T9.setTop (mkF m 100 #[.val (.int p0), .val (.int p1), .val (.int p2), .val (.int p3), .val (.int p4), .val (.int (1 : Int32)), .val (.int (v0_1_9 p1)), .val (.int (v0_1_20 p1 p2)), .val (.int (v0_1_31 p1 p2 p3)), .val (.int (v0_1_9 p1)), .val (.int (v0_1_78 p1 p4)), .val (.ref b82), .unset, .unset, .unset, .unset, .unset, .unset] [(.int (1 : Int32))])) _
    refine XS.iconst X9.here hx rfl (hb hby at_100) ?_
    show Steps p.tables e below (T9.setTop (mkF m 101 #[.val (.int p0), .val (.int p1), .val (.int p2), .val (.int p3), .val (.int p4), .val (.int (1 : Int32)), .val (.int (v0_1_9 p1)), .val (.int (v0_1_20 p1 p2)), .val (.int (v0_1_31 p1 p2 p3)), .val (.int (v0_1_9 p1)), .val (.int (v0_1_78 p1 p4)), .val (.ref b82), .unset, .unset, .unset, .unset, .unset, .unset] [(.int (2 : Int32)), (.int (1 : Int32))])) _
    refine XS.icmpYes X9.here hx rfl (pc0 := 101) (pc' := 110) rfl (hb hby at_101) rfl (by decide) (by decide) (by decide) ?_
    show Steps p.tables e below (T9.setTop (mkF m 110 #[.val (.int p0), .val (.int p1), .val (.int p2), .val (.int p3), .val (.int p4), .val (.int (1 : Int32)), .val (.int (v0_1_9 p1)), .val (.int (v0_1_20 p1 p2)), .val (.int (v0_1_31 p1 p2 p3)), .val (.int (v0_1_9 p1)), .val (.int (v0_1_78 p1 p4)), .val (.ref b82), .unset, .unset, .unset, .unset, .unset, .unset] [])) _
    refine XS.iload X9.here hx rfl (hb hby at_110) rfl ?_
    show Steps p.tables e below (T9.setTop (mkF m 112 #[.val (.int p0), .val (.int p1), .val (.int p2), .val (.int p3), .val (.int p4), .val (.int (1 : Int32)), .val (.int (v0_1_9 p1)), .val (.int (v0_1_20 p1 p2)), .val (.int (v0_1_31 p1 p2 p3)), .val (.int (v0_1_9 p1)), .val (.int (v0_1_78 p1 p4)), .val (.ref b82), .unset, .unset, .unset, .unset, .unset, .unset] [(.int (1 : Int32))])) _
    refine XS.iconst X9.here hx rfl (hb hby at_112) ?_
    show Steps p.tables e below (T9.setTop (mkF m 113 #[.val (.int p0), .val (.int p1), .val (.int p2), .val (.int p3), .val (.int p4), .val (.int (1 : Int32)), .val (.int (v0_1_9 p1)), .val (.int (v0_1_20 p1 p2)), .val (.int (v0_1_31 p1 p2 p3)), .val (.int (v0_1_9 p1)), .val (.int (v0_1_78 p1 p4)), .val (.ref b82), .unset, .unset, .unset, .unset, .unset, .unset] [(.int (3 : Int32)), (.int (1 : Int32))])) _
    refine XS.icmpYes X9.here hx rfl (pc0 := 113) (pc' := 122) rfl (hb hby at_113) rfl (by decide) (by decide) (by decide) ?_
    show Steps p.tables e below (T9.setTop (mkF m 122 #[.val (.int p0), .val (.int p1), .val (.int p2), .val (.int p3), .val (.int p4), .val (.int (1 : Int32)), .val (.int (v0_1_9 p1)), .val (.int (v0_1_20 p1 p2)), .val (.int (v0_1_31 p1 p2 p3)), .val (.int (v0_1_9 p1)), .val (.int (v0_1_78 p1 p4)), .val (.ref b82), .unset, .unset, .unset, .unset, .unset, .unset] [])) _
    refine XS.iload X9.here hx rfl (hb hby at_122) rfl ?_
    show Steps p.tables e below (T9.setTop (mkF m 124 #[.val (.int p0), .val (.int p1), .val (.int p2), .val (.int p3), .val (.int p4), .val (.int (1 : Int32)), .val (.int (v0_1_9 p1)), .val (.int (v0_1_20 p1 p2)), .val (.int (v0_1_31 p1 p2 p3)), .val (.int (v0_1_9 p1)), .val (.int (v0_1_78 p1 p4)), .val (.ref b82), .unset, .unset, .unset, .unset, .unset, .unset] [(.int (v0_1_9 p1))])) _
    refine XS.istore X9.here hx rfl (hb hby at_124) rfl (l' := #[.val (.int p0), .val (.int p1), .val (.int p2), .val (.int p3), .val (.int p4), .val (.int (1 : Int32)), .val (.int (v0_1_9 p1)), .val (.int (v0_1_20 p1 p2)), .val (.int (v0_1_31 p1 p2 p3)), .val (.int (v0_1_9 p1)), .val (.int (v0_1_78 p1 p4)), .val (.ref b82), .val (.int (v0_1_9 p1)), .unset, .unset, .unset, .unset, .unset]) rfl ?_
    show Steps p.tables e below (T9.setTop (mkF m 126 #[.val (.int p0), .val (.int p1), .val (.int p2), .val (.int p3), .val (.int p4), .val (.int (1 : Int32)), .val (.int (v0_1_9 p1)), .val (.int (v0_1_20 p1 p2)), .val (.int (v0_1_31 p1 p2 p3)), .val (.int (v0_1_9 p1)), .val (.int (v0_1_78 p1 p4)), .val (.ref b82), .val (.int (v0_1_9 p1)), .unset, .unset, .unset, .unset, .unset] [])) _
    refine XS.iload X9.here hx rfl (hb hby at_126) rfl ?_
    show Steps p.tables e below (T9.setTop (mkF m 128 #[.val (.int p0), .val (.int p1), .val (.int p2), .val (.int p3), .val (.int p4), .val (.int (1 : Int32)), .val (.int (v0_1_9 p1)), .val (.int (v0_1_20 p1 p2)), .val (.int (v0_1_31 p1 p2 p3)), .val (.int (v0_1_9 p1)), .val (.int (v0_1_78 p1 p4)), .val (.ref b82), .val (.int (v0_1_9 p1)), .unset, .unset, .unset, .unset, .unset] [(.int (v0_1_20 p1 p2))])) _
    refine XS.istore X9.here hx rfl (hb hby at_128) rfl (l' := #[.val (.int p0), .val (.int p1), .val (.int p2), .val (.int p3), .val (.int p4), .val (.int (1 : Int32)), .val (.int (v0_1_9 p1)), .val (.int (v0_1_20 p1 p2)), .val (.int (v0_1_31 p1 p2 p3)), .val (.int (v0_1_9 p1)), .val (.int (v0_1_78 p1 p4)), .val (.ref b82), .val (.int (v0_1_9 p1)), .val (.int (v0_1_20 p1 p2)), .unset, .unset, .unset, .unset]) rfl ?_
    show Steps p.tables e below (T9.setTop (mkF m 130 #[.val (.int p0), .val (.int p1), .val (.int p2), .val (.int p3), .val (.int p4), .val (.int (1 : Int32)), .val (.int (v0_1_9 p1)), .val (.int (v0_1_20 p1 p2)), .val (.int (v0_1_31 p1 p2 p3)), .val (.int (v0_1_9 p1)), .val (.int (v0_1_78 p1 p4)), .val (.ref b82), .val (.int (v0_1_9 p1)), .val (.int (v0_1_20 p1 p2)), .unset, .unset, .unset, .unset] [])) _
    refine XS.iload X9.here hx rfl (hb hby at_130) rfl ?_
    show Steps p.tables e below (T9.setTop (mkF m 132 #[.val (.int p0), .val (.int p1), .val (.int p2), .val (.int p3), .val (.int p4), .val (.int (1 : Int32)), .val (.int (v0_1_9 p1)), .val (.int (v0_1_20 p1 p2)), .val (.int (v0_1_31 p1 p2 p3)), .val (.int (v0_1_9 p1)), .val (.int (v0_1_78 p1 p4)), .val (.ref b82), .val (.int (v0_1_9 p1)), .val (.int (v0_1_20 p1 p2)), .unset, .unset, .unset, .unset] [(.int (v0_1_31 p1 p2 p3))])) _
    refine XS.istore X9.here hx rfl (hb hby at_132) rfl (l' := #[.val (.int p0), .val (.int p1), .val (.int p2), .val (.int p3), .val (.int p4), .val (.int (1 : Int32)), .val (.int (v0_1_9 p1)), .val (.int (v0_1_20 p1 p2)), .val (.int (v0_1_31 p1 p2 p3)), .val (.int (v0_1_9 p1)), .val (.int (v0_1_78 p1 p4)), .val (.ref b82), .val (.int (v0_1_9 p1)), .val (.int (v0_1_20 p1 p2)), .val (.int (v0_1_31 p1 p2 p3)), .unset, .unset, .unset]) rfl ?_
    show Steps p.tables e below (T9.setTop (mkF m 134 #[.val (.int p0), .val (.int p1), .val (.int p2), .val (.int p3), .val (.int p4), .val (.int (1 : Int32)), .val (.int (v0_1_9 p1)), .val (.int (v0_1_20 p1 p2)), .val (.int (v0_1_31 p1 p2 p3)), .val (.int (v0_1_9 p1)), .val (.int (v0_1_78 p1 p4)), .val (.ref b82), .val (.int (v0_1_9 p1)), .val (.int (v0_1_20 p1 p2)), .val (.int (v0_1_31 p1 p2 p3)), .unset, .unset, .unset] [])) _
    refine XS.iload X9.here hx rfl (hb hby at_134) rfl ?_
    show Steps p.tables e below (T9.setTop (mkF m 136 #[.val (.int p0), .val (.int p1), .val (.int p2), .val (.int p3), .val (.int p4), .val (.int (1 : Int32)), .val (.int (v0_1_9 p1)), .val (.int (v0_1_20 p1 p2)), .val (.int (v0_1_31 p1 p2 p3)), .val (.int (v0_1_9 p1)), .val (.int (v0_1_78 p1 p4)), .val (.ref b82), .val (.int (v0_1_9 p1)), .val (.int (v0_1_20 p1 p2)), .val (.int (v0_1_31 p1 p2 p3)), .unset, .unset, .unset] [(.int (1 : Int32))])) _
    refine XS.ifYes X9.here hx rfl (pc0 := 136) (pc' := 145) rfl (hb hby at_136) rfl (by decide) (by decide) (by decide) ?_
    show Steps p.tables e below (T9.setTop (mkF m 145 #[.val (.int p0), .val (.int p1), .val (.int p2), .val (.int p3), .val (.int p4), .val (.int (1 : Int32)), .val (.int (v0_1_9 p1)), .val (.int (v0_1_20 p1 p2)), .val (.int (v0_1_31 p1 p2 p3)), .val (.int (v0_1_9 p1)), .val (.int (v0_1_78 p1 p4)), .val (.ref b82), .val (.int (v0_1_9 p1)), .val (.int (v0_1_20 p1 p2)), .val (.int (v0_1_31 p1 p2 p3)), .unset, .unset, .unset] [])) _
    refine XS.iload X9.here hx rfl (hb hby at_145) rfl ?_
    show Steps p.tables e below (T9.setTop (mkF m 147 #[.val (.int p0), .val (.int p1), .val (.int p2), .val (.int p3), .val (.int p4), .val (.int (1 : Int32)), .val (.int (v0_1_9 p1)), .val (.int (v0_1_20 p1 p2)), .val (.int (v0_1_31 p1 p2 p3)), .val (.int (v0_1_9 p1)), .val (.int (v0_1_78 p1 p4)), .val (.ref b82), .val (.int (v0_1_9 p1)), .val (.int (v0_1_20 p1 p2)), .val (.int (v0_1_31 p1 p2 p3)), .unset, .unset, .unset] [(.int (1 : Int32))])) _
    refine XS.iconst X9.here hx rfl (hb hby at_147) ?_
    show Steps p.tables e below (T9.setTop (mkF m 148 #[.val (.int p0), .val (.int p1), .val (.int p2), .val (.int p3), .val (.int p4), .val (.int (1 : Int32)), .val (.int (v0_1_9 p1)), .val (.int (v0_1_20 p1 p2)), .val (.int (v0_1_31 p1 p2 p3)), .val (.int (v0_1_9 p1)), .val (.int (v0_1_78 p1 p4)), .val (.ref b82), .val (.int (v0_1_9 p1)), .val (.int (v0_1_20 p1 p2)), .val (.int (v0_1_31 p1 p2 p3)), .unset, .unset, .unset] [(.int (1 : Int32)), (.int (1 : Int32))])) _
    refine XS.icmpNo X9.here hx rfl (hb hby at_148) rfl (by decide) ?_
    show Steps p.tables e below (T9.setTop (mkF m 151 #[.val (.int p0), .val (.int p1), .val (.int p2), .val (.int p3), .val (.int p4), .val (.int (1 : Int32)), .val (.int (v0_1_9 p1)), .val (.int (v0_1_20 p1 p2)), .val (.int (v0_1_31 p1 p2 p3)), .val (.int (v0_1_9 p1)), .val (.int (v0_1_78 p1 p4)), .val (.ref b82), .val (.int (v0_1_9 p1)), .val (.int (v0_1_20 p1 p2)), .val (.int (v0_1_31 p1 p2 p3)), .unset, .unset, .unset] [])) _
    refine XS.iload X9.here hx rfl (hb hby at_151) rfl ?_
    show Steps p.tables e below (T9.setTop (mkF m 153 #[.val (.int p0), .val (.int p1), .val (.int p2), .val (.int p3), .val (.int p4), .val (.int (1 : Int32)), .val (.int (v0_1_9 p1)), .val (.int (v0_1_20 p1 p2)), .val (.int (v0_1_31 p1 p2 p3)), .val (.int (v0_1_9 p1)), .val (.int (v0_1_78 p1 p4)), .val (.ref b82), .val (.int (v0_1_9 p1)), .val (.int (v0_1_20 p1 p2)), .val (.int (v0_1_31 p1 p2 p3)), .unset, .unset, .unset] [(.int (v0_1_9 p1))])) _
    refine XS.iload X9.here hx rfl (hb hby at_153) rfl ?_
    show Steps p.tables e below (T9.setTop (mkF m 155 #[.val (.int p0), .val (.int p1), .val (.int p2), .val (.int p3), .val (.int p4), .val (.int (1 : Int32)), .val (.int (v0_1_9 p1)), .val (.int (v0_1_20 p1 p2)), .val (.int (v0_1_31 p1 p2 p3)), .val (.int (v0_1_9 p1)), .val (.int (v0_1_78 p1 p4)), .val (.ref b82), .val (.int (v0_1_9 p1)), .val (.int (v0_1_20 p1 p2)), .val (.int (v0_1_31 p1 p2 p3)), .unset, .unset, .unset] [(.int (v0_1_78 p1 p4)), (.int (v0_1_9 p1))])) _
    refine XS.iconst X9.here hx rfl (hb hby at_155) ?_
    show Steps p.tables e below (T9.setTop (mkF m 156 #[.val (.int p0), .val (.int p1), .val (.int p2), .val (.int p3), .val (.int p4), .val (.int (1 : Int32)), .val (.int (v0_1_9 p1)), .val (.int (v0_1_20 p1 p2)), .val (.int (v0_1_31 p1 p2 p3)), .val (.int (v0_1_9 p1)), .val (.int (v0_1_78 p1 p4)), .val (.ref b82), .val (.int (v0_1_9 p1)), .val (.int (v0_1_20 p1 p2)), .val (.int (v0_1_31 p1 p2 p3)), .unset, .unset, .unset] [(.int (1 : Int32)), (.int (v0_1_78 p1 p4)), (.int (v0_1_9 p1))])) _
    refine XS.isub X9.here hx rfl (hb hby at_156) rfl ?_
    exact k)
  obtain ⟨T12, L12, X12, e12, N12, pre12⟩ : ∃ (T' : State) (L' : List Loc), Stand p l e room_1 s m #[(.int p0), (.int p1), (.int p2), (.int p3), (.int p4)] below meth c T' L' 1 1 ∧ T'.heap = h9 ∧ Fr n0 L' ∧ ∀ t, Steps p.tables e below (T'.setTop (mkF m 165 #[.val (.int p0), .val (.int p1), .val (.int p2), .val (.int p3), .val (.int p4), .val (.int (1 : Int32)), .val (.int (v0_1_9 p1)), .val (.int (v0_1_20 p1 p2)), .val (.int (v0_1_31 p1 p2 p3)), .val (.int (v0_1_9 p1)), .val (.int (v0_1_78 p1 p4)), .val (.ref b82), .val (.int (v0_1_9 p1)), .val (.int (v0_1_20 p1 p2)), .val (.int (v0_1_31 p1 p2 p3)), .unset, .unset, .unset] [(.int (v0_1_165_s0 p1 p4))])) t → Steps p.tables e below (s₁.setTop (entryFrame m #[(.int p0), (.int p1), (.int p2), (.int p3), (.int p4)] maxLocals)) t := by
    by_cases hc157_1 : (v0_1_9 p1) < ((v0_1_78 p1 p4) - (1 : Int32))
    · have pre13 : ∀ t, Steps p.tables e below (T9.setTop (mkF m 165 #[.val (.int p0), .val (.int p1), .val (.int p2), .val (.int p3), .val (.int p4), .val (.int (1 : Int32)), .val (.int (v0_1_9 p1)), .val (.int (v0_1_20 p1 p2)), .val (.int (v0_1_31 p1 p2 p3)), .val (.int (v0_1_9 p1)), .val (.int (v0_1_78 p1 p4)), .val (.ref b82), .val (.int (v0_1_9 p1)), .val (.int (v0_1_20 p1 p2)), .val (.int (v0_1_31 p1 p2 p3)), .unset, .unset, .unset] [(.int (1 : Int32))])) t → Steps p.tables e below (s₁.setTop (entryFrame m #[(.int p0), (.int p1), (.int p2), (.int p3), (.int p4)] maxLocals)) t := fun t k => pre11 t (by
        show Steps p.tables e below (T9.setTop (mkF m 157 #[.val (.int p0), .val (.int p1), .val (.int p2), .val (.int p3), .val (.int p4), .val (.int (1 : Int32)), .val (.int (v0_1_9 p1)), .val (.int (v0_1_20 p1 p2)), .val (.int (v0_1_31 p1 p2 p3)), .val (.int (v0_1_9 p1)), .val (.int (v0_1_78 p1 p4)), .val (.ref b82), .val (.int (v0_1_9 p1)), .val (.int (v0_1_20 p1 p2)), .val (.int (v0_1_31 p1 p2 p3)), .unset, .unset, .unset] [(.int ((v0_1_78 p1 p4) - (1 : Int32))), (.int (v0_1_9 p1))])) _
        refine XS.icmpNo X9.here hx rfl (hb hby at_157) rfl (tlt hc157_1).2.1 ?_
        show Steps p.tables e below (T9.setTop (mkF m 160 #[.val (.int p0), .val (.int p1), .val (.int p2), .val (.int p3), .val (.int p4), .val (.int (1 : Int32)), .val (.int (v0_1_9 p1)), .val (.int (v0_1_20 p1 p2)), .val (.int (v0_1_31 p1 p2 p3)), .val (.int (v0_1_9 p1)), .val (.int (v0_1_78 p1 p4)), .val (.ref b82), .val (.int (v0_1_9 p1)), .val (.int (v0_1_20 p1 p2)), .val (.int (v0_1_31 p1 p2 p3)), .unset, .unset, .unset] [])) _
        refine XS.iconst X9.here hx rfl (hb hby at_160) ?_
        show Steps p.tables e below (T9.setTop (mkF m 161 #[.val (.int p0), .val (.int p1), .val (.int p2), .val (.int p3), .val (.int p4), .val (.int (1 : Int32)), .val (.int (v0_1_9 p1)), .val (.int (v0_1_20 p1 p2)), .val (.int (v0_1_31 p1 p2 p3)), .val (.int (v0_1_9 p1)), .val (.int (v0_1_78 p1 p4)), .val (.ref b82), .val (.int (v0_1_9 p1)), .val (.int (v0_1_20 p1 p2)), .val (.int (v0_1_31 p1 p2 p3)), .unset, .unset, .unset] [(.int (1 : Int32))])) _
        refine XS.goto X9.here hx rfl (pc0 := 161) (pc' := 165) rfl (hb hby at_161) (by decide) (by decide) ?_
        exact k)
      exact ⟨T9, _, X9, e9, N9, fun t k => pre13 t (by simpa only [v0_1_165_s0, if_pos hc157_1] using k)⟩
    · have pre14 : ∀ t, Steps p.tables e below (T9.setTop (mkF m 165 #[.val (.int p0), .val (.int p1), .val (.int p2), .val (.int p3), .val (.int p4), .val (.int (1 : Int32)), .val (.int (v0_1_9 p1)), .val (.int (v0_1_20 p1 p2)), .val (.int (v0_1_31 p1 p2 p3)), .val (.int (v0_1_9 p1)), .val (.int (v0_1_78 p1 p4)), .val (.ref b82), .val (.int (v0_1_9 p1)), .val (.int (v0_1_20 p1 p2)), .val (.int (v0_1_31 p1 p2 p3)), .unset, .unset, .unset] [(.int (0 : Int32))])) t → Steps p.tables e below (s₁.setTop (entryFrame m #[(.int p0), (.int p1), (.int p2), (.int p3), (.int p4)] maxLocals)) t := fun t k => pre11 t (by
        show Steps p.tables e below (T9.setTop (mkF m 157 #[.val (.int p0), .val (.int p1), .val (.int p2), .val (.int p3), .val (.int p4), .val (.int (1 : Int32)), .val (.int (v0_1_9 p1)), .val (.int (v0_1_20 p1 p2)), .val (.int (v0_1_31 p1 p2 p3)), .val (.int (v0_1_9 p1)), .val (.int (v0_1_78 p1 p4)), .val (.ref b82), .val (.int (v0_1_9 p1)), .val (.int (v0_1_20 p1 p2)), .val (.int (v0_1_31 p1 p2 p3)), .unset, .unset, .unset] [(.int ((v0_1_78 p1 p4) - (1 : Int32))), (.int (v0_1_9 p1))])) _
        refine XS.icmpYes X9.here hx rfl (pc0 := 157) (pc' := 164) rfl (hb hby at_157) rfl (flt hc157_1).2.1 (by decide) (by decide) ?_
        show Steps p.tables e below (T9.setTop (mkF m 164 #[.val (.int p0), .val (.int p1), .val (.int p2), .val (.int p3), .val (.int p4), .val (.int (1 : Int32)), .val (.int (v0_1_9 p1)), .val (.int (v0_1_20 p1 p2)), .val (.int (v0_1_31 p1 p2 p3)), .val (.int (v0_1_9 p1)), .val (.int (v0_1_78 p1 p4)), .val (.ref b82), .val (.int (v0_1_9 p1)), .val (.int (v0_1_20 p1 p2)), .val (.int (v0_1_31 p1 p2 p3)), .unset, .unset, .unset] [])) _
        refine XS.iconst X9.here hx rfl (hb hby at_164) ?_
        exact k)
      exact ⟨T9, _, X9, e9, N9, fun t k => pre14 t (by simpa only [v0_1_165_s0, if_neg hc157_1] using k)⟩
  have pre15 : ∀ t, Steps p.tables e below (T12.setTop (mkF m 324 #[.val (.int p0), .val (.int p1), .val (.int p2), .val (.int p3), .val (.int p4), .val (.int (1 : Int32)), .val (.int (v0_1_9 p1)), .val (.int (v0_1_20 p1 p2)), .val (.int (v0_1_31 p1 p2 p3)), .val (.int (v0_1_9 p1)), .val (.int (v0_1_78 p1 p4)), .val (.ref b82), .val (.int (v0_1_171 p1)), .val (.int (v0_1_20 p1 p2)), .val (.int (v0_1_31 p1 p2 p3)), .val (.int (v0_1_165_s0 p1 p4)), .unset, .unset] [(.int (v0_1_78 p1 p4)), (.ref b82)])) t → Steps p.tables e below (s₁.setTop (entryFrame m #[(.int p0), (.int p1), (.int p2), (.int p3), (.int p4)] maxLocals)) t := fun t k => pre12 t (by
    show Steps p.tables e below (T12.setTop (mkF m 165 #[.val (.int p0), .val (.int p1), .val (.int p2), .val (.int p3), .val (.int p4), .val (.int (1 : Int32)), .val (.int (v0_1_9 p1)), .val (.int (v0_1_20 p1 p2)), .val (.int (v0_1_31 p1 p2 p3)), .val (.int (v0_1_9 p1)), .val (.int (v0_1_78 p1 p4)), .val (.ref b82), .val (.int (v0_1_9 p1)), .val (.int (v0_1_20 p1 p2)), .val (.int (v0_1_31 p1 p2 p3)), .unset, .unset, .unset] [(.int (v0_1_165_s0 p1 p4))])) _
    refine XS.istore X12.here hx rfl (hb hby at_165) rfl (l' := #[.val (.int p0), .val (.int p1), .val (.int p2), .val (.int p3), .val (.int p4), .val (.int (1 : Int32)), .val (.int (v0_1_9 p1)), .val (.int (v0_1_20 p1 p2)), .val (.int (v0_1_31 p1 p2 p3)), .val (.int (v0_1_9 p1)), .val (.int (v0_1_78 p1 p4)), .val (.ref b82), .val (.int (v0_1_9 p1)), .val (.int (v0_1_20 p1 p2)), .val (.int (v0_1_31 p1 p2 p3)), .val (.int (v0_1_165_s0 p1 p4)), .unset, .unset]) rfl ?_
    show Steps p.tables e below (T12.setTop (mkF m 167 #[.val (.int p0), .val (.int p1), .val (.int p2), .val (.int p3), .val (.int p4), .val (.int (1 : Int32)), .val (.int (v0_1_9 p1)), .val (.int (v0_1_20 p1 p2)), .val (.int (v0_1_31 p1 p2 p3)), .val (.int (v0_1_9 p1)), .val (.int (v0_1_78 p1 p4)), .val (.ref b82), .val (.int (v0_1_9 p1)), .val (.int (v0_1_20 p1 p2)), .val (.int (v0_1_31 p1 p2 p3)), .val (.int (v0_1_165_s0 p1 p4)), .unset, .unset] [])) _
    refine XS.iload X12.here hx rfl (hb hby at_167) rfl ?_
    show Steps p.tables e below (T12.setTop (mkF m 169 #[.val (.int p0), .val (.int p1), .val (.int p2), .val (.int p3), .val (.int p4), .val (.int (1 : Int32)), .val (.int (v0_1_9 p1)), .val (.int (v0_1_20 p1 p2)), .val (.int (v0_1_31 p1 p2 p3)), .val (.int (v0_1_9 p1)), .val (.int (v0_1_78 p1 p4)), .val (.ref b82), .val (.int (v0_1_9 p1)), .val (.int (v0_1_20 p1 p2)), .val (.int (v0_1_31 p1 p2 p3)), .val (.int (v0_1_165_s0 p1 p4)), .unset, .unset] [(.int (v0_1_9 p1))])) _
    refine XS.iconst X12.here hx rfl (hb hby at_169) ?_
    show Steps p.tables e below (T12.setTop (mkF m 170 #[.val (.int p0), .val (.int p1), .val (.int p2), .val (.int p3), .val (.int p4), .val (.int (1 : Int32)), .val (.int (v0_1_9 p1)), .val (.int (v0_1_20 p1 p2)), .val (.int (v0_1_31 p1 p2 p3)), .val (.int (v0_1_9 p1)), .val (.int (v0_1_78 p1 p4)), .val (.ref b82), .val (.int (v0_1_9 p1)), .val (.int (v0_1_20 p1 p2)), .val (.int (v0_1_31 p1 p2 p3)), .val (.int (v0_1_165_s0 p1 p4)), .unset, .unset] [(.int (1 : Int32)), (.int (v0_1_9 p1))])) _
    refine XS.iadd X12.here hx rfl (hb hby at_170) rfl ?_
    show Steps p.tables e below (T12.setTop (mkF m 171 #[.val (.int p0), .val (.int p1), .val (.int p2), .val (.int p3), .val (.int p4), .val (.int (1 : Int32)), .val (.int (v0_1_9 p1)), .val (.int (v0_1_20 p1 p2)), .val (.int (v0_1_31 p1 p2 p3)), .val (.int (v0_1_9 p1)), .val (.int (v0_1_78 p1 p4)), .val (.ref b82), .val (.int (v0_1_9 p1)), .val (.int (v0_1_20 p1 p2)), .val (.int (v0_1_31 p1 p2 p3)), .val (.int (v0_1_165_s0 p1 p4)), .unset, .unset] [(.int ((v0_1_9 p1) + (1 : Int32)))])) _
    refine XS.istore X12.here hx rfl (hb hby at_171) rfl (l' := #[.val (.int p0), .val (.int p1), .val (.int p2), .val (.int p3), .val (.int p4), .val (.int (1 : Int32)), .val (.int (v0_1_9 p1)), .val (.int (v0_1_20 p1 p2)), .val (.int (v0_1_31 p1 p2 p3)), .val (.int (v0_1_9 p1)), .val (.int (v0_1_78 p1 p4)), .val (.ref b82), .val (.int (v0_1_171 p1)), .val (.int (v0_1_20 p1 p2)), .val (.int (v0_1_31 p1 p2 p3)), .val (.int (v0_1_165_s0 p1 p4)), .unset, .unset]) rfl ?_
    show Steps p.tables e below (T12.setTop (mkF m 173 #[.val (.int p0), .val (.int p1), .val (.int p2), .val (.int p3), .val (.int p4), .val (.int (1 : Int32)), .val (.int (v0_1_9 p1)), .val (.int (v0_1_20 p1 p2)), .val (.int (v0_1_31 p1 p2 p3)), .val (.int (v0_1_9 p1)), .val (.int (v0_1_78 p1 p4)), .val (.ref b82), .val (.int (v0_1_171 p1)), .val (.int (v0_1_20 p1 p2)), .val (.int (v0_1_31 p1 p2 p3)), .val (.int (v0_1_165_s0 p1 p4)), .unset, .unset] [])) _
    refine XS.goto X12.here hx rfl (pc0 := 173) (pc' := 320) rfl (hb hby at_173) (by decide) (by decide) ?_
    show Steps p.tables e below (T12.setTop (mkF m 320 #[.val (.int p0), .val (.int p1), .val (.int p2), .val (.int p3), .val (.int p4), .val (.int (1 : Int32)), .val (.int (v0_1_9 p1)), .val (.int (v0_1_20 p1 p2)), .val (.int (v0_1_31 p1 p2 p3)), .val (.int (v0_1_9 p1)), .val (.int (v0_1_78 p1 p4)), .val (.ref b82), .val (.int (v0_1_171 p1)), .val (.int (v0_1_20 p1 p2)), .val (.int (v0_1_31 p1 p2 p3)), .val (.int (v0_1_165_s0 p1 p4)), .unset, .unset] [])) _
    refine XS.aload X12.here hx rfl (hb hby at_320) rfl rfl ?_
    show Steps p.tables e below (T12.setTop (mkF m 322 #[.val (.int p0), .val (.int p1), .val (.int p2), .val (.int p3), .val (.int p4), .val (.int (1 : Int32)), .val (.int (v0_1_9 p1)), .val (.int (v0_1_20 p1 p2)), .val (.int (v0_1_31 p1 p2 p3)), .val (.int (v0_1_9 p1)), .val (.int (v0_1_78 p1 p4)), .val (.ref b82), .val (.int (v0_1_171 p1)), .val (.int (v0_1_20 p1 p2)), .val (.int (v0_1_31 p1 p2 p3)), .val (.int (v0_1_165_s0 p1 p4)), .unset, .unset] [(.ref b82)])) _
    refine XS.iload X12.here hx rfl (hb hby at_322) rfl ?_
    exact k)
  obtain ⟨_, _, ⟨T16, L16, k16, n16⟩, -, X16, ⟨Lc16, hQ16, l16, y16, z16⟩, st16⟩ := Jvm.LawKit.callS X12 hx (y := (⟨"com/example/modloc/modloc/localize/Localizer", "advance", "([II)Z"⟩ : MethodName)) hown (mvT hZ (hw _ (List.mem_of_getElem? (i := 1) rfl))) (mvT hZ (hw _ (List.mem_of_getElem? (i := 2) rfl))) (mvT hZ (hw _ (List.mem_of_getElem? (i := 3) rfl))) (mvT hZ (hw _ (List.mem_of_getElem? (i := 4) rfl))) (by decide) (backOf (W := 0) (rm1_1 l Z a0 hw [] b82 (v0_1_78 p1 p4) _ (v0_1_9 p1) h9 n0 Z9 V9 gg6) hZ (hw _ (List.mem_of_getElem? (i := 4) rfl)) (hw _ (List.mem_of_getElem? (i := 3) rfl)) (by decide) (by decide)) (g := (mkF m 324 #[.val (.int p0), .val (.int p1), .val (.int p2), .val (.int p3), .val (.int p4), .val (.int (1 : Int32)), .val (.int (v0_1_9 p1)), .val (.int (v0_1_20 p1 p2)), .val (.int (v0_1_31 p1 p2 p3)), .val (.int (v0_1_9 p1)), .val (.int (v0_1_78 p1 p4)), .val (.ref b82), .val (.int (v0_1_171 p1)), .val (.int (v0_1_20 p1 p2)), .val (.int (v0_1_31 p1 p2 p3)), .val (.int (v0_1_165_s0 p1 p4)), .unset, .unset] [(.int (v0_1_78 p1 p4)), (.ref b82)])) rfl (by rw [hml]; rfl) (argsL := [(.ref b82), (.int (v0_1_78 p1 p4))]) (rest := []) (lenOf pd___II_Z rfl) rfl (by show 2 * 0 + _ ≤ _; exact Nat.le_of_eq rfl) (hb hby at_324) (fun _ _ => ⟨rfl, e12, (by decide : 1 + 0 ≤ _), (by decide : 1 + 0 ≤ _)⟩)
  dsimp only [Pt.U, Pt.locs, Pt.cells, Pt.slots] at X16 l16 y16 z16 st16 hQ16
  subst l16 y16 z16
  obtain ⟨rfl, Nq16, Kq16, o16_0⟩ := hQ16
  have N16 := Fr.app N12 Nq16
  have K16 : Keep h0 T16.heap [] := K9.trans Kq16 (allS (Or.inr sz6) all0)
  have Z16 : n0 ≤ T16.heap.size := Nat.le_trans Z9 Kq16.1
  have pre17 : ∀ t, Steps p.tables e below (T16.setTop (mkF m 327 #[.val (.int p0), .val (.int p1), .val (.int p2), .val (.int p3), .val (.int p4), .val (.int (1 : Int32)), .val (.int (v0_1_9 p1)), .val (.int (v0_1_20 p1 p2)), .val (.int (v0_1_31 p1 p2 p3)), .val (.int (v0_1_9 p1)), .val (.int (v0_1_78 p1 p4)), .val (.ref b82), .val (.int (v0_1_171 p1)), .val (.int (v0_1_20 p1 p2)), .val (.int (v0_1_31 p1 p2 p3)), .val (.int (v0_1_165_s0 p1 p4)), .unset, .unset] [(.int (f1_1 (v0_1_78 p1 p4) (v0_1_9 p1)))])) t → Steps p.tables e below (s₁.setTop (entryFrame m #[(.int p0), (.int p1), (.int p2), (.int p3), (.int p4)] maxLocals)) t := fun t k => pre15 t (st16 _ k)
  have pre18 : ∀ t, Steps p.tables e below (T16.setTop (mkF m 333 #[.val (.int p0), .val (.int p1), .val (.int p2), .val (.int p3), .val (.int p4), .val (.int (1 : Int32)), .val (.int (v0_1_9 p1)), .val (.int (v0_1_20 p1 p2)), .val (.int (v0_1_31 p1 p2 p3)), .val (.int (v0_1_9 p1)), .val (.int (v0_1_78 p1 p4)), .val (.ref b82), .val (.int (v0_1_171 p1)), .val (.int (v0_1_20 p1 p2)), .val (.int (v0_1_31 p1 p2 p3)), .val (.int (v0_1_165_s0 p1 p4)), .val (.int (v0_1_327 p1 p4)), .unset] [(.int (v0_1_165_s0 p1 p4)), (.int (v0_1_327 p1 p4))])) t → Steps p.tables e below (s₁.setTop (entryFrame m #[(.int p0), (.int p1), (.int p2), (.int p3), (.int p4)] maxLocals)) t := fun t k => pre17 t (by
    show Steps p.tables e below (T16.setTop (mkF m 327 #[.val (.int p0), .val (.int p1), .val (.int p2), .val (.int p3), .val (.int p4), .val (.int (1 : Int32)), .val (.int (v0_1_9 p1)), .val (.int (v0_1_20 p1 p2)), .val (.int (v0_1_31 p1 p2 p3)), .val (.int (v0_1_9 p1)), .val (.int (v0_1_78 p1 p4)), .val (.ref b82), .val (.int (v0_1_171 p1)), .val (.int (v0_1_20 p1 p2)), .val (.int (v0_1_31 p1 p2 p3)), .val (.int (v0_1_165_s0 p1 p4)), .unset, .unset] [(.int (f1_1 (v0_1_78 p1 p4) (v0_1_9 p1)))])) _
    refine XS.istore X16.here hx rfl (hb hby at_327) rfl (l' := #[.val (.int p0), .val (.int p1), .val (.int p2), .val (.int p3), .val (.int p4), .val (.int (1 : Int32)), .val (.int (v0_1_9 p1)), .val (.int (v0_1_20 p1 p2)), .val (.int (v0_1_31 p1 p2 p3)), .val (.int (v0_1_9 p1)), .val (.int (v0_1_78 p1 p4)), .val (.ref b82), .val (.int (v0_1_171 p1)), .val (.int (v0_1_20 p1 p2)), .val (.int (v0_1_31 p1 p2 p3)), .val (.int (v0_1_165_s0 p1 p4)), .val (.int (v0_1_327 p1 p4)), .unset]) rfl ?_
    show Steps p.tables e below (T16.setTop (mkF m 329 #[.val (.int p0), .val (.int p1), .val (.int p2), .val (.int p3), .val (.int p4), .val (.int (1 : Int32)), .val (.int (v0_1_9 p1)), .val (.int (v0_1_20 p1 p2)), .val (.int (v0_1_31 p1 p2 p3)), .val (.int (v0_1_9 p1)), .val (.int (v0_1_78 p1 p4)), .val (.ref b82), .val (.int (v0_1_171 p1)), .val (.int (v0_1_20 p1 p2)), .val (.int (v0_1_31 p1 p2 p3)), .val (.int (v0_1_165_s0 p1 p4)), .val (.int (v0_1_327 p1 p4)), .unset] [])) _
    refine XS.iload X16.here hx rfl (hb hby at_329) rfl ?_
    show Steps p.tables e below (T16.setTop (mkF m 331 #[.val (.int p0), .val (.int p1), .val (.int p2), .val (.int p3), .val (.int p4), .val (.int (1 : Int32)), .val (.int (v0_1_9 p1)), .val (.int (v0_1_20 p1 p2)), .val (.int (v0_1_31 p1 p2 p3)), .val (.int (v0_1_9 p1)), .val (.int (v0_1_78 p1 p4)), .val (.ref b82), .val (.int (v0_1_171 p1)), .val (.int (v0_1_20 p1 p2)), .val (.int (v0_1_31 p1 p2 p3)), .val (.int (v0_1_165_s0 p1 p4)), .val (.int (v0_1_327 p1 p4)), .unset] [(.int (v0_1_327 p1 p4))])) _
    refine XS.iload X16.here hx rfl (hb hby at_331) rfl ?_
    exact k)
  by_cases hc333_2 : (v0_1_327 p1 p4) = (v0_1_165_s0 p1 p4)
  · have pre19 : ∀ t, Steps p.tables e below (T16.setTop (mkF m 340 #[.val (.int p0), .val (.int p1), .val (.int p2), .val (.int p3), .val (.int p4), .val (.int (1 : Int32)), .val (.int (v0_1_9 p1)), .val (.int (v0_1_20 p1 p2)), .val (.int (v0_1_31 p1 p2 p3)), .val (.int (v0_1_9 p1)), .val (.int (v0_1_78 p1 p4)), .val (.ref b82), .val (.int (v0_1_171 p1)), .val (.int (v0_1_20 p1 p2)), .val (.int (v0_1_31 p1 p2 p3)), .val (.int (v0_1_165_s0 p1 p4)), .val (.int (v0_1_327 p1 p4)), .unset] [(.int (v0_1_165_s0 p1 p4))])) t → Steps p.tables e below (s₁.setTop (entryFrame m #[(.int p0), (.int p1), (.int p2), (.int p3), (.int p4)] maxLocals)) t := fun t k => pre18 t (by
      show Steps p.tables e below (T16.setTop (mkF m 333 #[.val (.int p0), .val (.int p1), .val (.int p2), .val (.int p3), .val (.int p4), .val (.int (1 : Int32)), .val (.int (v0_1_9 p1)), .val (.int (v0_1_20 p1 p2)), .val (.int (v0_1_31 p1 p2 p3)), .val (.int (v0_1_9 p1)), .val (.int (v0_1_78 p1 p4)), .val (.ref b82), .val (.int (v0_1_171 p1)), .val (.int (v0_1_20 p1 p2)), .val (.int (v0_1_31 p1 p2 p3)), .val (.int (v0_1_165_s0 p1 p4)), .val (.int (v0_1_327 p1 p4)), .unset] [(.int (v0_1_165_s0 p1 p4)), (.int (v0_1_327 p1 p4))])) _
      refine XS.icmpYes X16.here hx rfl (pc0 := 333) (pc' := 338) rfl (hb hby at_333) rfl (teq hc333_2).1 (by decide) (by decide) ?_
      show Steps p.tables e below (T16.setTop (mkF m 338 #[.val (.int p0), .val (.int p1), .val (.int p2), .val (.int p3), .val (.int p4), .val (.int (1 : Int32)), .val (.int (v0_1_9 p1)), .val (.int (v0_1_20 p1 p2)), .val (.int (v0_1_31 p1 p2 p3)), .val (.int (v0_1_9 p1)), .val (.int (v0_1_78 p1 p4)), .val (.ref b82), .val (.int (v0_1_171 p1)), .val (.int (v0_1_20 p1 p2)), .val (.int (v0_1_31 p1 p2 p3)), .val (.int (v0_1_165_s0 p1 p4)), .val (.int (v0_1_327 p1 p4)), .unset] [])) _
      refine XS.iload X16.here hx rfl (hb hby at_338) rfl ?_
      exact k)
    by_cases hc340_3 : (v0_1_165_s0 p1 p4) = (0 : Int32)
    · have pre20 : ∀ t, Steps p.tables e below (T16.setTop (mkF m 344 #[.val (.int p0), .val (.int p1), .val (.int p2), .val (.int p3), .val (.int p4), .val (.int (1 : Int32)), .val (.int (v0_1_9 p1)), .val (.int (v0_1_20 p1 p2)), .val (.int (v0_1_31 p1 p2 p3)), .val (.int (v0_1_9 p1)), .val (.int (v0_1_78 p1 p4)), .val (.ref b82), .val (.int (v0_1_171 p1)), .val (.int (v0_1_20 p1 p2)), .val (.int (v0_1_31 p1 p2 p3)), .val (.int (v0_1_165_s0 p1 p4)), .val (.int (v0_1_327 p1 p4)), .unset] [(.int (1 : Int32))])) t → Steps p.tables e below (s₁.setTop (entryFrame m #[(.int p0), (.int p1), (.int p2), (.int p3), (.int p4)] maxLocals)) t := fun t k => pre19 t (by
        show Steps p.tables e below (T16.setTop (mkF m 340 #[.val (.int p0), .val (.int p1), .val (.int p2), .val (.int p3), .val (.int p4), .val (.int (1 : Int32)), .val (.int (v0_1_9 p1)), .val (.int (v0_1_20 p1 p2)), .val (.int (v0_1_31 p1 p2 p3)), .val (.int (v0_1_9 p1)), .val (.int (v0_1_78 p1 p4)), .val (.ref b82), .val (.int (v0_1_171 p1)), .val (.int (v0_1_20 p1 p2)), .val (.int (v0_1_31 p1 p2 p3)), .val (.int (v0_1_165_s0 p1 p4)), .val (.int (v0_1_327 p1 p4)), .unset] [(.int (v0_1_165_s0 p1 p4))])) _
        refine XS.ifNo X16.here hx rfl (hb hby at_340) rfl ((if0 _ _).trans (teq hc340_3).2) ?_
        show Steps p.tables e below (T16.setTop (mkF m 343 #[.val (.int p0), .val (.int p1), .val (.int p2), .val (.int p3), .val (.int p4), .val (.int (1 : Int32)), .val (.int (v0_1_9 p1)), .val (.int (v0_1_20 p1 p2)), .val (.int (v0_1_31 p1 p2 p3)), .val (.int (v0_1_9 p1)), .val (.int (v0_1_78 p1 p4)), .val (.ref b82), .val (.int (v0_1_171 p1)), .val (.int (v0_1_20 p1 p2)), .val (.int (v0_1_31 p1 p2 p3)), .val (.int (v0_1_165_s0 p1 p4)), .val (.int (v0_1_327 p1 p4)), .unset] [])) _
        refine XS.iconst X16.here hx rfl (hb hby at_343) ?_
        exact k)
      obtain ⟨fs, hr, hrun, hended, hW, hsame⟩ := X16.leave (v := some (.int (1 : Int32))) (fun h => by rw [Bd.returns] at h; cases h)
      refine ⟨_, _, ?_, hrun, hended, _, _, rfl, ?_, ⟨_, rfl⟩, hW, hsame.mono (by decide) (by decide)⟩
      · exact pre20 _ (retN X16 hx (t := .boolean) Bd.returns (by simp) (hb hby at_344) hr)
      · exact ⟨by simp only [f0_1, if_pos hc333_2, if_pos hc340_3], N16, trivial⟩
    · have pre21 : ∀ t, Steps p.tables e below (T16.setTop (mkF m 362 #[.val (.int p0), .val (.int p1), .val (.int p2), .val (.int p3), .val (.int p4), .val (.int (1 : Int32)), .val (.int (v0_1_9 p1)), .val (.int (v0_1_20 p1 p2)), .val (.int (v0_1_31 p1 p2 p3)), .val (.int (v0_1_9 p1)), .val (.int (v0_1_78 p1 p4)), .val (.ref b82), .val (.int (v0_1_171 p1)), .val (.int (v0_1_20 p1 p2)), .val (.int (v0_1_31 p1 p2 p3)), .val (.int (v0_1_165_s0 p1 p4)), .val (.int (v0_1_327 p1 p4)), .val (.int (1 : Int32))] [(.int (0 : Int32)), (.ref b82)])) t → Steps p.tables e below (s₁.setTop (entryFrame m #[(.int p0), (.int p1), (.int p2), (.int p3), (.int p4)] maxLocals)) t := fun t k => pre19 t (by
        show Steps p.tables e below (T16.setTop (mkF m 340 #[.val (.int p0), .val (.int p1), .val (.int p2), .val (.int p3), .val (.int p4), .val (.int (1 : Int32)), .val (.int (v0_1_9 p1)), .val (.int (v0_1_20 p1 p2)), .val (.int (v0_1_31 p1 p2 p3)), .val (.int (v0_1_9 p1)), .val (.int (v0_1_78 p1 p4)), .val (.ref b82), .val (.int (v0_1_171 p1)), .val (.int (v0_1_20 p1 p2)), .val (.int (v0_1_31 p1 p2 p3)), .val (.int (v0_1_165_s0 p1 p4)), .val (.int (v0_1_327 p1 p4)), .unset] [(.int (v0_1_165_s0 p1 p4))])) _
        refine XS.ifYes X16.here hx rfl (pc0 := 340) (pc' := 345) rfl (hb hby at_340) rfl ((if0 _ _).trans (feq hc340_3).2) (by decide) (by decide) ?_
        show Steps p.tables e below (T16.setTop (mkF m 345 #[.val (.int p0), .val (.int p1), .val (.int p2), .val (.int p3), .val (.int p4), .val (.int (1 : Int32)), .val (.int (v0_1_9 p1)), .val (.int (v0_1_20 p1 p2)), .val (.int (v0_1_31 p1 p2 p3)), .val (.int (v0_1_9 p1)), .val (.int (v0_1_78 p1 p4)), .val (.ref b82), .val (.int (v0_1_171 p1)), .val (.int (v0_1_20 p1 p2)), .val (.int (v0_1_31 p1 p2 p3)), .val (.int (v0_1_165_s0 p1 p4)), .val (.int (v0_1_327 p1 p4)), .unset] [])) _
        refine XS.iconst X16.here hx rfl (hb hby at_345) ?_
        show Steps p.tables e below (T16.setTop (mkF m 346 #[.val (.int p0), .val (.int p1), .val (.int p2), .val (.int p3), .val (.int p4), .val (.int (1 : Int32)), .val (.int (v0_1_9 p1)), .val (.int (v0_1_20 p1 p2)), .val (.int (v0_1_31 p1 p2 p3)), .val (.int (v0_1_9 p1)), .val (.int (v0_1_78 p1 p4)), .val (.ref b82), .val (.int (v0_1_171 p1)), .val (.int (v0_1_20 p1 p2)), .val (.int (v0_1_31 p1 p2 p3)), .val (.int (v0_1_165_s0 p1 p4)), .val (.int (v0_1_327 p1 p4)), .unset] [(.int (1 : Int32))])) _
        refine XS.istore X16.here hx rfl (hb hby at_346) rfl (l' := #[.val (.int p0), .val (.int p1), .val (.int p2), .val (.int p3), .val (.int p4), .val (.int (1 : Int32)), .val (.int (v0_1_9 p1)), .val (.int (v0_1_20 p1 p2)), .val (.int (v0_1_31 p1 p2 p3)), .val (.int (v0_1_9 p1)), .val (.int (v0_1_78 p1 p4)), .val (.ref b82), .val (.int (v0_1_171 p1)), .val (.int (v0_1_20 p1 p2)), .val (.int (v0_1_31 p1 p2 p3)), .val (.int (v0_1_165_s0 p1 p4)), .val (.int (v0_1_327 p1 p4)), .val (.int (1 : Int32))]) rfl ?_
        show Steps p.tables e below (T16.setTop (mkF m 348 #[.val (.int p0), .val (.int p1), .val (.int p2), .val (.int p3), .val (.int p4), .val (.int (1 : Int32)), .val (.int (v0_1_9 p1)), .val (.int (v0_1_20 p1 p2)), .val (.int (v0_1_31 p1 p2 p3)), .val (.int (v0_1_9 p1)), .val (.int (v0_1_78 p1 p4)), .val (.ref b82), .val (.int (v0_1_171 p1)), .val (.int (v0_1_20 p1 p2)), .val (.int (v0_1_31 p1 p2 p3)), .val (.int (v0_1_165_s0 p1 p4)), .val (.int (v0_1_327 p1 p4)), .val (.int (1 : Int32))] [])) _
        refine XS.iload X16.here hx rfl (hb hby at_348) rfl ?_
        show Steps p.tables e below (T16.setTop (mkF m 350 #[.val (.int p0), .val (.int p1), .val (.int p2), .val (.int p3), .val (.int p4), .val (.int (1 : Int32)), .val (.int (v0_1_9 p1)), .val (.int (v0_1_20 p1 p2)), .val (.int (v0_1_31 p1 p2 p3)), .val (.int (v0_1_9 p1)), .val (.int (v0_1_78 p1 p4)), .val (.ref b82), .val (.int (v0_1_171 p1)), .val (.int (v0_1_20 p1 p2)), .val (.int (v0_1_31 p1 p2 p3)), .val (.int (v0_1_165_s0 p1 p4)), .val (.int (v0_1_327 p1 p4)), .val (.int (1 : Int32))] [(.int (1 : Int32))])) _
        refine XS.iconst X16.here hx rfl (hb hby at_350) ?_
        show Steps p.tables e below (T16.setTop (mkF m 351 #[.val (.int p0), .val (.int p1), .val (.int p2), .val (.int p3), .val (.int p4), .val (.int (1 : Int32)), .val (.int (v0_1_9 p1)), .val (.int (v0_1_20 p1 p2)), .val (.int (v0_1_31 p1 p2 p3)), .val (.int (v0_1_9 p1)), .val (.int (v0_1_78 p1 p4)), .val (.ref b82), .val (.int (v0_1_171 p1)), .val (.int (v0_1_20 p1 p2)), .val (.int (v0_1_31 p1 p2 p3)), .val (.int (v0_1_165_s0 p1 p4)), .val (.int (v0_1_327 p1 p4)), .val (.int (1 : Int32))] [(.int (1 : Int32)), (.int (1 : Int32))])) _
        refine XS.icmpNo X16.here hx rfl (hb hby at_351) rfl (by decide) ?_
        show Steps p.tables e below (T16.setTop (mkF m 354 #[.val (.int p0), .val (.int p1), .val (.int p2), .val (.int p3), .val (.int p4), .val (.int (1 : Int32)), .val (.int (v0_1_9 p1)), .val (.int (v0_1_20 p1 p2)), .val (.int (v0_1_31 p1 p2 p3)), .val (.int (v0_1_9 p1)), .val (.int (v0_1_78 p1 p4)), .val (.ref b82), .val (.int (v0_1_171 p1)), .val (.int (v0_1_20 p1 p2)), .val (.int (v0_1_31 p1 p2 p3)), .val (.int (v0_1_165_s0 p1 p4)), .val (.int (v0_1_327 p1 p4)), .val (.int (1 : Int32))] [])) _
        refine XS.iload X16.here hx rfl (hb hby at_354) rfl ?_
        show Steps p.tables e below (T16.setTop (mkF m 356 #[.val (.int p0), .val (.int p1), .val (.int p2), .val (.int p3), .val (.int p4), .val (.int (1 : Int32)), .val (.int (v0_1_9 p1)), .val (.int (v0_1_20 p1 p2)), .val (.int (v0_1_31 p1 p2 p3)), .val (.int (v0_1_9 p1)), .val (.int (v0_1_78 p1 p4)), .val (.ref b82), .val (.int (v0_1_171 p1)), .val (.int (v0_1_20 p1 p2)), .val (.int (v0_1_31 p1 p2 p3)), .val (.int (v0_1_165_s0 p1 p4)), .val (.int (v0_1_327 p1 p4)), .val (.int (1 : Int32))] [(.int (1 : Int32))])) _
        refine XS.ifNo X16.here hx rfl (hb hby at_356) rfl (by decide) ?_
        show Steps p.tables e below (T16.setTop (mkF m 359 #[.val (.int p0), .val (.int p1), .val (.int p2), .val (.int p3), .val (.int p4), .val (.int (1 : Int32)), .val (.int (v0_1_9 p1)), .val (.int (v0_1_20 p1 p2)), .val (.int (v0_1_31 p1 p2 p3)), .val (.int (v0_1_9 p1)), .val (.int (v0_1_78 p1 p4)), .val (.ref b82), .val (.int (v0_1_171 p1)), .val (.int (v0_1_20 p1 p2)), .val (.int (v0_1_31 p1 p2 p3)), .val (.int (v0_1_165_s0 p1 p4)), .val (.int (v0_1_327 p1 p4)), .val (.int (1 : Int32))] [])) _
        refine XS.aload X16.here hx rfl (hb hby at_359) rfl rfl ?_
        show Steps p.tables e below (T16.setTop (mkF m 361 #[.val (.int p0), .val (.int p1), .val (.int p2), .val (.int p3), .val (.int p4), .val (.int (1 : Int32)), .val (.int (v0_1_9 p1)), .val (.int (v0_1_20 p1 p2)), .val (.int (v0_1_31 p1 p2 p3)), .val (.int (v0_1_9 p1)), .val (.int (v0_1_78 p1 p4)), .val (.ref b82), .val (.int (v0_1_171 p1)), .val (.int (v0_1_20 p1 p2)), .val (.int (v0_1_31 p1 p2 p3)), .val (.int (v0_1_165_s0 p1 p4)), .val (.int (v0_1_327 p1 p4)), .val (.int (1 : Int32))] [(.ref b82)])) _
        refine XS.iconst X16.here hx rfl (hb hby at_361) ?_
        exact k)
      obtain ⟨cl22, Ar22, -, Sz22, Mn22, Hs22, -⟩ := id o16_0
      have hin22 : ¬ ((0 : Int32) < 0 ∨ cl22.slots.size ≤ ((0 : Int32)).toNatClampNeg) := inb_of Sz22 ⟨by decide, by decide⟩
      have hat22 : cl22.slots[((0 : Int32)).toNatClampNeg]? = some (.int (g1_1_o0_0 (v0_1_78 p1 p4) (v0_1_9 p1))) := Hs22.at hin22 rfl
      have pre23 : ∀ t, Steps p.tables e below (T16.setTop (mkF m 363 #[.val (.int p0), .val (.int p1), .val (.int p2), .val (.int p3), .val (.int p4), .val (.int (1 : Int32)), .val (.int (v0_1_9 p1)), .val (.int (v0_1_20 p1 p2)), .val (.int (v0_1_31 p1 p2 p3)), .val (.int (v0_1_9 p1)), .val (.int (v0_1_78 p1 p4)), .val (.ref b82), .val (.int (v0_1_171 p1)), .val (.int (v0_1_20 p1 p2)), .val (.int (v0_1_31 p1 p2 p3)), .val (.int (v0_1_165_s0 p1 p4)), .val (.int (v0_1_327 p1 p4)), .val (.int (1 : Int32))] [(.int (g1_1_o0_0 (v0_1_78 p1 p4) (v0_1_9 p1)))])) t → Steps p.tables e below (s₁.setTop (entryFrame m #[(.int p0), (.int p1), (.int p2), (.int p3), (.int p4)] maxLocals)) t := fun t k => pre21 t (by
        show Steps p.tables e below (T16.setTop (mkF m 362 #[.val (.int p0), .val (.int p1), .val (.int p2), .val (.int p3), .val (.int p4), .val (.int (1 : Int32)), .val (.int (v0_1_9 p1)), .val (.int (v0_1_20 p1 p2)), .val (.int (v0_1_31 p1 p2 p3)), .val (.int (v0_1_9 p1)), .val (.int (v0_1_78 p1 p4)), .val (.ref b82), .val (.int (v0_1_171 p1)), .val (.int (v0_1_20 p1 p2)), .val (.int (v0_1_31 p1 p2 p3)), .val (.int (v0_1_165_s0 p1 p4)), .val (.int (v0_1_327 p1 p4)), .val (.int (1 : Int32))] [(.int (0 : Int32)), (.ref b82)])) _
        refine X16.iaload hx (j := (0 : Int32)) (v := (.int (g1_1_o0_0 (v0_1_78 p1 p4) (v0_1_9 p1)))) Ar22.1 (State.isArrayOf_alike hZ.alike Ar22.2.1) Ar22.2.2 hin22 hat22 (g := (mkF m 362 #[.val (.int p0), .val (.int p1), .val (.int p2), .val (.int p3), .val (.int p4), .val (.int (1 : Int32)), .val (.int (v0_1_9 p1)), .val (.int (v0_1_20 p1 p2)), .val (.int (v0_1_31 p1 p2 p3)), .val (.int (v0_1_9 p1)), .val (.int (v0_1_78 p1 p4)), .val (.ref b82), .val (.int (v0_1_171 p1)), .val (.int (v0_1_20 p1 p2)), .val (.int (v0_1_31 p1 p2 p3)), .val (.int (v0_1_165_s0 p1 p4)), .val (.int (v0_1_327 p1 p4)), .val (.int (1 : Int32))] [(.int (0 : Int32)), (.ref b82)])) rfl rfl (hb hby at_362) _ ?_
        exact k)
      have pre24 : ∀ t, Steps p.tables e below (T16.setTop (mkF m 365 #[.val (.int p0), .val (.int p1), .val (.int p2), .val (.int p3), .val (.int p4), .val (.int (1 : Int32)), .val (.int (v0_1_9 p1)), .val (.int (v0_1_20 p1 p2)), .val (.int (v0_1_31 p1 p2 p3)), .val (.int (v0_1_9 p1)), .val (.int (v0_1_78 p1 p4)), .val (.ref b82), .val (.int (v0_1_171 p1)), .val (.int (v0_1_20 p1 p2)), .val (.int (v0_1_31 p1 p2 p3)), .val (.int (v0_1_165_s0 p1 p4)), .val (.int (v0_1_327 p1 p4)), .val (.int (1 : Int32))] [(.int (v0_1_171 p1)), (.int (g1_1_o0_0 (v0_1_78 p1 p4) (v0_1_9 p1)))])) t → Steps p.tables e below (s₁.setTop (entryFrame m #[(.int p0), (.int p1), (.int p2), (.int p3), (.int p4)] maxLocals)) t := fun t k => pre23 t (by
        show Steps p.tables e below (T16.setTop (mkF m 363 #[.val (.int p0), .val (.int p1), .val (.int p2), .val (.int p3), .val (.int p4), .val (.int (1 : Int32)), .val (.int (v0_1_9 p1)), .val (.int (v0_1_20 p1 p2)), .val (.int (v0_1_31 p1 p2 p3)), .val (.int (v0_1_9 p1)), .val (.int (v0_1_78 p1 p4)), .val (.ref b82), .val (.int (v0_1_171 p1)), .val (.int (v0_1_20 p1 p2)), .val (.int (v0_1_31 p1 p2 p3)), .val (.int (v0_1_165_s0 p1 p4)), .val (.int (v0_1_327 p1 p4)), .val (.int (1 : Int32))] [(.int (g1_1_o0_0 (v0_1_78 p1 p4) (v0_1_9 p1)))])) _
        refine XS.iload X16.here hx rfl (hb hby at_363) rfl ?_
        exact k)
      obtain ⟨T25, L25, X25, e25, N25, pre25⟩ : ∃ (T' : State) (L' : List Loc), Stand p l e room_1 s m #[(.int p0), (.int p1), (.int p2), (.int p3), (.int p4)] below meth c T' L' 1 1 ∧ T'.heap = T16.heap ∧ Fr n0 L' ∧ ∀ t, Steps p.tables e below (T'.setTop (mkF m 373 #[.val (.int p0), .val (.int p1), .val (.int p2), .val (.int p3), .val (.int p4), .val (.int (1 : Int32)), .val (.int (v0_1_9 p1)), .val (.int (v0_1_20 p1 p2)), .val (.int (v0_1_31 p1 p2 p3)), .val (.int (v0_1_9 p1)), .val (.int (v0_1_78 p1 p4)), .val (.ref b82), .val (.int (v0_1_171 p1)), .val (.int (v0_1_20 p1 p2)), .val (.int (v0_1_31 p1 p2 p3)), .val (.int (v0_1_165_s0 p1 p4)), .val (.int (v0_1_327 p1 p4)), .val (.int (1 : Int32))] [(.int (v0_1_373_s0 p1 p4))])) t → Steps p.tables e below (s₁.setTop (entryFrame m #[(.int p0), (.int p1), (.int p2), (.int p3), (.int p4)] maxLocals)) t := by
        by_cases hc365_4 : (g1_1_o0_0 (v0_1_78 p1 p4) (v0_1_9 p1)) = (v0_1_171 p1)
        · have pre26 : ∀ t, Steps p.tables e below (T16.setTop (mkF m 373 #[.val (.int p0), .val (.int p1), .val (.int p2), .val (.int p3), .val (.int p4), .val (.int (1 : Int32)), .val (.int (v0_1_9 p1)), .val (.int (v0_1_20 p1 p2)), .val (.int (v0_1_31 p1 p2 p3)), .val (.int (v0_1_9 p1)), .val (.int (v0_1_78 p1 p4)), .val (.ref b82), .val (.int (v0_1_171 p1)), .val (.int (v0_1_20 p1 p2)), .val (.int (v0_1_31 p1 p2 p3)), .val (.int (v0_1_165_s0 p1 p4)), .val (.int (v0_1_327 p1 p4)), .val (.int (1 : Int32))] [(.int (1 : Int32))])) t → Steps p.tables e below (s₁.setTop (entryFrame m #[(.int p0), (.int p1), (.int p2), (.int p3), (.int p4)] maxLocals)) t := fun t k => pre24 t (by
            show Steps p.tables e below (T16.setTop (mkF m 365 #[.val (.int p0), .val (.int p1), .val (.int p2), .val (.int p3), .val (.int p4), .val (.int (1 : Int32)), .val (.int (v0_1_9 p1)), .val (.int (v0_1_20 p1 p2)), .val (.int (v0_1_31 p1 p2 p3)), .val (.int (v0_1_9 p1)), .val (.int (v0_1_78 p1 p4)), .val (.ref b82), .val (.int (v0_1_171 p1)), .val (.int (v0_1_20 p1 p2)), .val (.int (v0_1_31 p1 p2 p3)), .val (.int (v0_1_165_s0 p1 p4)), .val (.int (v0_1_327 p1 p4)), .val (.int (1 : Int32))] [(.int (v0_1_171 p1)), (.int (g1_1_o0_0 (v0_1_78 p1 p4) (v0_1_9 p1)))])) _
            refine XS.icmpNo X16.here hx rfl (hb hby at_365) rfl (teq hc365_4).2 ?_
            show Steps p.tables e below (T16.setTop (mkF m 368 #[.val (.int p0), .val (.int p1), .val (.int p2), .val (.int p3), .val (.int p4), .val (.int (1 : Int32)), .val (.int (v0_1_9 p1)), .val (.int (v0_1_20 p1 p2)), .val (.int (v0_1_31 p1 p2 p3)), .val (.int (v0_1_9 p1)), .val (.int (v0_1_78 p1 p4)), .val (.ref b82), .val (.int (v0_1_171 p1)), .val (.int (v0_1_20 p1 p2)), .val (.int (v0_1_31 p1 p2 p3)), .val (.int (v0_1_165_s0 p1 p4)), .val (.int (v0_1_327 p1 p4)), .val (.int (1 : Int32))] [])) _
            refine XS.iconst X16.here hx rfl (hb hby at_368) ?_
            show Steps p.tables e below (T16.setTop (mkF m 369 #[.val (.int p0), .val (.int p1), .val (.int p2), .val (.int p3), .val (.int p4), .val (.int (1 : Int32)), .val (.int (v0_1_9 p1)), .val (.int (v0_1_20 p1 p2)), .val (.int (v0_1_31 p1 p2 p3)), .val (.int (v0_1_9 p1)), .val (.int (v0_1_78 p1 p4)), .val (.ref b82), .val (.int (v0_1_171 p1)), .val (.int (v0_1_20 p1 p2)), .val (.int (v0_1_31 p1 p2 p3)), .val (.int (v0_1_165_s0 p1 p4)), .val (.int (v0_1_327 p1 p4)), .val (.int (1 : Int32))] [(.int (1 : Int32))])) _
            refine XS.goto X16.here hx rfl (pc0 := 369) (pc' := 373) rfl (hb hby at_369) (by decide) (by decide) ?_
            exact k)
          exact ⟨T16, _, X16, rfl, N16, fun t k => pre26 t (by simpa only [v0_1_373_s0, if_pos hc365_4] using k)⟩
        · have pre27 : ∀ t, Steps p.tables e below (T16.setTop (mkF m 373 #[.val (.int p0), .val (.int p1), .val (.int p2), .val (.int p3), .val (.int p4), .val (.int (1 : Int32)), .val (.int (v0_1_9 p1)), .val (.int (v0_1_20 p1 p2)), .val (.int (v0_1_31 p1 p2 p3)), .val (.int (v0_1_9 p1)), .val (.int (v0_1_78 p1 p4)), .val (.ref b82), .val (.int (v0_1_171 p1)), .val (.int (v0_1_20 p1 p2)), .val (.int (v0_1_31 p1 p2 p3)), .val (.int (v0_1_165_s0 p1 p4)), .val (.int (v0_1_327 p1 p4)), .val (.int (1 : Int32))] [(.int (0 : Int32))])) t → Steps p.tables e below (s₁.setTop (entryFrame m #[(.int p0), (.int p1), (.int p2), (.int p3), (.int p4)] maxLocals)) t := fun t k => pre24 t (by
            show Steps p.tables e below (T16.setTop (mkF m 365 #[.val (.int p0), .val (.int p1), .val (.int p2), .val (.int p3), .val (.int p4), .val (.int (1 : Int32)), .val (.int (v0_1_9 p1)), .val (.int (v0_1_20 p1 p2)), .val (.int (v0_1_31 p1 p2 p3)), .val (.int (v0_1_9 p1)), .val (.int (v0_1_78 p1 p4)), .val (.ref b82), .val (.int (v0_1_171 p1)), .val (.int (v0_1_20 p1 p2)), .val (.int (v0_1_31 p1 p2 p3)), .val (.int (v0_1_165_s0 p1 p4)), .val (.int (v0_1_327 p1 p4)), .val (.int (1 : Int32))] [(.int (v0_1_171 p1)), (.int (g1_1_o0_0 (v0_1_78 p1 p4) (v0_1_9 p1)))])) _
            refine XS.icmpYes X16.here hx rfl (pc0 := 365) (pc' := 372) rfl (hb hby at_365) rfl (feq hc365_4).2 (by decide) (by decide) ?_
            show Steps p.tables e below (T16.setTop (mkF m 372 #[.val (.int p0), .val (.int p1), .val (.int p2), .val (.int p3), .val (.int p4), .val (.int (1 : Int32)), .val (.int (v0_1_9 p1)), .val (.int (v0_1_20 p1 p2)), .val (.int (v0_1_31 p1 p2 p3)), .val (.int (v0_1_9 p1)), .val (.int (v0_1_78 p1 p4)), .val (.ref b82), .val (.int (v0_1_171 p1)), .val (.int (v0_1_20 p1 p2)), .val (.int (v0_1_31 p1 p2 p3)), .val (.int (v0_1_165_s0 p1 p4)), .val (.int (v0_1_327 p1 p4)), .val (.int (1 : Int32))] [])) _
            refine XS.iconst X16.here hx rfl (hb hby at_372) ?_
            exact k)
          exact ⟨T16, _, X16, rfl, N16, fun t k => pre27 t (by simpa only [v0_1_373_s0, if_neg hc365_4] using k)⟩
      have pre28 : ∀ t, Steps p.tables e below (T25.setTop (mkF m 431 #[.val (.int p0), .val (.int p1), .val (.int p2), .val (.int p3), .val (.int p4), .val (.int (1 : Int32)), .val (.int (v0_1_9 p1)), .val (.int (v0_1_20 p1 p2)), .val (.int (v0_1_31 p1 p2 p3)), .val (.int (v0_1_9 p1)), .val (.int (v0_1_78 p1 p4)), .val (.ref b82), .val (.int (v0_1_171 p1)), .val (.int (v0_1_20 p1 p2)), .val (.int (v0_1_31 p1 p2 p3)), .val (.int (v0_1_165_s0 p1 p4)), .val (.int (v0_1_327 p1 p4)), .val (.int (v0_1_373_s0 p1 p4))] [(.int (v0_1_373_s0 p1 p4))])) t → Steps p.tables e below (s₁.setTop (entryFrame m #[(.int p0), (.int p1), (.int p2), (.int p3), (.int p4)] maxLocals)) t := fun t k => pre25 t (by
        show Steps p.tables e below (T25.setTop (mkF m 373 #[.val (.int p0), .val (.int p1), .val (.int p2), .val (.int p3), .val (.int p4), .val (.int (1 : Int32)), .val (.int (v0_1_9 p1)), .val (.int (v0_1_20 p1 p2)), .val (.int (v0_1_31 p1 p2 p3)), .val (.int (v0_1_9 p1)), .val (.int (v0_1_78 p1 p4)), .val (.ref b82), .val (.int (v0_1_171 p1)), .val (.int (v0_1_20 p1 p2)), .val (.int (v0_1_31 p1 p2 p3)), .val (.int (v0_1_165_s0 p1 p4)), .val (.int (v0_1_327 p1 p4)), .val (.int (1 : Int32))] [(.int (v0_1_373_s0 p1 p4))])) _
        refine XS.istore X25.here hx rfl (hb hby at_373) rfl (l' := #[.val (.int p0), .val (.int p1), .val (.int p2), .val (.int p3), .val (.int p4), .val (.int (1 : Int32)), .val (.int (v0_1_9 p1)), .val (.int (v0_1_20 p1 p2)), .val (.int (v0_1_31 p1 p2 p3)), .val (.int (v0_1_9 p1)), .val (.int (v0_1_78 p1 p4)), .val (.ref b82), .val (.int (v0_1_171 p1)), .val (.int (v0_1_20 p1 p2)), .val (.int (v0_1_31 p1 p2 p3)), .val (.int (v0_1_165_s0 p1 p4)), .val (.int (v0_1_327 p1 p4)), .val (.int (v0_1_373_s0 p1 p4))]) rfl ?_
        show Steps p.tables e below (T25.setTop (mkF m 375 #[.val (.int p0), .val (.int p1), .val (.int p2), .val (.int p3), .val (.int p4), .val (.int (1 : Int32)), .val (.int (v0_1_9 p1)), .val (.int (v0_1_20 p1 p2)), .val (.int (v0_1_31 p1 p2 p3)), .val (.int (v0_1_9 p1)), .val (.int (v0_1_78 p1 p4)), .val (.ref b82), .val (.int (v0_1_171 p1)), .val (.int (v0_1_20 p1 p2)), .val (.int (v0_1_31 p1 p2 p3)), .val (.int (v0_1_165_s0 p1 p4)), .val (.int (v0_1_327 p1 p4)), .val (.int (v0_1_373_s0 p1 p4))] [])) _
        refine XS.iload X25.here hx rfl (hb hby at_375) rfl ?_
        show Steps p.tables e below (T25.setTop (mkF m 377 #[.val (.int p0), .val (.int p1), .val (.int p2), .val (.int p3), .val (.int p4), .val (.int (1 : Int32)), .val (.int (v0_1_9 p1)), .val (.int (v0_1_20 p1 p2)), .val (.int (v0_1_31 p1 p2 p3)), .val (.int (v0_1_9 p1)), .val (.int (v0_1_78 p1 p4)), .val (.ref b82), .val (.int (v0_1_171 p1)), .val (.int (v0_1_20 p1 p2)), .val (.int (v0_1_31 p1 p2 p3)), .val (.int (v0_1_165_s0 p1 p4)), .val (.int (v0_1_327 p1 p4)), .val (.int (v0_1_373_s0 p1 p4))] [(.int (1 : Int32))])) _
        refine XS.iconst X25.here hx rfl (hb hby at_377) ?_
        show Steps p.tables e below (T25.setTop (mkF m 378 #[.val (.int p0), .val (.int p1), .val (.int p2), .val (.int p3), .val (.int p4), .val (.int (1 : Int32)), .val (.int (v0_1_9 p1)), .val (.int (v0_1_20 p1 p2)), .val (.int (v0_1_31 p1 p2 p3)), .val (.int (v0_1_9 p1)), .val (.int (v0_1_78 p1 p4)), .val (.ref b82), .val (.int (v0_1_171 p1)), .val (.int (v0_1_20 p1 p2)), .val (.int (v0_1_31 p1 p2 p3)), .val (.int (v0_1_165_s0 p1 p4)), .val (.int (v0_1_327 p1 p4)), .val (.int (v0_1_373_s0 p1 p4))] [(.int (2 : Int32)), (.int (1 : Int32))])) _
        refine XS.icmpYes X25.here hx rfl (pc0 := 378) (pc' := 402) rfl (hb hby at_378) rfl (by decide) (by decide) (by decide) ?_
        show Steps p.tables e below (T25.setTop (mkF m 402 #[.val (.int p0), .val (.int p1), .val (.int p2), .val (.int p3), .val (.int p4), .val (.int (1 : Int32)), .val (.int (v0_1_9 p1)), .val (.int (v0_1_20 p1 p2)), .val (.int (v0_1_31 p1 p2 p3)), .val (.int (v0_1_9 p1)), .val (.int (v0_1_78 p1 p4)), .val (.ref b82), .val (.int (v0_1_171 p1)), .val (.int (v0_1_20 p1 p2)), .val (.int (v0_1_31 p1 p2 p3)), .val (.int (v0_1_165_s0 p1 p4)), .val (.int (v0_1_327 p1 p4)), .val (.int (v0_1_373_s0 p1 p4))] [])) _
        refine XS.iload X25.here hx rfl (hb hby at_402) rfl ?_
        show Steps p.tables e below (T25.setTop (mkF m 404 #[.val (.int p0), .val (.int p1), .val (.int p2), .val (.int p3), .val (.int p4), .val (.int (1 : Int32)), .val (.int (v0_1_9 p1)), .val (.int (v0_1_20 p1 p2)), .val (.int (v0_1_31 p1 p2 p3)), .val (.int (v0_1_9 p1)), .val (.int (v0_1_78 p1 p4)), .val (.ref b82), .val (.int (v0_1_171 p1)), .val (.int (v0_1_20 p1 p2)), .val (.int (v0_1_31 p1 p2 p3)), .val (.int (v0_1_165_s0 p1 p4)), .val (.int (v0_1_327 p1 p4)), .val (.int (v0_1_373_s0 p1 p4))] [(.int (1 : Int32))])) _
        refine XS.iconst X25.here hx rfl (hb hby at_404) ?_
        show Steps p.tables e below (T25.setTop (mkF m 405 #[.val (.int p0), .val (.int p1), .val (.int p2), .val (.int p3), .val (.int p4), .val (.int (1 : Int32)), .val (.int (v0_1_9 p1)), .val (.int (v0_1_20 p1 p2)), .val (.int (v0_1_31 p1 p2 p3)), .val (.int (v0_1_9 p1)), .val (.int (v0_1_78 p1 p4)), .val (.ref b82), .val (.int (v0_1_171 p1)), .val (.int (v0_1_20 p1 p2)), .val (.int (v0_1_31 p1 p2 p3)), .val (.int (v0_1_165_s0 p1 p4)), .val (.int (v0_1_327 p1 p4)), .val (.int (v0_1_373_s0 p1 p4))] [(.int (3 : Int32)), (.int (1 : Int32))])) _
        refine XS.icmpYes X25.here hx rfl (pc0 := 405) (pc' := 429) rfl (hb hby at_405) rfl (by decide) (by decide) (by decide) ?_
        show Steps p.tables e below (T25.setTop (mkF m 429 #[.val (.int p0), .val (.int p1), .val (.int p2), .val (.int p3), .val (.int p4), .val (.int (1 : Int32)), .val (.int (v0_1_9 p1)), .val (.int (v0_1_20 p1 p2)), .val (.int (v0_1_31 p1 p2 p3)), .val (.int (v0_1_9 p1)), .val (.int (v0_1_78 p1 p4)), .val (.ref b82), .val (.int (v0_1_171 p1)), .val (.int (v0_1_20 p1 p2)), .val (.int (v0_1_31 p1 p2 p3)), .val (.int (v0_1_165_s0 p1 p4)), .val (.int (v0_1_327 p1 p4)), .val (.int (v0_1_373_s0 p1 p4))] [])) _
        refine XS.iload X25.here hx rfl (hb hby at_429) rfl ?_
        exact k)
      obtain ⟨fs, hr, hrun, hended, hW, hsame⟩ := X25.leave (v := some (.int (nar .boolean (v0_1_373_s0 p1 p4)))) (fun h => by rw [Bd.returns] at h; cases h)
      refine ⟨_, _, ?_, hrun, hended, _, _, rfl, ?_, ⟨_, rfl⟩, hW, hsame.mono (by decide) (by decide)⟩
      · exact pre28 _ (retN X25 hx (t := .boolean) Bd.returns (by simp) (hb hby at_431) hr)
      · exact ⟨by simp only [f0_1, if_pos hc333_2, if_neg hc340_3], N25, trivial⟩
  · have pre29 : ∀ t, Steps p.tables e below (T16.setTop (mkF m 337 #[.val (.int p0), .val (.int p1), .val (.int p2), .val (.int p3), .val (.int p4), .val (.int (1 : Int32)), .val (.int (v0_1_9 p1)), .val (.int (v0_1_20 p1 p2)), .val (.int (v0_1_31 p1 p2 p3)), .val (.int (v0_1_9 p1)), .val (.int (v0_1_78 p1 p4)), .val (.ref b82), .val (.int (v0_1_171 p1)), .val (.int (v0_1_20 p1 p2)), .val (.int (v0_1_31 p1 p2 p3)), .val (.int (v0_1_165_s0 p1 p4)), .val (.int (v0_1_327 p1 p4)), .unset] [(.int (0 : Int32))])) t → Steps p.tables e below (s₁.setTop (entryFrame m #[(.int p0), (.int p1), (.int p2), (.int p3), (.int p4)] maxLocals)) t := fun t k => pre18 t (by
      show Steps p.tables e below (T16.setTop (mkF m 333 #[.val (.int p0), .val (.int p1), .val (.int p2), .val (.int p3), .val (.int p4), .val (.int (1 : Int32)), .val (.int (v0_1_9 p1)), .val (.int (v0_1_20 p1 p2)), .val (.int (v0_1_31 p1 p2 p3)), .val (.int (v0_1_9 p1)), .val (.int (v0_1_78 p1 p4)), .val (.ref b82), .val (.int (v0_1_171 p1)), .val (.int (v0_1_20 p1 p2)), .val (.int (v0_1_31 p1 p2 p3)), .val (.int (v0_1_165_s0 p1 p4)), .val (.int (v0_1_327 p1 p4)), .unset] [(.int (v0_1_165_s0 p1 p4)), (.int (v0_1_327 p1 p4))])) _
      refine XS.icmpNo X16.here hx rfl (hb hby at_333) rfl (feq hc333_2).1 ?_
      show Steps p.tables e below (T16.setTop (mkF m 336 #[.val (.int p0), .val (.int p1), .val (.int p2), .val (.int p3), .val (.int p4), .val (.int (1 : Int32)), .val (.int (v0_1_9 p1)), .val (.int (v0_1_20 p1 p2)), .val (.int (v0_1_31 p1 p2 p3)), .val (.int (v0_1_9 p1)), .val (.int (v0_1_78 p1 p4)), .val (.ref b82), .val (.int (v0_1_171 p1)), .val (.int (v0_1_20 p1 p2)), .val (.int (v0_1_31 p1 p2 p3)), .val (.int (v0_1_165_s0 p1 p4)), .val (.int (v0_1_327 p1 p4)), .unset] [])) _
      refine XS.iconst X16.here hx rfl (hb hby at_336) ?_
      exact k)
    obtain ⟨fs, hr, hrun, hended, hW, hsame⟩ := X16.leave (v := some (.int (0 : Int32))) (fun h => by rw [Bd.returns] at h; cases h)
    refine ⟨_, _, ?_, hrun, hended, _, _, rfl, ?_, ⟨_, rfl⟩, hW, hsame.mono (by decide) (by decide)⟩
    · exact pre29 _ (retN X16 hx (t := .boolean) Bd.returns (by simp) (hb hby at_337) hr)
    · exact ⟨by simp only [f0_1, if_neg hc333_2], N16, trivial⟩
def v0_2_9 (p1 : Int32) : Int32 := (p1 &&& (7 : Int32))
def v0_2_20 (p1 : Int32) (p2 : Int32) : Int32 := (((v0_2_9 p1) + (1 : Int32)) + (p2 &&& (7 : Int32)))
def v0_2_31 (p1 : Int32) (p2 : Int32) (p3 : Int32) : Int32 := (((v0_2_20 p1 p2) + (1 : Int32)) + (p3 &&& (7 : Int32)))
def v0_2_78 (p1 : Int32) (p2 : Int32) (p4 : Int32) : Int32 := (((v0_2_20 p1 p2) + (1 : Int32)) + (p4 &&& (7 : Int32)))
def v0_2_219 (p1 : Int32) : Int32 := ((v0_2_9 p1) + (1 : Int32))
def v0_2_225 (p1 : Int32) : Int32 := ((v0_2_9 p1) + (2 : Int32))
def v0_2_198 (p1 : Int32) (p2 : Int32) : Int32 := ((v0_2_20 p1 p2) + (1 : Int32))
def v0_2_320_l12 (p1 : Int32) (p2 : Int32) (p4 : Int32) : Int32 := (if (v0_2_20 p1 p2) < ((v0_2_78 p1 p2 p4) - (1 : Int32)) then (v0_2_9 p1) else (if (v0_2_9 p1) < ((v0_2_78 p1 p2 p4) - (2 : Int32)) then (v0_2_219 p1) else (v0_2_9 p1)))
def v0_2_320_l13 (p1 : Int32) (p2 : Int32) (p4 : Int32) : Int32 := (if (v0_2_20 p1 p2) < ((v0_2_78 p1 p2 p4) - (1 : Int32)) then (v0_2_198 p1 p2) else (if (v0_2_9 p1) < ((v0_2_78 p1 p2 p4) - (2 : Int32)) then (v0_2_225 p1) else (v0_2_20 p1 p2)))
def v0_2_320_l15 (p1 : Int32) (p2 : Int32) (p4 : Int32) : Int32 := (if (v0_2_20 p1 p2) < ((v0_2_78 p1 p2 p4) - (1 : Int32)) then (1 : Int32) else (if (v0_2_9 p1) < ((v0_2_78 p1 p2 p4) - (2 : Int32)) then (1 : Int32) else (0 : Int32)))
def v0_2_327 (p1 : Int32) (p2 : Int32) (p4 : Int32) : Int32 := (f1_2 (v0_2_78 p1 p2 p4) (v0_2_9 p1) (v0_2_20 p1 p2))
def v0_2_373_s0 (p1 : Int32) (p2 : Int32) (p4 : Int32) : Int32 := (if (g1_2_o0_0 (v0_2_78 p1 p2 p4) (v0_2_9 p1) (v0_2_20 p1 p2)) = (v0_2_320_l12 p1 p2 p4) then (1 : Int32) else (0 : Int32))
def v0_2_400_s0 (p1 : Int32) (p2 : Int32) (p4 : Int32) : Int32 := (if (v0_2_373_s0 p1 p2 p4) = (0 : Int32) then (0 : Int32) else (if (g1_2_o0_1 (v0_2_78 p1 p2 p4) (v0_2_9 p1) (v0_2_20 p1 p2)) = (v0_2_320_l13 p1 p2 p4) then (1 : Int32) else (0 : Int32)))
def f0_2 (p1 : Int32) (p2 : Int32) (p4 : Int32) : Int32 := (if (v0_2_327 p1 p2 p4) = (v0_2_320_l15 p1 p2 p4) then (if (v0_2_320_l15 p1 p2 p4) = (0 : Int32) then (1 : Int32) else (nar .boolean (v0_2_400_s0 p1 p2 p4))) else (0 : Int32))
set_option maxRecDepth 65536 in
set_option maxHeartbeats 40000000 in
theorem rm0_2 (l : Launch) (Z : State) (a0 : Array Value) (hw : ∀ d ∈ tables_1, d.before a0 Z = true) (ws : List Jvm.Cond) (p0 : Int32) (p1 : Int32) (p2 : Int32) (p3 : Int32) (p4 : Int32) (h0 : Heap) (n0 : Nat) (Z0 : n0 ≤ h0.size) (hk : (p0 &&& (3 : Int32)) = (2 : Int32)) :
    MetFree l x (head1 (Jvm.Cond.code x code maxLocals ret :: ws) room_1) (fun a U => a = #[(.int p0), (.int p1), (.int p2), (.int p3), (.int p4)] ∧ Z.Warmed39 U.vm ∧ U.heap = h0) (fun _ _ _ _ _ => True) (fun _ U o U' => ∃ v L, o = .returned v ∧ QL (some (.int (f0_2 p1 p2 p4))) n0 v U'.heap L ∧ FrameEnd U o U' L room_1.cells room_1.slots) := by
  refine MetFree.of_bodySF (plainFor_of_name pn_0) hisR ?_
  intro p e s m args below meth c s₁ Bd hml0 hP hK
  obtain ⟨rfl, hZ, hh⟩ := hP
  have hx := Bd.exec
  have hby := Bd.bytes
  have hml : c.maxLocals = 18 := hml0
  have hown : s.vm.findClass "com/example/modloc/modloc/localize/LocalizerAdvancePinLaw" = some m.cls := findClass_of_methodNamed Bd.named
  have hnm := (name_of_methodNamed Bd.named Bd.method).1
  have X0 : Stand p l e room_1 s m #[(.int p0), (.int p1), (.int p2), (.int p3), (.int p4)] below meth c s₁ [] 0 0 := Stand.of_body Bd
  have e0 : s₁.heap = h0 := by rw [← hh, Bd.state]; rfl
  have N0 := Fr.nil n0
  have K0 : Keep h0 h0 [] := Keep.refl _ _
  have pre0 : ∀ t, Steps p.tables e below (s₁.setTop (mkF m 0 #[.val (.int p0), .val (.int p1), .val (.int p2), .val (.int p3), .val (.int p4), .unset, .unset, .unset, .unset, .unset, .unset, .unset, .unset, .unset, .unset, .unset, .unset, .unset] [])) t → Steps p.tables e below (s₁.setTop (entryFrame m #[(.int p0), (.int p1), (.int p2), (.int p3), (.int p4)] maxLocals)) t := fun t k => castTop (ef_0 m p0 p1 p2 p3 p4) k
  have pre8 : ∀ t, Steps p.tables e below (s₁.setTop (mkF m 82 #[.val (.int p0), .val (.int p1), .val (.int p2), .val (.int p3), .val (.int p4), .val (.int (2 : Int32)), .val (.int (v0_2_9 p1)), .val (.int (v0_2_20 p1 p2)), .val (.int (v0_2_31 p1 p2 p3)), .val (.int (v0_2_20 p1 p2)), .val (.int (v0_2_78 p1 p2 p4)), .unset, .unset, .unset, .unset, .unset, .unset, .unset] [(.int (2 : Int32))])) t → Steps p.tables e below (s₁.setTop (entryFrame m #[(.int p0), (.int p1), (.int p2), (.int p3), (.int p4)] maxLocals)) t := fun t k => pre0 t (by
    show Steps p.tables e below (s₁.setTop (mkF m 0 #[.val (.int p0), .val (.int p1), .val (.int p2), .val (.int p3), .val (.int p4), .unset, .unset, .unset, .unset, .unset, .unset, .unset, .unset, .unset, .unset, .unset, .unset, .unset] [])) _
    refine XS.iloadN X0.here hx rfl (hb hby at_0) rfl ?_
    show Steps p.tables e below (s₁.setTop (mkF m 1 #[.val (.int p0), .val (.int p1), .val (.int p2), .val (.int p3), .val (.int p4), .unset, .unset, .unset, .unset, .unset, .unset, .unset, .unset, .unset, .unset, .unset, .unset, .unset] [(.int p0)])) _
    refine XS.iconst X0.here hx rfl (hb hby at_1) ?_
    show Steps p.tables e below (s₁.setTop (mkF m 2 #[.val (.int p0), .val (.int p1), .val (.int p2), .val (.int p3), .val (.int p4), .unset, .unset, .unset, .unset, .unset, .unset, .unset, .unset, .unset, .unset, .unset, .unset, .unset] [(.int (3 : Int32)), (.int p0)])) _
    refine XS.iand X0.here hx rfl (hb hby at_2) rfl ?_
    show Steps p.tables e below (s₁.setTop (mkF m 3 #[.val (.int p0), .val (.int p1), .val (.int p2), .val (.int p3), .val (.int p4), .unset, .unset, .unset, .unset, .unset, .unset, .unset, .unset, .unset, .unset, .unset, .unset, .unset] [(.int (p0 &&& (3 : Int32)))])) _
    rw [hk]
    show Steps p.tables e below (s₁.setTop (mkF m 3 #[.val (.int p0), .val (.int p1), .val (.int p2), .val (.int p3), .val (.int p4), .unset, .unset, .unset, .unset, .unset, .unset, .unset, .unset, .unset, .unset, .unset, .unset, .unset] [(.int (2 : Int32))])) _
    refine XS.istore X0.here hx rfl (hb hby at_3) rfl (l' := #[.val (.int p0), .val (.int p1), .val (.int p2), .val (.int p3), .val (.int p4), .val (.int (2 : Int32)), .unset, .unset, .unset, .unset, .unset, .unset, .unset, .unset, .unset, .unset, .unset, .unset]) rfl ?_
    show Steps p.tables e below (s₁.setTop (mkF m 5 #[.val (.int p0), .val (.int p1), .val (.int p2), .val (.int p3), .val (.int p4), .val (.int (2 : Int32)), .unset, .unset, .unset, .unset, .unset, .unset, .unset, .unset, .unset, .unset, .unset, .unset] [])) _
    refine XS.iloadN X0.here hx rfl (hb hby at_5) rfl ?_
    show Steps p.tables e below (s₁.setTop (mkF m 6 #[.val (.int p0), .val (.int p1), .val (.int p2), .val (.int p3), .val (.int p4), .val (.int (2 : Int32)), .unset, .unset, .unset, .unset, .unset, .unset, .unset, .unset, .unset, .unset, .unset, .unset] [(.int p1)])) _
    refine XS.bipush X0.here hx rfl (hb hby at_6) ?_
    show Steps p.tables e below (s₁.setTop (mkF m 8 #[.val (.int p0), .val (.int p1), .val (.int p2), .val (.int p3), .val (.int p4), .val (.int (2 : Int32)), .unset, .unset, .unset, .unset, .unset, .unset, .unset, .unset, .unset, .unset, .unset, .unset] [(.int (7 : Int32)), (.int p1)])) _
    refine XS.iand X0.here hx rfl (hb hby at_8) rfl ?_
    show Steps p.tables e below (s₁.setTop (mkF m 9 #[.val (.int p0), .val (.int p1), .val (.int p2), .val (.int p3), .val (.int p4), .val (.int (2 : Int32)), .unset, .unset, .unset, .unset, .unset, .unset, .unset, .unset, .unset, .unset, .unset, .unset] [(.int (p1 &&& (7 : Int32)))])) _
    refine XS.istore X0.here hx rfl (hb hby at_9) rfl (l' := #[.val (.int p0), .val (.int p1), .val (.int p2), .val (.int p3), .val (.int p4), .val (.int (2 : Int32)), .val (.int (v0_2_9 p1)), .unset, .unset, .unset, .unset, .unset, .unset, .unset, .unset, .unset, .unset, .unset]) rfl ?_
    show Steps p.tables e below (s₁.setTop (mkF m 11 #[.val (.int p0), .val (.int p1), .val (.int p2), .val (.int p3), .val (.int p4), .val (.int (2 : Int32)), .val (.int (v0_2_9 p1)), .unset, .unset, .unset, .unset, .unset, .unset, .unset, .unset, .unset, .unset, .unset] [])) _
    refine XS.iload X0.here hx rfl (hb hby at_11) rfl ?_
    show Steps p.tables e below (s₁.setTop (mkF m 13 #[.val (.int p0), .val (.int p1), .val (.int p2), .val (.int p3), .val (.int p4), .val (.int (2 : Int32)), .val (.int (v0_2_9 p1)), .unset, .unset, .unset, .unset, .unset, .unset, .unset, .unset, .unset, .unset, .unset] [(.int (v0_2_9 p1))])) _
    refine XS.iconst X0.here hx rfl (hb hby at_13) ?_
    show Steps p.tables e below (s₁.setTop (mkF m 14 #[.val (.int p0), .val (.int p1), .val (.int p2), .val (.int p3), .val (.int p4), .val (.int (2 : Int32)), .val (.int (v0_2_9 p1)), .unset, .unset, .unset, .unset, .unset, .unset, .unset, .unset, .unset, .unset, .unset] [(.int (1 : Int32)), (.int (v0_2_9 p1))])) _
    refine XS.iadd X0.here hx rfl (hb hby at_14) rfl ?_
    show Steps p.tables e below (s₁.setTop (mkF m 15 #[.val (.int p0), .val (.int p1), .val (.int p2), .val (.int p3), .val (.int p4), .val (.int (2 : Int32)), .val (.int (v0_2_9 p1)), .unset, .unset, .unset, .unset, .unset, .unset, .unset, .unset, .unset, .unset, .unset] [(.int ((v0_2_9 p1) + (1 : Int32)))])) _
    refine XS.iloadN X0.here hx rfl (hb hby at_15) rfl ?_
    show Steps p.tables e below (s₁.setTop (mkF m 16 #[.val (.int p0), .val (.int p1), .val (.int p2), .val (.int p3), .val (.int p4), .val (.int (2 : Int32)), .val (.int (v0_2_9 p1)), .unset, .unset, .unset, .unset, .unset, .unset, .unset, .unset, .unset, .unset, .unset] [(.int p2), (.int ((v0_2_9 p1) + (1 : Int32)))])) _
    refine XS.bipush X0.here hx rfl (hb hby at_16) ?_
    show Steps p.tables e below (s₁.setTop (mkF m 18 #[.val (.int p0), .val (.int p1), .val (.int p2), .val (.int p3), .val (.int p4), .val (.int (2 : Int32)), .val (.int (v0_2_9 p1)), .unset, .unset, .unset, .unset, .unset, .unset, .unset, .unset, .unset, .unset, .unset] [(.int (7 : Int32)), (.int p2), (.int ((v0_2_9 p1) + (1 : Int32)))])) _
    refine XS.iand X0.here hx rfl (hb hby at_18) rfl ?_
    show Steps p.tables e below (s₁.setTop (mkF m 19 #[.val (.int p0), .val (.int p1), .val (.int p2), .val (.int p3), .val (.int p4), .val (.int (2 : Int32)), .val (.int (v0_2_9 p1)), .unset, .unset, .unset, .unset, .unset, .unset, .unset, .unset, .unset, .unset, .unset] [(.int (p2 &&& (7 : Int32))), (.int ((v0_2_9 p1) + (1 : Int32)))])) _
    refine XS.iadd X0.here hx rfl (hb hby at_19) rfl ?_
    show Steps p.tables e below (s₁.setTop (mkF m 20 #[.val (.int p0), .val (.int p1), .val (.int p2), .val (.int p3), .val (.int p4), .val (.int (2 : Int32)), .val (.int (v0_2_9 p1)), .unset, .unset, .unset, .unset, .unset, .unset, .unset, .unset, .unset, .unset, .unset] [(.int (((v0_2_9 p1) + (1 : Int32)) + (p2 &&& (7 : Int32))))])) _
    refine XS.istore X0.here hx rfl (hb hby at_20) rfl (l' := #[.val (.int p0), .val (.int p1), .val (.int p2), .val (.int p3), .val (.int p4), .val (.int (2 : Int32)), .val (.int (v0_2_9 p1)), .val (.int (v0_2_20 p1 p2)), .unset, .unset, .unset, .unset, .unset, .unset, .unset, .unset, .unset, .unset]) rfl ?_
    show Steps p.tables e below (s₁.setTop (mkF m 22 #[.val (.int p0), .val (.int p1), .val (.int p2), .val (.int p3), .val (.int p4), .val (.int (2 : Int32)), .val (.int (v0_2_9 p1)), .val (.int (v0_2_20 p1 p2)), .unset, .unset, .unset, .unset, .unset, .unset, .unset, .unset, .unset, .unset] [])) _
    refine XS.iload X0.here hx rfl (hb hby at_22) rfl ?_
    show Steps p.tables e below (s₁.setTop (mkF m 24 #[.val (.int p0), .val (.int p1), .val (.int p2), .val (.int p3), .val (.int p4), .val (.int (2 : Int32)), .val (.int (v0_2_9 p1)), .val (.int (v0_2_20 p1 p2)), .unset, .unset, .unset, .unset, .unset, .unset, .unset, .unset, .unset, .unset] [(.int (v0_2_20 p1 p2))])) _
    refine XS.iconst X0.here hx rfl (hb hby at_24) ?_
    show Steps p.tables e below (s₁.setTop (mkF m 25 #[.val (.int p0), .val (.int p1), .val (.int p2), .val (.int p3), .val (.int p4), .val (.int (2 : Int32)), .val (.int (v0_2_9 p1)), .val (.int (v0_2_20 p1 p2)), .unset, .unset, .unset, .unset, .unset, .unset, .unset, .unset, .unset, .unset] [(.int (1 : Int32)), (.int (v0_2_20 p1 p2))])) _
    refine XS.iadd X0.here hx rfl (hb hby at_25) rfl ?_
    show Steps p.tables e below (s₁.setTop (mkF m 26 #[.val (.int p0), .val (.int p1), .val (.int p2), .val (.int p3), .val (.int p4), .val (.int (2 : Int32)), .val (.int (v0_2_9 p1)), .val (.int (v0_2_20 p1 p2)), .unset, .unset, .unset, .unset, .unset, .unset, .unset, .unset, .unset, .unset] [(.int ((v0_2_20 p1 p2) + (1 : Int32)))])) _
    refine XS.iloadN X0.here hx rfl (hb hby at_26) rfl ?_
    show Steps p.tables e below (s₁.setTop (mkF m 27 #[.val (.int p0), .val (.int p1), .val (.int p2), .val (.int p3), .val (.int p4), .val (.int (2 : Int32)), .val (.int (v0_2_9 p1)), .val (.int (v0_2_20 p1 p2)), .unset, .unset, .unset, .unset, .unset, .unset, .unset, .unset, .unset, .unset] [(.int p3), (.int ((v0_2_20 p1 p2) + (1 : Int32)))])) _
    refine XS.bipush X0.here hx rfl (hb hby at_27) ?_
    show Steps p.tables e below (s₁.setTop (mkF m 29 #[.val (.int p0), .val (.int p1), .val (.int p2), .val (.int p3), .val (.int p4), .val (.int (2 : Int32)), .val (.int (v0_2_9 p1)), .val (.int (v0_2_20 p1 p2)), .unset, .unset, .unset, .unset, .unset, .unset, .unset, .unset, .unset, .unset] [(.int (7 : Int32)), (.int p3), (.int ((v0_2_20 p1 p2) + (1 : Int32)))])) _
    refine XS.iand X0.here hx rfl (hb hby at_29) rfl ?_
    show Steps p.tables e below (s₁.setTop (mkF m 30 #[.val (.int p0), .val (.int p1), .val (.int p2), .val (.int p3), .val (.int p4), .val (.int (2 : Int32)), .val (.int (v0_2_9 p1)), .val (.int (v0_2_20 p1 p2)), .unset, .unset, .unset, .unset, .unset, .unset, .unset, .unset, .unset, .unset] [(.int (p3 &&& (7 : Int32))), (.int ((v0_2_20 p1 p2) + (1 : Int32)))])) _
    refine XS.iadd X0.here hx rfl (hb hby at_30) rfl ?_
    show Steps p.tables e below (s₁.setTop (mkF m 31 #[.val (.int p0), .val (.int p1), .val (.int p2), .val (.int p3), .val (.int p4), .val (.int (2 : Int32)), .val (.int (v0_2_9 p1)), .val (.int (v0_2_20 p1 p2)), .unset, .unset, .unset, .unset, .unset, .unset, .unset, .unset, .unset, .unset] [(.int (((v0_2_20 p1 p2) + (1 : Int32)) + (p3 &&& (7 : Int32))))])) _
    refine XS.istore X0.here hx rfl (hb hby at_31) rfl (l' := #[.val (.int p0), .val (.int p1), .val (.int p2), .val (.int p3), .val (.int p4), .val (.int (2 : Int32)), .val (.int (v0_2_9 p1)), .val (.int (v0_2_20 p1 p2)), .val (.int (v0_2_31 p1 p2 p3)), .unset, .unset, .unset, .unset, .unset, .unset, .unset, .unset, .unset]) rfl ?_
    show Steps p.tables e below (s₁.setTop (mkF m 33 #[.val (.int p0), .val (.int p1), .val (.int p2), .val (.int p3), .val (.int p4), .val (.int (2 : Int32)), .val (.int (v0_2_9 p1)), .val (.int (v0_2_20 p1 p2)), .val (.int (v0_2_31 p1 p2 p3)), .unset, .unset, .unset, .unset, .unset, .unset, .unset, .unset, .unset] [])) _
    refine XS.iload X0.here hx rfl (hb hby at_33) rfl ?_
    show Steps p.tables e below (s₁.setTop (mkF m 35 #[.val (.int p0), .val (.int p1), .val (.int p2), .val (.int p3), .val (.int p4), .val (.int (2 : Int32)), .val (.int (v0_2_9 p1)), .val (.int (v0_2_20 p1 p2)), .val (.int (v0_2_31 p1 p2 p3)), .unset, .unset, .unset, .unset, .unset, .unset, .unset, .unset, .unset] [(.int (2 : Int32))])) _
    refine XS.ifYes X0.here hx rfl (pc0 := 35) (pc' := 42) rfl (hb hby at_35) rfl (by decide) (by decide) (by decide) ?_
    show Steps p.tables e below (s₁.setTop (mkF m 42 #[.val (.int p0), .val (.int p1), .val (.int p2), .val (.int p3), .val (.int p4), .val (.int (2 : Int32)), .val (.int (v0_2_9 p1)), .val (.int (v0_2_20 p1 p2)), .val (.int (v0_2_31 p1 p2 p3)), .unset, .unset, .unset, .unset, .unset, .unset, .unset, .unset, .unset] [])) _
    refine XS.iload X0.here hx rfl (hb hby at_42) rfl ?_
    show Steps p.tables e below (s₁.setTop (mkF m 44 #[.val (.int p0), .val (.int p1), .val (.int p2), .val (.int p3), .val (.int p4), .val (.int (2 : Int32)), .val (.int (v0_2_9 p1)), .val (.int (v0_2_20 p1 p2)), .val (.int (v0_2_31 p1 p2 p3)), .unset, .unset, .unset, .unset, .unset, .unset, .unset, .unset, .unset] [(.int (2 : Int32))])) _
    refine XS.iconst X0.here hx rfl (hb hby at_44) ?_
    show Steps p.tables e below (s₁.setTop (mkF m 45 #[.val (.int p0), .val (.int p1), .val (.int p2), .val (.int p3), .val (.int p4), .val (.int (2 : Int32)), .val (.int (v0_2_9 p1)), .val (.int (v0_2_20 p1 p2)), .val (.int (v0_2_31 p1 p2 p3)), .unset, .unset, .unset, .unset, .unset, .unset, .unset, .unset, .unset] [(.int (1 : Int32)), (.int (2 : Int32))])) _
    refine XS.icmpYes X0.here hx rfl (pc0 := 45) (pc' := 53) rfl (hb hby at_45) rfl (by decide) (by decide) (by decide) ?_
    show Steps p.tables e below (s₁.setTop (mkF m 53 #[.val (.int p0), .val (.int p1), .val (.int p2), .val (.int p3), .val (.int p4), .val (.int (2 : Int32)), .val (.int (v0_2_9 p1)), .val (.int (v0_2_20 p1 p2)), .val (.int (v0_2_31 p1 p2 p3)), .unset, .unset, .unset, .unset, .unset, .unset, .unset, .unset, .unset] [])) _
    refine XS.iload X0.here hx rfl (hb hby at_53) rfl ?_
    show Steps p.tables e below (s₁.setTop (mkF m 55 #[.val (.int p0), .val (.int p1), .val (.int p2), .val (.int p3), .val (.int p4), .val (.int (2 : Int32)), .val (.int (v0_2_9 p1)), .val (.int (v0_2_20 p1 p2)), .val (.int (v0_2_31 p1 p2 p3)), .unset, .unset, .unset, .unset, .unset, .unset, .unset, .unset, .unset] [(.int (2 : Int32))])) _
    refine XS.iconst X0.here hx rfl (hb hby at_55) ?_
    show Steps p.tables e below (s₁.setTop (mkF m 56 #[.val (.int p0), .val (.int p1), .val (.int p2), .val (.int p3), .val (.int p4), .val (.int (2 : Int32)), .val (.int (v0_2_9 p1)), .val (.int (v0_2_20 p1 p2)), .val (.int (v0_2_31 p1 p2 p3)), .unset, .unset, .unset, .unset, .unset, .unset, .unset, .unset, .unset] [(.int (2 : Int32)), (.int (2 : Int32))])) _
    refine XS.icmpNo X0.here hx rfl (hb hby at_56) rfl (by decide) ?_
    show Steps p.tables e below (s₁.setTop (mkF m 59 #[.val (.int p0), .val (.int p1), .val (.int p2), .val (.int p3), .val (.int p4), .val (.int (2 : Int32)), .val (.int (v0_2_9 p1)), .val (.int (v0_2_20 p1 p2)), .val (.int (v0_2_31 p1 p2 p3)), .unset, .unset, .unset, .unset, .unset, .unset, .unset, .unset, .unset] [])) _
    refine XS.iload X0.here hx rfl (hb hby at_59) rfl ?_
    show Steps p.tables e below (s₁.setTop (mkF m 61 #[.val (.int p0), .val (.int p1), .val (.int p2), .val (.int p3), .val (.int p4), .val (.int (2 : Int32)), .val (.int (v0_2_9 p1)), .val (.int (v0_2_20 p1 p2)), .val (.int (v0_2_31 p1 p2 p3)), .unset, .unset, .unset, .unset, .unset, .unset, .unset, .unset, .unset] [(.int (v0_2_20 p1 p2))])) _
    refine XS.goto X0.here hx rfl (pc0 := 61) (pc' := 66) rfl (hb hby at_61) (by decide) (by decide) ?_
    show Steps p.tables e below (s₁.setTop (mkF m 66 #[.val (.int p0), .val (.int p1), .val (.int p2), .val (.int p3), .val (.int p4), .val (.int (2 : Int32)), .val (.int (v0_2_9 p1)), .val (.int (v0_2_20 p1 p2)), .val (.int (v0_2_31 p1 p2 p3)), .unset, .unset, .unset, .unset, .unset, .unset, .unset, .unset, .unset] [(.int (v0_2_20 p1 p2))])) _
    refine XS.istore X0.here hx rfl (hb hby at_66) rfl (l' := #[.val (.int p0), .val (.int p1), .val (.int p2), .val (.int p3), .val (.int p4), .val (.int (2 : Int32)), .val (.int (v0_2_9 p1)), .val (.int (v0_2_20 p1 p2)), .val (.int (v0_2_31 p1 p2 p3)), .val (.int (v0_2_20 p1 p2)), .unset, .unset, .unset, .unset, .unset, .unset, .unset, .unset]) rfl ?_
    show Steps p.tables e below (s₁.setTop (mkF m 68 #[.val (.int p0), .val (.int p1), .val (.int p2), .val (.int p3), .val (.int p4), .val (.int (2 : Int32)), .val (.int (v0_2_9 p1)), .val (.int (v0_2_20 p1 p2)), .val (.int (v0_2_31 p1 p2 p3)), .val (.int (v0_2_20 p1 p2)), .unset, .unset, .unset, .unset, .unset, .unset, .unset, .unset] [])) _
    refine XS.iload X0.here hx rfl (hb hby at_68) rfl ?_
    show Steps p.tables e below (s₁.setTop (mkF m 70 #[.val (.int p0), .val (.int p1), .val (.int p2), .val (.int p3), .val (.int p4), .val (.int (2 : Int32)), .val (.int (v0_2_9 p1)), .val (.int (v0_2_20 p1 p2)), .val (.int (v0_2_31 p1 p2 p3)), .val (.int (v0_2_20 p1 p2)), .unset, .unset, .unset, .unset, .unset, .unset, .unset, .unset] [(.int (v0_2_20 p1 p2))])) _
    refine XS.iconst X0.here hx rfl (hb hby at_70) ?_
    show Steps p.tables e below (s₁.setTop (mkF m 71 #[.val (.int p0), .val (.int p1), .val (.int p2), .val (.int p3), .val (.int p4), .val (.int (2 : Int32)), .val (.int (v0_2_9 p1)), .val (.int (v0_2_20 p1 p2)), .val (.int (v0_2_31 p1 p2 p3)), .val (.int (v0_2_20 p1 p2)), .unset, .unset, .unset, .unset, .unset, .unset, .unset, .unset] [(.int (1 : Int32)), (.int (v0_2_20 p1 p2))])) _
    refine XS.iadd X0.here hx rfl (hb hby at_71) rfl ?_
    show Steps p.tables e below (s₁.setTop (mkF m 72 #[.val (.int p0), .val (.int p1), .val (.int p2), .val (.int p3), .val (.int p4), .val (.int (2 : Int32)), .val (.int (v0_2_9 p1)), .val (.int (v0_2_20 p1 p2)), .val (.int (v0_2_31 p1 p2 p3)), .val (.int (v0_2_20 p1 p2)), .unset, .unset, .unset, .unset, .unset, .unset, .unset, .unset] [(.int ((v0_2_20 p1 p2) + (1 : Int32)))])) _
    refine XS.iload X0.here hx rfl (hb hby at_72) rfl ?_
    show Steps p.tables e below (s₁.setTop (mkF m 74 #[.val (.int p0), .val (.int p1), .val (.int p2), .val (.int p3), .val (.int p4), .val (.int (2 : Int32)), .val (.int (v0_2_9 p1)), .val (.int (v0_2_20 p1 p2)), .val (.int (v0_2_31 p1 p2 p3)), .val (.int (v0_2_20 p1 p2)), .unset, .unset, .unset, .unset, .unset, .unset, .unset, .unset] [(.int p4), (.int ((v0_2_20 p1 p2) + (1 : Int32)))])) _
    refine XS.bipush X0.here hx rfl (hb hby at_74) ?_
    show Steps p.tables e below (s₁.setTop (mkF m 76 #[.val (.int p0), .val (.int p1), .val (.int p2), .val (.int p3), .val (.int p4), .val (.int (2 : Int32)), .val (.int (v0_2_9 p1)), .val (.int (v0_2_20 p1 p2)), .val (.int (v0_2_31 p1 p2 p3)), .val (.int (v0_2_20 p1 p2)), .unset, .unset, .unset, .unset, .unset, .unset, .unset, .unset] [(.int (7 : Int32)), (.int p4), (.int ((v0_2_20 p1 p2) + (1 : Int32)))])) _
    refine XS.iand X0.here hx rfl (hb hby at_76) rfl ?_
    show Steps p.tables e below (s₁.setTop (mkF m 77 #[.val (.int p0), .val (.int p1), .val (.int p2), .val (.int p3), .val (.int p4), .val (.int (2 : Int32)), .val (.int (v0_2_9 p1)), .val (.int (v0_2_20 p1 p2)), .val (.int (v0_2_31 p1 p2 p3)), .val (.int (v0_2_20 p1 p2)), .unset, .unset, .unset, .unset, .unset, .unset, .unset, .unset] [(.int (p4 &&& (7 : Int32))), (.int ((v0_2_20 p1 p2) + (1 : Int32)))])) _
    refine XS.iadd X0.here hx rfl (hb hby at_77) rfl ?_
    show Steps p.tables e below (s₁.setTop (mkF m 78 #[.val (.int p0), .val (.int p1), .val (.int p2), .val (.int p3), .val (.int p4), .val (.int (2 : Int32)), .val (.int (v0_2_9 p1)), .val (.int (v0_2_20 p1 p2)), .val (.int (v0_2_31 p1 p2 p3)), .val (.int (v0_2_20 p1 p2)), .unset, .unset, .unset, .unset, .unset, .unset, .unset, .unset] [(.int (((v0_2_20 p1 p2) + (1 : Int32)) + (p4 &&& (7 : Int32))))])) _
    refine XS.istore X0.here hx rfl (hb hby at_78) rfl (l' := #[.val (.int p0), .val (.int p1), .val (.int p2), .val (.int p3), .val (.int p4), .val (.int (2 : Int32)), .val (.int (v0_2_9 p1)), .val (.int (v0_2_20 p1 p2)), .val (.int (v0_2_31 p1 p2 p3)), .val (.int (v0_2_20 p1 p2)), .val (.int (v0_2_78 p1 p2 p4)), .unset, .unset, .unset, .unset, .unset, .unset, .unset]) rfl ?_
    show Steps p.tables e below (s₁.setTop (mkF m 80 #[.val (.int p0), .val (.int p1), .val (.int p2), .val (.int p3), .val (.int p4), .val (.int (2 : Int32)), .val (.int (v0_2_9 p1)), .val (.int (v0_2_20 p1 p2)), .val (.int (v0_2_31 p1 p2 p3)), .val (.int (v0_2_20 p1 p2)), .val (.int (v0_2_78 p1 p2 p4)), .unset, .unset, .unset, .unset, .unset, .unset, .unset] [])) _
    refine XS.iload X0.here hx rfl (hb hby at_80) rfl ?_
    exact k)
  obtain ⟨T9, h9, k9, X9, e9, E9, A9, st9⟩ := newP X0 hx hZ (hw _ (List.mem_of_getElem? (i := 0) rfl)) e0 (g := (mkF m 82 #[.val (.int p0), .val (.int p1), .val (.int p2), .val (.int p3), .val (.int p4), .val (.int (2 : Int32)), .val (.int (v0_2_9 p1)), .val (.int (v0_2_20 p1 p2)), .val (.int (v0_2_31 p1 p2 p3)), .val (.int (v0_2_20 p1 p2)), .val (.int (v0_2_78 p1 p2 p4)), .unset, .unset, .unset, .unset, .unset, .unset, .unset] [(.int (2 : Int32))])) rfl (hb hby at_82) rfl (by decide) (cap := 2) (by decide) (by decide) (by decide) (by decide)
  obtain ⟨b82, g9⟩ : ∃ z, z = h0.size := ⟨_, rfl⟩
  rw [← g9] at A9 st9
  have gg9 : n0 ≤ b82 := Nat.le_trans Z0 (Nat.le_of_eq g9.symm)
  have sz9 : h0.size ≤ b82 := Nat.le_trans K0.1 (Nat.le_of_eq g9.symm)
  have K9 : Keep h0 h9 [] := K0.ext E9
  have Z9 : n0 ≤ h9.size := Nat.le_trans Z0 E9.1
  have V9 : Arv Z h9 b82 k9 .int (2 : Int32) [(.int (0 : Int32)), (.int (0 : Int32))] (.int (0 : Int32)) := (Arv.new A9 (by decide)).pad (pad_rep [] (.int (0 : Int32)) 2)
  have pre10 : ∀ t, Steps p.tables e below (T9.setTop (mkF m 84 #[.val (.int p0), .val (.int p1), .val (.int p2), .val (.int p3), .val (.int p4), .val (.int (2 : Int32)), .val (.int (v0_2_9 p1)), .val (.int (v0_2_20 p1 p2)), .val (.int (v0_2_31 p1 p2 p3)), .val (.int (v0_2_20 p1 p2)), .val (.int (v0_2_78 p1 p2 p4)), .unset, .unset, .unset, .unset, .unset, .unset, .unset] [(.ref b82)])) t → Steps p.tables e below (s₁.setTop (entryFrame m #[(.int p0), (.int p1), (.int p2), (.int p3), (.int p4)] maxLocals)) t := fun t k => pre8 t (st9 _ k)
  have pre11 : ∀ t, Steps p.tables e below (T9.setTop (mkF m 97 #[.val (.int p0), .val (.int p1), .val (.int p2), .val (.int p3), .val (.int p4), .val (.int (2 : Int32)), .val (.int (v0_2_9 p1)), .val (.int (v0_2_20 p1 p2)), .val (.int (v0_2_31 p1 p2 p3)), .val (.int (v0_2_20 p1 p2)), .val (.int (v0_2_78 p1 p2 p4)), .val (.ref b82), .unset, .unset, .unset, .unset, .unset, .unset] [(.int (v0_2_9 p1)), (.int (0 : Int32)), (.ref b82)])) t → Steps p.tables e below (s₁.setTop (entryFrame m #[(.int p0), (.int p1), (.int p2), (.int p3), (.int p4)] maxLocals)) t := fun t k => pre10 t (by
    show Steps p.tables e below (T9.setTop (mkF m 84 #[.val (.int p0), .val (.int p1), .val (.int p2), .val (.int p3), .val (.int p4), .val (.int (2 : Int32)), .val (.int (v0_2_9 p1)), .val (.int (v0_2_20 p1 p2)), .val (.int (v0_2_31 p1 p2 p3)), .val (.int (v0_2_20 p1 p2)), .val (.int (v0_2_78 p1 p2 p4)), .unset, .unset, .unset, .unset, .unset, .unset, .unset] [(.ref b82)])) _
    refine XS.astore X9.here hx rfl (hb hby at_84) rfl rfl (l' := #[.val (.int p0), .val (.int p1), .val (.int p2), .val (.int p3), .val (.int p4), .val (.int (2 : Int32)), .val (.int (v0_2_9 p1)), .val (.int (v0_2_20 p1 p2)), .val (.int (v0_2_31 p1 p2 p3)), .val (.int (v0_2_20 p1 p2)), .val (.int (v0_2_78 p1 p2 p4)), .val (.ref b82), .unset, .unset, .unset, .unset, .unset, .unset]) rfl ?_
    show Steps p.tables e below (T9.setTop (mkF m 86 #[.val (.int p0), .val (.int p1), .val (.int p2), .val (.int p3), .val (.int p4), .val (.int (2 : Int32)), .val (.int (v0_2_9 p1)), .val (.int (v0_2_20 p1 p2)), .val (.int (v0_2_31 p1 p2 p3)), .val (.int (v0_2_20 p1 p2)), .val (.int (v0_2_78 p1 p2 p4)), .val (.ref b82), .unset, .unset, .unset, .unset, .unset, .unset] [])) _
    refine XS.iload X9.here hx rfl (hb hby at_86) rfl ?_
    show Steps p.tables e below (T9.setTop (mkF m 88 #[.val (.int p0), .val (.int p1), .val (.int p2), .val (.int p3), .val (.int p4), .val (.int (2 : Int32)), .val (.int (v0_2_9 p1)), .val (.int (v0_2_20 p1 p2)), .val (.int (v0_2_31 p1 p2 p3)), .val (.int (v0_2_20 p1 p2)), .val (.int (v0_2_78 p1 p2 p4)), .val (.ref b82), .unset, .unset, .unset, .unset, .unset, .unset] [(.int (2 : Int32))])) _
    refine XS.iconst X9.here hx rfl (hb hby at_88) ?_
    show Steps p.tables e below (T9.setTop (mkF m 89 #[.val (.int p0), .val (.int p1), .val (.int p2), .val (.int p3), .val (.int p4), .val (.int (2 : Int32)), .val (.int (v0_2_9 p1)), .val (.int (v0_2_20 p1 p2)), .val (.int (v0_2_31 p1 p2 p3)), .val (.int (v0_2_20 p1 p2)), .val (.int (v0_2_78 p1 p2 p4)), .val (.ref b82), .unset, .unset, .unset, .unset, .unset, .unset] [(.int (1 : Int32)), (.int (2 : Int32))])) _
    refine XS.icmpNo X9.here hx rfl (hb hby at_89) rfl (by decide) ?_
    show Steps p.tables e below (T9.setTop (mkF m 92 #[.val (.int p0), .val (.int p1), .val (.int p2), .val (.int p3), .val (.int p4), .val (.int (2 : Int32)), .val (.int (v0_2_9 p1)), .val (.int (v0_2_20 p1 p2)), .val (.int (v0_2_31 p1 p2 p3)), .val (.int (v0_2_20 p1 p2)), .val (.int (v0_2_78 p1 p2 p4)), .val (.ref b82), .unset, .unset, .unset, .unset, .unset, .unset] [])) _
    refine XS.aload X9.here hx rfl (hb hby at_92) rfl rfl ?_
    show Steps p.tables e below (T9.setTop (mkF m 94 #[.val (.int p0), .val (.int p1), .val (.int p2), .val (.int p3), .val (.int p4), .val (.int (2 : Int32)), .val (.int (v0_2_9 p1)), .val (.int (v0_2_20 p1 p2)), .val (.int (v0_2_31 p1 p2 p3)), .val (.int (v0_2_20 p1 p2)), .val (.int (v0_2_78 p1 p2 p4)), .val (.ref b82), .unset, .unset, .unset, .unset, .unset, .unset] [(.ref b82)])) _
    refine XS.iconst X9.here hx rfl (hb hby at_94) ?_
    show Steps p.tables e below (T9.setTop (mkF m 95 #[.val (.int p0), .val (.int p1), .val (.int p2), .val (.int p3), .val (.int p4), .val (.int (2 : Int32)), .val (.int (v0_2_9 p1)), .val (.int (v0_2_20 p1 p2)), .val (.int (v0_2_31 p1 p2 p3)), .val (.int (v0_2_20 p1 p2)), .val (.int (v0_2_78 p1 p2 p4)), .val (.ref b82), .unset, .unset, .unset, .unset, .unset, .unset] [(.int (0 : Int32)), (.ref b82)])) _
    refine XS.iload X9.here hx rfl (hb hby at_95) rfl ?_
    exact k)
  obtain ⟨cl12, Ar12, q12, Sz12, Mn12, Hs12, Gs12⟩ := id V9
  have hin12 : ¬ ((0 : Int32) < 0 ∨ cl12.slots.size ≤ ((0 : Int32)).toNatClampNeg) := inb_of Sz12 ⟨by decide, by decide⟩
  obtain ⟨T12, h12, X12, e12, W12, st12⟩ := stI X9 hx hZ e9 Ar12 (j := (0 : Int32)) hin12 (g := (mkF m 97 #[.val (.int p0), .val (.int p1), .val (.int p2), .val (.int p3), .val (.int p4), .val (.int (2 : Int32)), .val (.int (v0_2_9 p1)), .val (.int (v0_2_20 p1 p2)), .val (.int (v0_2_31 p1 p2 p3)), .val (.int (v0_2_20 p1 p2)), .val (.int (v0_2_78 p1 p2 p4)), .val (.ref b82), .unset, .unset, .unset, .unset, .unset, .unset] [(.int (v0_2_9 p1)), (.int (0 : Int32)), (.ref b82)])) rfl rfl (hb hby at_97)
  have V12 : Arv Z h12 b82 k9 .int (2 : Int32) [(.int (v0_2_9 p1)), (.int (0 : Int32))] (.int (0 : Int32)) := Arv.set Ar12 q12 Sz12 Mn12 Hs12 Gs12 rfl W12 0 rfl (Nat.le_of_ble_eq_true rfl)
  have N12 := Fr.snoc X12 N0 gg9
  have K12 : Keep h0 h12 [] := K9.wr W12 (Or.inr sz9)
  have Z12 : n0 ≤ h12.size := Nat.le_trans Z9 (Keep.of_wr W12).1
  have pre13 : ∀ t, Steps p.tables e below (T12.setTop (mkF m 98 #[.val (.int p0), .val (.int p1), .val (.int p2), .val (.int p3), .val (.int p4), .val (.int (2 : Int32)), .val (.int (v0_2_9 p1)), .val (.int (v0_2_20 p1 p2)), .val (.int (v0_2_31 p1 p2 p3)), .val (.int (v0_2_20 p1 p2)), .val (.int (v0_2_78 p1 p2 p4)), .val (.ref b82), .unset, .unset, .unset, .unset, .unset, .unset] [])) t → Steps p.tables e below (s₁.setTop (entryFrame m #[(.int p0), (.int p1), (.int p2), (.int p3), (.int p4)] maxLocals)) t := fun t k => pre11 t (st12 _ k)
  have pre14 : ∀ t, Steps p.tables e below (T12.setTop (mkF m 109 #[.val (.int p0), .val (.int p1), .val (.int p2), .val (.int p3), .val (.int p4), .val (.int (2 : Int32)), .val (.int (v0_2_9 p1)), .val (.int (v0_2_20 p1 p2)), .val (.int (v0_2_31 p1 p2 p3)), .val (.int (v0_2_20 p1 p2)), .val (.int (v0_2_78 p1 p2 p4)), .val (.ref b82), .unset, .unset, .unset, .unset, .unset, .unset] [(.int (v0_2_20 p1 p2)), (.int (1 : Int32)), (.ref b82)])) t → Steps p.tables e below (s₁.setTop (entryFrame m #[(.int p0), (.int p1), (.int p2), (.int p3), (.int p4)] maxLocals)) t := fun t k => pre13 t (by
    show Steps p.tables e below (T12.setTop (mkF m 98 #[.val (.int p0), .val (.int p1), .val (.int p2), .val (.int p3), .val (.int p4), .val (.int (2 : Int32)), .val (.int (v0_2_9 p1)), .val (.int (v0_2_20 p1 p2)), .val (.int (v0_2_31 p1 p2 p3)), .val (.int (v0_2_20 p1 p2)), .val (.int (v0_2_78 p1 p2 p4)), .val (.ref b82), .unset, .unset, .unset, .unset, .unset, .unset] [])) _
    refine XS.iload X12.here hx rfl (hb hby at_98) rfl ?_
    show Steps p.tables e below (T12.setTop (mkF m 100 #[.val (.int p0), .val (.int p1), .val (.int p2), .val (.int p3), .val (.int p4), .val (.int (2 : Int32)), .val (.int (v0_2_9 p1)), .val (.int (v0_2_20 p1 p2)), .val (.int (v0_2_31 p1 p2 p3)), .val (.int (v0_2_20 p1 p2)), .val (.int (v0_2_78 p1 p2 p4)), .val (.ref b82), .unset, .unset, .unset, .unset, .unset, .unset] [(.int (2 : Int32))])) _
    refine XS.iconst X12.here hx rfl (hb hby at_100) ?_
    show Steps p.tables e below (T12.setTop (mkF m 101 #[.val (.int p0), .val (.int p1), .val (.int p2), .val (.int p3), .val (.int p4), .val (.int (2 : Int32)), .val (.int (v0_2_9 p1)), .val (.int (v0_2_20 p1 p2)), .val (.int (v0_2_31 p1 p2 p3)), .val (.int (v0_2_20 p1 p2)), .val (.int (v0_2_78 p1 p2 p4)), .val (.ref b82), .unset, .unset, .unset, .unset, .unset, .unset] [(.int (2 : Int32)), (.int (2 : Int32))])) _
    refine XS.icmpNo X12.here hx rfl (hb hby at_101) rfl (by decide) ?_
    show Steps p.tables e below (T12.setTop (mkF m 104 #[.val (.int p0), .val (.int p1), .val (.int p2), .val (.int p3), .val (.int p4), .val (.int (2 : Int32)), .val (.int (v0_2_9 p1)), .val (.int (v0_2_20 p1 p2)), .val (.int (v0_2_31 p1 p2 p3)), .val (.int (v0_2_20 p1 p2)), .val (.int (v0_2_78 p1 p2 p4)), .val (.ref b82), .unset, .unset, .unset, .unset, .unset, .unset] [])) _
    refine XS.aload X12.here hx rfl (hb hby at_104) rfl rfl ?_
    show Steps p.tables e below (T12.setTop (mkF m 106 #[.val (.int p0), .val (.int p1), .val (.int p2), .val (.int p3), .val (.int p4), .val (.int (2 : Int32)), .val (.int (v0_2_9 p1)), .val (.int (v0_2_20 p1 p2)), .val (.int (v0_2_31 p1 p2 p3)), .val (.int (v0_2_20 p1 p2)), .val (.int (v0_2_78 p1 p2 p4)), .val (.ref b82), .unset, .unset, .unset, .unset, .unset, .unset] [(.ref b82)])) _
    refine XS.iconst X12.here hx rfl (hb hby at_106) ?_
    show Steps p.tables e below (T12.setTop (mkF m 107 #[.val (.int p0), .val (.int p1), .val (.int p2), .val (.int p3), .val (.int p4), .val (.int (2 : Int32)), .val (.int (v0_2_9 p1)), .val (.int (v0_2_20 p1 p2)), .val (.int (v0_2_31 p1 p2 p3)), .val (.int (v0_2_20 p1 p2)), .val (.int (v0_2_78 p1 p2 p4)), .val (.ref b82), .unset, .unset, .unset, .unset, .unset, .unset] [(.int (1 : Int32)), (.ref b82)])) _
    refine XS.iload X12.here hx rfl (hb hby at_107) rfl ?_
    exact k)
  obtain ⟨cl15, Ar15, q15, Sz15, Mn15, Hs15, Gs15⟩ := id V12
  have hin15 : ¬ ((1 : Int32) < 0 ∨ cl15.slots.size ≤ ((1 : Int32)).toNatClampNeg) := inb_of Sz15 ⟨by decide, by decide⟩
  obtain ⟨T15, h15, X15, e15, W15, st15⟩ := stI X12 hx hZ e12 Ar15 (j := (1 : Int32)) hin15 (g := (mkF m 109 #[.val (.int p0), .val (.int p1), .val (.int p2), .val (.int p3), .val (.int p4), .val (.int (2 : Int32)), .val (.int (v0_2_9 p1)), .val (.int (v0_2_20 p1 p2)), .val (.int (v0_2_31 p1 p2 p3)), .val (.int (v0_2_20 p1 p2)), .val (.int (v0_2_78 p1 p2 p4)), .val (.ref b82), .unset, .unset, .unset, .unset, .unset, .unset] [(.int (v0_2_20 p1 p2)), (.int (1 : Int32)), (.ref b82)])) rfl rfl (hb hby at_109)
  have V15 : Arv Z h15 b82 k9 .int (2 : Int32) [(.int (v0_2_9 p1)), (.int (v0_2_20 p1 p2))] (.int (0 : Int32)) := Arv.set Ar15 q15 Sz15 Mn15 Hs15 Gs15 rfl W15 1 rfl (Nat.le_of_ble_eq_true rfl)
  have N15 := Fr.snoc X15 N12 gg9
  have K15 : Keep h0 h15 [] := K12.wr W15 (Or.inr sz9)
  have Z15 : n0 ≤ h15.size := Nat.le_trans Z12 (Keep.of_wr W15).1
  have pre16 : ∀ t, Steps p.tables e below (T15.setTop (mkF m 110 #[.val (.int p0), .val (.int p1), .val (.int p2), .val (.int p3), .val (.int p4), .val (.int (2 : Int32)), .val (.int (v0_2_9 p1)), .val (.int (v0_2_20 p1 p2)), .val (.int (v0_2_31 p1 p2 p3)), .val (.int (v0_2_20 p1 p2)), .val (.int (v0_2_78 p1 p2 p4)), .val (.ref b82), .unset, .unset, .unset, .unset, .unset, .unset] [])) t → Steps p.tables e below (s₁.setTop (entryFrame m #[(.int p0), (.int p1), (.int p2), (.int p3), (.int p4)] maxLocals)) t := fun t k => pre14 t (st15 _ k)
  have pre17 : ∀ t, Steps p.tables e below (T15.setTop (mkF m 188 #[.val (.int p0), .val (.int p1), .val (.int p2), .val (.int p3), .val (.int p4), .val (.int (2 : Int32)), .val (.int (v0_2_9 p1)), .val (.int (v0_2_20 p1 p2)), .val (.int (v0_2_31 p1 p2 p3)), .val (.int (v0_2_20 p1 p2)), .val (.int (v0_2_78 p1 p2 p4)), .val (.ref b82), .val (.int (v0_2_9 p1)), .val (.int (v0_2_20 p1 p2)), .val (.int (v0_2_31 p1 p2 p3)), .unset, .unset, .unset] [(.int ((v0_2_78 p1 p2 p4) - (1 : Int32))), (.int (v0_2_20 p1 p2))])) t → Steps p.tables e below (s₁.setTop (entryFrame m #[(.int p0), (.int p1), (.int p2), (.int p3), (.int p4)] maxLocals)) t := fun t k => pre16 t (by
    show Steps p.tables e below (T15.setTop (mkF m 110 #[.val (.int p0), .val (.int p1), .val (.int p2), .val (.int p3), .val (.int p4), .val (.int (2 : Int32)), .val (.int (v0_2_9 p1)), .val (.int (v0_2_20 p1 p2)), .val (.int (v0_2_31 p1 p2 p3)), .val (.int (v0_2_20 p1 p2)), .val (.int (v0_2_78 p1 p2 p4)), .val (.ref b82), .unset, .unset, .unset, .unset, .unset, .unset] [])) _
    refine XS.iload X15.here hx rfl (hb hby at_110) rfl ?_
    show Steps p.tables e below (T15.setTop (mkF m 112 #[.val (.int p0), .val (.int p1), .val (.int p2), .val (.int p3), .val (.int p4), .val (.int (2 : Int32)), .val (.int (v0_2_9 p1)), .val (.int (v0_2_20 p1 p2)), .val (.int (v0_2_31 p1 p2 p3)), .val (.int (v0_2_20 p1 p2)), .val (.int (v0_2_78 p1 p2 p4)), .val (.ref b82), .unset, .unset, .unset, .unset, .unset, .unset] [(.int (2 : Int32))])) _
    refine XS.iconst X15.here hx rfl (hb hby at_112) ?_
    show Steps p.tables e below (T15.setTop (mkF m 113 #[.val (.int p0), .val (.int p1), .val (.int p2), .val (.int p3), .val (.int p4), .val (.int (2 : Int32)), .val (.int (v0_2_9 p1)), .val (.int (v0_2_20 p1 p2)), .val (.int (v0_2_31 p1 p2 p3)), .val (.int (v0_2_20 p1 p2)), .val (.int (v0_2_78 p1 p2 p4)), .val (.ref b82), .unset, .unset, .unset, .unset, .unset, .unset] [(.int (3 : Int32)), (.int (2 : Int32))])) _
    refine XS.icmpYes X15.here hx rfl (pc0 := 113) (pc' := 122) rfl (hb hby at_113) rfl (by decide) (by decide) (by decide) ?_
    show Steps p.tables e below (T15.setTop (mkF m 122 #[.val (.int p0), .val (.int p1), .val (.int p2), .val (.int p3), .val (.int p4), .val (.int (2 : Int32)), .val (.int (v0_2_9 p1)), .val (.int (v0_2_20 p1 p2)), .val (.int (v0_2_31 p1 p2 p3)), .val (.int (v0_2_20 p1 p2)), .val (.int (v0_2_78 p1 p2 p4)), .val (.ref b82), .unset, .unset, .unset, .unset, .unset, .unset] [])) _
    refine XS.iload X15.here hx rfl (hb hby at_122) rfl ?_
    show Steps p.tables e below (T15.setTop (mkF m 124 #[.val (.int p0), .val (.int p1), .val (.int p2), .val (.int p3), .val (.int p4), .val (.int (2 : Int32)), .val (.int (v0_2_9 p1)), .val (.int (v0_2_20 p1 p2)), .val (.int (v0_2_31 p1 p2 p3)), .val (.int (v0_2_20 p1 p2)), .val (.int (v0_2_78 p1 p2 p4)), .val (.ref b82), .unset, .unset, .unset, .unset, .unset, .unset] [(.int (v0_2_9 p1))])) _
    refine XS.istore X15.here hx rfl (hb hby at_124) rfl (l' := #[.val (.int p0), .val (.int p1), .val (.int p2), .val (.int p3), .val (.int p4), .val (.int (2 : Int32)), .val (.int (v0_2_9 p1)), .val (.int (v0_2_20 p1 p2)), .val (.int (v0_2_31 p1 p2 p3)), .val (.int (v0_2_20 p1 p2)), .val (.int (v0_2_78 p1 p2 p4)), .val (.ref b82), .val (.int (v0_2_9 p1)), .unset, .unset, .unset, .unset, .unset]) rfl ?_
    show Steps p.tables e below (T15.setTop (mkF m 126 #[.val (.int p0), .val (.int p1), .val (.int p2), .val (.int p3), .val (.int p4), .val (.int (2 : Int32)), .val (.int (v0_2_9 p1)), .val (.int (v0_2_20 p1 p2)), .val (.int (v0_2_31 p1 p2 p3)), .val (.int (v0_2_20 p1 p2)), .val (.int (v0_2_78 p1 p2 p4)), .val (.ref b82), .val (.int (v0_2_9 p1)), .unset, .unset, .unset, .unset, .unset] [])) _
    refine XS.iload X15.here hx rfl (hb hby at_126) rfl ?_
    show Steps p.tables e below (T15.setTop (mkF m 128 #[.val (.int p0), .val (.int p1), .val (.int p2), .val (.int p3), .val (.int p4), .val (.int (2 : Int32)), .val (.int (v0_2_9 p1)), .val (.int (v0_2_20 p1 p2)), .val (.int (v0_2_31 p1 p2 p3)), .val (.int (v0_2_20 p1 p2)), .val (.int (v0_2_78 p1 p2 p4)), .val (.ref b82), .val (.int (v0_2_9 p1)), .unset, .unset, .unset, .unset, .unset] [(.int (v0_2_20 p1 p2))])) _
    refine XS.istore X15.here hx rfl (hb hby at_128) rfl (l' := #[.val (.int p0), .val (.int p1), .val (.int p2), .val (.int p3), .val (.int p4), .val (.int (2 : Int32)), .val (.int (v0_2_9 p1)), .val (.int (v0_2_20 p1 p2)), .val (.int (v0_2_31 p1 p2 p3)), .val (.int (v0_2_20 p1 p2)), .val (.int (v0_2_78 p1 p2 p4)), .val (.ref b82), .val (.int (v0_2_9 p1)), .val (.int (v0_2_20 p1 p2)), .unset, .unset, .unset, .unset]) rfl ?_
    show Steps p.tables e below (T15.setTop (mkF m 130 #[.val (.int p0), .val (.int p1), .val (.int p2), .val (.int p3), .val (.int p4), .val (.int (2 : Int32)), .val (.int (v0_2_9 p1)), .val (.int (v0_2_20 p1 p2)), .val (.int (v0_2_31 p1 p2 p3)), .val (.int (v0_2_20 p1 p2)), .val (.int (v0_2_78 p1 p2 p4)), .val (.ref b82), .val (.int (v0_2_9 p1)), .val (.int (v0_2_20 p1 p2)), .unset, .unset, .unset, .unset] [])) _
    refine XS.iload X15.here hx rfl (hb hby at_130) rfl ?_
    show Steps p.tables e below (T15.setTop (mkF m 132 #[.val (.int p0), .val (.int p1), .val (.int p2), .val (.int p3), .val (.int p4), .val (.int (2 : Int32)), .val (.int (v0_2_9 p1)), .val (.int (v0_2_20 p1 p2)), .val (.int (v0_2_31 p1 p2 p3)), .val (.int (v0_2_20 p1 p2)), .val (.int (v0_2_78 p1 p2 p4)), .val (.ref b82), .val (.int (v0_2_9 p1)), .val (.int (v0_2_20 p1 p2)), .unset, .unset, .unset, .unset] [(.int (v0_2_31 p1 p2 p3))])) _
    refine XS.istore X15.here hx rfl (hb hby at_132) rfl (l' := #[.val (.int p0), .val (.int p1), .val (.int p2), .val (.int p3), .val (.int p4), .val (.int (2 : Int32)), .val (.int (v0_2_9 p1)), .val (.int (v0_2_20 p1 p2)), .val (.int (v0_2_31 p1 p2 p3)), .val (.int (v0_2_20 p1 p2)), .val (.int (v0_2_78 p1 p2 p4)), .val (.ref b82), .val (.int (v0_2_9 p1)), .val (.int (v0_2_20 p1 p2)), .val (.int (v0_2_31 p1 p2 p3)), .unset, .unset, .unset]) rfl ?_
    show Steps p.tables e below (T15.setTop (mkF m 134 #[.val (.int p0), .val (.int p1), .val (.int p2), .val (.int p3), .val (.int p4), .val (.int (2 : Int32)), .val (.int (v0_2_9 p1)), .val (.int (v0_2_20 p1 p2)), .val (.int (v0_2_31 p1 p2 p3)), .val (.int (v0_2_20 p1 p2)), .val (.int (v0_2_78 p1 p2 p4)), .val (.ref b82), .val (.int (v0_2_9 p1)), .val (.int (v0_2_20 p1 p2)), .val (.int (v0_2_31 p1 p2 p3)), .unset, .unset, .unset] [])) _
    refine XS.iload X15.here hx rfl (hb hby at_134) rfl ?_
    show Steps p.tables e below (T15.setTop (mkF m 136 #[.val (.int p0), .val (.int p1), .val (.int p2), .val (.int p3), .val (.int p4), .val (.int (2 : Int32)), .val (.int (v0_2_9 p1)), .val (.int (v0_2_20 p1 p2)), .val (.int (v0_2_31 p1 p2 p3)), .val (.int (v0_2_20 p1 p2)), .val (.int (v0_2_78 p1 p2 p4)), .val (.ref b82), .val (.int (v0_2_9 p1)), .val (.int (v0_2_20 p1 p2)), .val (.int (v0_2_31 p1 p2 p3)), .unset, .unset, .unset] [(.int (2 : Int32))])) _
    refine XS.ifYes X15.here hx rfl (pc0 := 136) (pc' := 145) rfl (hb hby at_136) rfl (by decide) (by decide) (by decide) ?_
    show Steps p.tables e below (T15.setTop (mkF m 145 #[.val (.int p0), .val (.int p1), .val (.int p2), .val (.int p3), .val (.int p4), .val (.int (2 : Int32)), .val (.int (v0_2_9 p1)), .val (.int (v0_2_20 p1 p2)), .val (.int (v0_2_31 p1 p2 p3)), .val (.int (v0_2_20 p1 p2)), .val (.int (v0_2_78 p1 p2 p4)), .val (.ref b82), .val (.int (v0_2_9 p1)), .val (.int (v0_2_20 p1 p2)), .val (.int (v0_2_31 p1 p2 p3)), .unset, .unset, .unset] [])) _
    refine XS.iload X15.here hx rfl (hb hby at_145) rfl ?_
    show Steps p.tables e below (T15.setTop (mkF m 147 #[.val (.int p0), .val (.int p1), .val (.int p2), .val (.int p3), .val (.int p4), .val (.int (2 : Int32)), .val (.int (v0_2_9 p1)), .val (.int (v0_2_20 p1 p2)), .val (.int (v0_2_31 p1 p2 p3)), .val (.int (v0_2_20 p1 p2)), .val (.int (v0_2_78 p1 p2 p4)), .val (.ref b82), .val (.int (v0_2_9 p1)), .val (.int (v0_2_20 p1 p2)), .val (.int (v0_2_31 p1 p2 p3)), .unset, .unset, .unset] [(.int (2 : Int32))])) _
    refine XS.iconst X15.here hx rfl (hb hby at_147) ?_
    show Steps p.tables e below (T15.setTop (mkF m 148 #[.val (.int p0), .val (.int p1), .val (.int p2), .val (.int p3), .val (.int p4), .val (.int (2 : Int32)), .val (.int (v0_2_9 p1)), .val (.int (v0_2_20 p1 p2)), .val (.int (v0_2_31 p1 p2 p3)), .val (.int (v0_2_20 p1 p2)), .val (.int (v0_2_78 p1 p2 p4)), .val (.ref b82), .val (.int (v0_2_9 p1)), .val (.int (v0_2_20 p1 p2)), .val (.int (v0_2_31 p1 p2 p3)), .unset, .unset, .unset] [(.int (1 : Int32)), (.int (2 : Int32))])) _
    refine XS.icmpYes X15.here hx rfl (pc0 := 148) (pc' := 176) rfl (hb hby at_148) rfl (by decide) (by decide) (by decide) ?_
    show Steps p.tables e below (T15.setTop (mkF m 176 #[.val (.int p0), .val (.int p1), .val (.int p2), .val (.int p3), .val (.int p4), .val (.int (2 : Int32)), .val (.int (v0_2_9 p1)), .val (.int (v0_2_20 p1 p2)), .val (.int (v0_2_31 p1 p2 p3)), .val (.int (v0_2_20 p1 p2)), .val (.int (v0_2_78 p1 p2 p4)), .val (.ref b82), .val (.int (v0_2_9 p1)), .val (.int (v0_2_20 p1 p2)), .val (.int (v0_2_31 p1 p2 p3)), .unset, .unset, .unset] [])) _
    refine XS.iload X15.here hx rfl (hb hby at_176) rfl ?_
    show Steps p.tables e below (T15.setTop (mkF m 178 #[.val (.int p0), .val (.int p1), .val (.int p2), .val (.int p3), .val (.int p4), .val (.int (2 : Int32)), .val (.int (v0_2_9 p1)), .val (.int (v0_2_20 p1 p2)), .val (.int (v0_2_31 p1 p2 p3)), .val (.int (v0_2_20 p1 p2)), .val (.int (v0_2_78 p1 p2 p4)), .val (.ref b82), .val (.int (v0_2_9 p1)), .val (.int (v0_2_20 p1 p2)), .val (.int (v0_2_31 p1 p2 p3)), .unset, .unset, .unset] [(.int (2 : Int32))])) _
    refine XS.iconst X15.here hx rfl (hb hby at_178) ?_
    show Steps p.tables e below (T15.setTop (mkF m 179 #[.val (.int p0), .val (.int p1), .val (.int p2), .val (.int p3), .val (.int p4), .val (.int (2 : Int32)), .val (.int (v0_2_9 p1)), .val (.int (v0_2_20 p1 p2)), .val (.int (v0_2_31 p1 p2 p3)), .val (.int (v0_2_20 p1 p2)), .val (.int (v0_2_78 p1 p2 p4)), .val (.ref b82), .val (.int (v0_2_9 p1)), .val (.int (v0_2_20 p1 p2)), .val (.int (v0_2_31 p1 p2 p3)), .unset, .unset, .unset] [(.int (2 : Int32)), (.int (2 : Int32))])) _
    refine XS.icmpNo X15.here hx rfl (hb hby at_179) rfl (by decide) ?_
    show Steps p.tables e below (T15.setTop (mkF m 182 #[.val (.int p0), .val (.int p1), .val (.int p2), .val (.int p3), .val (.int p4), .val (.int (2 : Int32)), .val (.int (v0_2_9 p1)), .val (.int (v0_2_20 p1 p2)), .val (.int (v0_2_31 p1 p2 p3)), .val (.int (v0_2_20 p1 p2)), .val (.int (v0_2_78 p1 p2 p4)), .val (.ref b82), .val (.int (v0_2_9 p1)), .val (.int (v0_2_20 p1 p2)), .val (.int (v0_2_31 p1 p2 p3)), .unset, .unset, .unset] [])) _
    refine XS.iload X15.here hx rfl (hb hby at_182) rfl ?_
    show Steps p.tables e below (T15.setTop (mkF m 184 #[.val (.int p0), .val (.int p1), .val (.int p2), .val (.int p3), .val (.int p4), .val (.int (2 : Int32)), .val (.int (v0_2_9 p1)), .val (.int (v0_2_20 p1 p2)), .val (.int (v0_2_31 p1 p2 p3)), .val (.int (v0_2_20 p1 p2)), .val (.int (v0_2_78 p1 p2 p4)), .val (.ref b82), .val (.int (v0_2_9 p1)), .val (.int (v0_2_20 p1 p2)), .val (.int (v0_2_31 p1 p2 p3)), .unset, .unset, .unset] [(.int (v0_2_20 p1 p2))])) _
    refine XS.iload X15.here hx rfl (hb hby at_184) rfl ?_
    show Steps p.tables e below (T15.setTop (mkF m 186 #[.val (.int p0), .val (.int p1), .val (.int p2), .val (.int p3), .val (.int p4), .val (.int (2 : Int32)), .val (.int (v0_2_9 p1)), .val (.int (v0_2_20 p1 p2)), .val (.int (v0_2_31 p1 p2 p3)), .val (.int (v0_2_20 p1 p2)), .val (.int (v0_2_78 p1 p2 p4)), .val (.ref b82), .val (.int (v0_2_9 p1)), .val (.int (v0_2_20 p1 p2)), .val (.int (v0_2_31 p1 p2 p3)), .unset, .unset, .unset] [(.int (v0_2_78 p1 p2 p4)), (.int (v0_2_20 p1 p2))])) _
    refine XS.iconst X15.here hx rfl (hb hby at_186) ?_
    show Steps p.tables e below (T15.setTop (mkF m 187 #[.val (.int p0), .val (.int p1), .val (.int p2), .val (.int p3), .val (.int p4), .val (.int (2 : Int32)), .val (.int (v0_2_9 p1)), .val (.int (v0_2_20 p1 p2)), .val (.int (v0_2_31 p1 p2 p3)), .val (.int (v0_2_20 p1 p2)), .val (.int (v0_2_78 p1 p2 p4)), .val (.ref b82), .val (.int (v0_2_9 p1)), .val (.int (v0_2_20 p1 p2)), .val (.int (v0_2_31 p1 p2 p3)), .unset, .unset, .unset] [(.int (1 : Int32)), (.int (v0_2_78 p1 p2 p4)), (.int (v0_2_20 p1 p2))])) _
    refine XS.isub X15.here hx rfl (hb hby at_187) rfl ?_
    exact k)
  obtain ⟨T18, L18, X18, e18, N18, pre18⟩ : ∃ (T' : State) (L' : List Loc), Stand p l e room_1 s m #[(.int p0), (.int p1), (.int p2), (.int p3), (.int p4)] below meth c T' L' 1 2 ∧ T'.heap = h15 ∧ Fr n0 L' ∧ ∀ t, Steps p.tables e below (T'.setTop (mkF m 320 #[.val (.int p0), .val (.int p1), .val (.int p2), .val (.int p3), .val (.int p4), .val (.int (2 : Int32)), .val (.int (v0_2_9 p1)), .val (.int (v0_2_20 p1 p2)), .val (.int (v0_2_31 p1 p2 p3)), .val (.int (v0_2_20 p1 p2)), .val (.int (v0_2_78 p1 p2 p4)), .val (.ref b82), .val (.int (v0_2_320_l12 p1 p2 p4)), .val (.int (v0_2_320_l13 p1 p2 p4)), .val (.int (v0_2_31 p1 p2 p3)), .val (.int (v0_2_320_l15 p1 p2 p4)), .unset, .unset] [])) t → Steps p.tables e below (s₁.setTop (entryFrame m #[(.int p0), (.int p1), (.int p2), (.int p3), (.int p4)] maxLocals)) t := by
    by_cases hc188_1 : (v0_2_20 p1 p2) < ((v0_2_78 p1 p2 p4) - (1 : Int32))
    · have pre19 : ∀ t, Steps p.tables e below (T15.setTop (mkF m 320 #[.val (.int p0), .val (.int p1), .val (.int p2), .val (.int p3), .val (.int p4), .val (.int (2 : Int32)), .val (.int (v0_2_9 p1)), .val (.int (v0_2_20 p1 p2)), .val (.int (v0_2_31 p1 p2 p3)), .val (.int (v0_2_20 p1 p2)), .val (.int (v0_2_78 p1 p2 p4)), .val (.ref b82), .val (.int (v0_2_9 p1)), .val (.int (v0_2_198 p1 p2)), .val (.int (v0_2_31 p1 p2 p3)), .val (.int (1 : Int32)), .unset, .unset] [])) t → Steps p.tables e below (s₁.setTop (entryFrame m #[(.int p0), (.int p1), (.int p2), (.int p3), (.int p4)] maxLocals)) t := fun t k => pre17 t (by
        show Steps p.tables e below (T15.setTop (mkF m 188 #[.val (.int p0), .val (.int p1), .val (.int p2), .val (.int p3), .val (.int p4), .val (.int (2 : Int32)), .val (.int (v0_2_9 p1)), .val (.int (v0_2_20 p1 p2)), .val (.int (v0_2_31 p1 p2 p3)), .val (.int (v0_2_20 p1 p2)), .val (.int (v0_2_78 p1 p2 p4)), .val (.ref b82), .val (.int (v0_2_9 p1)), .val (.int (v0_2_20 p1 p2)), .val (.int (v0_2_31 p1 p2 p3)), .unset, .unset, .unset] [(.int ((v0_2_78 p1 p2 p4) - (1 : Int32))), (.int (v0_2_20 p1 p2))])) _
        refine XS.icmpNo X15.here hx rfl (hb hby at_188) rfl (tlt hc188_1).2.1 ?_
        show Steps p.tables e below (T15.setTop (mkF m 191 #[.val (.int p0), .val (.int p1), .val (.int p2), .val (.int p3), .val (.int p4), .val (.int (2 : Int32)), .val (.int (v0_2_9 p1)), .val (.int (v0_2_20 p1 p2)), .val (.int (v0_2_31 p1 p2 p3)), .val (.int (v0_2_20 p1 p2)), .val (.int (v0_2_78 p1 p2 p4)), .val (.ref b82), .val (.int (v0_2_9 p1)), .val (.int (v0_2_20 p1 p2)), .val (.int (v0_2_31 p1 p2 p3)), .unset, .unset, .unset] [])) _
        refine XS.iconst X15.here hx rfl (hb hby at_191) ?_
        show Steps p.tables e below (T15.setTop (mkF m 192 #[.val (.int p0), .val (.int p1), .val (.int p2), .val (.int p3), .val (.int p4), .val (.int (2 : Int32)), .val (.int (v0_2_9 p1)), .val (.int (v0_2_20 p1 p2)), .val (.int (v0_2_31 p1 p2 p3)), .val (.int (v0_2_20 p1 p2)), .val (.int (v0_2_78 p1 p2 p4)), .val (.ref b82), .val (.int (v0_2_9 p1)), .val (.int (v0_2_20 p1 p2)), .val (.int (v0_2_31 p1 p2 p3)), .unset, .unset, .unset] [(.int (1 : Int32))])) _
        refine XS.istore X15.here hx rfl (hb hby at_192) rfl (l' := #[.val (.int p0), .val (.int p1), .val (.int p2), .val (.int p3), .val (.int p4), .val (.int (2 : Int32)), .val (.int (v0_2_9 p1)), .val (.int (v0_2_20 p1 p2)), .val (.int (v0_2_31 p1 p2 p3)), .val (.int (v0_2_20 p1 p2)), .val (.int (v0_2_78 p1 p2 p4)), .val (.ref b82), .val (.int (v0_2_9 p1)), .val (.int (v0_2_20 p1 p2)), .val (.int (v0_2_31 p1 p2 p3)), .val (.int (1 : Int32)), .unset, .unset]) rfl ?_
        show Steps p.tables e below (T15.setTop (mkF m 194 #[.val (.int p0), .val (.int p1), .val (.int p2), .val (.int p3), .val (.int p4), .val (.int (2 : Int32)), .val (.int (v0_2_9 p1)), .val (.int (v0_2_20 p1 p2)), .val (.int (v0_2_31 p1 p2 p3)), .val (.int (v0_2_20 p1 p2)), .val (.int (v0_2_78 p1 p2 p4)), .val (.ref b82), .val (.int (v0_2_9 p1)), .val (.int (v0_2_20 p1 p2)), .val (.int (v0_2_31 p1 p2 p3)), .val (.int (1 : Int32)), .unset, .unset] [])) _
        refine XS.iload X15.here hx rfl (hb hby at_194) rfl ?_
        show Steps p.tables e below (T15.setTop (mkF m 196 #[.val (.int p0), .val (.int p1), .val (.int p2), .val (.int p3), .val (.int p4), .val (.int (2 : Int32)), .val (.int (v0_2_9 p1)), .val (.int (v0_2_20 p1 p2)), .val (.int (v0_2_31 p1 p2 p3)), .val (.int (v0_2_20 p1 p2)), .val (.int (v0_2_78 p1 p2 p4)), .val (.ref b82), .val (.int (v0_2_9 p1)), .val (.int (v0_2_20 p1 p2)), .val (.int (v0_2_31 p1 p2 p3)), .val (.int (1 : Int32)), .unset, .unset] [(.int (v0_2_20 p1 p2))])) _
        refine XS.iconst X15.here hx rfl (hb hby at_196) ?_
        show Steps p.tables e below (T15.setTop (mkF m 197 #[.val (.int p0), .val (.int p1), .val (.int p2), .val (.int p3), .val (.int p4), .val (.int (2 : Int32)), .val (.int (v0_2_9 p1)), .val (.int (v0_2_20 p1 p2)), .val (.int (v0_2_31 p1 p2 p3)), .val (.int (v0_2_20 p1 p2)), .val (.int (v0_2_78 p1 p2 p4)), .val (.ref b82), .val (.int (v0_2_9 p1)), .val (.int (v0_2_20 p1 p2)), .val (.int (v0_2_31 p1 p2 p3)), .val (.int (1 : Int32)), .unset, .unset] [(.int (1 : Int32)), (.int (v0_2_20 p1 p2))])) _
        refine XS.iadd X15.here hx rfl (hb hby at_197) rfl ?_
        show Steps p.tables e below (T15.setTop (mkF m 198 #[.val (.int p0), .val (.int p1), .val (.int p2), .val (.int p3), .val (.int p4), .val (.int (2 : Int32)), .val (.int (v0_2_9 p1)), .val (.int (v0_2_20 p1 p2)), .val (.int (v0_2_31 p1 p2 p3)), .val (.int (v0_2_20 p1 p2)), .val (.int (v0_2_78 p1 p2 p4)), .val (.ref b82), .val (.int (v0_2_9 p1)), .val (.int (v0_2_20 p1 p2)), .val (.int (v0_2_31 p1 p2 p3)), .val (.int (1 : Int32)), .unset, .unset] [(.int ((v0_2_20 p1 p2) + (1 : Int32)))])) _
        refine XS.istore X15.here hx rfl (hb hby at_198) rfl (l' := #[.val (.int p0), .val (.int p1), .val (.int p2), .val (.int p3), .val (.int p4), .val (.int (2 : Int32)), .val (.int (v0_2_9 p1)), .val (.int (v0_2_20 p1 p2)), .val (.int (v0_2_31 p1 p2 p3)), .val (.int (v0_2_20 p1 p2)), .val (.int (v0_2_78 p1 p2 p4)), .val (.ref b82), .val (.int (v0_2_9 p1)), .val (.int (v0_2_198 p1 p2)), .val (.int (v0_2_31 p1 p2 p3)), .val (.int (1 : Int32)), .unset, .unset]) rfl ?_
        show Steps p.tables e below (T15.setTop (mkF m 200 #[.val (.int p0), .val (.int p1), .val (.int p2), .val (.int p3), .val (.int p4), .val (.int (2 : Int32)), .val (.int (v0_2_9 p1)), .val (.int (v0_2_20 p1 p2)), .val (.int (v0_2_31 p1 p2 p3)), .val (.int (v0_2_20 p1 p2)), .val (.int (v0_2_78 p1 p2 p4)), .val (.ref b82), .val (.int (v0_2_9 p1)), .val (.int (v0_2_198 p1 p2)), .val (.int (v0_2_31 p1 p2 p3)), .val (.int (1 : Int32)), .unset, .unset] [])) _
        refine XS.goto X15.here hx rfl (pc0 := 200) (pc' := 320) rfl (hb hby at_200) (by decide) (by decide) ?_
        exact k)
      exact ⟨T15, _, X15, e15, N15, fun t k => pre19 t (by simpa only [v0_2_320_l12, v0_2_320_l13, v0_2_320_l15, if_pos hc188_1] using k)⟩
    · have pre20 : ∀ t, Steps p.tables e below (T15.setTop (mkF m 209 #[.val (.int p0), .val (.int p1), .val (.int p2), .val (.int p3), .val (.int p4), .val (.int (2 : Int32)), .val (.int (v0_2_9 p1)), .val (.int (v0_2_20 p1 p2)), .val (.int (v0_2_31 p1 p2 p3)), .val (.int (v0_2_20 p1 p2)), .val (.int (v0_2_78 p1 p2 p4)), .val (.ref b82), .val (.int (v0_2_9 p1)), .val (.int (v0_2_20 p1 p2)), .val (.int (v0_2_31 p1 p2 p3)), .unset, .unset, .unset] [(.int ((v0_2_78 p1 p2 p4) - (2 : Int32))), (.int (v0_2_9 p1))])) t → Steps p.tables e below (s₁.setTop (entryFrame m #[(.int p0), (.int p1), (.int p2), (.int p3), (.int p4)] maxLocals)) t := fun t k => pre17 t (by
        show Steps p.tables e below (T15.setTop (mkF m 188 #[.val (.int p0), .val (.int p1), .val (.int p2), .val (.int p3), .val (.int p4), .val (.int (2 : Int32)), .val (.int (v0_2_9 p1)), .val (.int (v0_2_20 p1 p2)), .val (.int (v0_2_31 p1 p2 p3)), .val (.int (v0_2_20 p1 p2)), .val (.int (v0_2_78 p1 p2 p4)), .val (.ref b82), .val (.int (v0_2_9 p1)), .val (.int (v0_2_20 p1 p2)), .val (.int (v0_2_31 p1 p2 p3)), .unset, .unset, .unset] [(.int ((v0_2_78 p1 p2 p4) - (1 : Int32))), (.int (v0_2_20 p1 p2))])) _
        refine XS.icmpYes X15.here hx rfl (pc0 := 188) (pc' := 203) rfl (hb hby at_188) rfl (flt hc188_1).2.1 (by decide) (by decide) ?_
        show Steps p.tables e below (T15.setTop (mkF m 203 #[.val (.int p0), .val (.int p1), .val (.int p2), .val (.int p3), .val (.int p4), .val (.int (2 : Int32)), .val (.int (v0_2_9 p1)), .val (.int (v0_2_20 p1 p2)), .val (.int (v0_2_31 p1 p2 p3)), .val (.int (v0_2_20 p1 p2)), .val (.int (v0_2_78 p1 p2 p4)), .val (.ref b82), .val (.int (v0_2_9 p1)), .val (.int (v0_2_20 p1 p2)), .val (.int (v0_2_31 p1 p2 p3)), .unset, .unset, .unset] [])) _
        refine XS.iload X15.here hx rfl (hb hby at_203) rfl ?_
        show Steps p.tables e below (T15.setTop (mkF m 205 #[.val (.int p0), .val (.int p1), .val (.int p2), .val (.int p3), .val (.int p4), .val (.int (2 : Int32)), .val (.int (v0_2_9 p1)), .val (.int (v0_2_20 p1 p2)), .val (.int (v0_2_31 p1 p2 p3)), .val (.int (v0_2_20 p1 p2)), .val (.int (v0_2_78 p1 p2 p4)), .val (.ref b82), .val (.int (v0_2_9 p1)), .val (.int (v0_2_20 p1 p2)), .val (.int (v0_2_31 p1 p2 p3)), .unset, .unset, .unset] [(.int (v0_2_9 p1))])) _
        refine XS.iload X15.here hx rfl (hb hby at_205) rfl ?_
        show Steps p.tables e below (T15.setTop (mkF m 207 #[.val (.int p0), .val (.int p1), .val (.int p2), .val (.int p3), .val (.int p4), .val (.int (2 : Int32)), .val (.int (v0_2_9 p1)), .val (.int (v0_2_20 p1 p2)), .val (.int (v0_2_31 p1 p2 p3)), .val (.int (v0_2_20 p1 p2)), .val (.int (v0_2_78 p1 p2 p4)), .val (.ref b82), .val (.int (v0_2_9 p1)), .val (.int (v0_2_20 p1 p2)), .val (.int (v0_2_31 p1 p2 p3)), .unset, .unset, .unset] [(.int (v0_2_78 p1 p2 p4)), (.int (v0_2_9 p1))])) _
        refine XS.iconst X15.here hx rfl (hb hby at_207) ?_
        show Steps p.tables e below (T15.setTop (mkF m 208 #[.val (.int p0), .val (.int p1), .val (.int p2), .val (.int p3), .val (.int p4), .val (.int (2 : Int32)), .val (.int (v0_2_9 p1)), .val (.int (v0_2_20 p1 p2)), .val (.int (v0_2_31 p1 p2 p3)), .val (.int (v0_2_20 p1 p2)), .val (.int (v0_2_78 p1 p2 p4)), .val (.ref b82), .val (.int (v0_2_9 p1)), .val (.int (v0_2_20 p1 p2)), .val (.int (v0_2_31 p1 p2 p3)), .unset, .unset, .unset] [(.int (2 : Int32)), (.int (v0_2_78 p1 p2 p4)), (.int (v0_2_9 p1))])) _
        refine XS.isub X15.here hx rfl (hb hby at_208) rfl ?_
        exact k)
      by_cases hc209_2 : (v0_2_9 p1) < ((v0_2_78 p1 p2 p4) - (2 : Int32))
      · have pre21 : ∀ t, Steps p.tables e below (T15.setTop (mkF m 320 #[.val (.int p0), .val (.int p1), .val (.int p2), .val (.int p3), .val (.int p4), .val (.int (2 : Int32)), .val (.int (v0_2_9 p1)), .val (.int (v0_2_20 p1 p2)), .val (.int (v0_2_31 p1 p2 p3)), .val (.int (v0_2_20 p1 p2)), .val (.int (v0_2_78 p1 p2 p4)), .val (.ref b82), .val (.int (v0_2_219 p1)), .val (.int (v0_2_225 p1)), .val (.int (v0_2_31 p1 p2 p3)), .val (.int (1 : Int32)), .unset, .unset] [])) t → Steps p.tables e below (s₁.setTop (entryFrame m #[(.int p0), (.int p1), (.int p2), (.int p3), (.int p4)] maxLocals)) t := fun t k => pre20 t (by
          show Steps p.tables e below (T15.setTop (mkF m 209 #[.val (.int p0), .val (.int p1), .val (.int p2), .val (.int p3), .val (.int p4), .val (.int (2 : Int32)), .val (.int (v0_2_9 p1)), .val (.int (v0_2_20 p1 p2)), .val (.int (v0_2_31 p1 p2 p3)), .val (.int (v0_2_20 p1 p2)), .val (.int (v0_2_78 p1 p2 p4)), .val (.ref b82), .val (.int (v0_2_9 p1)), .val (.int (v0_2_20 p1 p2)), .val (.int (v0_2_31 p1 p2 p3)), .unset, .unset, .unset] [(.int ((v0_2_78 p1 p2 p4) - (2 : Int32))), (.int (v0_2_9 p1))])) _
          refine XS.icmpNo X15.here hx rfl (hb hby at_209) rfl (tlt hc209_2).2.1 ?_
          show Steps p.tables e below (T15.setTop (mkF m 212 #[.val (.int p0), .val (.int p1), .val (.int p2), .val (.int p3), .val (.int p4), .val (.int (2 : Int32)), .val (.int (v0_2_9 p1)), .val (.int (v0_2_20 p1 p2)), .val (.int (v0_2_31 p1 p2 p3)), .val (.int (v0_2_20 p1 p2)), .val (.int (v0_2_78 p1 p2 p4)), .val (.ref b82), .val (.int (v0_2_9 p1)), .val (.int (v0_2_20 p1 p2)), .val (.int (v0_2_31 p1 p2 p3)), .unset, .unset, .unset] [])) _
          refine XS.iconst X15.here hx rfl (hb hby at_212) ?_
          show Steps p.tables e below (T15.setTop (mkF m 213 #[.val (.int p0), .val (.int p1), .val (.int p2), .val (.int p3), .val (.int p4), .val (.int (2 : Int32)), .val (.int (v0_2_9 p1)), .val (.int (v0_2_20 p1 p2)), .val (.int (v0_2_31 p1 p2 p3)), .val (.int (v0_2_20 p1 p2)), .val (.int (v0_2_78 p1 p2 p4)), .val (.ref b82), .val (.int (v0_2_9 p1)), .val (.int (v0_2_20 p1 p2)), .val (.int (v0_2_31 p1 p2 p3)), .unset, .unset, .unset] [(.int (1 : Int32))])) _
          refine XS.istore X15.here hx rfl (hb hby at_213) rfl (l' := #[.val (.int p0), .val (.int p1), .val (.int p2), .val (.int p3), .val (.int p4), .val (.int (2 : Int32)), .val (.int (v0_2_9 p1)), .val (.int (v0_2_20 p1 p2)), .val (.int (v0_2_31 p1 p2 p3)), .val (.int (v0_2_20 p1 p2)), .val (.int (v0_2_78 p1 p2 p4)), .val (.ref b82), .val (.int (v0_2_9 p1)), .val (.int (v0_2_20 p1 p2)), .val (.int (v0_2_31 p1 p2 p3)), .val (.int (1 : Int32)), .unset, .unset]) rfl ?_
          show Steps p.tables e below (T15.setTop (mkF m 215 #[.val (.int p0), .val (.int p1), .val (.int p2), .val (.int p3), .val (.int p4), .val (.int (2 : Int32)), .val (.int (v0_2_9 p1)), .val (.int (v0_2_20 p1 p2)), .val (.int (v0_2_31 p1 p2 p3)), .val (.int (v0_2_20 p1 p2)), .val (.int (v0_2_78 p1 p2 p4)), .val (.ref b82), .val (.int (v0_2_9 p1)), .val (.int (v0_2_20 p1 p2)), .val (.int (v0_2_31 p1 p2 p3)), .val (.int (1 : Int32)), .unset, .unset] [])) _
          refine XS.iload X15.here hx rfl (hb hby at_215) rfl ?_
          show Steps p.tables e below (T15.setTop (mkF m 217 #[.val (.int p0), .val (.int p1), .val (.int p2), .val (.int p3), .val (.int p4), .val (.int (2 : Int32)), .val (.int (v0_2_9 p1)), .val (.int (v0_2_20 p1 p2)), .val (.int (v0_2_31 p1 p2 p3)), .val (.int (v0_2_20 p1 p2)), .val (.int (v0_2_78 p1 p2 p4)), .val (.ref b82), .val (.int (v0_2_9 p1)), .val (.int (v0_2_20 p1 p2)), .val (.int (v0_2_31 p1 p2 p3)), .val (.int (1 : Int32)), .unset, .unset] [(.int (v0_2_9 p1))])) _
          refine XS.iconst X15.here hx rfl (hb hby at_217) ?_
          show Steps p.tables e below (T15.setTop (mkF m 218 #[.val (.int p0), .val (.int p1), .val (.int p2), .val (.int p3), .val (.int p4), .val (.int (2 : Int32)), .val (.int (v0_2_9 p1)), .val (.int (v0_2_20 p1 p2)), .val (.int (v0_2_31 p1 p2 p3)), .val (.int (v0_2_20 p1 p2)), .val (.int (v0_2_78 p1 p2 p4)), .val (.ref b82), .val (.int (v0_2_9 p1)), .val (.int (v0_2_20 p1 p2)), .val (.int (v0_2_31 p1 p2 p3)), .val (.int (1 : Int32)), .unset, .unset] [(.int (1 : Int32)), (.int (v0_2_9 p1))])) _
          refine XS.iadd X15.here hx rfl (hb hby at_218) rfl ?_
          show Steps p.tables e below (T15.setTop (mkF m 219 #[.val (.int p0), .val (.int p1), .val (.int p2), .val (.int p3), .val (.int p4), .val (.int (2 : Int32)), .val (.int (v0_2_9 p1)), .val (.int (v0_2_20 p1 p2)), .val (.int (v0_2_31 p1 p2 p3)), .val (.int (v0_2_20 p1 p2)), .val (.int (v0_2_78 p1 p2 p4)), .val (.ref b82), .val (.int (v0_2_9 p1)), .val (.int (v0_2_20 p1 p2)), .val (.int (v0_2_31 p1 p2 p3)), .val (.int (1 : Int32)), .unset, .unset] [(.int ((v0_2_9 p1) + (1 : Int32)))])) _
          refine XS.istore X15.here hx rfl (hb hby at_219) rfl (l' := #[.val (.int p0), .val (.int p1), .val (.int p2), .val (.int p3), .val (.int p4), .val (.int (2 : Int32)), .val (.int (v0_2_9 p1)), .val (.int (v0_2_20 p1 p2)), .val (.int (v0_2_31 p1 p2 p3)), .val (.int (v0_2_20 p1 p2)), .val (.int (v0_2_78 p1 p2 p4)), .val (.ref b82), .val (.int (v0_2_219 p1)), .val (.int (v0_2_20 p1 p2)), .val (.int (v0_2_31 p1 p2 p3)), .val (.int (1 : Int32)), .unset, .unset]) rfl ?_
          show Steps p.tables e below (T15.setTop (mkF m 221 #[.val (.int p0), .val (.int p1), .val (.int p2), .val (.int p3), .val (.int p4), .val (.int (2 : Int32)), .val (.int (v0_2_9 p1)), .val (.int (v0_2_20 p1 p2)), .val (.int (v0_2_31 p1 p2 p3)), .val (.int (v0_2_20 p1 p2)), .val (.int (v0_2_78 p1 p2 p4)), .val (.ref b82), .val (.int (v0_2_219 p1)), .val (.int (v0_2_20 p1 p2)), .val (.int (v0_2_31 p1 p2 p3)), .val (.int (1 : Int32)), .unset, .unset] [])) _
          refine XS.iload X15.here hx rfl (hb hby at_221) rfl ?_
          show Steps p.tables e below (T15.setTop (mkF m 223 #[.val (.int p0), .val (.int p1), .val (.int p2), .val (.int p3), .val (.int p4), .val (.int (2 : Int32)), .val (.int (v0_2_9 p1)), .val (.int (v0_2_20 p1 p2)), .val (.int (v0_2_31 p1 p2 p3)), .val (.int (v0_2_20 p1 p2)), .val (.int (v0_2_78 p1 p2 p4)), .val (.ref b82), .val (.int (v0_2_219 p1)), .val (.int (v0_2_20 p1 p2)), .val (.int (v0_2_31 p1 p2 p3)), .val (.int (1 : Int32)), .unset, .unset] [(.int (v0_2_9 p1))])) _
          refine XS.iconst X15.here hx rfl (hb hby at_223) ?_
          show Steps p.tables e below (T15.setTop (mkF m 224 #[.val (.int p0), .val (.int p1), .val (.int p2), .val (.int p3), .val (.int p4), .val (.int (2 : Int32)), .val (.int (v0_2_9 p1)), .val (.int (v0_2_20 p1 p2)), .val (.int (v0_2_31 p1 p2 p3)), .val (.int (v0_2_20 p1 p2)), .val (.int (v0_2_78 p1 p2 p4)), .val (.ref b82), .val (.int (v0_2_219 p1)), .val (.int (v0_2_20 p1 p2)), .val (.int (v0_2_31 p1 p2 p3)), .val (.int (1 : Int32)), .unset, .unset] [(.int (2 : Int32)), (.int (v0_2_9 p1))])) _
          refine XS.iadd X15.here hx rfl (hb hby at_224) rfl ?_
          show Steps p.tables e below (T15.setTop (mkF m 225 #[.val (.int p0), .val (.int p1), .val (.int p2), .val (.int p3), .val (.int p4), .val (.int (2 : Int32)), .val (.int (v0_2_9 p1)), .val (.int (v0_2_20 p1 p2)), .val (.int (v0_2_31 p1 p2 p3)), .val (.int (v0_2_20 p1 p2)), .val (.int (v0_2_78 p1 p2 p4)), .val (.ref b82), .val (.int (v0_2_219 p1)), .val (.int (v0_2_20 p1 p2)), .val (.int (v0_2_31 p1 p2 p3)), .val (.int (1 : Int32)), .unset, .unset] [(.int ((v0_2_9 p1) + (2 : Int32)))])) _
          refine XS.istore X15.here hx rfl (hb hby at_225) rfl (l' := #[.val (.int p0), .val (.int p1), .val (.int p2), .val (.int p3), .val (.int p4), .val (.int (2 : Int32)), .val (.int (v0_2_9 p1)), .val (.int (v0_2_20 p1 p2)), .val (.int (v0_2_31 p1 p2 p3)), .val (.int (v0_2_20 p1 p2)), .val (.int (v0_2_78 p1 p2 p4)), .val (.ref b82), .val (.int (v0_2_219 p1)), .val (.int (v0_2_225 p1)), .val (.int (v0_2_31 p1 p2 p3)), .val (.int (1 : Int32)), .unset, .unset]) rfl ?_
          show Steps p.tables e below (T15.setTop (mkF m 227 #[.val (.int p0), .val (.int p1), .val (.int p2), .val (.int p3), .val (.int p4), .val (.int (2 : Int32)), .val (.int (v0_2_9 p1)), .val (.int (v0_2_20 p1 p2)), .val (.int (v0_2_31 p1 p2 p3)), .val (.int (v0_2_20 p1 p2)), .val (.int (v0_2_78 p1 p2 p4)), .val (.ref b82), .val (.int (v0_2_219 p1)), .val (.int (v0_2_225 p1)), .val (.int (v0_2_31 p1 p2 p3)), .val (.int (1 : Int32)), .unset, .unset] [])) _
          refine XS.goto X15.here hx rfl (pc0 := 227) (pc' := 320) rfl (hb hby at_227) (by decide) (by decide) ?_
          exact k)
        exact ⟨T15, _, X15, e15, N15, fun t k => pre21 t (by simpa only [v0_2_320_l12, v0_2_320_l13, v0_2_320_l15, if_neg hc188_1, if_pos hc209_2] using k)⟩
      · have pre22 : ∀ t, Steps p.tables e below (T15.setTop (mkF m 320 #[.val (.int p0), .val (.int p1), .val (.int p2), .val (.int p3), .val (.int p4), .val (.int (2 : Int32)), .val (.int (v0_2_9 p1)), .val (.int (v0_2_20 p1 p2)), .val (.int (v0_2_31 p1 p2 p3)), .val (.int (v0_2_20 p1 p2)), .val (.int (v0_2_78 p1 p2 p4)), .val (.ref b82), .val (.int (v0_2_9 p1)), .val (.int (v0_2_20 p1 p2)), .val (.int (v0_2_31 p1 p2 p3)), .val (.int (0 : Int32)), .unset, .unset] [])) t → Steps p.tables e below (s₁.setTop (entryFrame m #[(.int p0), (.int p1), (.int p2), (.int p3), (.int p4)] maxLocals)) t := fun t k => pre20 t (by
          show Steps p.tables e below (T15.setTop (mkF m 209 #[.val (.int p0), .val (.int p1), .val (.int p2), .val (.int p3), .val (.int p4), .val (.int (2 : Int32)), .val (.int (v0_2_9 p1)), .val (.int (v0_2_20 p1 p2)), .val (.int (v0_2_31 p1 p2 p3)), .val (.int (v0_2_20 p1 p2)), .val (.int (v0_2_78 p1 p2 p4)), .val (.ref b82), .val (.int (v0_2_9 p1)), .val (.int (v0_2_20 p1 p2)), .val (.int (v0_2_31 p1 p2 p3)), .unset, .unset, .unset] [(.int ((v0_2_78 p1 p2 p4) - (2 : Int32))), (.int (v0_2_9 p1))])) _
          refine XS.icmpYes X15.here hx rfl (pc0 := 209) (pc' := 230) rfl (hb hby at_209) rfl (flt hc209_2).2.1 (by decide) (by decide) ?_
          show Steps p.tables e below (T15.setTop (mkF m 230 #[.val (.int p0), .val (.int p1), .val (.int p2), .val (.int p3), .val (.int p4), .val (.int (2 : Int32)), .val (.int (v0_2_9 p1)), .val (.int (v0_2_20 p1 p2)), .val (.int (v0_2_31 p1 p2 p3)), .val (.int (v0_2_20 p1 p2)), .val (.int (v0_2_78 p1 p2 p4)), .val (.ref b82), .val (.int (v0_2_9 p1)), .val (.int (v0_2_20 p1 p2)), .val (.int (v0_2_31 p1 p2 p3)), .unset, .unset, .unset] [])) _
          refine XS.iconst X15.here hx rfl (hb hby at_230) ?_
          show Steps p.tables e below (T15.setTop (mkF m 231 #[.val (.int p0), .val (.int p1), .val (.int p2), .val (.int p3), .val (.int p4), .val (.int (2 : Int32)), .val (.int (v0_2_9 p1)), .val (.int (v0_2_20 p1 p2)), .val (.int (v0_2_31 p1 p2 p3)), .val (.int (v0_2_20 p1 p2)), .val (.int (v0_2_78 p1 p2 p4)), .val (.ref b82), .val (.int (v0_2_9 p1)), .val (.int (v0_2_20 p1 p2)), .val (.int (v0_2_31 p1 p2 p3)), .unset, .unset, .unset] [(.int (0 : Int32))])) _
          refine XS.istore X15.here hx rfl (hb hby at_231) rfl (l' := #[.val (.int p0), .val (.int p1), .val (.int p2), .val (.int p3), .val (.int p4), .val (.int (2 : Int32)), .val (.int (v0_2_9 p1)), .val (.int (v0_2_20 p1 p2)), .val (.int (v0_2_31 p1 p2 p3)), .val (.int (v0_2_20 p1 p2)), .val (.int (v0_2_78 p1 p2 p4)), .val (.ref b82), .val (.int (v0_2_9 p1)), .val (.int (v0_2_20 p1 p2)), .val (.int (v0_2_31 p1 p2 p3)), .val (.int (0 : Int32)), .unset, .unset]) rfl ?_
          show Steps p.tables e below (T15.setTop (mkF m 233 #[.val (.int p0), .val (.int p1), .val (.int p2), .val (.int p3), .val (.int p4), .val (.int (2 : Int32)), .val (.int (v0_2_9 p1)), .val (.int (v0_2_20 p1 p2)), .val (.int (v0_2_31 p1 p2 p3)), .val (.int (v0_2_20 p1 p2)), .val (.int (v0_2_78 p1 p2 p4)), .val (.ref b82), .val (.int (v0_2_9 p1)), .val (.int (v0_2_20 p1 p2)), .val (.int (v0_2_31 p1 p2 p3)), .val (.int (0 : Int32)), .unset, .unset] [])) _
          refine XS.goto X15.here hx rfl (pc0 := 233) (pc' := 320) rfl (hb hby at_233) (by decide) (by decide) ?_
          exact k)
        exact ⟨T15, _, X15, e15, N15, fun t k => pre22 t (by simpa only [v0_2_320_l12, v0_2_320_l13, v0_2_320_l15, if_neg hc188_1, if_neg hc209_2] using k)⟩
  have pre23 : ∀ t, Steps p.tables e below (T18.setTop (mkF m 324 #[.val (.int p0), .val (.int p1), .val (.int p2), .val (.int p3), .val (.int p4), .val (.int (2 : Int32)), .val (.int (v0_2_9 p1)), .val (.int (v0_2_20 p1 p2)), .val (.int (v0_2_31 p1 p2 p3)), .val (.int (v0_2_20 p1 p2)), .val (.int (v0_2_78 p1 p2 p4)), .val (.ref b82), .val (.int (v0_2_320_l12 p1 p2 p4)), .val (.int (v0_2_320_l13 p1 p2 p4)), .val (.int (v0_2_31 p1 p2 p3)), .val (.int (v0_2_320_l15 p1 p2 p4)), .unset, .unset] [(.int (v0_2_78 p1 p2 p4)), (.ref b82)])) t → Steps p.tables e below (s₁.setTop (entryFrame m #[(.int p0), (.int p1), (.int p2), (.int p3), (.int p4)] maxLocals)) t := fun t k => pre18 t (by
    show Steps p.tables e below (T18.setTop (mkF m 320 #[.val (.int p0), .val (.int p1), .val (.int p2), .val (.int p3), .val (.int p4), .val (.int (2 : Int32)), .val (.int (v0_2_9 p1)), .val (.int (v0_2_20 p1 p2)), .val (.int (v0_2_31 p1 p2 p3)), .val (.int (v0_2_20 p1 p2)), .val (.int (v0_2_78 p1 p2 p4)), .val (.ref b82), .val (.int (v0_2_320_l12 p1 p2 p4)), .val (.int (v0_2_320_l13 p1 p2 p4)), .val (.int (v0_2_31 p1 p2 p3)), .val (.int (v0_2_320_l15 p1 p2 p4)), .unset, .unset] [])) _
    refine XS.aload X18.here hx rfl (hb hby at_320) rfl rfl ?_
    show Steps p.tables e below (T18.setTop (mkF m 322 #[.val (.int p0), .val (.int p1), .val (.int p2), .val (.int p3), .val (.int p4), .val (.int (2 : Int32)), .val (.int (v0_2_9 p1)), .val (.int (v0_2_20 p1 p2)), .val (.int (v0_2_31 p1 p2 p3)), .val (.int (v0_2_20 p1 p2)), .val (.int (v0_2_78 p1 p2 p4)), .val (.ref b82), .val (.int (v0_2_320_l12 p1 p2 p4)), .val (.int (v0_2_320_l13 p1 p2 p4)), .val (.int (v0_2_31 p1 p2 p3)), .val (.int (v0_2_320_l15 p1 p2 p4)), .unset, .unset] [(.ref b82)])) _
    refine XS.iload X18.here hx rfl (hb hby at_322) rfl ?_
    exact k)
  obtain ⟨_, _, ⟨T24, L24, k24, n24⟩, -, X24, ⟨Lc24, hQ24, l24, y24, z24⟩, st24⟩ := Jvm.LawKit.callS X18 hx (y := (⟨"com/example/modloc/modloc/localize/Localizer", "advance", "([II)Z"⟩ : MethodName)) hown (mvT hZ (hw _ (List.mem_of_getElem? (i := 1) rfl))) (mvT hZ (hw _ (List.mem_of_getElem? (i := 2) rfl))) (mvT hZ (hw _ (List.mem_of_getElem? (i := 3) rfl))) (mvT hZ (hw _ (List.mem_of_getElem? (i := 4) rfl))) (by decide) (backOf (W := 0) (rm1_2 l Z a0 hw [] b82 (v0_2_78 p1 p2 p4) _ (v0_2_9 p1) (v0_2_20 p1 p2) h15 n0 Z15 V15 gg9) hZ (hw _ (List.mem_of_getElem? (i := 4) rfl)) (hw _ (List.mem_of_getElem? (i := 3) rfl)) (by decide) (by decide)) (g := (mkF m 324 #[.val (.int p0), .val (.int p1), .val (.int p2), .val (.int p3), .val (.int p4), .val (.int (2 : Int32)), .val (.int (v0_2_9 p1)), .val (.int (v0_2_20 p1 p2)), .val (.int (v0_2_31 p1 p2 p3)), .val (.int (v0_2_20 p1 p2)), .val (.int (v0_2_78 p1 p2 p4)), .val (.ref b82), .val (.int (v0_2_320_l12 p1 p2 p4)), .val (.int (v0_2_320_l13 p1 p2 p4)), .val (.int (v0_2_31 p1 p2 p3)), .val (.int (v0_2_320_l15 p1 p2 p4)), .unset, .unset] [(.int (v0_2_78 p1 p2 p4)), (.ref b82)])) rfl (by rw [hml]; rfl) (argsL := [(.ref b82), (.int (v0_2_78 p1 p2 p4))]) (rest := []) (lenOf pd___II_Z rfl) rfl (by show 2 * 0 + _ ≤ _; exact Nat.le_of_eq rfl) (hb hby at_324) (fun _ _ => ⟨rfl, e18, (by decide : 1 + 0 ≤ _), (by decide : 2 + 0 ≤ _)⟩)
  dsimp only [Pt.U, Pt.locs, Pt.cells, Pt.slots] at X24 l24 y24 z24 st24 hQ24
  subst l24 y24 z24
  obtain ⟨rfl, Nq24, Kq24, o24_0⟩ := hQ24
  have N24 := Fr.app N18 Nq24
  have K24 : Keep h0 T24.heap [] := K15.trans Kq24 (allS (Or.inr sz9) all0)
  have Z24 : n0 ≤ T24.heap.size := Nat.le_trans Z15 Kq24.1
  have pre25 : ∀ t, Steps p.tables e below (T24.setTop (mkF m 327 #[.val (.int p0), .val (.int p1), .val (.int p2), .val (.int p3), .val (.int p4), .val (.int (2 : Int32)), .val (.int (v0_2_9 p1)), .val (.int (v0_2_20 p1 p2)), .val (.int (v0_2_31 p1 p2 p3)), .val (.int (v0_2_20 p1 p2)), .val (.int (v0_2_78 p1 p2 p4)), .val (.ref b82), .val (.int (v0_2_320_l12 p1 p2 p4)), .val (.int (v0_2_320_l13 p1 p2 p4)), .val (.int (v0_2_31 p1 p2 p3)), .val (.int (v0_2_320_l15 p1 p2 p4)), .unset, .unset] [(.int (f1_2 (v0_2_78 p1 p2 p4) (v0_2_9 p1) (v0_2_20 p1 p2)))])) t → Steps p.tables e below (s₁.setTop (entryFrame m #[(.int p0), (.int p1), (.int p2), (.int p3), (.int p4)] maxLocals)) t := fun t k => pre23 t (st24 _ k)
  have pre26 : ∀ t, Steps p.tables e below (T24.setTop (mkF m 333 #[.val (.int p0), .val (.int p1), .val (.int p2), .val (.int p3), .val (.int p4), .val (.int (2 : Int32)), .val (.int (v0_2_9 p1)), .val (.int (v0_2_20 p1 p2)), .val (.int (v0_2_31 p1 p2 p3)), .val (.int (v0_2_20 p1 p2)), .val (.int (v0_2_78 p1 p2 p4)), .val (.ref b82), .val (.int (v0_2_320_l12 p1 p2 p4)), .val (.int (v0_2_320_l13 p1 p2 p4)), .val (.int (v0_2_31 p1 p2 p3)), .val (.int (v0_2_320_l15 p1 p2 p4)), .val (.int (v0_2_327 p1 p2 p4)), .unset] [(.int (v0_2_320_l15 p1 p2 p4)), (.int (v0_2_327 p1 p2 p4))])) t → Steps p.tables e below (s₁.setTop (entryFrame m #[(.int p0), (.int p1), (.int p2), (.int p3), (.int p4)] maxLocals)) t := fun t k => pre25 t (by
    show Steps p.tables e below (T24.setTop (mkF m 327 #[.val (.int p0), .val (.int p1), .val (.int p2), .val (.int p3), .val (.int p4), .val (.int (2 : Int32)), .val (.int (v0_2_9 p1)), .val (.int (v0_2_20 p1 p2)), .val (.int (v0_2_31 p1 p2 p3)), .val (.int (v0_2_20 p1 p2)), .val (.int (v0_2_78 p1 p2 p4)), .val (.ref b82), .val (.int (v0_2_320_l12 p1 p2 p4)), .val (.int (v0_2_320_l13 p1 p2 p4)), .val (.int (v0_2_31 p1 p2 p3)), .val (.int (v0_2_320_l15 p1 p2 p4)), .unset, .unset] [(.int (f1_2 (v0_2_78 p1 p2 p4) (v0_2_9 p1) (v0_2_20 p1 p2)))])) _
    refine XS.istore X24.here hx rfl (hb hby at_327) rfl (l' := #[.val (.int p0), .val (.int p1), .val (.int p2), .val (.int p3), .val (.int p4), .val (.int (2 : Int32)), .val (.int (v0_2_9 p1)), .val (.int (v0_2_20 p1 p2)), .val (.int (v0_2_31 p1 p2 p3)), .val (.int (v0_2_20 p1 p2)), .val (.int (v0_2_78 p1 p2 p4)), .val (.ref b82), .val (.int (v0_2_320_l12 p1 p2 p4)), .val (.int (v0_2_320_l13 p1 p2 p4)), .val (.int (v0_2_31 p1 p2 p3)), .val (.int (v0_2_320_l15 p1 p2 p4)), .val (.int (v0_2_327 p1 p2 p4)), .unset]) rfl ?_
    show Steps p.tables e below (T24.setTop (mkF m 329 #[.val (.int p0), .val (.int p1), .val (.int p2), .val (.int p3), .val (.int p4), .val (.int (2 : Int32)), .val (.int (v0_2_9 p1)), .val (.int (v0_2_20 p1 p2)), .val (.int (v0_2_31 p1 p2 p3)), .val (.int (v0_2_20 p1 p2)), .val (.int (v0_2_78 p1 p2 p4)), .val (.ref b82), .val (.int (v0_2_320_l12 p1 p2 p4)), .val (.int (v0_2_320_l13 p1 p2 p4)), .val (.int (v0_2_31 p1 p2 p3)), .val (.int (v0_2_320_l15 p1 p2 p4)), .val (.int (v0_2_327 p1 p2 p4)), .unset] [])) _
    refine XS.iload X24.here hx rfl (hb hby at_329) rfl ?_
    show Steps p.tables e below (T24.setTop (mkF m 331 #[.val (.int p0), .val (.int p1), .val (.int p2), .val (.int p3), .val (.int p4), .val (.int (2 : Int32)), .val (.int (v0_2_9 p1)), .val (.int (v0_2_20 p1 p2)), .val (.int (v0_2_31 p1 p2 p3)), .val (.int (v0_2_20 p1 p2)), .val (.int (v0_2_78 p1 p2 p4)), .val (.ref b82), .val (.int (v0_2_320_l12 p1 p2 p4)), .val (.int (v0_2_320_l13 p1 p2 p4)), .val (.int (v0_2_31 p1 p2 p3)), .val (.int (v0_2_320_l15 p1 p2 p4)), .val (.int (v0_2_327 p1 p2 p4)), .unset] [(.int (v0_2_327 p1 p2 p4))])) _
    refine XS.iload X24.here hx rfl (hb hby at_331) rfl ?_
    exact k)
  by_cases hc333_3 : (v0_2_327 p1 p2 p4) = (v0_2_320_l15 p1 p2 p4)
  · have pre27 : ∀ t, Steps p.tables e below (T24.setTop (mkF m 340 #[.val (.int p0), .val (.int p1), .val (.int p2), .val (.int p3), .val (.int p4), .val (.int (2 : Int32)), .val (.int (v0_2_9 p1)), .val (.int (v0_2_20 p1 p2)), .val (.int (v0_2_31 p1 p2 p3)), .val (.int (v0_2_20 p1 p2)), .val (.int (v0_2_78 p1 p2 p4)), .val (.ref b82), .val (.int (v0_2_320_l12 p1 p2 p4)), .val (.int (v0_2_320_l13 p1 p2 p4)), .val (.int (v0_2_31 p1 p2 p3)), .val (.int (v0_2_320_l15 p1 p2 p4)), .val (.int (v0_2_327 p1 p2 p4)), .unset] [(.int (v0_2_320_l15 p1 p2 p4))])) t → Steps p.tables e below (s₁.setTop (entryFrame m #[(.int p0), (.int p1), (.int p2), (.int p3), (.int p4)] maxLocals)) t := fun t k => pre26 t (by
      show Steps p.tables e below (T24.setTop (mkF m 333 #[.val (.int p0), .val (.int p1), .val (.int p2), .val (.int p3), .val (.int p4), .val (.int (2 : Int32)), .val (.int (v0_2_9 p1)), .val (.int (v0_2_20 p1 p2)), .val (.int (v0_2_31 p1 p2 p3)), .val (.int (v0_2_20 p1 p2)), .val (.int (v0_2_78 p1 p2 p4)), .val (.ref b82), .val (.int (v0_2_320_l12 p1 p2 p4)), .val (.int (v0_2_320_l13 p1 p2 p4)), .val (.int (v0_2_31 p1 p2 p3)), .val (.int (v0_2_320_l15 p1 p2 p4)), .val (.int (v0_2_327 p1 p2 p4)), .unset] [(.int (v0_2_320_l15 p1 p2 p4)), (.int (v0_2_327 p1 p2 p4))])) _
      refine XS.icmpYes X24.here hx rfl (pc0 := 333) (pc' := 338) rfl (hb hby at_333) rfl (teq hc333_3).1 (by decide) (by decide) ?_
      show Steps p.tables e below (T24.setTop (mkF m 338 #[.val (.int p0), .val (.int p1), .val (.int p2), .val (.int p3), .val (.int p4), .val (.int (2 : Int32)), .val (.int (v0_2_9 p1)), .val (.int (v0_2_20 p1 p2)), .val (.int (v0_2_31 p1 p2 p3)), .val (.int (v0_2_20 p1 p2)), .val (.int (v0_2_78 p1 p2 p4)), .val (.ref b82), .val (.int (v0_2_320_l12 p1 p2 p4)), .val (.int (v0_2_320_l13 p1 p2 p4)), .val (.int (v0_2_31 p1 p2 p3)), .val (.int (v0_2_320_l15 p1 p2 p4)), .val (.int (v0_2_327 p1 p2 p4)), .unset] [])) _
      refine XS.iload X24.here hx rfl (hb hby at_338) rfl ?_
      exact k)
    by_cases hc340_4 : (v0_2_320_l15 p1 p2 p4) = (0 : Int32)
    · have pre28 : ∀ t, Steps p.tables e below (T24.setTop (mkF m 344 #[.val (.int p0), .val (.int p1), .val (.int p2), .val (.int p3), .val (.int p4), .val (.int (2 : Int32)), .val (.int (v0_2_9 p1)), .val (.int (v0_2_20 p1 p2)), .val (.int (v0_2_31 p1 p2 p3)), .val (.int (v0_2_20 p1 p2)), .val (.int (v0_2_78 p1 p2 p4)), .val (.ref b82), .val (.int (v0_2_320_l12 p1 p2 p4)), .val (.int (v0_2_320_l13 p1 p2 p4)), .val (.int (v0_2_31 p1 p2 p3)), .val (.int (v0_2_320_l15 p1 p2 p4)), .val (.int (v0_2_327 p1 p2 p4)), .unset] [(.int (1 : Int32))])) t → Steps p.tables e below (s₁.setTop (entryFrame m #[(.int p0), (.int p1), (.int p2), (.int p3), (.int p4)] maxLocals)) t := fun t k => pre27 t (by
        show Steps p.tables e below (T24.setTop (mkF m 340 #[.val (.int p0), .val (.int p1), .val (.int p2), .val (.int p3), .val (.int p4), .val (.int (2 : Int32)), .val (.int (v0_2_9 p1)), .val (.int (v0_2_20 p1 p2)), .val (.int (v0_2_31 p1 p2 p3)), .val (.int (v0_2_20 p1 p2)), .val (.int (v0_2_78 p1 p2 p4)), .val (.ref b82), .val (.int (v0_2_320_l12 p1 p2 p4)), .val (.int (v0_2_320_l13 p1 p2 p4)), .val (.int (v0_2_31 p1 p2 p3)), .val (.int (v0_2_320_l15 p1 p2 p4)), .val (.int (v0_2_327 p1 p2 p4)), .unset] [(.int (v0_2_320_l15 p1 p2 p4))])) _
        refine XS.ifNo X24.here hx rfl (hb hby at_340) rfl ((if0 _ _).trans (teq hc340_4).2) ?_
        show Steps p.tables e below (T24.setTop (mkF m 343 #[.val (.int p0), .val (.int p1), .val (.int p2), .val (.int p3), .val (.int p4), .val (.int (2 : Int32)), .val (.int (v0_2_9 p1)), .val (.int (v0_2_20 p1 p2)), .val (.int (v0_2_31 p1 p2 p3)), .val (.int (v0_2_20 p1 p2)), .val (.int (v0_2_78 p1 p2 p4)), .val (.ref b82), .val (.int (v0_2_320_l12 p1 p2 p4)), .val (.int (v0_2_320_l13 p1 p2 p4)), .val (.int (v0_2_31 p1 p2 p3)), .val (.int (v0_2_320_l15 p1 p2 p4)), .val (.int (v0_2_327 p1 p2 p4)), .unset] [])) _
        refine XS.iconst X24.here hx rfl (hb hby at_343) ?_
        exact k)
      obtain ⟨fs, hr, hrun, hended, hW, hsame⟩ := X24.leave (v := some (.int (1 : Int32))) (fun h => by rw [Bd.returns] at h; cases h)
      refine ⟨_, _, ?_, hrun, hended, _, _, rfl, ?_, ⟨_, rfl⟩, hW, hsame.mono (by decide) (by decide)⟩
      · exact pre28 _ (retN X24 hx (t := .boolean) Bd.returns (by simp) (hb hby at_344) hr)
      · exact ⟨by simp only [f0_2, if_pos hc333_3, if_pos hc340_4], N24, trivial⟩
    · have pre29 : ∀ t, Steps p.tables e below (T24.setTop (mkF m 362 #[.val (.int p0), .val (.int p1), .val (.int p2), .val (.int p3), .val (.int p4), .val (.int (2 : Int32)), .val (.int (v0_2_9 p1)), .val (.int (v0_2_20 p1 p2)), .val (.int (v0_2_31 p1 p2 p3)), .val (.int (v0_2_20 p1 p2)), .val (.int (v0_2_78 p1 p2 p4)), .val (.ref b82), .val (.int (v0_2_320_l12 p1 p2 p4)), .val (.int (v0_2_320_l13 p1 p2 p4)), .val (.int (v0_2_31 p1 p2 p3)), .val (.int (v0_2_320_l15 p1 p2 p4)), .val (.int (v0_2_327 p1 p2 p4)), .val (.int (1 : Int32))] [(.int (0 : Int32)), (.ref b82)])) t → Steps p.tables e below (s₁.setTop (entryFrame m #[(.int p0), (.int p1), (.int p2), (.int p3), (.int p4)] maxLocals)) t := fun t k => pre27 t (by
        show Steps p.tables e below (T24.setTop (mkF m 340 #[.val (.int p0), .val (.int p1), .val (.int p2), .val (.int p3), .val (.int p4), .val (.int (2 : Int32)), .val (.int (v0_2_9 p1)), .val (.int (v0_2_20 p1 p2)), .val (.int (v0_2_31 p1 p2 p3)), .val (.int (v0_2_20 p1 p2)), .val (.int (v0_2_78 p1 p2 p4)), .val (.ref b82), .val (.int (v0_2_320_l12 p1 p2 p4)), .val (.int (v0_2_320_l13 p1 p2 p4)), .val (.int (v0_2_31 p1 p2 p3)), .val (.int (v0_2_320_l15 p1 p2 p4)), .val (.int (v0_2_327 p1 p2 p4)), .unset] [(.int (v0_2_320_l15 p1 p2 p4))])) _
        refine XS.ifYes X24.here hx rfl (pc0 := 340) (pc' := 345) rfl (hb hby at_340) rfl ((if0 _ _).trans (feq hc340_4).2) (by decide) (by decide) ?_
        show Steps p.tables e below (T24.setTop (mkF m 345 #[.val (.int p0), .val (.int p1), .val (.int p2), .val (.int p3), .val (.int p4), .val (.int (2 : Int32)), .val (.int (v0_2_9 p1)), .val (.int (v0_2_20 p1 p2)), .val (.int (v0_2_31 p1 p2 p3)), .val (.int (v0_2_20 p1 p2)), .val (.int (v0_2_78 p1 p2 p4)), .val (.ref b82), .val (.int (v0_2_320_l12 p1 p2 p4)), .val (.int (v0_2_320_l13 p1 p2 p4)), .val (.int (v0_2_31 p1 p2 p3)), .val (.int (v0_2_320_l15 p1 p2 p4)), .val (.int (v0_2_327 p1 p2 p4)), .unset] [])) _
        refine XS.iconst X24.here hx rfl (hb hby at_345) ?_
        show Steps p.tables e below (T24.setTop (mkF m 346 #[.val (.int p0), .val (.int p1), .val (.int p2), .val (.int p3), .val (.int p4), .val (.int (2 : Int32)), .val (.int (v0_2_9 p1)), .val (.int (v0_2_20 p1 p2)), .val (.int (v0_2_31 p1 p2 p3)), .val (.int (v0_2_20 p1 p2)), .val (.int (v0_2_78 p1 p2 p4)), .val (.ref b82), .val (.int (v0_2_320_l12 p1 p2 p4)), .val (.int (v0_2_320_l13 p1 p2 p4)), .val (.int (v0_2_31 p1 p2 p3)), .val (.int (v0_2_320_l15 p1 p2 p4)), .val (.int (v0_2_327 p1 p2 p4)), .unset] [(.int (1 : Int32))])) _
        refine XS.istore X24.here hx rfl (hb hby at_346) rfl (l' := #[.val (.int p0), .val (.int p1), .val (.int p2), .val (.int p3), .val (.int p4), .val (.int (2 : Int32)), .val (.int (v0_2_9 p1)), .val (.int (v0_2_20 p1 p2)), .val (.int (v0_2_31 p1 p2 p3)), .val (.int (v0_2_20 p1 p2)), .val (.int (v0_2_78 p1 p2 p4)), .val (.ref b82), .val (.int (v0_2_320_l12 p1 p2 p4)), .val (.int (v0_2_320_l13 p1 p2 p4)), .val (.int (v0_2_31 p1 p2 p3)), .val (.int (v0_2_320_l15 p1 p2 p4)), .val (.int (v0_2_327 p1 p2 p4)), .val (.int (1 : Int32))]) rfl ?_
        show Steps p.tables e below (T24.setTop (mkF m 348 #[.val (.int p0), .val (.int p1), .val (.int p2), .val (.int p3), .val (.int p4), .val (.int (2 : Int32)), .val (.int (v0_2_9 p1)), .val (.int (v0_2_20 p1 p2)), .val (.int (v0_2_31 p1 p2 p3)), .val (.int (v0_2_20 p1 p2)), .val (.int (v0_2_78 p1 p2 p4)), .val (.ref b82), .val (.int (v0_2_320_l12 p1 p2 p4)), .val (.int (v0_2_320_l13 p1 p2 p4)), .val (.int (v0_2_31 p1 p2 p3)), .val (.int (v0_2_320_l15 p1 p2 p4)), .val (.int (v0_2_327 p1 p2 p4)), .val (.int (1 : Int32))] [])) _
        refine XS.iload X24.here hx rfl (hb hby at_348) rfl ?_
        show Steps p.tables e below (T24.setTop (mkF m 350 #[.val (.int p0), .val (.int p1), .val (.int p2), .val (.int p3), .val (.int p4), .val (.int (2 : Int32)), .val (.int (v0_2_9 p1)), .val (.int (v0_2_20 p1 p2)), .val (.int (v0_2_31 p1 p2 p3)), .val (.int (v0_2_20 p1 p2)), .val (.int (v0_2_78 p1 p2 p4)), .val (.ref b82), .val (.int (v0_2_320_l12 p1 p2 p4)), .val (.int (v0_2_320_l13 p1 p2 p4)), .val (.int (v0_2_31 p1 p2 p3)), .val (.int (v0_2_320_l15 p1 p2 p4)), .val (.int (v0_2_327 p1 p2 p4)), .val (.int (1 : Int32))] [(.int (2 : Int32))])) _
        refine XS.iconst X24.here hx rfl (hb hby at_350) ?_
        show Steps p.tables e below (T24.setTop (mkF m 351 #[.val (.int p0), .val (.int p1), .val (.int p2), .val (.int p3), .val (.int p4), .val (.int (2 : Int32)), .val (.int (v0_2_9 p1)), .val (.int (v0_2_20 p1 p2)), .val (.int (v0_2_31 p1 p2 p3)), .val (.int (v0_2_20 p1 p2)), .val (.int (v0_2_78 p1 p2 p4)), .val (.ref b82), .val (.int (v0_2_320_l12 p1 p2 p4)), .val (.int (v0_2_320_l13 p1 p2 p4)), .val (.int (v0_2_31 p1 p2 p3)), .val (.int (v0_2_320_l15 p1 p2 p4)), .val (.int (v0_2_327 p1 p2 p4)), .val (.int (1 : Int32))] [(.int (1 : Int32)), (.int (2 : Int32))])) _
        refine XS.icmpNo X24.here hx rfl (hb hby at_351) rfl (by decide) ?_
        show Steps p.tables e below (T24.setTop (mkF m 354 #[.val (.int p0), .val (.int p1), .val (.int p2), .val (.int p3), .val (.int p4), .val (.int (2 : Int32)), .val (.int (v0_2_9 p1)), .val (.int (v0_2_20 p1 p2)), .val (.int (v0_2_31 p1 p2 p3)), .val (.int (v0_2_20 p1 p2)), .val (.int (v0_2_78 p1 p2 p4)), .val (.ref b82), .val (.int (v0_2_320_l12 p1 p2 p4)), .val (.int (v0_2_320_l13 p1 p2 p4)), .val (.int (v0_2_31 p1 p2 p3)), .val (.int (v0_2_320_l15 p1 p2 p4)), .val (.int (v0_2_327 p1 p2 p4)), .val (.int (1 : Int32))] [])) _
        refine XS.iload X24.here hx rfl (hb hby at_354) rfl ?_
        show Steps p.tables e below (T24.setTop (mkF m 356 #[.val (.int p0), .val (.int p1), .val (.int p2), .val (.int p3), .val (.int p4), .val (.int (2 : Int32)), .val (.int (v0_2_9 p1)), .val (.int (v0_2_20 p1 p2)), .val (.int (v0_2_31 p1 p2 p3)), .val (.int (v0_2_20 p1 p2)), .val (.int (v0_2_78 p1 p2 p4)), .val (.ref b82), .val (.int (v0_2_320_l12 p1 p2 p4)), .val (.int (v0_2_320_l13 p1 p2 p4)), .val (.int (v0_2_31 p1 p2 p3)), .val (.int (v0_2_320_l15 p1 p2 p4)), .val (.int (v0_2_327 p1 p2 p4)), .val (.int (1 : Int32))] [(.int (1 : Int32))])) _
        refine XS.ifNo X24.here hx rfl (hb hby at_356) rfl (by decide) ?_
        show Steps p.tables e below (T24.setTop (mkF m 359 #[.val (.int p0), .val (.int p1), .val (.int p2), .val (.int p3), .val (.int p4), .val (.int (2 : Int32)), .val (.int (v0_2_9 p1)), .val (.int (v0_2_20 p1 p2)), .val (.int (v0_2_31 p1 p2 p3)), .val (.int (v0_2_20 p1 p2)), .val (.int (v0_2_78 p1 p2 p4)), .val (.ref b82), .val (.int (v0_2_320_l12 p1 p2 p4)), .val (.int (v0_2_320_l13 p1 p2 p4)), .val (.int (v0_2_31 p1 p2 p3)), .val (.int (v0_2_320_l15 p1 p2 p4)), .val (.int (v0_2_327 p1 p2 p4)), .val (.int (1 : Int32))] [])) _
        refine XS.aload X24.here hx rfl (hb hby at_359) rfl rfl ?_
        show Steps p.tables e below (T24.setTop (mkF m 361 #[.val (.int p0), .val (.int p1), .val (.int p2), .val (.int p3), .val (.int p4), .val (.int (2 : Int32)), .val (.int (v0_2_9 p1)), .val (.int (v0_2_20 p1 p2)), .val (.int (v0_2_31 p1 p2 p3)), .val (.int (v0_2_20 p1 p2)), .val (.int (v0_2_78 p1 p2 p4)), .val (.ref b82), .val (.int (v0_2_320_l12 p1 p2 p4)), .val (.int (v0_2_320_l13 p1 p2 p4)), .val (.int (v0_2_31 p1 p2 p3)), .val (.int (v0_2_320_l15 p1 p2 p4)), .val (.int (v0_2_327 p1 p2 p4)), .val (.int (1 : Int32))] [(.ref b82)])) _
        refine XS.iconst X24.here hx rfl (hb hby at_361) ?_
        exact k)
      obtain ⟨cl30, Ar30, -, Sz30, Mn30, Hs30, -⟩ := id o24_0
      have hin30 : ¬ ((0 : Int32) < 0 ∨ cl30.slots.size ≤ ((0 : Int32)).toNatClampNeg) := inb_of Sz30 ⟨by decide, by decide⟩
      have hat30 : cl30.slots[((0 : Int32)).toNatClampNeg]? = some (.int (g1_2_o0_0 (v0_2_78 p1 p2 p4) (v0_2_9 p1) (v0_2_20 p1 p2))) := Hs30.at hin30 rfl
      have pre31 : ∀ t, Steps p.tables e below (T24.setTop (mkF m 363 #[.val (.int p0), .val (.int p1), .val (.int p2), .val (.int p3), .val (.int p4), .val (.int (2 : Int32)), .val (.int (v0_2_9 p1)), .val (.int (v0_2_20 p1 p2)), .val (.int (v0_2_31 p1 p2 p3)), .val (.int (v0_2_20 p1 p2)), .val (.int (v0_2_78 p1 p2 p4)), .val (.ref b82), .val (.int (v0_2_320_l12 p1 p2 p4)), .val (.int (v0_2_320_l13 p1 p2 p4)), .val (.int (v0_2_31 p1 p2 p3)), .val (.int (v0_2_320_l15 p1 p2 p4)), .val (.int (v0_2_327 p1 p2 p4)), .val (.int (1 : Int32))] [(.int (g1_2_o0_0 (v0_2_78 p1 p2 p4) (v0_2_9 p1) (v0_2_20 p1 p2)))])) t → Steps p.tables e below (s₁.setTop (entryFrame m #[(.int p0), (.int p1), (.int p2), (.int p3), (.int p4)] maxLocals)) t := fun t k => pre29 t (by
        show Steps p.tables e below (T24.setTop (mkF m 362 #[.val (.int p0), .val (.int p1), .val (.int p2), .val (.int p3), .val (.int p4), .val (.int (2 : Int32)), .val (.int (v0_2_9 p1)), .val (.int (v0_2_20 p1 p2)), .val (.int (v0_2_31 p1 p2 p3)), .val (.int (v0_2_20 p1 p2)), .val (.int (v0_2_78 p1 p2 p4)), .val (.ref b82), .val (.int (v0_2_320_l12 p1 p2 p4)), .val (.int (v0_2_320_l13 p1 p2 p4)), .val (.int (v0_2_31 p1 p2 p3)), .val (.int (v0_2_320_l15 p1 p2 p4)), .val (.int (v0_2_327 p1 p2 p4)), .val (.int (1 : Int32))] [(.int (0 : Int32)), (.ref b82)])) _
        refine X24.iaload hx (j := (0 : Int32)) (v := (.int (g1_2_o0_0 (v0_2_78 p1 p2 p4) (v0_2_9 p1) (v0_2_20 p1 p2)))) Ar30.1 (State.isArrayOf_alike hZ.alike Ar30.2.1) Ar30.2.2 hin30 hat30 (g := (mkF m 362 #[.val (.int p0), .val (.int p1), .val (.int p2), .val (.int p3), .val (.int p4), .val (.int (2 : Int32)), .val (.int (v0_2_9 p1)), .val (.int (v0_2_20 p1 p2)), .val (.int (v0_2_31 p1 p2 p3)), .val (.int (v0_2_20 p1 p2)), .val (.int (v0_2_78 p1 p2 p4)), .val (.ref b82), .val (.int (v0_2_320_l12 p1 p2 p4)), .val (.int (v0_2_320_l13 p1 p2 p4)), .val (.int (v0_2_31 p1 p2 p3)), .val (.int (v0_2_320_l15 p1 p2 p4)), .val (.int (v0_2_327 p1 p2 p4)), .val (.int (1 : Int32))] [(.int (0 : Int32)), (.ref b82)])) rfl rfl (hb hby at_362) _ ?_
        exact k)
      have pre32 : ∀ t, Steps p.tables e below (T24.setTop (mkF m 365 #[.val (.int p0), .val (.int p1), .val (.int p2), .val (.int p3), .val (.int p4), .val (.int (2 : Int32)), .val (.int (v0_2_9 p1)), .val (.int (v0_2_20 p1 p2)), .val (.int (v0_2_31 p1 p2 p3)), .val (.int (v0_2_20 p1 p2)), .val (.int (v0_2_78 p1 p2 p4)), .val (.ref b82), .val (.int (v0_2_320_l12 p1 p2 p4)), .val (.int (v0_2_320_l13 p1 p2 p4)), .val (.int (v0_2_31 p1 p2 p3)), .val (.int (v0_2_320_l15 p1 p2 p4)), .val (.int (v0_2_327 p1 p2 p4)), .val (.int (1 : Int32))] [(.int (v0_2_320_l12 p1 p2 p4)), (.int (g1_2_o0_0 (v0_2_78 p1 p2 p4) (v0_2_9 p1) (v0_2_20 p1 p2)))])) t → Steps p.tables e below (s₁.setTop (entryFrame m #[(.int p0), (.int p1), (.int p2), (.int p3), (.int p4)] maxLocals)) t := fun t k => pre31 t (by
        show Steps p.tables e below (T24.setTop (mkF m 363 #[.val (.int p0), .val (.int p1), .val (.int p2), .val (.int p3), .val (.int p4), .val (.int (2 : Int32)), .val (.int (v0_2_9 p1)), .val (.int (v0_2_20 p1 p2)), .val (.int (v0_2_31 p1 p2 p3)), .val (.int (v0_2_20 p1 p2)), .val (.int (v0_2_78 p1 p2 p4)), .val (.ref b82), .val (.int (v0_2_320_l12 p1 p2 p4)), .val (.int (v0_2_320_l13 p1 p2 p4)), .val (.int (v0_2_31 p1 p2 p3)), .val (.int (v0_2_320_l15 p1 p2 p4)), .val (.int (v0_2_327 p1 p2 p4)), .val (.int (1 : Int32))] [(.int (g1_2_o0_0 (v0_2_78 p1 p2 p4) (v0_2_9 p1) (v0_2_20 p1 p2)))])) _
        refine XS.iload X24.here hx rfl (hb hby at_363) rfl ?_
        exact k)
      obtain ⟨T33, L33, X33, e33, N33, pre33⟩ : ∃ (T' : State) (L' : List Loc), Stand p l e room_1 s m #[(.int p0), (.int p1), (.int p2), (.int p3), (.int p4)] below meth c T' L' 1 2 ∧ T'.heap = T24.heap ∧ Fr n0 L' ∧ ∀ t, Steps p.tables e below (T'.setTop (mkF m 373 #[.val (.int p0), .val (.int p1), .val (.int p2), .val (.int p3), .val (.int p4), .val (.int (2 : Int32)), .val (.int (v0_2_9 p1)), .val (.int (v0_2_20 p1 p2)), .val (.int (v0_2_31 p1 p2 p3)), .val (.int (v0_2_20 p1 p2)), .val (.int (v0_2_78 p1 p2 p4)), .val (.ref b82), .val (.int (v0_2_320_l12 p1 p2 p4)), .val (.int (v0_2_320_l13 p1 p2 p4)), .val (.int (v0_2_31 p1 p2 p3)), .val (.int (v0_2_320_l15 p1 p2 p4)), .val (.int (v0_2_327 p1 p2 p4)), .val (.int (1 : Int32))] [(.int (v0_2_373_s0 p1 p2 p4))])) t → Steps p.tables e below (s₁.setTop (entryFrame m #[(.int p0), (.int p1), (.int p2), (.int p3), (.int p4)] maxLocals)) t := by
        by_cases hc365_5 : (g1_2_o0_0 (v0_2_78 p1 p2 p4) (v0_2_9 p1) (v0_2_20 p1 p2)) = (v0_2_320_l12 p1 p2 p4)
        · have pre34 : ∀ t, Steps p.tables e below (T24.setTop (mkF m 373 #[.val (.int p0), .val (.int p1), .val (.int p2), .val (.int p3), .val (.int p4), .val (.int (2 : Int32)), .val (.int (v0_2_9 p1)), .val (.int (v0_2_20 p1 p2)), .val (.int (v0_2_31 p1 p2 p3)), .val (.int (v0_2_20 p1 p2)), .val (.int (v0_2_78 p1 p2 p4)), .val (.ref b82), .val (.int (v0_2_320_l12 p1 p2 p4)), .val (.int (v0_2_320_l13 p1 p2 p4)), .val (.int (v0_2_31 p1 p2 p3)), .val (.int (v0_2_320_l15 p1 p2 p4)), .val (.int (v0_2_327 p1 p2 p4)), .val (.int (1 : Int32))] [(.int (1 : Int32))])) t → Steps p.tables e below (s₁.setTop (entryFrame m #[(.int p0), (.int p1), (.int p2), (.int p3), (.int p4)] maxLocals)) t := fun t k => pre32 t (by
            show Steps p.tables e below (T24.setTop (mkF m 365 #[.val (.int p0), .val (.int p1), .val (.int p2), .val (.int p3), .val (.int p4), .val (.int (2 : Int32)), .val (.int (v0_2_9 p1)), .val (.int (v0_2_20 p1 p2)), .val (.int (v0_2_31 p1 p2 p3)), .val (.int (v0_2_20 p1 p2)), .val (.int (v0_2_78 p1 p2 p4)), .val (.ref b82), .val (.int (v0_2_320_l12 p1 p2 p4)), .val (.int (v0_2_320_l13 p1 p2 p4)), .val (.int (v0_2_31 p1 p2 p3)), .val (.int (v0_2_320_l15 p1 p2 p4)), .val (.int (v0_2_327 p1 p2 p4)), .val (.int (1 : Int32))] [(.int (v0_2_320_l12 p1 p2 p4)), (.int (g1_2_o0_0 (v0_2_78 p1 p2 p4) (v0_2_9 p1) (v0_2_20 p1 p2)))])) _
            refine XS.icmpNo X24.here hx rfl (hb hby at_365) rfl (teq hc365_5).2 ?_
            show Steps p.tables e below (T24.setTop (mkF m 368 #[.val (.int p0), .val (.int p1), .val (.int p2), .val (.int p3), .val (.int p4), .val (.int (2 : Int32)), .val (.int (v0_2_9 p1)), .val (.int (v0_2_20 p1 p2)), .val (.int (v0_2_31 p1 p2 p3)), .val (.int (v0_2_20 p1 p2)), .val (.int (v0_2_78 p1 p2 p4)), .val (.ref b82), .val (.int (v0_2_320_l12 p1 p2 p4)), .val (.int (v0_2_320_l13 p1 p2 p4)), .val (.int (v0_2_31 p1 p2 p3)), .val (.int (v0_2_320_l15 p1 p2 p4)), .val (.int (v0_2_327 p1 p2 p4)), .val (.int (1 : Int32))] [])) _
            refine XS.iconst X24.here hx rfl (hb hby at_368) ?_
            show Steps p.tables e below (T24.setTop (mkF m 369 #[.val (.int p0), .val (.int p1), .val (.int p2), .val (.int p3), .val (.int p4), .val (.int (2 : Int32)), .val (.int (v0_2_9 p1)), .val (.int (v0_2_20 p1 p2)), .val (.int (v0_2_31 p1 p2 p3)), .val (.int (v0_2_20 p1 p2)), .val (.int (v0_2_78 p1 p2 p4)), .val (.ref b82), .val (.int (v0_2_320_l12 p1 p2 p4)), .val (.int (v0_2_320_l13 p1 p2 p4)), .val (.int (v0_2_31 p1 p2 p3)), .val (.int (v0_2_320_l15 p1 p2 p4)), .val (.int (v0_2_327 p1 p2 p4)), .val (.int (1 : Int32))] [(.int (1 : Int32))])) _
            refine XS.goto X24.here hx rfl (pc0 := 369) (pc' := 373) rfl (hb hby at_369) (by decide) (by decide) ?_
            exact k)
          exact ⟨T24, _, X24, rfl, N24, fun t k => pre34 t (by simpa only [v0_2_373_s0, if_pos hc365_5] using k)⟩
        · have pre35 : ∀ t, Steps p.tables e below (T24.setTop (mkF m 373 #[.val (.int p0), .val (.int p1), .val (.int p2), .val (.int p3), .val (.int p4), .val (.int (2 : Int32)), .val (.int (v0_2_9 p1)), .val (.int (v0_2_20 p1 p2)), .val (.int (v0_2_31 p1 p2 p3)), .val (.int (v0_2_20 p1 p2)), .val (.int (v0_2_78 p1 p2 p4)), .val (.ref b82), .val (.int (v0_2_320_l12 p1 p2 p4)), .val (.int (v0_2_320_l13 p1 p2 p4)), .val (.int (v0_2_31 p1 p2 p3)), .val (.int (v0_2_320_l15 p1 p2 p4)), .val (.int (v0_2_327 p1 p2 p4)), .val (.int (1 : Int32))] [(.int (0 : Int32))])) t → Steps p.tables e below (s₁.setTop (entryFrame m #[(.int p0), (.int p1), (.int p2), (.int p3), (.int p4)] maxLocals)) t := fun t k => pre32 t (by
            show Steps p.tables e below (T24.setTop (mkF m 365 #[.val (.int p0), .val (.int p1), .val (.int p2), .val (.int p3), .val (.int p4), .val (.int (2 : Int32)), .val (.int (v0_2_9 p1)), .val (.int (v0_2_20 p1 p2)), .val (.int (v0_2_31 p1 p2 p3)), .val (.int (v0_2_20 p1 p2)), .val (.int (v0_2_78 p1 p2 p4)), .val (.ref b82), .val (.int (v0_2_320_l12 p1 p2 p4)), .val (.int (v0_2_320_l13 p1 p2 p4)), .val (.int (v0_2_31 p1 p2 p3)), .val (.int (v0_2_320_l15 p1 p2 p4)), .val (.int (v0_2_327 p1 p2 p4)), .val (.int (1 : Int32))] [(.int (v0_2_320_l12 p1 p2 p4)), (.int (g1_2_o0_0 (v0_2_78 p1 p2 p4) (v0_2_9 p1) (v0_2_20 p1 p2)))])) _
            refine XS.icmpYes X24.here hx rfl (pc0 := 365) (pc' := 372) rfl (hb hby at_365) rfl (feq hc365_5).2 (by decide) (by decide) ?_
            show Steps p.tables e below (T24.setTop (mkF m 372 #[.val (.int p0), .val (.int p1), .val (.int p2), .val (.int p3), .val (.int p4), .val (.int (2 : Int32)), .val (.int (v0_2_9 p1)), .val (.int (v0_2_20 p1 p2)), .val (.int (v0_2_31 p1 p2 p3)), .val (.int (v0_2_20 p1 p2)), .val (.int (v0_2_78 p1 p2 p4)), .val (.ref b82), .val (.int (v0_2_320_l12 p1 p2 p4)), .val (.int (v0_2_320_l13 p1 p2 p4)), .val (.int (v0_2_31 p1 p2 p3)), .val (.int (v0_2_320_l15 p1 p2 p4)), .val (.int (v0_2_327 p1 p2 p4)), .val (.int (1 : Int32))] [])) _
            refine XS.iconst X24.here hx rfl (hb hby at_372) ?_
            exact k)
          exact ⟨T24, _, X24, rfl, N24, fun t k => pre35 t (by simpa only [v0_2_373_s0, if_neg hc365_5] using k)⟩
      have pre36 : ∀ t, Steps p.tables e below (T33.setTop (mkF m 383 #[.val (.int p0), .val (.int p1), .val (.int p2), .val (.int p3), .val (.int p4), .val (.int (2 : Int32)), .val (.int (v0_2_9 p1)), .val (.int (v0_2_20 p1 p2)), .val (.int (v0_2_31 p1 p2 p3)), .val (.int (v0_2_20 p1 p2)), .val (.int (v0_2_78 p1 p2 p4)), .val (.ref b82), .val (.int (v0_2_320_l12 p1 p2 p4)), .val (.int (v0_2_320_l13 p1 p2 p4)), .val (.int (v0_2_31 p1 p2 p3)), .val (.int (v0_2_320_l15 p1 p2 p4)), .val (.int (v0_2_327 p1 p2 p4)), .val (.int (v0_2_373_s0 p1 p2 p4))] [(.int (v0_2_373_s0 p1 p2 p4))])) t → Steps p.tables e below (s₁.setTop (entryFrame m #[(.int p0), (.int p1), (.int p2), (.int p3), (.int p4)] maxLocals)) t := fun t k => pre33 t (by
        show Steps p.tables e below (T33.setTop (mkF m 373 #[.val (.int p0), .val (.int p1), .val (.int p2), .val (.int p3), .val (.int p4), .val (.int (2 : Int32)), .val (.int (v0_2_9 p1)), .val (.int (v0_2_20 p1 p2)), .val (.int (v0_2_31 p1 p2 p3)), .val (.int (v0_2_20 p1 p2)), .val (.int (v0_2_78 p1 p2 p4)), .val (.ref b82), .val (.int (v0_2_320_l12 p1 p2 p4)), .val (.int (v0_2_320_l13 p1 p2 p4)), .val (.int (v0_2_31 p1 p2 p3)), .val (.int (v0_2_320_l15 p1 p2 p4)), .val (.int (v0_2_327 p1 p2 p4)), .val (.int (1 : Int32))] [(.int (v0_2_373_s0 p1 p2 p4))])) _
        refine XS.istore X33.here hx rfl (hb hby at_373) rfl (l' := #[.val (.int p0), .val (.int p1), .val (.int p2), .val (.int p3), .val (.int p4), .val (.int (2 : Int32)), .val (.int (v0_2_9 p1)), .val (.int (v0_2_20 p1 p2)), .val (.int (v0_2_31 p1 p2 p3)), .val (.int (v0_2_20 p1 p2)), .val (.int (v0_2_78 p1 p2 p4)), .val (.ref b82), .val (.int (v0_2_320_l12 p1 p2 p4)), .val (.int (v0_2_320_l13 p1 p2 p4)), .val (.int (v0_2_31 p1 p2 p3)), .val (.int (v0_2_320_l15 p1 p2 p4)), .val (.int (v0_2_327 p1 p2 p4)), .val (.int (v0_2_373_s0 p1 p2 p4))]) rfl ?_
        show Steps p.tables e below (T33.setTop (mkF m 375 #[.val (.int p0), .val (.int p1), .val (.int p2), .val (.int p3), .val (.int p4), .val (.int (2 : Int32)), .val (.int (v0_2_9 p1)), .val (.int (v0_2_20 p1 p2)), .val (.int (v0_2_31 p1 p2 p3)), .val (.int (v0_2_20 p1 p2)), .val (.int (v0_2_78 p1 p2 p4)), .val (.ref b82), .val (.int (v0_2_320_l12 p1 p2 p4)), .val (.int (v0_2_320_l13 p1 p2 p4)), .val (.int (v0_2_31 p1 p2 p3)), .val (.int (v0_2_320_l15 p1 p2 p4)), .val (.int (v0_2_327 p1 p2 p4)), .val (.int (v0_2_373_s0 p1 p2 p4))] [])) _
        refine XS.iload X33.here hx rfl (hb hby at_375) rfl ?_
        show Steps p.tables e below (T33.setTop (mkF m 377 #[.val (.int p0), .val (.int p1), .val (.int p2), .val (.int p3), .val (.int p4), .val (.int (2 : Int32)), .val (.int (v0_2_9 p1)), .val (.int (v0_2_20 p1 p2)), .val (.int (v0_2_31 p1 p2 p3)), .val (.int (v0_2_20 p1 p2)), .val (.int (v0_2_78 p1 p2 p4)), .val (.ref b82), .val (.int (v0_2_320_l12 p1 p2 p4)), .val (.int (v0_2_320_l13 p1 p2 p4)), .val (.int (v0_2_31 p1 p2 p3)), .val (.int (v0_2_320_l15 p1 p2 p4)), .val (.int (v0_2_327 p1 p2 p4)), .val (.int (v0_2_373_s0 p1 p2 p4))] [(.int (2 : Int32))])) _
        refine XS.iconst X33.here hx rfl (hb hby at_377) ?_
        show Steps p.tables e below (T33.setTop (mkF m 378 #[.val (.int p0), .val (.int p1), .val (.int p2), .val (.int p3), .val (.int p4), .val (.int (2 : Int32)), .val (.int (v0_2_9 p1)), .val (.int (v0_2_20 p1 p2)), .val (.int (v0_2_31 p1 p2 p3)), .val (.int (v0_2_20 p1 p2)), .val (.int (v0_2_78 p1 p2 p4)), .val (.ref b82), .val (.int (v0_2_320_l12 p1 p2 p4)), .val (.int (v0_2_320_l13 p1 p2 p4)), .val (.int (v0_2_31 p1 p2 p3)), .val (.int (v0_2_320_l15 p1 p2 p4)), .val (.int (v0_2_327 p1 p2 p4)), .val (.int (v0_2_373_s0 p1 p2 p4))] [(.int (2 : Int32)), (.int (2 : Int32))])) _
        refine XS.icmpNo X33.here hx rfl (hb hby at_378) rfl (by decide) ?_
        show Steps p.tables e below (T33.setTop (mkF m 381 #[.val (.int p0), .val (.int p1), .val (.int p2), .val (.int p3), .val (.int p4), .val (.int (2 : Int32)), .val (.int (v0_2_9 p1)), .val (.int (v0_2_20 p1 p2)), .val (.int (v0_2_31 p1 p2 p3)), .val (.int (v0_2_20 p1 p2)), .val (.int (v0_2_78 p1 p2 p4)), .val (.ref b82), .val (.int (v0_2_320_l12 p1 p2 p4)), .val (.int (v0_2_320_l13 p1 p2 p4)), .val (.int (v0_2_31 p1 p2 p3)), .val (.int (v0_2_320_l15 p1 p2 p4)), .val (.int (v0_2_327 p1 p2 p4)), .val (.int (v0_2_373_s0 p1 p2 p4))] [])) _
        refine XS.iload X33.here hx rfl (hb hby at_381) rfl ?_
        exact k)
      obtain ⟨T37, L37, X37, e37, N37, pre37⟩ : ∃ (T' : State) (L' : List Loc), Stand p l e room_1 s m #[(.int p0), (.int p1), (.int p2), (.int p3), (.int p4)] below meth c T' L' 1 2 ∧ T'.heap = T24.heap ∧ Fr n0 L' ∧ ∀ t, Steps p.tables e below (T'.setTop (mkF m 400 #[.val (.int p0), .val (.int p1), .val (.int p2), .val (.int p3), .val (.int p4), .val (.int (2 : Int32)), .val (.int (v0_2_9 p1)), .val (.int (v0_2_20 p1 p2)), .val (.int (v0_2_31 p1 p2 p3)), .val (.int (v0_2_20 p1 p2)), .val (.int (v0_2_78 p1 p2 p4)), .val (.ref b82), .val (.int (v0_2_320_l12 p1 p2 p4)), .val (.int (v0_2_320_l13 p1 p2 p4)), .val (.int (v0_2_31 p1 p2 p3)), .val (.int (v0_2_320_l15 p1 p2 p4)), .val (.int (v0_2_327 p1 p2 p4)), .val (.int (v0_2_373_s0 p1 p2 p4))] [(.int (v0_2_400_s0 p1 p2 p4))])) t → Steps p.tables e below (s₁.setTop (entryFrame m #[(.int p0), (.int p1), (.int p2), (.int p3), (.int p4)] maxLocals)) t := by
        by_cases hc383_6 : (v0_2_373_s0 p1 p2 p4) = (0 : Int32)
        · have pre38 : ∀ t, Steps p.tables e below (T33.setTop (mkF m 400 #[.val (.int p0), .val (.int p1), .val (.int p2), .val (.int p3), .val (.int p4), .val (.int (2 : Int32)), .val (.int (v0_2_9 p1)), .val (.int (v0_2_20 p1 p2)), .val (.int (v0_2_31 p1 p2 p3)), .val (.int (v0_2_20 p1 p2)), .val (.int (v0_2_78 p1 p2 p4)), .val (.ref b82), .val (.int (v0_2_320_l12 p1 p2 p4)), .val (.int (v0_2_320_l13 p1 p2 p4)), .val (.int (v0_2_31 p1 p2 p3)), .val (.int (v0_2_320_l15 p1 p2 p4)), .val (.int (v0_2_327 p1 p2 p4)), .val (.int (v0_2_373_s0 p1 p2 p4))] [(.int (0 : Int32))])) t → Steps p.tables e below (s₁.setTop (entryFrame m #[(.int p0), (.int p1), (.int p2), (.int p3), (.int p4)] maxLocals)) t := fun t k => pre36 t (by
            show Steps p.tables e below (T33.setTop (mkF m 383 #[.val (.int p0), .val (.int p1), .val (.int p2), .val (.int p3), .val (.int p4), .val (.int (2 : Int32)), .val (.int (v0_2_9 p1)), .val (.int (v0_2_20 p1 p2)), .val (.int (v0_2_31 p1 p2 p3)), .val (.int (v0_2_20 p1 p2)), .val (.int (v0_2_78 p1 p2 p4)), .val (.ref b82), .val (.int (v0_2_320_l12 p1 p2 p4)), .val (.int (v0_2_320_l13 p1 p2 p4)), .val (.int (v0_2_31 p1 p2 p3)), .val (.int (v0_2_320_l15 p1 p2 p4)), .val (.int (v0_2_327 p1 p2 p4)), .val (.int (v0_2_373_s0 p1 p2 p4))] [(.int (v0_2_373_s0 p1 p2 p4))])) _
            refine XS.ifYes X33.here hx rfl (pc0 := 383) (pc' := 399) rfl (hb hby at_383) rfl ((if0 _ _).trans (teq hc383_6).1) (by decide) (by decide) ?_
            show Steps p.tables e below (T33.setTop (mkF m 399 #[.val (.int p0), .val (.int p1), .val (.int p2), .val (.int p3), .val (.int p4), .val (.int (2 : Int32)), .val (.int (v0_2_9 p1)), .val (.int (v0_2_20 p1 p2)), .val (.int (v0_2_31 p1 p2 p3)), .val (.int (v0_2_20 p1 p2)), .val (.int (v0_2_78 p1 p2 p4)), .val (.ref b82), .val (.int (v0_2_320_l12 p1 p2 p4)), .val (.int (v0_2_320_l13 p1 p2 p4)), .val (.int (v0_2_31 p1 p2 p3)), .val (.int (v0_2_320_l15 p1 p2 p4)), .val (.int (v0_2_327 p1 p2 p4)), .val (.int (v0_2_373_s0 p1 p2 p4))] [])) _
            refine XS.iconst X33.here hx rfl (hb hby at_399) ?_
            exact k)
          exact ⟨T33, _, X33, e33, N33, fun t k => pre38 t (by simpa only [v0_2_400_s0, if_pos hc383_6] using k)⟩
        · have pre39 : ∀ t, Steps p.tables e below (T33.setTop (mkF m 389 #[.val (.int p0), .val (.int p1), .val (.int p2), .val (.int p3), .val (.int p4), .val (.int (2 : Int32)), .val (.int (v0_2_9 p1)), .val (.int (v0_2_20 p1 p2)), .val (.int (v0_2_31 p1 p2 p3)), .val (.int (v0_2_20 p1 p2)), .val (.int (v0_2_78 p1 p2 p4)), .val (.ref b82), .val (.int (v0_2_320_l12 p1 p2 p4)), .val (.int (v0_2_320_l13 p1 p2 p4)), .val (.int (v0_2_31 p1 p2 p3)), .val (.int (v0_2_320_l15 p1 p2 p4)), .val (.int (v0_2_327 p1 p2 p4)), .val (.int (v0_2_373_s0 p1 p2 p4))] [(.int (1 : Int32)), (.ref b82)])) t → Steps p.tables e below (s₁.setTop (entryFrame m #[(.int p0), (.int p1), (.int p2), (.int p3), (.int p4)] maxLocals)) t := fun t k => pre36 t (by
            show Steps p.tables e below (T33.setTop (mkF m 383 #[.val (.int p0), .val (.int p1), .val (.int p2), .val (.int p3), .val (.int p4), .val (.int (2 : Int32)), .val (.int (v0_2_9 p1)), .val (.int (v0_2_20 p1 p2)), .val (.int (v0_2_31 p1 p2 p3)), .val (.int (v0_2_20 p1 p2)), .val (.int (v0_2_78 p1 p2 p4)), .val (.ref b82), .val (.int (v0_2_320_l12 p1 p2 p4)), .val (.int (v0_2_320_l13 p1 p2 p4)), .val (.int (v0_2_31 p1 p2 p3)), .val (.int (v0_2_320_l15 p1 p2 p4)), .val (.int (v0_2_327 p1 p2 p4)), .val (.int (v0_2_373_s0 p1 p2 p4))] [(.int (v0_2_373_s0 p1 p2 p4))])) _
            refine XS.ifNo X33.here hx rfl (hb hby at_383) rfl ((if0 _ _).trans (feq hc383_6).1) ?_
            show Steps p.tables e below (T33.setTop (mkF m 386 #[.val (.int p0), .val (.int p1), .val (.int p2), .val (.int p3), .val (.int p4), .val (.int (2 : Int32)), .val (.int (v0_2_9 p1)), .val (.int (v0_2_20 p1 p2)), .val (.int (v0_2_31 p1 p2 p3)), .val (.int (v0_2_20 p1 p2)), .val (.int (v0_2_78 p1 p2 p4)), .val (.ref b82), .val (.int (v0_2_320_l12 p1 p2 p4)), .val (.int (v0_2_320_l13 p1 p2 p4)), .val (.int (v0_2_31 p1 p2 p3)), .val (.int (v0_2_320_l15 p1 p2 p4)), .val (.int (v0_2_327 p1 p2 p4)), .val (.int (v0_2_373_s0 p1 p2 p4))] [])) _
            refine XS.aload X33.here hx rfl (hb hby at_386) rfl rfl ?_
            show Steps p.tables e below (T33.setTop (mkF m 388 #[.val (.int p0), .val (.int p1), .val (.int p2), .val (.int p3), .val (.int p4), .val (.int (2 : Int32)), .val (.int (v0_2_9 p1)), .val (.int (v0_2_20 p1 p2)), .val (.int (v0_2_31 p1 p2 p3)), .val (.int (v0_2_20 p1 p2)), .val (.int (v0_2_78 p1 p2 p4)), .val (.ref b82), .val (.int (v0_2_320_l12 p1 p2 p4)), .val (.int (v0_2_320_l13 p1 p2 p4)), .val (.int (v0_2_31 p1 p2 p3)), .val (.int (v0_2_320_l15 p1 p2 p4)), .val (.int (v0_2_327 p1 p2 p4)), .val (.int (v0_2_373_s0 p1 p2 p4))] [(.ref b82)])) _
            refine XS.iconst X33.here hx rfl (hb hby at_388) ?_
            exact k)
          obtain ⟨cl40, Ar40, -, Sz40, Mn40, Hs40, -⟩ := id o24_0
          have hin40 : ¬ ((1 : Int32) < 0 ∨ cl40.slots.size ≤ ((1 : Int32)).toNatClampNeg) := inb_of Sz40 ⟨by decide, by decide⟩
          have hat40 : cl40.slots[((1 : Int32)).toNatClampNeg]? = some (.int (g1_2_o0_1 (v0_2_78 p1 p2 p4) (v0_2_9 p1) (v0_2_20 p1 p2))) := Hs40.at hin40 rfl
          have pre41 : ∀ t, Steps p.tables e below (T33.setTop (mkF m 390 #[.val (.int p0), .val (.int p1), .val (.int p2), .val (.int p3), .val (.int p4), .val (.int (2 : Int32)), .val (.int (v0_2_9 p1)), .val (.int (v0_2_20 p1 p2)), .val (.int (v0_2_31 p1 p2 p3)), .val (.int (v0_2_20 p1 p2)), .val (.int (v0_2_78 p1 p2 p4)), .val (.ref b82), .val (.int (v0_2_320_l12 p1 p2 p4)), .val (.int (v0_2_320_l13 p1 p2 p4)), .val (.int (v0_2_31 p1 p2 p3)), .val (.int (v0_2_320_l15 p1 p2 p4)), .val (.int (v0_2_327 p1 p2 p4)), .val (.int (v0_2_373_s0 p1 p2 p4))] [(.int (g1_2_o0_1 (v0_2_78 p1 p2 p4) (v0_2_9 p1) (v0_2_20 p1 p2)))])) t → Steps p.tables e below (s₁.setTop (entryFrame m #[(.int p0), (.int p1), (.int p2), (.int p3), (.int p4)] maxLocals)) t := fun t k => pre39 t (by
            show Steps p.tables e below (T33.setTop (mkF m 389 #[.val (.int p0), .val (.int p1), .val (.int p2), .val (.int p3), .val (.int p4), .val (.int (2 : Int32)), .val (.int (v0_2_9 p1)), .val (.int (v0_2_20 p1 p2)), .val (.int (v0_2_31 p1 p2 p3)), .val (.int (v0_2_20 p1 p2)), .val (.int (v0_2_78 p1 p2 p4)), .val (.ref b82), .val (.int (v0_2_320_l12 p1 p2 p4)), .val (.int (v0_2_320_l13 p1 p2 p4)), .val (.int (v0_2_31 p1 p2 p3)), .val (.int (v0_2_320_l15 p1 p2 p4)), .val (.int (v0_2_327 p1 p2 p4)), .val (.int (v0_2_373_s0 p1 p2 p4))] [(.int (1 : Int32)), (.ref b82)])) _
            refine X33.iaload hx (j := (1 : Int32)) (v := (.int (g1_2_o0_1 (v0_2_78 p1 p2 p4) (v0_2_9 p1) (v0_2_20 p1 p2)))) (by rw [e33]; exact Ar40.1) (State.isArrayOf_alike hZ.alike Ar40.2.1) Ar40.2.2 hin40 hat40 (g := (mkF m 389 #[.val (.int p0), .val (.int p1), .val (.int p2), .val (.int p3), .val (.int p4), .val (.int (2 : Int32)), .val (.int (v0_2_9 p1)), .val (.int (v0_2_20 p1 p2)), .val (.int (v0_2_31 p1 p2 p3)), .val (.int (v0_2_20 p1 p2)), .val (.int (v0_2_78 p1 p2 p4)), .val (.ref b82), .val (.int (v0_2_320_l12 p1 p2 p4)), .val (.int (v0_2_320_l13 p1 p2 p4)), .val (.int (v0_2_31 p1 p2 p3)), .val (.int (v0_2_320_l15 p1 p2 p4)), .val (.int (v0_2_327 p1 p2 p4)), .val (.int (v0_2_373_s0 p1 p2 p4))] [(.int (1 : Int32)), (.ref b82)])) rfl rfl (hb hby at_389) _ ?_
            exact k)
          have pre42 : ∀ t, Steps p.tables e below (T33.setTop (mkF m 392 #[.val (.int p0), .val (.int p1), .val (.int p2), .val (.int p3), .val (.int p4), .val (.int (2 : Int32)), .val (.int (v0_2_9 p1)), .val (.int (v0_2_20 p1 p2)), .val (.int (v0_2_31 p1 p2 p3)), .val (.int (v0_2_20 p1 p2)), .val (.int (v0_2_78 p1 p2 p4)), .val (.ref b82), .val (.int (v0_2_320_l12 p1 p2 p4)), .val (.int (v0_2_320_l13 p1 p2 p4)), .val (.int (v0_2_31 p1 p2 p3)), .val (.int (v0_2_320_l15 p1 p2 p4)), .val (.int (v0_2_327 p1 p2 p4)), .val (.int (v0_2_373_s0 p1 p2 p4))] [(.int (v0_2_320_l13 p1 p2 p4)), (.int (g1_2_o0_1 (v0_2_78 p1 p2 p4) (v0_2_9 p1) (v0_2_20 p1 p2)))])) t → Steps p.tables e below (s₁.setTop (entryFrame m #[(.int p0), (.int p1), (.int p2), (.int p3), (.int p4)] maxLocals)) t := fun t k => pre41 t (by
            show Steps p.tables e below (T33.setTop (mkF m 390 #[.val (.int p0), .val (.int p1), .val (.int p2), .val (.int p3), .val (.int p4), .val (.int (2 : Int32)), .val (.int (v0_2_9 p1)), .val (.int (v0_2_20 p1 p2)), .val (.int (v0_2_31 p1 p2 p3)), .val (.int (v0_2_20 p1 p2)), .val (.int (v0_2_78 p1 p2 p4)), .val (.ref b82), .val (.int (v0_2_320_l12 p1 p2 p4)), .val (.int (v0_2_320_l13 p1 p2 p4)), .val (.int (v0_2_31 p1 p2 p3)), .val (.int (v0_2_320_l15 p1 p2 p4)), .val (.int (v0_2_327 p1 p2 p4)), .val (.int (v0_2_373_s0 p1 p2 p4))] [(.int (g1_2_o0_1 (v0_2_78 p1 p2 p4) (v0_2_9 p1) (v0_2_20 p1 p2)))])) _
            refine XS.iload X33.here hx rfl (hb hby at_390) rfl ?_
            exact k)
          by_cases hc392_7 : (g1_2_o0_1 (v0_2_78 p1 p2 p4) (v0_2_9 p1) (v0_2_20 p1 p2)) = (v0_2_320_l13 p1 p2 p4)
          · have pre43 : ∀ t, Steps p.tables e below (T33.setTop (mkF m 400 #[.val (.int p0), .val (.int p1), .val (.int p2), .val (.int p3), .val (.int p4), .val (.int (2 : Int32)), .val (.int (v0_2_9 p1)), .val (.int (v0_2_20 p1 p2)), .val (.int (v0_2_31 p1 p2 p3)), .val (.int (v0_2_20 p1 p2)), .val (.int (v0_2_78 p1 p2 p4)), .val (.ref b82), .val (.int (v0_2_320_l12 p1 p2 p4)), .val (.int (v0_2_320_l13 p1 p2 p4)), .val (.int (v0_2_31 p1 p2 p3)), .val (.int (v0_2_320_l15 p1 p2 p4)), .val (.int (v0_2_327 p1 p2 p4)), .val (.int (v0_2_373_s0 p1 p2 p4))] [(.int (1 : Int32))])) t → Steps p.tables e below (s₁.setTop (entryFrame m #[(.int p0), (.int p1), (.int p2), (.int p3), (.int p4)] maxLocals)) t := fun t k => pre42 t (by
              show Steps p.tables e below (T33.setTop (mkF m 392 #[.val (.int p0), .val (.int p1), .val (.int p2), .val (.int p3), .val (.int p4), .val (.int (2 : Int32)), .val (.int (v0_2_9 p1)), .val (.int (v0_2_20 p1 p2)), .val (.int (v0_2_31 p1 p2 p3)), .val (.int (v0_2_20 p1 p2)), .val (.int (v0_2_78 p1 p2 p4)), .val (.ref b82), .val (.int (v0_2_320_l12 p1 p2 p4)), .val (.int (v0_2_320_l13 p1 p2 p4)), .val (.int (v0_2_31 p1 p2 p3)), .val (.int (v0_2_320_l15 p1 p2 p4)), .val (.int (v0_2_327 p1 p2 p4)), .val (.int (v0_2_373_s0 p1 p2 p4))] [(.int (v0_2_320_l13 p1 p2 p4)), (.int (g1_2_o0_1 (v0_2_78 p1 p2 p4) (v0_2_9 p1) (v0_2_20 p1 p2)))])) _
              refine XS.icmpNo X33.here hx rfl (hb hby at_392) rfl (teq hc392_7).2 ?_
              show Steps p.tables e below (T33.setTop (mkF m 395 #[.val (.int p0), .val (.int p1), .val (.int p2), .val (.int p3), .val (.int p4), .val (.int (2 : Int32)), .val (.int (v0_2_9 p1)), .val (.int (v0_2_20 p1 p2)), .val (.int (v0_2_31 p1 p2 p3)), .val (.int (v0_2_20 p1 p2)), .val (.int (v0_2_78 p1 p2 p4)), .val (.ref b82), .val (.int (v0_2_320_l12 p1 p2 p4)), .val (.int (v0_2_320_l13 p1 p2 p4)), .val (.int (v0_2_31 p1 p2 p3)), .val (.int (v0_2_320_l15 p1 p2 p4)), .val (.int (v0_2_327 p1 p2 p4)), .val (.int (v0_2_373_s0 p1 p2 p4))] [])) _
              refine XS.iconst X33.here hx rfl (hb hby at_395) ?_
              show Steps p.tables e below (T33.setTop (mkF m 396 #[.val (.int p0), .val (.int p1), .val (.int p2), .val (.int p3), .val (.int p4), .val (.int (2 : Int32)), .val (.int (v0_2_9 p1)), .val (.int (v0_2_20 p1 p2)), .val (.int (v0_2_31 p1 p2 p3)), .val (.int (v0_2_20 p1 p2)), .val (.int (v0_2_78 p1 p2 p4)), .val (.ref b82), .val (.int (v0_2_320_l12 p1 p2 p4)), .val (.int (v0_2_320_l13 p1 p2 p4)), .val (.int (v0_2_31 p1 p2 p3)), .val (.int (v0_2_320_l15 p1 p2 p4)), .val (.int (v0_2_327 p1 p2 p4)), .val (.int (v0_2_373_s0 p1 p2 p4))] [(.int (1 : Int32))])) _
              refine XS.goto X33.here hx rfl (pc0 := 396) (pc' := 400) rfl (hb hby at_396) (by decide) (by decide) ?_
              exact k)
            exact ⟨T33, _, X33, e33, N33, fun t k => pre43 t (by simpa only [v0_2_400_s0, if_neg hc383_6, if_pos hc392_7] using k)⟩
          · have pre44 : ∀ t, Steps p.tables e below (T33.setTop (mkF m 400 #[.val (.int p0), .val (.int p1), .val (.int p2), .val (.int p3), .val (.int p4), .val (.int (2 : Int32)), .val (.int (v0_2_9 p1)), .val (.int (v0_2_20 p1 p2)), .val (.int (v0_2_31 p1 p2 p3)), .val (.int (v0_2_20 p1 p2)), .val (.int (v0_2_78 p1 p2 p4)), .val (.ref b82), .val (.int (v0_2_320_l12 p1 p2 p4)), .val (.int (v0_2_320_l13 p1 p2 p4)), .val (.int (v0_2_31 p1 p2 p3)), .val (.int (v0_2_320_l15 p1 p2 p4)), .val (.int (v0_2_327 p1 p2 p4)), .val (.int (v0_2_373_s0 p1 p2 p4))] [(.int (0 : Int32))])) t → Steps p.tables e below (s₁.setTop (entryFrame m #[(.int p0), (.int p1), (.int p2), (.int p3), (.int p4)] maxLocals)) t := fun t k => pre42 t (by
              show Steps p.tables e below (T33.setTop (mkF m 392 #[.val (.int p0), .val (.int p1), .val (.int p2), .val (.int p3), .val (.int p4), .val (.int (2 : Int32)), .val (.int (v0_2_9 p1)), .val (.int (v0_2_20 p1 p2)), .val (.int (v0_2_31 p1 p2 p3)), .val (.int (v0_2_20 p1 p2)), .val (.int (v0_2_78 p1 p2 p4)), .val (.ref b82), .val (.int (v0_2_320_l12 p1 p2 p4)), .val (.int (v0_2_320_l13 p1 p2 p4)), .val (.int (v0_2_31 p1 p2 p3)), .val (.int (v0_2_320_l15 p1 p2 p4)), .val (.int (v0_2_327 p1 p2 p4)), .val (.int (v0_2_373_s0 p1 p2 p4))] [(.int (v0_2_320_l13 p1 p2 p4)), (.int (g1_2_o0_1 (v0_2_78 p1 p2 p4) (v0_2_9 p1) (v0_2_20 p1 p2)))])) _
              refine XS.icmpYes X33.here hx rfl (pc0 := 392) (pc' := 399) rfl (hb hby at_392) rfl (feq hc392_7).2 (by decide) (by decide) ?_
              show Steps p.tables e below (T33.setTop (mkF m 399 #[.val (.int p0), .val (.int p1), .val (.int p2), .val (.int p3), .val (.int p4), .val (.int (2 : Int32)), .val (.int (v0_2_9 p1)), .val (.int (v0_2_20 p1 p2)), .val (.int (v0_2_31 p1 p2 p3)), .val (.int (v0_2_20 p1 p2)), .val (.int (v0_2_78 p1 p2 p4)), .val (.ref b82), .val (.int (v0_2_320_l12 p1 p2 p4)), .val (.int (v0_2_320_l13 p1 p2 p4)), .val (.int (v0_2_31 p1 p2 p3)), .val (.int (v0_2_320_l15 p1 p2 p4)), .val (.int (v0_2_327 p1 p2 p4)), .val (.int (v0_2_373_s0 p1 p2 p4))] [])) _
              refine XS.iconst X33.here hx rfl (hb hby at_399) ?_
              exact k)
            exact ⟨T33, _, X33, e33, N33, fun t k => pre44 t (by simpa only [v0_2_400_s0, if_neg hc383_6, if_neg hc392_7] using k)⟩
      have pre45 : ∀ t, Steps p.tables e below (T37.setTop (mkF m 431 #[.val (.int p0), .val (.int p1), .val (.int p2), .val (.int p3), .val (.int p4), .val (.int (2 : Int32)), .val (.int (v0_2_9 p1)), .val (.int (v0_2_20 p1 p2)), .val (.int (v0_2_31 p1 p2 p3)), .val (.int (v0_2_20 p1 p2)), .val (.int (v0_2_78 p1 p2 p4)), .val (.ref b82), .val (.int (v0_2_320_l12 p1 p2 p4)), .val (.int (v0_2_320_l13 p1 p2 p4)), .val (.int (v0_2_31 p1 p2 p3)), .val (.int (v0_2_320_l15 p1 p2 p4)), .val (.int (v0_2_327 p1 p2 p4)), .val (.int (v0_2_400_s0 p1 p2 p4))] [(.int (v0_2_400_s0 p1 p2 p4))])) t → Steps p.tables e below (s₁.setTop (entryFrame m #[(.int p0), (.int p1), (.int p2), (.int p3), (.int p4)] maxLocals)) t := fun t k => pre37 t (by
        show Steps p.tables e below (T37.setTop (mkF m 400 #[.val (.int p0), .val (.int p1), .val (.int p2), .val (.int p3), .val (.int p4), .val (.int (2 : Int32)), .val (.int (v0_2_9 p1)), .val (.int (v0_2_20 p1 p2)), .val (.int (v0_2_31 p1 p2 p3)), .val (.int (v0_2_20 p1 p2)), .val (.int (v0_2_78 p1 p2 p4)), .val (.ref b82), .val (.int (v0_2_320_l12 p1 p2 p4)), .val (.int (v0_2_320_l13 p1 p2 p4)), .val (.int (v0_2_31 p1 p2 p3)), .val (.int (v0_2_320_l15 p1 p2 p4)), .val (.int (v0_2_327 p1 p2 p4)), .val (.int (v0_2_373_s0 p1 p2 p4))] [(.int (v0_2_400_s0 p1 p2 p4))])) _
        refine XS.istore X37.here hx rfl (hb hby at_400) rfl (l' := #[.val (.int p0), .val (.int p1), .val (.int p2), .val (.int p3), .val (.int p4), .val (.int (2 : Int32)), .val (.int (v0_2_9 p1)), .val (.int (v0_2_20 p1 p2)), .val (.int (v0_2_31 p1 p2 p3)), .val (.int (v0_2_20 p1 p2)), .val (.int (v0_2_78 p1 p2 p4)), .val (.ref b82), .val (.int (v0_2_320_l12 p1 p2 p4)), .val (.int (v0_2_320_l13 p1 p2 p4)), .val (.int (v0_2_31 p1 p2 p3)), .val (.int (v0_2_320_l15 p1 p2 p4)), .val (.int (v0_2_327 p1 p2 p4)), .val (.int (v0_2_400_s0 p1 p2 p4))]) rfl ?_
        show Steps p.tables e below (T37.setTop (mkF m 402 #[.val (.int p0), .val (.int p1), .val (.int p2), .val (.int p3), .val (.int p4), .val (.int (2 : Int32)), .val (.int (v0_2_9 p1)), .val (.int (v0_2_20 p1 p2)), .val (.int (v0_2_31 p1 p2 p3)), .val (.int (v0_2_20 p1 p2)), .val (.int (v0_2_78 p1 p2 p4)), .val (.ref b82), .val (.int (v0_2_320_l12 p1 p2 p4)), .val (.int (v0_2_320_l13 p1 p2 p4)), .val (.int (v0_2_31 p1 p2 p3)), .val (.int (v0_2_320_l15 p1 p2 p4)), .val (.int (v0_2_327 p1 p2 p4)), .val (.int (v0_2_400_s0 p1 p2 p4))] [])) _
        refine XS.iload X37.here hx rfl (hb hby at_402) rfl ?_
        show Steps p.tables e below (T37.setTop (mkF m 404 #[.val (.int p0), .val (.int p1), .val (.int p2), .val (.int p3), .val (.int p4), .val (.int (2 : Int32)), .val (.int (v0_2_9 p1)), .val (.int (v0_2_20 p1 p2)), .val (.int (v0_2_31 p1 p2 p3)), .val (.int (v0_2_20 p1 p2)), .val (.int (v0_2_78 p1 p2 p4)), .val (.ref b82), .val (.int (v0_2_320_l12 p1 p2 p4)), .val (.int (v0_2_320_l13 p1 p2 p4)), .val (.int (v0_2_31 p1 p2 p3)), .val (.int (v0_2_320_l15 p1 p2 p4)), .val (.int (v0_2_327 p1 p2 p4)), .val (.int (v0_2_400_s0 p1 p2 p4))] [(.int (2 : Int32))])) _
        refine XS.iconst X37.here hx rfl (hb hby at_404) ?_
        show Steps p.tables e below (T37.setTop (mkF m 405 #[.val (.int p0), .val (.int p1), .val (.int p2), .val (.int p3), .val (.int p4), .val (.int (2 : Int32)), .val (.int (v0_2_9 p1)), .val (.int (v0_2_20 p1 p2)), .val (.int (v0_2_31 p1 p2 p3)), .val (.int (v0_2_20 p1 p2)), .val (.int (v0_2_78 p1 p2 p4)), .val (.ref b82), .val (.int (v0_2_320_l12 p1 p2 p4)), .val (.int (v0_2_320_l13 p1 p2 p4)), .val (.int (v0_2_31 p1 p2 p3)), .val (.int (v0_2_320_l15 p1 p2 p4)), .val (.int (v0_2_327 p1 p2 p4)), .val (.int (v0_2_400_s0 p1 p2 p4))] [(.int (3 : Int32)), (.int (2 : Int32))])) _
        refine XS.icmpYes X37.here hx rfl (pc0 := 405) (pc' := 429) rfl (hb hby at_405) rfl (by decide) (by decide) (by decide) ?_
        show Steps p.tables e below (T37.setTop (mkF m 429 #[.val (.int p0), .val (.int p1), .val (.int p2), .val (.int p3), .val (.int p4), .val (.int (2 : Int32)), .val (.int (v0_2_9 p1)), .val (.int (v0_2_20 p1 p2)), .val (.int (v0_2_31 p1 p2 p3)), .val (.int (v0_2_20 p1 p2)), .val (.int (v0_2_78 p1 p2 p4)), .val (.ref b82), .val (.int (v0_2_320_l12 p1 p2 p4)), .val (.int (v0_2_320_l13 p1 p2 p4)), .val (.int (v0_2_31 p1 p2 p3)), .val (.int (v0_2_320_l15 p1 p2 p4)), .val (.int (v0_2_327 p1 p2 p4)), .val (.int (v0_2_400_s0 p1 p2 p4))] [])) _
        refine XS.iload X37.here hx rfl (hb hby at_429) rfl ?_
        exact k)
      obtain ⟨fs, hr, hrun, hended, hW, hsame⟩ := X37.leave (v := some (.int (nar .boolean (v0_2_400_s0 p1 p2 p4)))) (fun h => by rw [Bd.returns] at h; cases h)
      refine ⟨_, _, ?_, hrun, hended, _, _, rfl, ?_, ⟨_, rfl⟩, hW, hsame.mono (by decide) (by decide)⟩
      · exact pre45 _ (retN X37 hx (t := .boolean) Bd.returns (by simp) (hb hby at_431) hr)
      · exact ⟨by simp only [f0_2, if_pos hc333_3, if_neg hc340_4], N37, trivial⟩
  · have pre46 : ∀ t, Steps p.tables e below (T24.setTop (mkF m 337 #[.val (.int p0), .val (.int p1), .val (.int p2), .val (.int p3), .val (.int p4), .val (.int (2 : Int32)), .val (.int (v0_2_9 p1)), .val (.int (v0_2_20 p1 p2)), .val (.int (v0_2_31 p1 p2 p3)), .val (.int (v0_2_20 p1 p2)), .val (.int (v0_2_78 p1 p2 p4)), .val (.ref b82), .val (.int (v0_2_320_l12 p1 p2 p4)), .val (.int (v0_2_320_l13 p1 p2 p4)), .val (.int (v0_2_31 p1 p2 p3)), .val (.int (v0_2_320_l15 p1 p2 p4)), .val (.int (v0_2_327 p1 p2 p4)), .unset] [(.int (0 : Int32))])) t → Steps p.tables e below (s₁.setTop (entryFrame m #[(.int p0), (.int p1), (.int p2), (.int p3), (.int p4)] maxLocals)) t := fun t k => pre26 t (by
      show Steps p.tables e below (T24.setTop (mkF m 333 #[.val (.int p0), .val (.int p1), .val (.int p2), .val (.int p3), .val (.int p4), .val (.int (2 : Int32)), .val (.int (v0_2_9 p1)), .val (.int (v0_2_20 p1 p2)), .val (.int (v0_2_31 p1 p2 p3)), .val (.int (v0_2_20 p1 p2)), .val (.int (v0_2_78 p1 p2 p4)), .val (.ref b82), .val (.int (v0_2_320_l12 p1 p2 p4)), .val (.int (v0_2_320_l13 p1 p2 p4)), .val (.int (v0_2_31 p1 p2 p3)), .val (.int (v0_2_320_l15 p1 p2 p4)), .val (.int (v0_2_327 p1 p2 p4)), .unset] [(.int (v0_2_320_l15 p1 p2 p4)), (.int (v0_2_327 p1 p2 p4))])) _
      refine XS.icmpNo X24.here hx rfl (hb hby at_333) rfl (feq hc333_3).1 ?_
      show Steps p.tables e below (T24.setTop (mkF m 336 #[.val (.int p0), .val (.int p1), .val (.int p2), .val (.int p3), .val (.int p4), .val (.int (2 : Int32)), .val (.int (v0_2_9 p1)), .val (.int (v0_2_20 p1 p2)), .val (.int (v0_2_31 p1 p2 p3)), .val (.int (v0_2_20 p1 p2)), .val (.int (v0_2_78 p1 p2 p4)), .val (.ref b82), .val (.int (v0_2_320_l12 p1 p2 p4)), .val (.int (v0_2_320_l13 p1 p2 p4)), .val (.int (v0_2_31 p1 p2 p3)), .val (.int (v0_2_320_l15 p1 p2 p4)), .val (.int (v0_2_327 p1 p2 p4)), .unset] [])) _
      refine XS.iconst X24.here hx rfl (hb hby at_336) ?_
      exact k)
    obtain ⟨fs, hr, hrun, hended, hW, hsame⟩ := X24.leave (v := some (.int (0 : Int32))) (fun h => by rw [Bd.returns] at h; cases h)
    refine ⟨_, _, ?_, hrun, hended, _, _, rfl, ?_, ⟨_, rfl⟩, hW, hsame.mono (by decide) (by decide)⟩
    · exact pre46 _ (retN X24 hx (t := .boolean) Bd.returns (by simp) (hb hby at_337) hr)
    · exact ⟨by simp only [f0_2, if_neg hc333_3], N24, trivial⟩
def v0_3_9 (p1 : Int32) : Int32 := (p1 &&& (7 : Int32))
def v0_3_20 (p1 : Int32) (p2 : Int32) : Int32 := (((v0_3_9 p1) + (1 : Int32)) + (p2 &&& (7 : Int32)))
def v0_3_31 (p1 : Int32) (p2 : Int32) (p3 : Int32) : Int32 := (((v0_3_20 p1 p2) + (1 : Int32)) + (p3 &&& (7 : Int32)))
def v0_3_78 (p1 : Int32) (p2 : Int32) (p3 : Int32) (p4 : Int32) : Int32 := (((v0_3_31 p1 p2 p3) + (1 : Int32)) + (p4 &&& (7 : Int32)))
def v0_3_300 (p1 : Int32) : Int32 := ((v0_3_9 p1) + (1 : Int32))
def v0_3_306 (p1 : Int32) : Int32 := ((v0_3_9 p1) + (2 : Int32))
def v0_3_312 (p1 : Int32) : Int32 := ((v0_3_9 p1) + (3 : Int32))
def v0_3_273 (p1 : Int32) (p2 : Int32) : Int32 := ((v0_3_20 p1 p2) + (1 : Int32))
def v0_3_279 (p1 : Int32) (p2 : Int32) : Int32 := ((v0_3_20 p1 p2) + (2 : Int32))
def v0_3_252 (p1 : Int32) (p2 : Int32) (p3 : Int32) : Int32 := ((v0_3_31 p1 p2 p3) + (1 : Int32))
def v0_3_320_l12 (p1 : Int32) (p2 : Int32) (p3 : Int32) (p4 : Int32) : Int32 := (if (v0_3_31 p1 p2 p3) < ((v0_3_78 p1 p2 p3 p4) - (1 : Int32)) then (v0_3_9 p1) else (if (v0_3_20 p1 p2) < ((v0_3_78 p1 p2 p3 p4) - (2 : Int32)) then (v0_3_9 p1) else (if (v0_3_9 p1) < ((v0_3_78 p1 p2 p3 p4) - (3 : Int32)) then (v0_3_300 p1) else (v0_3_9 p1))))
def v0_3_320_l13 (p1 : Int32) (p2 : Int32) (p3 : Int32) (p4 : Int32) : Int32 := (if (v0_3_31 p1 p2 p3) < ((v0_3_78 p1 p2 p3 p4) - (1 : Int32)) then (v0_3_20 p1 p2) else (if (v0_3_20 p1 p2) < ((v0_3_78 p1 p2 p3 p4) - (2 : Int32)) then (v0_3_273 p1 p2) else (if (v0_3_9 p1) < ((v0_3_78 p1 p2 p3 p4) - (3 : Int32)) then (v0_3_306 p1) else (v0_3_20 p1 p2))))
def v0_3_320_l14 (p1 : Int32) (p2 : Int32) (p3 : Int32) (p4 : Int32) : Int32 := (if (v0_3_31 p1 p2 p3) < ((v0_3_78 p1 p2 p3 p4) - (1 : Int32)) then (v0_3_252 p1 p2 p3) else (if (v0_3_20 p1 p2) < ((v0_3_78 p1 p2 p3 p4) - (2 : Int32)) then (v0_3_279 p1 p2) else (if (v0_3_9 p1) < ((v0_3_78 p1 p2 p3 p4) - (3 : Int32)) then (v0_3_312 p1) else (v0_3_31 p1 p2 p3))))
def v0_3_320_l15 (p1 : Int32) (p2 : Int32) (p3 : Int32) (p4 : Int32) : Int32 := (if (v0_3_31 p1 p2 p3) < ((v0_3_78 p1 p2 p3 p4) - (1 : Int32)) then (1 : Int32) else (if (v0_3_20 p1 p2) < ((v0_3_78 p1 p2 p3 p4) - (2 : Int32)) then (1 : Int32) else (if (v0_3_9 p1) < ((v0_3_78 p1 p2 p3 p4) - (3 : Int32)) then (1 : Int32) else (0 : Int32))))
def v0_3_327 (p1 : Int32) (p2 : Int32) (p3 : Int32) (p4 : Int32) : Int32 := (f1_3 (v0_3_78 p1 p2 p3 p4) (v0_3_9 p1) (v0_3_20 p1 p2) (v0_3_31 p1 p2 p3))
def v0_3_373_s0 (p1 : Int32) (p2 : Int32) (p3 : Int32) (p4 : Int32) : Int32 := (if (g1_3_o0_0 (v0_3_78 p1 p2 p3 p4) (v0_3_9 p1) (v0_3_20 p1 p2) (v0_3_31 p1 p2 p3)) = (v0_3_320_l12 p1 p2 p3 p4) then (1 : Int32) else (0 : Int32))
def v0_3_400_s0 (p1 : Int32) (p2 : Int32) (p3 : Int32) (p4 : Int32) : Int32 := (if (v0_3_373_s0 p1 p2 p3 p4) = (0 : Int32) then (0 : Int32) else (if (g1_3_o0_1 (v0_3_78 p1 p2 p3 p4) (v0_3_9 p1) (v0_3_20 p1 p2) (v0_3_31 p1 p2 p3)) = (v0_3_320_l13 p1 p2 p3 p4) then (1 : Int32) else (0 : Int32)))
def v0_3_427_s0 (p1 : Int32) (p2 : Int32) (p3 : Int32) (p4 : Int32) : Int32 := (if (v0_3_400_s0 p1 p2 p3 p4) = (0 : Int32) then (0 : Int32) else (if (g1_3_o0_2 (v0_3_78 p1 p2 p3 p4) (v0_3_9 p1) (v0_3_20 p1 p2) (v0_3_31 p1 p2 p3)) = (v0_3_320_l14 p1 p2 p3 p4) then (1 : Int32) else (0 : Int32)))
def f0_3 (p1 : Int32) (p2 : Int32) (p3 : Int32) (p4 : Int32) : Int32 := (if (v0_3_327 p1 p2 p3 p4) = (v0_3_320_l15 p1 p2 p3 p4) then (if (v0_3_320_l15 p1 p2 p3 p4) = (0 : Int32) then (1 : Int32) else (nar .boolean (v0_3_427_s0 p1 p2 p3 p4))) else (0 : Int32))
set_option maxRecDepth 65536 in
set_option maxHeartbeats 40000000 in
theorem rm0_3 (l : Launch) (Z : State) (a0 : Array Value) (hw : ∀ d ∈ tables_1, d.before a0 Z = true) (ws : List Jvm.Cond) (p0 : Int32) (p1 : Int32) (p2 : Int32) (p3 : Int32) (p4 : Int32) (h0 : Heap) (n0 : Nat) (Z0 : n0 ≤ h0.size) (hk : (p0 &&& (3 : Int32)) = (3 : Int32)) :
    MetFree l x (head1 (Jvm.Cond.code x code maxLocals ret :: ws) room_1) (fun a U => a = #[(.int p0), (.int p1), (.int p2), (.int p3), (.int p4)] ∧ Z.Warmed39 U.vm ∧ U.heap = h0) (fun _ _ _ _ _ => True) (fun _ U o U' => ∃ v L, o = .returned v ∧ QL (some (.int (f0_3 p1 p2 p3 p4))) n0 v U'.heap L ∧ FrameEnd U o U' L room_1.cells room_1.slots) := by
  refine MetFree.of_bodySF (plainFor_of_name pn_0) hisR ?_
  intro p e s m args below meth c s₁ Bd hml0 hP hK
  obtain ⟨rfl, hZ, hh⟩ := hP
  have hx := Bd.exec
  have hby := Bd.bytes
  have hml : c.maxLocals = 18 := hml0
  have hown : s.vm.findClass "com/example/modloc/modloc/localize/LocalizerAdvancePinLaw" = some m.cls := findClass_of_methodNamed Bd.named
  have hnm := (name_of_methodNamed Bd.named Bd.method).1
  have X0 : Stand p l e room_1 s m #[(.int p0), (.int p1), (.int p2), (.int p3), (.int p4)] below meth c s₁ [] 0 0 := Stand.of_body Bd
  have e0 : s₁.heap = h0 := by rw [← hh, Bd.state]; rfl
  have N0 := Fr.nil n0
  have K0 : Keep h0 h0 [] := Keep.refl _ _
  have pre0 : ∀ t, Steps p.tables e below (s₁.setTop (mkF m 0 #[.val (.int p0), .val (.int p1), .val (.int p2), .val (.int p3), .val (.int p4), .unset, .unset, .unset, .unset, .unset, .unset, .unset, .unset, .unset, .unset, .unset, .unset, .unset] [])) t → Steps p.tables e below (s₁.setTop (entryFrame m #[(.int p0), (.int p1), (.int p2), (.int p3), (.int p4)] maxLocals)) t := fun t k => castTop (ef_0 m p0 p1 p2 p3 p4) k
  have pre11 : ∀ t, Steps p.tables e below (s₁.setTop (mkF m 82 #[.val (.int p0), .val (.int p1), .val (.int p2), .val (.int p3), .val (.int p4), .val (.int (3 : Int32)), .val (.int (v0_3_9 p1)), .val (.int (v0_3_20 p1 p2)), .val (.int (v0_3_31 p1 p2 p3)), .val (.int (v0_3_31 p1 p2 p3)), .val (.int (v0_3_78 p1 p2 p3 p4)), .unset, .unset, .unset, .unset, .unset, .unset, .unset] [(.int (3 : Int32))])) t → Steps p.tables e below (s₁.setTop (entryFrame m #[(.int p0), (.int p1), (.int p2), (.int p3), (.int p4)] maxLocals)) t := fun t k => pre0 t (by
    show Steps p.tables e below (s₁.setTop (mkF m 0 #[.val (.int p0), .val (.int p1), .val (.int p2), .val (.int p3), .val (.int p4), .unset, .unset, .unset, .unset, .unset, .unset, .unset, .unset, .unset, .unset, .unset, .unset, .unset] [])) _
    refine XS.iloadN X0.here hx rfl (hb hby at_0) rfl ?_
    show Steps p.tables e below (s₁.setTop (mkF m 1 #[.val (.int p0), .val (.int p1), .val (.int p2), .val (.int p3), .val (.int p4), .unset, .unset, .unset, .unset, .unset, .unset, .unset, .unset, .unset, .unset, .unset, .unset, .unset] [(.int p0)])) _
    refine XS.iconst X0.here hx rfl (hb hby at_1) ?_
    show Steps p.tables e below (s₁.setTop (mkF m 2 #[.val (.int p0), .val (.int p1), .val (.int p2), .val (.int p3), .val (.int p4), .unset, .unset, .unset, .unset, .unset, .unset, .unset, .unset, .unset, .unset, .unset, .unset, .unset] [(.int (3 : Int32)), (.int p0)])) _
    refine XS.iand X0.here hx rfl (hb hby at_2) rfl ?_
    show Steps p.tables e below (s₁.setTop (mkF m 3 #[.val (.int p0), .val (.int p1), .val (.int p2), .val (.int p3), .val (.int p4), .unset, .unset, .unset, .unset, .unset, .unset, .unset, .unset, .unset, .unset, .unset, .unset, .unset] [(.int (p0 &&& (3 : Int32)))])) _
    rw [hk]
    show Steps p.tables e below (s₁.setTop (mkF m 3 #[.val (.int p0), .val (.int p1), .val (.int p2), .val (.int p3), .val (.int p4), .unset, .unset, .unset, .unset, .unset, .unset, .unset, .unset, .unset, .unset, .unset, .unset, .unset] [(.int (3 : Int32))])) _
    refine XS.istore X0.here hx rfl (hb hby at_3) rfl (l' := #[.val (.int p0), .val (.int p1), .val (.int p2), .val (.int p3), .val (.int p4), .val (.int (3 : Int32)), .unset, .unset, .unset, .unset, .unset, .unset, .unset, .unset, .unset, .unset, .unset, .unset]) rfl ?_
    show Steps p.tables e below (s₁.setTop (mkF m 5 #[.val (.int p0), .val (.int p1), .val (.int p2), .val (.int p3), .val (.int p4), .val (.int (3 : Int32)), .unset, .unset, .unset, .unset, .unset, .unset, .unset, .unset, .unset, .unset, .unset, .unset] [])) _
    refine XS.iloadN X0.here hx rfl (hb hby at_5) rfl ?_
    show Steps p.tables e below (s₁.setTop (mkF m 6 #[.val (.int p0), .val (.int p1), .val (.int p2), .val (.int p3), .val (.int p4), .val (.int (3 : Int32)), .unset, .unset, .unset, .unset, .unset, .unset, .unset, .unset, .unset, .unset, .unset, .unset] [(.int p1)])) _
    refine XS.bipush X0.here hx rfl (hb hby at_6) ?_
    show Steps p.tables e below (s₁.setTop (mkF m 8 #[.val (.int p0), .val (.int p1), .val (.int p2), .val (.int p3), .val (.int p4), .val (.int (3 : Int32)), .unset, .unset, .unset, .unset, .unset, .unset, .unset, .unset, .unset, .unset, .unset, .unset] [(.int (7 : Int32)), (.int p1)])) _
    refine XS.iand X0.here hx rfl (hb hby at_8) rfl ?_
    show Steps p.tables e below (s₁.setTop (mkF m 9 #[.val (.int p0), .val (.int p1), .val (.int p2), .val (.int p3), .val (.int p4), .val (.int (3 : Int32)), .unset, .unset, .unset, .unset, .unset, .unset, .unset, .unset, .unset, .unset, .unset, .unset] [(.int (p1 &&& (7 : Int32)))])) _
    refine XS.istore X0.here hx rfl (hb hby at_9) rfl (l' := #[.val (.int p0), .val (.int p1), .val (.int p2), .val (.int p3), .val (.int p4), .val (.int (3 : Int32)), .val (.int (v0_3_9 p1)), .unset, .unset, .unset, .unset, .unset, .unset, .unset, .unset, .unset, .unset, .unset]) rfl ?_
    show Steps p.tables e below (s₁.setTop (mkF m 11 #[.val (.int p0), .val (.int p1), .val (.int p2), .val (.int p3), .val (.int p4), .val (.int (3 : Int32)), .val (.int (v0_3_9 p1)), .unset, .unset, .unset, .unset, .unset, .unset, .unset, .unset, .unset, .unset, .unset] [])) _
    refine XS.iload X0.here hx rfl (hb hby at_11) rfl ?_
    show Steps p.tables e below (s₁.setTop (mkF m 13 #[.val (.int p0), .val (.int p1), .val (.int p2), .val (.int p3), .val (.int p4), .val (.int (3 : Int32)), .val (.int (v0_3_9 p1)), .unset, .unset, .unset, .unset, .unset, .unset, .unset, .unset, .unset, .unset, .unset] [(.int (v0_3_9 p1))])) _
    refine XS.iconst X0.here hx rfl (hb hby at_13) ?_
    show Steps p.tables e below (s₁.setTop (mkF m 14 #[.val (.int p0), .val (.int p1), .val (.int p2), .val (.int p3), .val (.int p4), .val (.int (3 : Int32)), .val (.int (v0_3_9 p1)), .unset, .unset, .unset, .unset, .unset, .unset, .unset, .unset, .unset, .unset, .unset] [(.int (1 : Int32)), (.int (v0_3_9 p1))])) _
    refine XS.iadd X0.here hx rfl (hb hby at_14) rfl ?_
    show Steps p.tables e below (s₁.setTop (mkF m 15 #[.val (.int p0), .val (.int p1), .val (.int p2), .val (.int p3), .val (.int p4), .val (.int (3 : Int32)), .val (.int (v0_3_9 p1)), .unset, .unset, .unset, .unset, .unset, .unset, .unset, .unset, .unset, .unset, .unset] [(.int ((v0_3_9 p1) + (1 : Int32)))])) _
    refine XS.iloadN X0.here hx rfl (hb hby at_15) rfl ?_
    show Steps p.tables e below (s₁.setTop (mkF m 16 #[.val (.int p0), .val (.int p1), .val (.int p2), .val (.int p3), .val (.int p4), .val (.int (3 : Int32)), .val (.int (v0_3_9 p1)), .unset, .unset, .unset, .unset, .unset, .unset, .unset, .unset, .unset, .unset, .unset] [(.int p2), (.int ((v0_3_9 p1) + (1 : Int32)))])) _
    refine XS.bipush X0.here hx rfl (hb hby at_16) ?_
    show Steps p.tables e below (s₁.setTop (mkF m 18 #[.val (.int p0), .val (.int p1), .val (.int p2), .val (.int p3), .val (.int p4), .val (.int (3 : Int32)), .val (.int (v0_3_9 p1)), .unset, .unset, .unset, .unset, .unset, .unset, .unset, .unset, .unset, .unset, .unset] [(.int (7 : Int32)), (.int p2), (.int ((v0_3_9 p1) + (1 : Int32)))])) _
    refine XS.iand X0.here hx rfl (hb hby at_18) rfl ?_
    show Steps p.tables e below (s₁.setTop (mkF m 19 #[.val (.int p0), .val (.int p1), .val (.int p2), .val (.int p3), .val (.int p4), .val (.int (3 : Int32)), .val (.int (v0_3_9 p1)), .unset, .unset, .unset, .unset, .unset, .unset, .unset, .unset, .unset, .unset, .unset] [(.int (p2 &&& (7 : Int32))), (.int ((v0_3_9 p1) + (1 : Int32)))])) _
    refine XS.iadd X0.here hx rfl (hb hby at_19) rfl ?_
    show Steps p.tables e below (s₁.setTop (mkF m 20 #[.val (.int p0), .val (.int p1), .val (.int p2), .val (.int p3), .val (.int p4), .val (.int (3 : Int32)), .val (.int (v0_3_9 p1)), .unset, .unset, .unset, .unset, .unset, .unset, .unset, .unset, .unset, .unset, .unset] [(.int (((v0_3_9 p1) + (1 : Int32)) + (p2 &&& (7 : Int32))))])) _
    refine XS.istore X0.here hx rfl (hb hby at_20) rfl (l' := #[.val (.int p0), .val (.int p1), .val (.int p2), .val (.int p3), .val (.int p4), .val (.int (3 : Int32)), .val (.int (v0_3_9 p1)), .val (.int (v0_3_20 p1 p2)), .unset, .unset, .unset, .unset, .unset, .unset, .unset, .unset, .unset, .unset]) rfl ?_
    show Steps p.tables e below (s₁.setTop (mkF m 22 #[.val (.int p0), .val (.int p1), .val (.int p2), .val (.int p3), .val (.int p4), .val (.int (3 : Int32)), .val (.int (v0_3_9 p1)), .val (.int (v0_3_20 p1 p2)), .unset, .unset, .unset, .unset, .unset, .unset, .unset, .unset, .unset, .unset] [])) _
    refine XS.iload X0.here hx rfl (hb hby at_22) rfl ?_
    show Steps p.tables e below (s₁.setTop (mkF m 24 #[.val (.int p0), .val (.int p1), .val (.int p2), .val (.int p3), .val (.int p4), .val (.int (3 : Int32)), .val (.int (v0_3_9 p1)), .val (.int (v0_3_20 p1 p2)), .unset, .unset, .unset, .unset, .unset, .unset, .unset, .unset, .unset, .unset] [(.int (v0_3_20 p1 p2))])) _
    refine XS.iconst X0.here hx rfl (hb hby at_24) ?_
    show Steps p.tables e below (s₁.setTop (mkF m 25 #[.val (.int p0), .val (.int p1), .val (.int p2), .val (.int p3), .val (.int p4), .val (.int (3 : Int32)), .val (.int (v0_3_9 p1)), .val (.int (v0_3_20 p1 p2)), .unset, .unset, .unset, .unset, .unset, .unset, .unset, .unset, .unset, .unset] [(.int (1 : Int32)), (.int (v0_3_20 p1 p2))])) _
    refine XS.iadd X0.here hx rfl (hb hby at_25) rfl ?_
    show Steps p.tables e below (s₁.setTop (mkF m 26 #[.val (.int p0), .val (.int p1), .val (.int p2), .val (.int p3), .val (.int p4), .val (.int (3 : Int32)), .val (.int (v0_3_9 p1)), .val (.int (v0_3_20 p1 p2)), .unset, .unset, .unset, .unset, .unset, .unset, .unset, .unset, .unset, .unset] [(.int ((v0_3_20 p1 p2) + (1 : Int32)))])) _
    refine XS.iloadN X0.here hx rfl (hb hby at_26) rfl ?_
    show Steps p.tables e below (s₁.setTop (mkF m 27 #[.val (.int p0), .val (.int p1), .val (.int p2), .val (.int p3), .val (.int p4), .val (.int (3 : Int32)), .val (.int (v0_3_9 p1)), .val (.int (v0_3_20 p1 p2)), .unset, .unset, .unset, .unset, .unset, .unset, .unset, .unset, .unset, .unset] [(.int p3), (.int ((v0_3_20 p1 p2) + (1 : Int32)))])) _
    refine XS.bipush X0.here hx rfl (hb hby at_27) ?_
    show Steps p.tables e below (s₁.setTop (mkF m 29 #[.val (.int p0), .val (.int p1), .val (.int p2), .val (.int p3), .val (.int p4), .val (.int (3 : Int32)), .val (.int (v0_3_9 p1)), .val (.int (v0_3_20 p1 p2)), .unset, .unset, .unset, .unset, .unset, .unset, .unset, .unset, .unset, .unset] [(.int (7 : Int32)), (.int p3), (.int ((v0_3_20 p1 p2) + (1 : Int32)))])) _
    refine XS.iand X0.here hx rfl (hb hby at_29) rfl ?_
    show Steps p.tables e below (s₁.setTop (mkF m 30 #[.val (.int p0), .val (.int p1), .val (.int p2), .val (.int p3), .val (.int p4), .val (.int (3 : Int32)), .val (.int (v0_3_9 p1)), .val (.int (v0_3_20 p1 p2)), .unset, .unset, .unset, .unset, .unset, .unset, .unset, .unset, .unset, .unset] [(.int (p3 &&& (7 : Int32))), (.int ((v0_3_20 p1 p2) + (1 : Int32)))])) _
    refine XS.iadd X0.here hx rfl (hb hby at_30) rfl ?_
    show Steps p.tables e below (s₁.setTop (mkF m 31 #[.val (.int p0), .val (.int p1), .val (.int p2), .val (.int p3), .val (.int p4), .val (.int (3 : Int32)), .val (.int (v0_3_9 p1)), .val (.int (v0_3_20 p1 p2)), .unset, .unset, .unset, .unset, .unset, .unset, .unset, .unset, .unset, .unset] [(.int (((v0_3_20 p1 p2) + (1 : Int32)) + (p3 &&& (7 : Int32))))])) _
    refine XS.istore X0.here hx rfl (hb hby at_31) rfl (l' := #[.val (.int p0), .val (.int p1), .val (.int p2), .val (.int p3), .val (.int p4), .val (.int (3 : Int32)), .val (.int (v0_3_9 p1)), .val (.int (v0_3_20 p1 p2)), .val (.int (v0_3_31 p1 p2 p3)), .unset, .unset, .unset, .unset, .unset, .unset, .unset, .unset, .unset]) rfl ?_
    show Steps p.tables e below (s₁.setTop (mkF m 33 #[.val (.int p0), .val (.int p1), .val (.int p2), .val (.int p3), .val (.int p4), .val (.int (3 : Int32)), .val (.int (v0_3_9 p1)), .val (.int (v0_3_20 p1 p2)), .val (.int (v0_3_31 p1 p2 p3)), .unset, .unset, .unset, .unset, .unset, .unset, .unset, .unset, .unset] [])) _
    refine XS.iload X0.here hx rfl (hb hby at_33) rfl ?_
    show Steps p.tables e below (s₁.setTop (mkF m 35 #[.val (.int p0), .val (.int p1), .val (.int p2), .val (.int p3), .val (.int p4), .val (.int (3 : Int32)), .val (.int (v0_3_9 p1)), .val (.int (v0_3_20 p1 p2)), .val (.int (v0_3_31 p1 p2 p3)), .unset, .unset, .unset, .unset, .unset, .unset, .unset, .unset, .unset] [(.int (3 : Int32))])) _
    refine XS.ifYes X0.here hx rfl (pc0 := 35) (pc' := 42) rfl (hb hby at_35) rfl (by decide) (by decide) (by decide) ?_
    show Steps p.tables e below (s₁.setTop (mkF m 42 #[.val (.int p0), .val (.int p1), .val (.int p2), .val (.int p3), .val (.int p4), .val (.int (3 : Int32)), .val (.int (v0_3_9 p1)), .val (.int (v0_3_20 p1 p2)), .val (.int (v0_3_31 p1 p2 p3)), .unset, .unset, .unset, .unset, .unset, .unset, .unset, .unset, .unset] [])) _
    refine XS.iload X0.here hx rfl (hb hby at_42) rfl ?_
    show Steps p.tables e below (s₁.setTop (mkF m 44 #[.val (.int p0), .val (.int p1), .val (.int p2), .val (.int p3), .val (.int p4), .val (.int (3 : Int32)), .val (.int (v0_3_9 p1)), .val (.int (v0_3_20 p1 p2)), .val (.int (v0_3_31 p1 p2 p3)), .unset, .unset, .unset, .unset, .unset, .unset, .unset, .unset, .unset] [(.int (3 : Int32))])) _
    refine XS.iconst X0.here hx rfl (hb hby at_44) ?_
    show Steps p.tables e below (s₁.setTop (mkF m 45 #[.val (.int p0), .val (.int p1), .val (.int p2), .val (.int p3), .val (.int p4), .val (.int (3 : Int32)), .val (.int (v0_3_9 p1)), .val (.int (v0_3_20 p1 p2)), .val (.int (v0_3_31 p1 p2 p3)), .unset, .unset, .unset, .unset, .unset, .unset, .unset, .unset, .unset] [(.int (1 : Int32)), (.int (3 : Int32))])) _
    refine XS.icmpYes X0.here hx rfl (pc0 := 45) (pc' := 53) rfl (hb hby at_45) rfl (by decide) (by decide) (by decide) ?_
    show Steps p.tables e below (s₁.setTop (mkF m 53 #[.val (.int p0), .val (.int p1), .val (.int p2), .val (.int p3), .val (.int p4), .val (.int (3 : Int32)), .val (.int (v0_3_9 p1)), .val (.int (v0_3_20 p1 p2)), .val (.int (v0_3_31 p1 p2 p3)), .unset, .unset, .unset, .unset, .unset, .unset, .unset, .unset, .unset] [])) _
    refine XS.iload X0.here hx rfl (hb hby at_53) rfl ?_
    show Steps p.tables e below (s₁.setTop (mkF m 55 #[.val (.int p0), .val (.int p1), .val (.int p2), .val (.int p3), .val (.int p4), .val (.int (3 : Int32)), .val (.int (v0_3_9 p1)), .val (.int (v0_3_20 p1 p2)), .val (.int (v0_3_31 p1 p2 p3)), .unset, .unset, .unset, .unset, .unset, .unset, .unset, .unset, .unset] [(.int (3 : Int32))])) _
    refine XS.iconst X0.here hx rfl (hb hby at_55) ?_
    show Steps p.tables e below (s₁.setTop (mkF m 56 #[.val (.int p0), .val (.int p1), .val (.int p2), .val (.int p3), .val (.int p4), .val (.int (3 : Int32)), .val (.int (v0_3_9 p1)), .val (.int (v0_3_20 p1 p2)), .val (.int (v0_3_31 p1 p2 p3)), .unset, .unset, .unset, .unset, .unset, .unset, .unset, .unset, .unset] [(.int (2 : Int32)), (.int (3 : Int32))])) _
    refine XS.icmpYes X0.here hx rfl (pc0 := 56) (pc' := 64) rfl (hb hby at_56) rfl (by decide) (by decide) (by decide) ?_
    show Steps p.tables e below (s₁.setTop (mkF m 64 #[.val (.int p0), .val (.int p1), .val (.int p2), .val (.int p3), .val (.int p4), .val (.int (3 : Int32)), .val (.int (v0_3_9 p1)), .val (.int (v0_3_20 p1 p2)), .val (.int (v0_3_31 p1 p2 p3)), .unset, .unset, .unset, .unset, .unset, .unset, .unset, .unset, .unset] [])) _
    refine XS.iload X0.here hx rfl (hb hby at_64) rfl ?_
    show Steps p.tables e below (s₁.setTop (mkF m 66 #[.val (.int p0), .val (.int p1), .val (.int p2), .val (.int p3), .val (.int p4), .val (.int (3 : Int32)), .val (.int (v0_3_9 p1)), .val (.int (v0_3_20 p1 p2)), .val (.int (v0_3_31 p1 p2 p3)), .unset, .unset, .unset, .unset, .unset, .unset, .unset, .unset, .unset] [(.int (v0_3_31 p1 p2 p3))])) _
    refine XS.istore X0.here hx rfl (hb hby at_66) rfl (l' := #[.val (.int p0), .val (.int p1), .val (.int p2), .val (.int p3), .val (.int p4), .val (.int (3 : Int32)), .val (.int (v0_3_9 p1)), .val (.int (v0_3_20 p1 p2)), .val (.int (v0_3_31 p1 p2 p3)), .val (.int (v0_3_31 p1 p2 p3)), .unset, .unset, .unset, .unset, .unset, .unset, .unset, .unset]) rfl ?_
    show Steps p.tables e below (s₁.setTop (mkF m 68 #[.val (.int p0), .val (.int p1), .val (.int p2), .val (.int p3), .val (.int p4), .val (.int (3 : Int32)), .val (.int (v0_3_9 p1)), .val (.int (v0_3_20 p1 p2)), .val (.int (v0_3_31 p1 p2 p3)), .val (.int (v0_3_31 p1 p2 p3)), .unset, .unset, .unset, .unset, .unset, .unset, .unset, .unset] [])) _
    refine XS.iload X0.here hx rfl (hb hby at_68) rfl ?_
    show Steps p.tables e below (s₁.setTop (mkF m 70 #[.val (.int p0), .val (.int p1), .val (.int p2), .val (.int p3), .val (.int p4), .val (.int (3 : Int32)), .val (.int (v0_3_9 p1)), .val (.int (v0_3_20 p1 p2)), .val (.int (v0_3_31 p1 p2 p3)), .val (.int (v0_3_31 p1 p2 p3)), .unset, .unset, .unset, .unset, .unset, .unset, .unset, .unset] [(.int (v0_3_31 p1 p2 p3))])) _
    refine XS.iconst X0.here hx rfl (hb hby at_70) ?_
    show Steps p.tables e below (s₁.setTop (mkF m 71 #[.val (.int p0), .val (.int p1), .val (.int p2), .val (.int p3), .val (.int p4), .val (.int (3 : Int32)), .val (.int (v0_3_9 p1)), .val (.int (v0_3_20 p1 p2)), .val (.int (v0_3_31 p1 p2 p3)), .val (.int (v0_3_31 p1 p2 p3)), .unset, .unset, .unset, .unset, .unset, .unset, .unset, .unset] [(.int (1 : Int32)), (.int (v0_3_31 p1 p2 p3))])) _
    refine XS.iadd X0.here hx rfl (hb hby at_71) rfl ?_
    show Steps p.tables e below (s₁.setTop (mkF m 72 #[.val (.int p0), .val (.int p1), .val (.int p2), .val (.int p3), .val (.int p4), .val (.int (3 : Int32)), .val (.int (v0_3_9 p1)), .val (.int (v0_3_20 p1 p2)), .val (.int (v0_3_31 p1 p2 p3)), .val (.int (v0_3_31 p1 p2 p3)), .unset, .unset, .unset, .unset, .unset, .unset, .unset, .unset] [(.int ((v0_3_31 p1 p2 p3) + (1 : Int32)))])) _
    refine XS.iload X0.here hx rfl (hb hby at_72) rfl ?_
    show Steps p.tables e below (s₁.setTop (mkF m 74 #[.val (.int p0), .val (.int p1), .val (.int p2), .val (.int p3), .val (.int p4), .val (.int (3 : Int32)), .val (.int (v0_3_9 p1)), .val (.int (v0_3_20 p1 p2)), .val (.int (v0_3_31 p1 p2 p3)), .val (.int (v0_3_31 p1 p2 p3)), .unset, .unset, .unset, .unset, .unset, .unset, .unset, .unset] [(.int p4), (.int ((v0_3_31 p1 p2 p3) + (1 : Int32)))])) _
    refine XS.bipush X0.here hx rfl (hb hby at_74) ?_
    show Steps p.tables e below (s₁.setTop (mkF m 76 #[.val (.int p0), .val (.int p1), .val (.int p2), .val (.int p3), .val (.int p4), .val (.int (3 : Int32)), .val (.int (v0_3_9 p1)), .val (.int (v0_3_20 p1 p2)), .val (.int (v0_3_31 p1 p2 p3)), .val (.int (v0_3_31 p1 p2 p3)), .unset, .unset, .unset, .unset, .unset, .unset, .unset, .unset] [(.int (7 : Int32)), (.int p4), (.int ((v0_3_31 p1 p2 p3) + (1 : Int32)))])) _
    refine XS.iand X0.here hx rfl (hb hby at_76) rfl ?_
    show Steps p.tables e below (s₁.setTop (mkF m 77 #[.val (.int p0), .val (.int p1), .val (.int p2), .val (.int p3), .val (.int p4), .val (.int (3 : Int32)), .val (.int (v0_3_9 p1)), .val (.int (v0_3_20 p1 p2)), .val (.int (v0_3_31 p1 p2 p3)), .val (.int (v0_3_31 p1 p2 p3)), .unset, .unset, .unset, .unset, .unset, .unset, .unset, .unset] [(.int (p4 &&& (7 : Int32))), (.int ((v0_3_31 p1 p2 p3) + (1 : Int32)))])) _
    refine XS.iadd X0.here hx rfl (hb hby at_77) rfl ?_
    show Steps p.tables e below (s₁.setTop (mkF m 78 #[.val (.int p0), .val (.int p1), .val (.int p2), .val (.int p3), .val (.int p4), .val (.int (3 : Int32)), .val (.int (v0_3_9 p1)), .val (.int (v0_3_20 p1 p2)), .val (.int (v0_3_31 p1 p2 p3)), .val (.int (v0_3_31 p1 p2 p3)), .unset, .unset, .unset, .unset, .unset, .unset, .unset, .unset] [(.int (((v0_3_31 p1 p2 p3) + (1 : Int32)) + (p4 &&& (7 : Int32))))])) _
    refine XS.istore X0.here hx rfl (hb hby at_78) rfl (l' := #[.val (.int p0), .val (.int p1), .val (.int p2), .val (.int p3), .val (.int p4), .val (.int (3 : Int32)), .val (.int (v0_3_9 p1)), .val (.int (v0_3_20 p1 p2)), .val (.int (v0_3_31 p1 p2 p3)), .val (.int (v0_3_31 p1 p2 p3)), .val (.int (v0_3_78 p1 p2 p3 p4)), .unset, .unset, .unset, .unset, .unset, .unset, .unset]) rfl ?_
    show Steps p.tables e below (s₁.setTop (mkF m 80 #[.val (.int p0), .val (.int p1), .val (.int p2), .val (.int p3), .val (.int p4), .val (.int (3 : Int32)), .val (.int (v0_3_9 p1)), .val (.int (v0_3_20 p1 p2)), .val (.int (v0_3_31 p1 p2 p3)), .val (.int (v0_3_31 p1 p2 p3)), .val (.int (v0_3_78 p1 p2 p3 p4)), .unset, .unset, .unset, .unset, .unset, .unset, .unset] [])) _
    refine XS.iload X0.here hx rfl (hb hby at_80) rfl ?_
    exact k)
  obtain ⟨T12, h12, k12, X12, e12, E12, A12, st12⟩ := newP X0 hx hZ (hw _ (List.mem_of_getElem? (i := 0) rfl)) e0 (g := (mkF m 82 #[.val (.int p0), .val (.int p1), .val (.int p2), .val (.int p3), .val (.int p4), .val (.int (3 : Int32)), .val (.int (v0_3_9 p1)), .val (.int (v0_3_20 p1 p2)), .val (.int (v0_3_31 p1 p2 p3)), .val (.int (v0_3_31 p1 p2 p3)), .val (.int (v0_3_78 p1 p2 p3 p4)), .unset, .unset, .unset, .unset, .unset, .unset, .unset] [(.int (3 : Int32))])) rfl (hb hby at_82) rfl (by decide) (cap := 3) (by decide) (by decide) (by decide) (by decide)
  obtain ⟨b82, g12⟩ : ∃ z, z = h0.size := ⟨_, rfl⟩
  rw [← g12] at A12 st12
  have gg12 : n0 ≤ b82 := Nat.le_trans Z0 (Nat.le_of_eq g12.symm)
  have sz12 : h0.size ≤ b82 := Nat.le_trans K0.1 (Nat.le_of_eq g12.symm)
  have K12 : Keep h0 h12 [] := K0.ext E12
  have Z12 : n0 ≤ h12.size := Nat.le_trans Z0 E12.1
  have V12 : Arv Z h12 b82 k12 .int (3 : Int32) [(.int (0 : Int32)), (.int (0 : Int32)), (.int (0 : Int32))] (.int (0 : Int32)) := (Arv.new A12 (by decide)).pad (pad_rep [] (.int (0 : Int32)) 3)
  have pre13 : ∀ t, Steps p.tables e below (T12.setTop (mkF m 84 #[.val (.int p0), .val (.int p1), .val (.int p2), .val (.int p3), .val (.int p4), .val (.int (3 : Int32)), .val (.int (v0_3_9 p1)), .val (.int (v0_3_20 p1 p2)), .val (.int (v0_3_31 p1 p2 p3)), .val (.int (v0_3_31 p1 p2 p3)), .val (.int (v0_3_78 p1 p2 p3 p4)), .unset, .unset, .unset, .unset, .unset, .unset, .unset] [(.ref b82)])) t → Steps p.tables e below (s₁.setTop (entryFrame m #[(.int p0), (.int p1), (.int p2), (.int p3), (.int p4)] maxLocals)) t := fun t k => pre11 t (st12 _ k)
  have pre14 : ∀ t, Steps p.tables e below (T12.setTop (mkF m 97 #[.val (.int p0), .val (.int p1), .val (.int p2), .val (.int p3), .val (.int p4), .val (.int (3 : Int32)), .val (.int (v0_3_9 p1)), .val (.int (v0_3_20 p1 p2)), .val (.int (v0_3_31 p1 p2 p3)), .val (.int (v0_3_31 p1 p2 p3)), .val (.int (v0_3_78 p1 p2 p3 p4)), .val (.ref b82), .unset, .unset, .unset, .unset, .unset, .unset] [(.int (v0_3_9 p1)), (.int (0 : Int32)), (.ref b82)])) t → Steps p.tables e below (s₁.setTop (entryFrame m #[(.int p0), (.int p1), (.int p2), (.int p3), (.int p4)] maxLocals)) t := fun t k => pre13 t (by
    show Steps p.tables e below (T12.setTop (mkF m 84 #[.val (.int p0), .val (.int p1), .val (.int p2), .val (.int p3), .val (.int p4), .val (.int (3 : Int32)), .val (.int (v0_3_9 p1)), .val (.int (v0_3_20 p1 p2)), .val (.int (v0_3_31 p1 p2 p3)), .val (.int (v0_3_31 p1 p2 p3)), .val (.int (v0_3_78 p1 p2 p3 p4)), .unset, .unset, .unset, .unset, .unset, .unset, .unset] [(.ref b82)])) _
    refine XS.astore X12.here hx rfl (hb hby at_84) rfl rfl (l' := #[.val (.int p0), .val (.int p1), .val (.int p2), .val (.int p3), .val (.int p4), .val (.int (3 : Int32)), .val (.int (v0_3_9 p1)), .val (.int (v0_3_20 p1 p2)), .val (.int (v0_3_31 p1 p2 p3)), .val (.int (v0_3_31 p1 p2 p3)), .val (.int (v0_3_78 p1 p2 p3 p4)), .val (.ref b82), .unset, .unset, .unset, .unset, .unset, .unset]) rfl ?_
    show Steps p.tables e below (T12.setTop (mkF m 86 #[.val (.int p0), .val (.int p1), .val (.int p2), .val (.int p3), .val (.int p4), .val (.int (3 : Int32)), .val (.int (v0_3_9 p1)), .val (.int (v0_3_20 p1 p2)), .val (.int (v0_3_31 p1 p2 p3)), .val (.int (v0_3_31 p1 p2 p3)), .val (.int (v0_3_78 p1 p2 p3 p4)), .val (.ref b82), .unset, .unset, .unset, .unset, .unset, .unset] [])) _
    refine XS.iload X12.here hx rfl (hb hby at_86) rfl ?_
    show Steps p.tables e below (T12.setTop (mkF m 88 #[.val (.int p0), .val (.int p1), .val (.int p2), .val (.int p3), .val (.int p4), .val (.int (3 : Int32)), .val (.int (v0_3_9 p1)), .val (.int (v0_3_20 p1 p2)), .val (.int (v0_3_31 p1 p2 p3)), .val (.int (v0_3_31 p1 p2 p3)), .val (.int (v0_3_78 p1 p2 p3 p4)), .val (.ref b82), .unset, .unset, .unset, .unset, .unset, .unset] [(.int (3 : Int32))])) _
    refine XS.iconst X12.here hx rfl (hb hby at_88) ?_
    show Steps p.tables e below (T12.setTop (mkF m 89 #[.val (.int p0), .val (.int p1), .val (.int p2), .val (.int p3), .val (.int p4), .val (.int (3 : Int32)), .val (.int (v0_3_9 p1)), .val (.int (v0_3_20 p1 p2)), .val (.int (v0_3_31 p1 p2 p3)), .val (.int (v0_3_31 p1 p2 p3)), .val (.int (v0_3_78 p1 p2 p3 p4)), .val (.ref b82), .unset, .unset, .unset, .unset, .unset, .unset] [(.int (1 : Int32)), (.int (3 : Int32))])) _
    refine XS.icmpNo X12.here hx rfl (hb hby at_89) rfl (by decide) ?_
    show Steps p.tables e below (T12.setTop (mkF m 92 #[.val (.int p0), .val (.int p1), .val (.int p2), .val (.int p3), .val (.int p4), .val (.int (3 : Int32)), .val (.int (v0_3_9 p1)), .val (.int (v0_3_20 p1 p2)), .val (.int (v0_3_31 p1 p2 p3)), .val (.int (v0_3_31 p1 p2 p3)), .val (.int (v0_3_78 p1 p2 p3 p4)), .val (.ref b82), .unset, .unset, .unset, .unset, .unset, .unset] [])) _
    refine XS.aload X12.here hx rfl (hb hby at_92) rfl rfl ?_
    show Steps p.tables e below (T12.setTop (mkF m 94 #[.val (.int p0), .val (.int p1), .val (.int p2), .val (.int p3), .val (.int p4), .val (.int (3 : Int32)), .val (.int (v0_3_9 p1)), .val (.int (v0_3_20 p1 p2)), .val (.int (v0_3_31 p1 p2 p3)), .val (.int (v0_3_31 p1 p2 p3)), .val (.int (v0_3_78 p1 p2 p3 p4)), .val (.ref b82), .unset, .unset, .unset, .unset, .unset, .unset] [(.ref b82)])) _
    refine XS.iconst X12.here hx rfl (hb hby at_94) ?_
    show Steps p.tables e below (T12.setTop (mkF m 95 #[.val (.int p0), .val (.int p1), .val (.int p2), .val (.int p3), .val (.int p4), .val (.int (3 : Int32)), .val (.int (v0_3_9 p1)), .val (.int (v0_3_20 p1 p2)), .val (.int (v0_3_31 p1 p2 p3)), .val (.int (v0_3_31 p1 p2 p3)), .val (.int (v0_3_78 p1 p2 p3 p4)), .val (.ref b82), .unset, .unset, .unset, .unset, .unset, .unset] [(.int (0 : Int32)), (.ref b82)])) _
    refine XS.iload X12.here hx rfl (hb hby at_95) rfl ?_
    exact k)
  obtain ⟨cl15, Ar15, q15, Sz15, Mn15, Hs15, Gs15⟩ := id V12
  have hin15 : ¬ ((0 : Int32) < 0 ∨ cl15.slots.size ≤ ((0 : Int32)).toNatClampNeg) := inb_of Sz15 ⟨by decide, by decide⟩
  obtain ⟨T15, h15, X15, e15, W15, st15⟩ := stI X12 hx hZ e12 Ar15 (j := (0 : Int32)) hin15 (g := (mkF m 97 #[.val (.int p0), .val (.int p1), .val (.int p2), .val (.int p3), .val (.int p4), .val (.int (3 : Int32)), .val (.int (v0_3_9 p1)), .val (.int (v0_3_20 p1 p2)), .val (.int (v0_3_31 p1 p2 p3)), .val (.int (v0_3_31 p1 p2 p3)), .val (.int (v0_3_78 p1 p2 p3 p4)), .val (.ref b82), .unset, .unset, .unset, .unset, .unset, .unset] [(.int (v0_3_9 p1)), (.int (0 : Int32)), (.ref b82)])) rfl rfl (hb hby at_97)
  have V15 : Arv Z h15 b82 k12 .int (3 : Int32) [(.int (v0_3_9 p1)), (.int (0 : Int32)), (.int (0 : Int32))] (.int (0 : Int32)) := Arv.set Ar15 q15 Sz15 Mn15 Hs15 Gs15 rfl W15 0 rfl (Nat.le_of_ble_eq_true rfl)
  have N15 := Fr.snoc X15 N0 gg12
  have K15 : Keep h0 h15 [] := K12.wr W15 (Or.inr sz12)
  have Z15 : n0 ≤ h15.size := Nat.le_trans Z12 (Keep.of_wr W15).1
  have pre16 : ∀ t, Steps p.tables e below (T15.setTop (mkF m 98 #[.val (.int p0), .val (.int p1), .val (.int p2), .val (.int p3), .val (.int p4), .val (.int (3 : Int32)), .val (.int (v0_3_9 p1)), .val (.int (v0_3_20 p1 p2)), .val (.int (v0_3_31 p1 p2 p3)), .val (.int (v0_3_31 p1 p2 p3)), .val (.int (v0_3_78 p1 p2 p3 p4)), .val (.ref b82), .unset, .unset, .unset, .unset, .unset, .unset] [])) t → Steps p.tables e below (s₁.setTop (entryFrame m #[(.int p0), (.int p1), (.int p2), (.int p3), (.int p4)] maxLocals)) t := fun t k => pre14 t (st15 _ k)
  have pre17 : ∀ t, Steps p.tables e below (T15.setTop (mkF m 109 #[.val (.int p0), .val (.int p1), .val (.int p2), .val (.int p3), .val (.int p4), .val (.int (3 : Int32)), .val (.int (v0_3_9 p1)), .val (.int (v0_3_20 p1 p2)), .val (.int (v0_3_31 p1 p2 p3)), .val (.int (v0_3_31 p1 p2 p3)), .val (.int (v0_3_78 p1 p2 p3 p4)), .val (.ref b82), .unset, .unset, .unset, .unset, .unset, .unset] [(.int (v0_3_20 p1 p2)), (.int (1 : Int32)), (.ref b82)])) t → Steps p.tables e below (s₁.setTop (entryFrame m #[(.int p0), (.int p1), (.int p2), (.int p3), (.int p4)] maxLocals)) t := fun t k => pre16 t (by
    show Steps p.tables e below (T15.setTop (mkF m 98 #[.val (.int p0), .val (.int p1), .val (.int p2), .val (.int p3), .val (.int p4), .val (.int (3 : Int32)), .val (.int (v0_3_9 p1)), .val (.int (v0_3_20 p1 p2)), .val (.int (v0_3_31 p1 p2 p3)), .val (.int (v0_3_31 p1 p2 p3)), .val (.int (v0_3_78 p1 p2 p3 p4)), .val (.ref b82), .unset, .unset, .unset, .unset, .unset, .unset] [])) _
    refine XS.iload X15.here hx rfl (hb hby at_98) rfl ?_
    show Steps p.tables e below (T15.setTop (mkF m 100 #[.val (.int p0), .val (.int p1), .val (.int p2), .val (.int p3), .val (.int p4), .val (.int (3 : Int32)), .val (.int (v0_3_9 p1)), .val (.int (v0_3_20 p1 p2)), .val (.int (v0_3_31 p1 p2 p3)), .val (.int (v0_3_31 p1 p2 p3)), .val (.int (v0_3_78 p1 p2 p3 p4)), .val (.ref b82), .unset, .unset, .unset, .unset, .unset, .unset] [(.int (3 : Int32))])) _
    refine XS.iconst X15.here hx rfl (hb hby at_100) ?_
    show Steps p.tables e below (T15.setTop (mkF m 101 #[.val (.int p0), .val (.int p1), .val (.int p2), .val (.int p3), .val (.int p4), .val (.int (3 : Int32)), .val (.int (v0_3_9 p1)), .val (.int (v0_3_20 p1 p2)), .val (.int (v0_3_31 p1 p2 p3)), .val (.int (v0_3_31 p1 p2 p3)), .val (.int (v0_3_78 p1 p2 p3 p4)), .val (.ref b82), .unset, .unset, .unset, .unset, .unset, .unset] [(.int (2 : Int32)), (.int (3 : Int32))])) _
    refine XS.icmpNo X15.here hx rfl (hb hby at_101) rfl (by decide) ?_
    show Steps p.tables e below (T15.setTop (mkF m 104 #[.val (.int p0), .val (.int p1), .val (.int p2), .val (.int p3), .val (.int p4), .val (.int (3 : Int32)), .val (.int (v0_3_9 p1)), .val (.int (v0_3_20 p1 p2)), .val (.int (v0_3_31 p1 p2 p3)), .val (.int (v0_3_31 p1 p2 p3)), .val (.int (v0_3_78 p1 p2 p3 p4)), .val (.ref b82), .unset, .unset, .unset, .unset, .unset, .unset] [])) _
    refine XS.aload X15.here hx rfl (hb hby at_104) rfl rfl ?_
    show Steps p.tables e below (T15.setTop (mkF m 106 #[.val (.int p0), .val (.int p1), .val (.int p2), .val (.int p3), .val (.int p4), .val (.int (3 : Int32)), .val (.int (v0_3_9 p1)), .val (.int (v0_3_20 p1 p2)), .val (.int (v0_3_31 p1 p2 p3)), .val (.int (v0_3_31 p1 p2 p3)), .val (.int (v0_3_78 p1 p2 p3 p4)), .val (.ref b82), .unset, .unset, .unset, .unset, .unset, .unset] [(.ref b82)])) _
    refine XS.iconst X15.here hx rfl (hb hby at_106) ?_
    show Steps p.tables e below (T15.setTop (mkF m 107 #[.val (.int p0), .val (.int p1), .val (.int p2), .val (.int p3), .val (.int p4), .val (.int (3 : Int32)), .val (.int (v0_3_9 p1)), .val (.int (v0_3_20 p1 p2)), .val (.int (v0_3_31 p1 p2 p3)), .val (.int (v0_3_31 p1 p2 p3)), .val (.int (v0_3_78 p1 p2 p3 p4)), .val (.ref b82), .unset, .unset, .unset, .unset, .unset, .unset] [(.int (1 : Int32)), (.ref b82)])) _
    refine XS.iload X15.here hx rfl (hb hby at_107) rfl ?_
    exact k)
  obtain ⟨cl18, Ar18, q18, Sz18, Mn18, Hs18, Gs18⟩ := id V15
  have hin18 : ¬ ((1 : Int32) < 0 ∨ cl18.slots.size ≤ ((1 : Int32)).toNatClampNeg) := inb_of Sz18 ⟨by decide, by decide⟩
  obtain ⟨T18, h18, X18, e18, W18, st18⟩ := stI X15 hx hZ e15 Ar18 (j := (1 : Int32)) hin18 (g := (mkF m 109 #[.val (.int p0), .val (.int p1), .val (.int p2), .val (.int p3), .val (.int p4), .val (.int (3 : Int32)), .val (.int (v0_3_9 p1)), .val (.int (v0_3_20 p1 p2)), .val (.int (v0_3_31 p1 p2 p3)), .val (.int (v0_3_31 p1 p2 p3)), .val (.int (v0_3_78 p1 p2 p3 p4)), .val (.ref b82), .unset, .unset, .unset, .unset, .unset, .unset] [(.int (v0_3_20 p1 p2)), (.int (1 : Int32)), (.ref b82)])) rfl rfl (hb hby at_109)
  have V18 : Arv Z h18 b82 k12 .int (3 : Int32) [(.int (v0_3_9 p1)), (.int (v0_3_20 p1 p2)), (.int (0 : Int32))] (.int (0 : Int32)) := Arv.set Ar18 q18 Sz18 Mn18 Hs18 Gs18 rfl W18 1 rfl (Nat.le_of_ble_eq_true rfl)
  have N18 := Fr.snoc X18 N15 gg12
  have K18 : Keep h0 h18 [] := K15.wr W18 (Or.inr sz12)
  have Z18 : n0 ≤ h18.size := Nat.le_trans Z15 (Keep.of_wr W18).1
  have pre19 : ∀ t, Steps p.tables e below (T18.setTop (mkF m 110 #[.val (.int p0), .val (.int p1), .val (.int p2), .val (.int p3), .val (.int p4), .val (.int (3 : Int32)), .val (.int (v0_3_9 p1)), .val (.int (v0_3_20 p1 p2)), .val (.int (v0_3_31 p1 p2 p3)), .val (.int (v0_3_31 p1 p2 p3)), .val (.int (v0_3_78 p1 p2 p3 p4)), .val (.ref b82), .unset, .unset, .unset, .unset, .unset, .unset] [])) t → Steps p.tables e below (s₁.setTop (entryFrame m #[(.int p0), (.int p1), (.int p2), (.int p3), (.int p4)] maxLocals)) t := fun t k => pre17 t (st18 _ k)
  have pre20 : ∀ t, Steps p.tables e below (T18.setTop (mkF m 121 #[.val (.int p0), .val (.int p1), .val (.int p2), .val (.int p3), .val (.int p4), .val (.int (3 : Int32)), .val (.int (v0_3_9 p1)), .val (.int (v0_3_20 p1 p2)), .val (.int (v0_3_31 p1 p2 p3)), .val (.int (v0_3_31 p1 p2 p3)), .val (.int (v0_3_78 p1 p2 p3 p4)), .val (.ref b82), .unset, .unset, .unset, .unset, .unset, .unset] [(.int (v0_3_31 p1 p2 p3)), (.int (2 : Int32)), (.ref b82)])) t → Steps p.tables e below (s₁.setTop (entryFrame m #[(.int p0), (.int p1), (.int p2), (.int p3), (.int p4)] maxLocals)) t := fun t k => pre19 t (by
    show Steps p.tables e below (T18.setTop (mkF m 110 #[.val (.int p0), .val (.int p1), .val (.int p2), .val (.int p3), .val (.int p4), .val (.int (3 : Int32)), .val (.int (v0_3_9 p1)), .val (.int (v0_3_20 p1 p2)), .val (.int (v0_3_31 p1 p2 p3)), .val (.int (v0_3_31 p1 p2 p3)), .val (.int (v0_3_78 p1 p2 p3 p4)), .val (.ref b82), .unset, .unset, .unset, .unset, .unset, .unset] [])) _
    refine XS.iload X18.here hx rfl (hb hby at_110) rfl ?_
    show Steps p.tables e below (T18.setTop (mkF m 112 #[.val (.int p0), .val (.int p1), .val (.int p2), .val (.int p3), .val (.int p4), .val (.int (3 : Int32)), .val (.int (v0_3_9 p1)), .val (.int (v0_3_20 p1 p2)), .val (.int (v0_3_31 p1 p2 p3)), .val (.int (v0_3_31 p1 p2 p3)), .val (.int (v0_3_78 p1 p2 p3 p4)), .val (.ref b82), .unset, .unset, .unset, .unset, .unset, .unset] [(.int (3 : Int32))])) _
    refine XS.iconst X18.here hx rfl (hb hby at_112) ?_
    show Steps p.tables e below (T18.setTop (mkF m 113 #[.val (.int p0), .val (.int p1), .val (.int p2), .val (.int p3), .val (.int p4), .val (.int (3 : Int32)), .val (.int (v0_3_9 p1)), .val (.int (v0_3_20 p1 p2)), .val (.int (v0_3_31 p1 p2 p3)), .val (.int (v0_3_31 p1 p2 p3)), .val (.int (v0_3_78 p1 p2 p3 p4)), .val (.ref b82), .unset, .unset, .unset, .unset, .unset, .unset] [(.int (3 : Int32)), (.int (3 : Int32))])) _
    refine XS.icmpNo X18.here hx rfl (hb hby at_113) rfl (by decide) ?_
    show Steps p.tables e below (T18.setTop (mkF m 116 #[.val (.int p0), .val (.int p1), .val (.int p2), .val (.int p3), .val (.int p4), .val (.int (3 : Int32)), .val (.int (v0_3_9 p1)), .val (.int (v0_3_20 p1 p2)), .val (.int (v0_3_31 p1 p2 p3)), .val (.int (v0_3_31 p1 p2 p3)), .val (.int (v0_3_78 p1 p2 p3 p4)), .val (.ref b82), .unset, .unset, .unset, .unset, .unset, .unset] [])) _
    refine XS.aload X18.here hx rfl (hb hby at_116) rfl rfl ?_
    show Steps p.tables e below (T18.setTop (mkF m 118 #[.val (.int p0), .val (.int p1), .val (.int p2), .val (.int p3), .val (.int p4), .val (.int (3 : Int32)), .val (.int (v0_3_9 p1)), .val (.int (v0_3_20 p1 p2)), .val (.int (v0_3_31 p1 p2 p3)), .val (.int (v0_3_31 p1 p2 p3)), .val (.int (v0_3_78 p1 p2 p3 p4)), .val (.ref b82), .unset, .unset, .unset, .unset, .unset, .unset] [(.ref b82)])) _
    refine XS.iconst X18.here hx rfl (hb hby at_118) ?_
    show Steps p.tables e below (T18.setTop (mkF m 119 #[.val (.int p0), .val (.int p1), .val (.int p2), .val (.int p3), .val (.int p4), .val (.int (3 : Int32)), .val (.int (v0_3_9 p1)), .val (.int (v0_3_20 p1 p2)), .val (.int (v0_3_31 p1 p2 p3)), .val (.int (v0_3_31 p1 p2 p3)), .val (.int (v0_3_78 p1 p2 p3 p4)), .val (.ref b82), .unset, .unset, .unset, .unset, .unset, .unset] [(.int (2 : Int32)), (.ref b82)])) _
    refine XS.iload X18.here hx rfl (hb hby at_119) rfl ?_
    exact k)
  obtain ⟨cl21, Ar21, q21, Sz21, Mn21, Hs21, Gs21⟩ := id V18
  have hin21 : ¬ ((2 : Int32) < 0 ∨ cl21.slots.size ≤ ((2 : Int32)).toNatClampNeg) := inb_of Sz21 ⟨by decide, by decide⟩
  obtain ⟨T21, h21, X21, e21, W21, st21⟩ := stI X18 hx hZ e18 Ar21 (j := (2 : Int32)) hin21 (g := (mkF m 121 #[.val (.int p0), .val (.int p1), .val (.int p2), .val (.int p3), .val (.int p4), .val (.int (3 : Int32)), .val (.int (v0_3_9 p1)), .val (.int (v0_3_20 p1 p2)), .val (.int (v0_3_31 p1 p2 p3)), .val (.int (v0_3_31 p1 p2 p3)), .val (.int (v0_3_78 p1 p2 p3 p4)), .val (.ref b82), .unset, .unset, .unset, .unset, .unset, .unset] [(.int (v0_3_31 p1 p2 p3)), (.int (2 : Int32)), (.ref b82)])) rfl rfl (hb hby at_121)
  have V21 : Arv Z h21 b82 k12 .int (3 : Int32) [(.int (v0_3_9 p1)), (.int (v0_3_20 p1 p2)), (.int (v0_3_31 p1 p2 p3))] (.int (0 : Int32)) := Arv.set Ar21 q21 Sz21 Mn21 Hs21 Gs21 rfl W21 2 rfl (Nat.le_of_ble_eq_true rfl)
  have N21 := Fr.snoc X21 N18 gg12
  have K21 : Keep h0 h21 [] := K18.wr W21 (Or.inr sz12)
  have Z21 : n0 ≤ h21.size := Nat.le_trans Z18 (Keep.of_wr W21).1
  have pre22 : ∀ t, Steps p.tables e below (T21.setTop (mkF m 122 #[.val (.int p0), .val (.int p1), .val (.int p2), .val (.int p3), .val (.int p4), .val (.int (3 : Int32)), .val (.int (v0_3_9 p1)), .val (.int (v0_3_20 p1 p2)), .val (.int (v0_3_31 p1 p2 p3)), .val (.int (v0_3_31 p1 p2 p3)), .val (.int (v0_3_78 p1 p2 p3 p4)), .val (.ref b82), .unset, .unset, .unset, .unset, .unset, .unset] [])) t → Steps p.tables e below (s₁.setTop (entryFrame m #[(.int p0), (.int p1), (.int p2), (.int p3), (.int p4)] maxLocals)) t := fun t k => pre20 t (st21 _ k)
  have pre23 : ∀ t, Steps p.tables e below (T21.setTop (mkF m 242 #[.val (.int p0), .val (.int p1), .val (.int p2), .val (.int p3), .val (.int p4), .val (.int (3 : Int32)), .val (.int (v0_3_9 p1)), .val (.int (v0_3_20 p1 p2)), .val (.int (v0_3_31 p1 p2 p3)), .val (.int (v0_3_31 p1 p2 p3)), .val (.int (v0_3_78 p1 p2 p3 p4)), .val (.ref b82), .val (.int (v0_3_9 p1)), .val (.int (v0_3_20 p1 p2)), .val (.int (v0_3_31 p1 p2 p3)), .unset, .unset, .unset] [(.int ((v0_3_78 p1 p2 p3 p4) - (1 : Int32))), (.int (v0_3_31 p1 p2 p3))])) t → Steps p.tables e below (s₁.setTop (entryFrame m #[(.int p0), (.int p1), (.int p2), (.int p3), (.int p4)] maxLocals)) t := fun t k => pre22 t (by
    show Steps p.tables e below (T21.setTop (mkF m 122 #[.val (.int p0), .val (.int p1), .val (.int p2), .val (.int p3), .val (.int p4), .val (.int (3 : Int32)), .val (.int (v0_3_9 p1)), .val (.int (v0_3_20 p1 p2)), .val (.int (v0_3_31 p1 p2 p3)), .val (.int (v0_3_31 p1 p2 p3)), .val (.int (v0_3_78 p1 p2 p3 p4)), .val (.ref b82), .unset, .unset, .unset, .unset, .unset, .unset] [])) _
    refine XS.iload X21.here hx rfl (hb hby at_122) rfl ?_
    show Steps p.tables e below (T21.setTop (mkF m 124 #[.val (.int p0), .val (.int p1), .val (.int p2), .val (.int p3), .val (.int p4), .val (.int (3 : Int32)), .val (.int (v0_3_9 p1)), .val (.int (v0_3_20 p1 p2)), .val (.int (v0_3_31 p1 p2 p3)), .val (.int (v0_3_31 p1 p2 p3)), .val (.int (v0_3_78 p1 p2 p3 p4)), .val (.ref b82), .unset, .unset, .unset, .unset, .unset, .unset] [(.int (v0_3_9 p1))])) _
    refine XS.istore X21.here hx rfl (hb hby at_124) rfl (l' := #[.val (.int p0), .val (.int p1), .val (.int p2), .val (.int p3), .val (.int p4), .val (.int (3 : Int32)), .val (.int (v0_3_9 p1)), .val (.int (v0_3_20 p1 p2)), .val (.int (v0_3_31 p1 p2 p3)), .val (.int (v0_3_31 p1 p2 p3)), .val (.int (v0_3_78 p1 p2 p3 p4)), .val (.ref b82), .val (.int (v0_3_9 p1)), .unset, .unset, .unset, .unset, .unset]) rfl ?_
    show Steps p.tables e below (T21.setTop (mkF m 126 #[.val (.int p0), .val (.int p1), .val (.int p2), .val (.int p3), .val (.int p4), .val (.int (3 : Int32)), .val (.int (v0_3_9 p1)), .val (.int (v0_3_20 p1 p2)), .val (.int (v0_3_31 p1 p2 p3)), .val (.int (v0_3_31 p1 p2 p3)), .val (.int (v0_3_78 p1 p2 p3 p4)), .val (.ref b82), .val (.int (v0_3_9 p1)), .unset, .unset, .unset, .unset, .unset] [])) _
    refine XS.iload X21.here hx rfl (hb hby at_126) rfl ?_
    show Steps p.tables e below (T21.setTop (mkF m 128 #[.val (.int p0), .val (.int p1), .val (.int p2), .val (.int p3), .val (.int p4), .val (.int (3 : Int32)), .val (.int (v0_3_9 p1)), .val (.int (v0_3_20 p1 p2)), .val (.int (v0_3_31 p1 p2 p3)), .val (.int (v0_3_31 p1 p2 p3)), .val (.int (v0_3_78 p1 p2 p3 p4)), .val (.ref b82), .val (.int (v0_3_9 p1)), .unset, .unset, .unset, .unset, .unset] [(.int (v0_3_20 p1 p2))])) _
    refine XS.istore X21.here hx rfl (hb hby at_128) rfl (l' := #[.val (.int p0), .val (.int p1), .val (.int p2), .val (.int p3), .val (.int p4), .val (.int (3 : Int32)), .val (.int (v0_3_9 p1)), .val (.int (v0_3_20 p1 p2)), .val (.int (v0_3_31 p1 p2 p3)), .val (.int (v0_3_31 p1 p2 p3)), .val (.int (v0_3_78 p1 p2 p3 p4)), .val (.ref b82), .val (.int (v0_3_9 p1)), .val (.int (v0_3_20 p1 p2)), .unset, .unset, .unset, .unset]) rfl ?_
    show Steps p.tables e below (T21.setTop (mkF m 130 #[.val (.int p0), .val (.int p1), .val (.int p2), .val (.int p3), .val (.int p4), .val (.int (3 : Int32)), .val (.int (v0_3_9 p1)), .val (.int (v0_3_20 p1 p2)), .val (.int (v0_3_31 p1 p2 p3)), .val (.int (v0_3_31 p1 p2 p3)), .val (.int (v0_3_78 p1 p2 p3 p4)), .val (.ref b82), .val (.int (v0_3_9 p1)), .val (.int (v0_3_20 p1 p2)), .unset, .unset, .unset, .unset] [])) _
    refine XS.iload X21.here hx rfl (hb hby at_130) rfl ?_
    show Steps p.tables e below (T21.setTop (mkF m 132 #[.val (.int p0), .val (.int p1), .val (.int p2), .val (.int p3), .val (.int p4), .val (.int (3 : Int32)), .val (.int (v0_3_9 p1)), .val (.int (v0_3_20 p1 p2)), .val (.int (v0_3_31 p1 p2 p3)), .val (.int (v0_3_31 p1 p2 p3)), .val (.int (v0_3_78 p1 p2 p3 p4)), .val (.ref b82), .val (.int (v0_3_9 p1)), .val (.int (v0_3_20 p1 p2)), .unset, .unset, .unset, .unset] [(.int (v0_3_31 p1 p2 p3))])) _
    refine XS.istore X21.here hx rfl (hb hby at_132) rfl (l' := #[.val (.int p0), .val (.int p1), .val (.int p2), .val (.int p3), .val (.int p4), .val (.int (3 : Int32)), .val (.int (v0_3_9 p1)), .val (.int (v0_3_20 p1 p2)), .val (.int (v0_3_31 p1 p2 p3)), .val (.int (v0_3_31 p1 p2 p3)), .val (.int (v0_3_78 p1 p2 p3 p4)), .val (.ref b82), .val (.int (v0_3_9 p1)), .val (.int (v0_3_20 p1 p2)), .val (.int (v0_3_31 p1 p2 p3)), .unset, .unset, .unset]) rfl ?_
    show Steps p.tables e below (T21.setTop (mkF m 134 #[.val (.int p0), .val (.int p1), .val (.int p2), .val (.int p3), .val (.int p4), .val (.int (3 : Int32)), .val (.int (v0_3_9 p1)), .val (.int (v0_3_20 p1 p2)), .val (.int (v0_3_31 p1 p2 p3)), .val (.int (v0_3_31 p1 p2 p3)), .val (.int (v0_3_78 p1 p2 p3 p4)), .val (.ref b82), .val (.int (v0_3_9 p1)), .val (.int (v0_3_20 p1 p2)), .val (.int (v0_3_31 p1 p2 p3)), .unset, .unset, .unset] [])) _
    refine XS.iload X21.here hx rfl (hb hby at_134) rfl ?_
    show Steps p.tables e below (T21.setTop (mkF m 136 #[.val (.int p0), .val (.int p1), .val (.int p2), .val (.int p3), .val (.int p4), .val (.int (3 : Int32)), .val (.int (v0_3_9 p1)), .val (.int (v0_3_20 p1 p2)), .val (.int (v0_3_31 p1 p2 p3)), .val (.int (v0_3_31 p1 p2 p3)), .val (.int (v0_3_78 p1 p2 p3 p4)), .val (.ref b82), .val (.int (v0_3_9 p1)), .val (.int (v0_3_20 p1 p2)), .val (.int (v0_3_31 p1 p2 p3)), .unset, .unset, .unset] [(.int (3 : Int32))])) _
    refine XS.ifYes X21.here hx rfl (pc0 := 136) (pc' := 145) rfl (hb hby at_136) rfl (by decide) (by decide) (by decide) ?_
    show Steps p.tables e below (T21.setTop (mkF m 145 #[.val (.int p0), .val (.int p1), .val (.int p2), .val (.int p3), .val (.int p4), .val (.int (3 : Int32)), .val (.int (v0_3_9 p1)), .val (.int (v0_3_20 p1 p2)), .val (.int (v0_3_31 p1 p2 p3)), .val (.int (v0_3_31 p1 p2 p3)), .val (.int (v0_3_78 p1 p2 p3 p4)), .val (.ref b82), .val (.int (v0_3_9 p1)), .val (.int (v0_3_20 p1 p2)), .val (.int (v0_3_31 p1 p2 p3)), .unset, .unset, .unset] [])) _
    refine XS.iload X21.here hx rfl (hb hby at_145) rfl ?_
    show Steps p.tables e below (T21.setTop (mkF m 147 #[.val (.int p0), .val (.int p1), .val (.int p2), .val (.int p3), .val (.int p4), .val (.int (3 : Int32)), .val (.int (v0_3_9 p1)), .val (.int (v0_3_20 p1 p2)), .val (.int (v0_3_31 p1 p2 p3)), .val (.int (v0_3_31 p1 p2 p3)), .val (.int (v0_3_78 p1 p2 p3 p4)), .val (.ref b82), .val (.int (v0_3_9 p1)), .val (.int (v0_3_20 p1 p2)), .val (.int (v0_3_31 p1 p2 p3)), .unset, .unset, .unset] [(.int (3 : Int32))])) _
    refine XS.iconst X21.here hx rfl (hb hby at_147) ?_
    show Steps p.tables e below (T21.setTop (mkF m 148 #[.val (.int p0), .val (.int p1), .val (.int p2), .val (.int p3), .val (.int p4), .val (.int (3 : Int32)), .val (.int (v0_3_9 p1)), .val (.int (v0_3_20 p1 p2)), .val (.int (v0_3_31 p1 p2 p3)), .val (.int (v0_3_31 p1 p2 p3)), .val (.int (v0_3_78 p1 p2 p3 p4)), .val (.ref b82), .val (.int (v0_3_9 p1)), .val (.int (v0_3_20 p1 p2)), .val (.int (v0_3_31 p1 p2 p3)), .unset, .unset, .unset] [(.int (1 : Int32)), (.int (3 : Int32))])) _
    refine XS.icmpYes X21.here hx rfl (pc0 := 148) (pc' := 176) rfl (hb hby at_148) rfl (by decide) (by decide) (by decide) ?_
    show Steps p.tables e below (T21.setTop (mkF m 176 #[.val (.int p0), .val (.int p1), .val (.int p2), .val (.int p3), .val (.int p4), .val (.int (3 : Int32)), .val (.int (v0_3_9 p1)), .val (.int (v0_3_20 p1 p2)), .val (.int (v0_3_31 p1 p2 p3)), .val (.int (v0_3_31 p1 p2 p3)), .val (.int (v0_3_78 p1 p2 p3 p4)), .val (.ref b82), .val (.int (v0_3_9 p1)), .val (.int (v0_3_20 p1 p2)), .val (.int (v0_3_31 p1 p2 p3)), .unset, .unset, .unset] [])) _
    refine XS.iload X21.here hx rfl (hb hby at_176) rfl ?_
    show Steps p.tables e below (T21.setTop (mkF m 178 #[.val (.int p0), .val (.int p1), .val (.int p2), .val (.int p3), .val (.int p4), .val (.int (3 : Int32)), .val (.int (v0_3_9 p1)), .val (.int (v0_3_20 p1 p2)), .val (.int (v0_3_31 p1 p2 p3)), .val (.int (v0_3_31 p1 p2 p3)), .val (.int (v0_3_78 p1 p2 p3 p4)), .val (.ref b82), .val (.int (v0_3_9 p1)), .val (.int (v0_3_20 p1 p2)), .val (.int (v0_3_31 p1 p2 p3)), .unset, .unset, .unset] [(.int (3 : Int32))])) _
    refine XS.iconst X21.here hx rfl (hb hby at_178) ?_
    show Steps p.tables e below (T21.setTop (mkF m 179 #[.val (.int p0), .val (.int p1), .val (.int p2), .val (.int p3), .val (.int p4), .val (.int (3 : Int32)), .val (.int (v0_3_9 p1)), .val (.int (v0_3_20 p1 p2)), .val (.int (v0_3_31 p1 p2 p3)), .val (.int (v0_3_31 p1 p2 p3)), .val (.int (v0_3_78 p1 p2 p3 p4)), .val (.ref b82), .val (.int (v0_3_9 p1)), .val (.int (v0_3_20 p1 p2)), .val (.int (v0_3_31 p1 p2 p3)), .unset, .unset, .unset] [(.int (2 : Int32)), (.int (3 : Int32))])) _
    refine XS.icmpYes X21.here hx rfl (pc0 := 179) (pc' := 236) rfl (hb hby at_179) rfl (by decide) (by decide) (by decide) ?_
    show Steps p.tables e below (T21.setTop (mkF m 236 #[.val (.int p0), .val (.int p1), .val (.int p2), .val (.int p3), .val (.int p4), .val (.int (3 : Int32)), .val (.int (v0_3_9 p1)), .val (.int (v0_3_20 p1 p2)), .val (.int (v0_3_31 p1 p2 p3)), .val (.int (v0_3_31 p1 p2 p3)), .val (.int (v0_3_78 p1 p2 p3 p4)), .val (.ref b82), .val (.int (v0_3_9 p1)), .val (.int (v0_3_20 p1 p2)), .val (.int (v0_3_31 p1 p2 p3)), .unset, .unset, .unset] [])) _
    refine XS.iload X21.here hx rfl (hb hby at_236) rfl ?_
    show Steps p.tables e below (T21.setTop (mkF m 238 #[.val (.int p0), .val (.int p1), .val (.int p2), .val (.int p3), .val (.int p4), .val (.int (3 : Int32)), .val (.int (v0_3_9 p1)), .val (.int (v0_3_20 p1 p2)), .val (.int (v0_3_31 p1 p2 p3)), .val (.int (v0_3_31 p1 p2 p3)), .val (.int (v0_3_78 p1 p2 p3 p4)), .val (.ref b82), .val (.int (v0_3_9 p1)), .val (.int (v0_3_20 p1 p2)), .val (.int (v0_3_31 p1 p2 p3)), .unset, .unset, .unset] [(.int (v0_3_31 p1 p2 p3))])) _
    refine XS.iload X21.here hx rfl (hb hby at_238) rfl ?_
    show Steps p.tables e below (T21.setTop (mkF m 240 #[.val (.int p0), .val (.int p1), .val (.int p2), .val (.int p3), .val (.int p4), .val (.int (3 : Int32)), .val (.int (v0_3_9 p1)), .val (.int (v0_3_20 p1 p2)), .val (.int (v0_3_31 p1 p2 p3)), .val (.int (v0_3_31 p1 p2 p3)), .val (.int (v0_3_78 p1 p2 p3 p4)), .val (.ref b82), .val (.int (v0_3_9 p1)), .val (.int (v0_3_20 p1 p2)), .val (.int (v0_3_31 p1 p2 p3)), .unset, .unset, .unset] [(.int (v0_3_78 p1 p2 p3 p4)), (.int (v0_3_31 p1 p2 p3))])) _
    refine XS.iconst X21.here hx rfl (hb hby at_240) ?_
    show Steps p.tables e below (T21.setTop (mkF m 241 #[.val (.int p0), .val (.int p1), .val (.int p2), .val (.int p3), .val (.int p4), .val (.int (3 : Int32)), .val (.int (v0_3_9 p1)), .val (.int (v0_3_20 p1 p2)), .val (.int (v0_3_31 p1 p2 p3)), .val (.int (v0_3_31 p1 p2 p3)), .val (.int (v0_3_78 p1 p2 p3 p4)), .val (.ref b82), .val (.int (v0_3_9 p1)), .val (.int (v0_3_20 p1 p2)), .val (.int (v0_3_31 p1 p2 p3)), .unset, .unset, .unset] [(.int (1 : Int32)), (.int (v0_3_78 p1 p2 p3 p4)), (.int (v0_3_31 p1 p2 p3))])) _
    refine XS.isub X21.here hx rfl (hb hby at_241) rfl ?_
    exact k)
  obtain ⟨T24, L24, X24, e24, N24, pre24⟩ : ∃ (T' : State) (L' : List Loc), Stand p l e room_1 s m #[(.int p0), (.int p1), (.int p2), (.int p3), (.int p4)] below meth c T' L' 1 3 ∧ T'.heap = h21 ∧ Fr n0 L' ∧ ∀ t, Steps p.tables e below (T'.setTop (mkF m 320 #[.val (.int p0), .val (.int p1), .val (.int p2), .val (.int p3), .val (.int p4), .val (.int (3 : Int32)), .val (.int (v0_3_9 p1)), .val (.int (v0_3_20 p1 p2)), .val (.int (v0_3_31 p1 p2 p3)), .val (.int (v0_3_31 p1 p2 p3)), .val (.int (v0_3_78 p1 p2 p3 p4)), .val (.ref b82), .val (.int (v0_3_320_l12 p1 p2 p3 p4)), .val (.int (v0_3_320_l13 p1 p2 p3 p4)), .val (.int (v0_3_320_l14 p1 p2 p3 p4)), .val (.int (v0_3_320_l15 p1 p2 p3 p4)), .unset, .unset] [])) t → Steps p.tables e below (s₁.setTop (entryFrame m #[(.int p0), (.int p1), (.int p2), (.int p3), (.int p4)] maxLocals)) t := by
    by_cases hc242_1 : (v0_3_31 p1 p2 p3) < ((v0_3_78 p1 p2 p3 p4) - (1 : Int32))
    · have pre25 : ∀ t, Steps p.tables e below (T21.setTop (mkF m 320 #[.val (.int p0), .val (.int p1), .val (.int p2), .val (.int p3), .val (.int p4), .val (.int (3 : Int32)), .val (.int (v0_3_9 p1)), .val (.int (v0_3_20 p1 p2)), .val (.int (v0_3_31 p1 p2 p3)), .val (.int (v0_3_31 p1 p2 p3)), .val (.int (v0_3_78 p1 p2 p3 p4)), .val (.ref b82), .val (.int (v0_3_9 p1)), .val (.int (v0_3_20 p1 p2)), .val (.int (v0_3_252 p1 p2 p3)), .val (.int (1 : Int32)), .unset, .unset] [])) t → Steps p.tables e below (s₁.setTop (entryFrame m #[(.int p0), (.int p1), (.int p2), (.int p3), (.int p4)] maxLocals)) t := fun t k => pre23 t (by
        show Steps p.tables e below (T21.setTop (mkF m 242 #[.val (.int p0), .val (.int p1), .val (.int p2), .val (.int p3), .val (.int p4), .val (.int (3 : Int32)), .val (.int (v0_3_9 p1)), .val (.int (v0_3_20 p1 p2)), .val (.int (v0_3_31 p1 p2 p3)), .val (.int (v0_3_31 p1 p2 p3)), .val (.int (v0_3_78 p1 p2 p3 p4)), .val (.ref b82), .val (.int (v0_3_9 p1)), .val (.int (v0_3_20 p1 p2)), .val (.int (v0_3_31 p1 p2 p3)), .unset, .unset, .unset] [(.int ((v0_3_78 p1 p2 p3 p4) - (1 : Int32))), (.int (v0_3_31 p1 p2 p3))])) _
        refine XS.icmpNo X21.here hx rfl (hb hby at_242) rfl (tlt hc242_1).2.1 ?_
        show Steps p.tables e below (T21.setTop (mkF m 245 #[.val (.int p0), .val (.int p1), .val (.int p2), .val (.int p3), .val (.int p4), .val (.int (3 : Int32)), .val (.int (v0_3_9 p1)), .val (.int (v0_3_20 p1 p2)), .val (.int (v0_3_31 p1 p2 p3)), .val (.int (v0_3_31 p1 p2 p3)), .val (.int (v0_3_78 p1 p2 p3 p4)), .val (.ref b82), .val (.int (v0_3_9 p1)), .val (.int (v0_3_20 p1 p2)), .val (.int (v0_3_31 p1 p2 p3)), .unset, .unset, .unset] [])) _
        refine XS.iconst X21.here hx rfl (hb hby at_245) ?_
        show Steps p.tables e below (T21.setTop (mkF m 246 #[.val (.int p0), .val (.int p1), .val (.int p2), .val (.int p3), .val (.int p4), .val (.int (3 : Int32)), .val (.int (v0_3_9 p1)), .val (.int (v0_3_20 p1 p2)), .val (.int (v0_3_31 p1 p2 p3)), .val (.int (v0_3_31 p1 p2 p3)), .val (.int (v0_3_78 p1 p2 p3 p4)), .val (.ref b82), .val (.int (v0_3_9 p1)), .val (.int (v0_3_20 p1 p2)), .val (.int (v0_3_31 p1 p2 p3)), .unset, .unset, .unset] [(.int (1 : Int32))])) _
        refine XS.istore X21.here hx rfl (hb hby at_246) rfl (l' := #[.val (.int p0), .val (.int p1), .val (.int p2), .val (.int p3), .val (.int p4), .val (.int (3 : Int32)), .val (.int (v0_3_9 p1)), .val (.int (v0_3_20 p1 p2)), .val (.int (v0_3_31 p1 p2 p3)), .val (.int (v0_3_31 p1 p2 p3)), .val (.int (v0_3_78 p1 p2 p3 p4)), .val (.ref b82), .val (.int (v0_3_9 p1)), .val (.int (v0_3_20 p1 p2)), .val (.int (v0_3_31 p1 p2 p3)), .val (.int (1 : Int32)), .unset, .unset]) rfl ?_
        show Steps p.tables e below (T21.setTop (mkF m 248 #[.val (.int p0), .val (.int p1), .val (.int p2), .val (.int p3), .val (.int p4), .val (.int (3 : Int32)), .val (.int (v0_3_9 p1)), .val (.int (v0_3_20 p1 p2)), .val (.int (v0_3_31 p1 p2 p3)), .val (.int (v0_3_31 p1 p2 p3)), .val (.int (v0_3_78 p1 p2 p3 p4)), .val (.ref b82), .val (.int (v0_3_9 p1)), .val (.int (v0_3_20 p1 p2)), .val (.int (v0_3_31 p1 p2 p3)), .val (.int (1 : Int32)), .unset, .unset] [])) _
        refine XS.iload X21.here hx rfl (hb hby at_248) rfl ?_
        show Steps p.tables e below (T21.setTop (mkF m 250 #[.val (.int p0), .val (.int p1), .val (.int p2), .val (.int p3), .val (.int p4), .val (.int (3 : Int32)), .val (.int (v0_3_9 p1)), .val (.int (v0_3_20 p1 p2)), .val (.int (v0_3_31 p1 p2 p3)), .val (.int (v0_3_31 p1 p2 p3)), .val (.int (v0_3_78 p1 p2 p3 p4)), .val (.ref b82), .val (.int (v0_3_9 p1)), .val (.int (v0_3_20 p1 p2)), .val (.int (v0_3_31 p1 p2 p3)), .val (.int (1 : Int32)), .unset, .unset] [(.int (v0_3_31 p1 p2 p3))])) _
        refine XS.iconst X21.here hx rfl (hb hby at_250) ?_
        show Steps p.tables e below (T21.setTop (mkF m 251 #[.val (.int p0), .val (.int p1), .val (.int p2), .val (.int p3), .val (.int p4), .val (.int (3 : Int32)), .val (.int (v0_3_9 p1)), .val (.int (v0_3_20 p1 p2)), .val (.int (v0_3_31 p1 p2 p3)), .val (.int (v0_3_31 p1 p2 p3)), .val (.int (v0_3_78 p1 p2 p3 p4)), .val (.ref b82), .val (.int (v0_3_9 p1)), .val (.int (v0_3_20 p1 p2)), .val (.int (v0_3_31 p1 p2 p3)), .val (.int (1 : Int32)), .unset, .unset] [(.int (1 : Int32)), (.int (v0_3_31 p1 p2 p3))])) _
        refine XS.iadd X21.here hx rfl (hb hby at_251) rfl ?_
        show Steps p.tables e below (T21.setTop (mkF m 252 #[.val (.int p0), .val (.int p1), .val (.int p2), .val (.int p3), .val (.int p4), .val (.int (3 : Int32)), .val (.int (v0_3_9 p1)), .val (.int (v0_3_20 p1 p2)), .val (.int (v0_3_31 p1 p2 p3)), .val (.int (v0_3_31 p1 p2 p3)), .val (.int (v0_3_78 p1 p2 p3 p4)), .val (.ref b82), .val (.int (v0_3_9 p1)), .val (.int (v0_3_20 p1 p2)), .val (.int (v0_3_31 p1 p2 p3)), .val (.int (1 : Int32)), .unset, .unset] [(.int ((v0_3_31 p1 p2 p3) + (1 : Int32)))])) _
        refine XS.istore X21.here hx rfl (hb hby at_252) rfl (l' := #[.val (.int p0), .val (.int p1), .val (.int p2), .val (.int p3), .val (.int p4), .val (.int (3 : Int32)), .val (.int (v0_3_9 p1)), .val (.int (v0_3_20 p1 p2)), .val (.int (v0_3_31 p1 p2 p3)), .val (.int (v0_3_31 p1 p2 p3)), .val (.int (v0_3_78 p1 p2 p3 p4)), .val (.ref b82), .val (.int (v0_3_9 p1)), .val (.int (v0_3_20 p1 p2)), .val (.int (v0_3_252 p1 p2 p3)), .val (.int (1 : Int32)), .unset, .unset]) rfl ?_
        show Steps p.tables e below (T21.setTop (mkF m 254 #[.val (.int p0), .val (.int p1), .val (.int p2), .val (.int p3), .val (.int p4), .val (.int (3 : Int32)), .val (.int (v0_3_9 p1)), .val (.int (v0_3_20 p1 p2)), .val (.int (v0_3_31 p1 p2 p3)), .val (.int (v0_3_31 p1 p2 p3)), .val (.int (v0_3_78 p1 p2 p3 p4)), .val (.ref b82), .val (.int (v0_3_9 p1)), .val (.int (v0_3_20 p1 p2)), .val (.int (v0_3_252 p1 p2 p3)), .val (.int (1 : Int32)), .unset, .unset] [])) _
        refine XS.goto X21.here hx rfl (pc0 := 254) (pc' := 320) rfl (hb hby at_254) (by decide) (by decide) ?_
        exact k)
      exact ⟨T21, _, X21, e21, N21, fun t k => pre25 t (by simpa only [v0_3_320_l12, v0_3_320_l13, v0_3_320_l14, v0_3_320_l15, if_pos hc242_1] using k)⟩
    · have pre26 : ∀ t, Steps p.tables e below (T21.setTop (mkF m 263 #[.val (.int p0), .val (.int p1), .val (.int p2), .val (.int p3), .val (.int p4), .val (.int (3 : Int32)), .val (.int (v0_3_9 p1)), .val (.int (v0_3_20 p1 p2)), .val (.int (v0_3_31 p1 p2 p3)), .val (.int (v0_3_31 p1 p2 p3)), .val (.int (v0_3_78 p1 p2 p3 p4)), .val (.ref b82), .val (.int (v0_3_9 p1)), .val (.int (v0_3_20 p1 p2)), .val (.int (v0_3_31 p1 p2 p3)), .unset, .unset, .unset] [(.int ((v0_3_78 p1 p2 p3 p4) - (2 : Int32))), (.int (v0_3_20 p1 p2))])) t → Steps p.tables e below (s₁.setTop (entryFrame m #[(.int p0), (.int p1), (.int p2), (.int p3), (.int p4)] maxLocals)) t := fun t k => pre23 t (by
        show Steps p.tables e below (T21.setTop (mkF m 242 #[.val (.int p0), .val (.int p1), .val (.int p2), .val (.int p3), .val (.int p4), .val (.int (3 : Int32)), .val (.int (v0_3_9 p1)), .val (.int (v0_3_20 p1 p2)), .val (.int (v0_3_31 p1 p2 p3)), .val (.int (v0_3_31 p1 p2 p3)), .val (.int (v0_3_78 p1 p2 p3 p4)), .val (.ref b82), .val (.int (v0_3_9 p1)), .val (.int (v0_3_20 p1 p2)), .val (.int (v0_3_31 p1 p2 p3)), .unset, .unset, .unset] [(.int ((v0_3_78 p1 p2 p3 p4) - (1 : Int32))), (.int (v0_3_31 p1 p2 p3))])) _
        refine XS.icmpYes X21.here hx rfl (pc0 := 242) (pc' := 257) rfl (hb hby at_242) rfl (flt hc242_1).2.1 (by decide) (by decide) ?_
        show Steps p.tables e below (T21.setTop (mkF m 257 #[.val (.int p0), .val (.int p1), .val (.int p2), .val (.int p3), .val (.int p4), .val (.int (3 : Int32)), .val (.int (v0_3_9 p1)), .val (.int (v0_3_20 p1 p2)), .val (.int (v0_3_31 p1 p2 p3)), .val (.int (v0_3_31 p1 p2 p3)), .val (.int (v0_3_78 p1 p2 p3 p4)), .val (.ref b82), .val (.int (v0_3_9 p1)), .val (.int (v0_3_20 p1 p2)), .val (.int (v0_3_31 p1 p2 p3)), .unset, .unset, .unset] [])) _
        refine XS.iload X21.here hx rfl (hb hby at_257) rfl ?_
        show Steps p.tables e below (T21.setTop (mkF m 259 #[.val (.int p0), .val (.int p1), .val (.int p2), .val (.int p3), .val (.int p4), .val (.int (3 : Int32)), .val (.int (v0_3_9 p1)), .val (.int (v0_3_20 p1 p2)), .val (.int (v0_3_31 p1 p2 p3)), .val (.int (v0_3_31 p1 p2 p3)), .val (.int (v0_3_78 p1 p2 p3 p4)), .val (.ref b82), .val (.int (v0_3_9 p1)), .val (.int (v0_3_20 p1 p2)), .val (.int (v0_3_31 p1 p2 p3)), .unset, .unset, .unset] [(.int (v0_3_20 p1 p2))])) _
        refine XS.iload X21.here hx rfl (hb hby at_259) rfl ?_
        show Steps p.tables e below (T21.setTop (mkF m 261 #[.val (.int p0), .val (.int p1), .val (.int p2), .val (.int p3), .val (.int p4), .val (.int (3 : Int32)), .val (.int (v0_3_9 p1)), .val (.int (v0_3_20 p1 p2)), .val (.int (v0_3_31 p1 p2 p3)), .val (.int (v0_3_31 p1 p2 p3)), .val (.int (v0_3_78 p1 p2 p3 p4)), .val (.ref b82), .val (.int (v0_3_9 p1)), .val (.int (v0_3_20 p1 p2)), .val (.int (v0_3_31 p1 p2 p3)), .unset, .unset, .unset] [(.int (v0_3_78 p1 p2 p3 p4)), (.int (v0_3_20 p1 p2))])) _
        refine XS.iconst X21.here hx rfl (hb hby at_261) ?_
        show Steps p.tables e below (T21.setTop (mkF m 262 #[.val (.int p0), .val (.int p1), .val (.int p2), .val (.int p3), .val (.int p4), .val (.int (3 : Int32)), .val (.int (v0_3_9 p1)), .val (.int (v0_3_20 p1 p2)), .val (.int (v0_3_31 p1 p2 p3)), .val (.int (v0_3_31 p1 p2 p3)), .val (.int (v0_3_78 p1 p2 p3 p4)), .val (.ref b82), .val (.int (v0_3_9 p1)), .val (.int (v0_3_20 p1 p2)), .val (.int (v0_3_31 p1 p2 p3)), .unset, .unset, .unset] [(.int (2 : Int32)), (.int (v0_3_78 p1 p2 p3 p4)), (.int (v0_3_20 p1 p2))])) _
        refine XS.isub X21.here hx rfl (hb hby at_262) rfl ?_
        exact k)
      by_cases hc263_2 : (v0_3_20 p1 p2) < ((v0_3_78 p1 p2 p3 p4) - (2 : Int32))
      · have pre27 : ∀ t, Steps p.tables e below (T21.setTop (mkF m 320 #[.val (.int p0), .val (.int p1), .val (.int p2), .val (.int p3), .val (.int p4), .val (.int (3 : Int32)), .val (.int (v0_3_9 p1)), .val (.int (v0_3_20 p1 p2)), .val (.int (v0_3_31 p1 p2 p3)), .val (.int (v0_3_31 p1 p2 p3)), .val (.int (v0_3_78 p1 p2 p3 p4)), .val (.ref b82), .val (.int (v0_3_9 p1)), .val (.int (v0_3_273 p1 p2)), .val (.int (v0_3_279 p1 p2)), .val (.int (1 : Int32)), .unset, .unset] [])) t → Steps p.tables e below (s₁.setTop (entryFrame m #[(.int p0), (.int p1), (.int p2), (.int p3), (.int p4)] maxLocals)) t := fun t k => pre26 t (by
          show Steps p.tables e below (T21.setTop (mkF m 263 #[.val (.int p0), .val (.int p1), .val (.int p2), .val (.int p3), .val (.int p4), .val (.int (3 : Int32)), .val (.int (v0_3_9 p1)), .val (.int (v0_3_20 p1 p2)), .val (.int (v0_3_31 p1 p2 p3)), .val (.int (v0_3_31 p1 p2 p3)), .val (.int (v0_3_78 p1 p2 p3 p4)), .val (.ref b82), .val (.int (v0_3_9 p1)), .val (.int (v0_3_20 p1 p2)), .val (.int (v0_3_31 p1 p2 p3)), .unset, .unset, .unset] [(.int ((v0_3_78 p1 p2 p3 p4) - (2 : Int32))), (.int (v0_3_20 p1 p2))])) _
          refine XS.icmpNo X21.here hx rfl (hb hby at_263) rfl (tlt hc263_2).2.1 ?_
          show Steps p.tables e below (T21.setTop (mkF m 266 #[.val (.int p0), .val (.int p1), .val (.int p2), .val (.int p3), .val (.int p4), .val (.int (3 : Int32)), .val (.int (v0_3_9 p1)), .val (.int (v0_3_20 p1 p2)), .val (.int (v0_3_31 p1 p2 p3)), .val (.int (v0_3_31 p1 p2 p3)), .val (.int (v0_3_78 p1 p2 p3 p4)), .val (.ref b82), .val (.int (v0_3_9 p1)), .val (.int (v0_3_20 p1 p2)), .val (.int (v0_3_31 p1 p2 p3)), .unset, .unset, .unset] [])) _
          refine XS.iconst X21.here hx rfl (hb hby at_266) ?_
          show Steps p.tables e below (T21.setTop (mkF m 267 #[.val (.int p0), .val (.int p1), .val (.int p2), .val (.int p3), .val (.int p4), .val (.int (3 : Int32)), .val (.int (v0_3_9 p1)), .val (.int (v0_3_20 p1 p2)), .val (.int (v0_3_31 p1 p2 p3)), .val (.int (v0_3_31 p1 p2 p3)), .val (.int (v0_3_78 p1 p2 p3 p4)), .val (.ref b82), .val (.int (v0_3_9 p1)), .val (.int (v0_3_20 p1 p2)), .val (.int (v0_3_31 p1 p2 p3)), .unset, .unset, .unset] [(.int (1 : Int32))])) _
          refine XS.istore X21.here hx rfl (hb hby at_267) rfl (l' := #[.val (.int p0), .val (.int p1), .val (.int p2), .val (.int p3), .val (.int p4), .val (.int (3 : Int32)), .val (.int (v0_3_9 p1)), .val (.int (v0_3_20 p1 p2)), .val (.int (v0_3_31 p1 p2 p3)), .val (.int (v0_3_31 p1 p2 p3)), .val (.int (v0_3_78 p1 p2 p3 p4)), .val (.ref b82), .val (.int (v0_3_9 p1)), .val (.int (v0_3_20 p1 p2)), .val (.int (v0_3_31 p1 p2 p3)), .val (.int (1 : Int32)), .unset, .unset]) rfl ?_
          show Steps p.tables e below (T21.setTop (mkF m 269 #[.val (.int p0), .val (.int p1), .val (.int p2), .val (.int p3), .val (.int p4), .val (.int (3 : Int32)), .val (.int (v0_3_9 p1)), .val (.int (v0_3_20 p1 p2)), .val (.int (v0_3_31 p1 p2 p3)), .val (.int (v0_3_31 p1 p2 p3)), .val (.int (v0_3_78 p1 p2 p3 p4)), .val (.ref b82), .val (.int (v0_3_9 p1)), .val (.int (v0_3_20 p1 p2)), .val (.int (v0_3_31 p1 p2 p3)), .val (.int (1 : Int32)), .unset, .unset] [])) _
          refine XS.iload X21.here hx rfl (hb hby at_269) rfl ?_
          show Steps p.tables e below (T21.setTop (mkF m 271 #[.val (.int p0), .val (.int p1), .val (.int p2), .val (.int p3), .val (.int p4), .val (.int (3 : Int32)), .val (.int (v0_3_9 p1)), .val (.int (v0_3_20 p1 p2)), .val (.int (v0_3_31 p1 p2 p3)), .val (.int (v0_3_31 p1 p2 p3)), .val (.int (v0_3_78 p1 p2 p3 p4)), .val (.ref b82), .val (.int (v0_3_9 p1)), .val (.int (v0_3_20 p1 p2)), .val (.int (v0_3_31 p1 p2 p3)), .val (.int (1 : Int32)), .unset, .unset] [(.int (v0_3_20 p1 p2))])) _
          refine XS.iconst X21.here hx rfl (hb hby at_271) ?_
          show Steps p.tables e below (T21.setTop (mkF m 272 #[.val (.int p0), .val (.int p1), .val (.int p2), .val (.int p3), .val (.int p4), .val (.int (3 : Int32)), .val (.int (v0_3_9 p1)), .val (.int (v0_3_20 p1 p2)), .val (.int (v0_3_31 p1 p2 p3)), .val (.int (v0_3_31 p1 p2 p3)), .val (.int (v0_3_78 p1 p2 p3 p4)), .val (.ref b82), .val (.int (v0_3_9 p1)), .val (.int (v0_3_20 p1 p2)), .val (.int (v0_3_31 p1 p2 p3)), .val (.int (1 : Int32)), .unset, .unset] [(.int (1 : Int32)), (.int (v0_3_20 p1 p2))])) _
          refine XS.iadd X21.here hx rfl (hb hby at_272) rfl ?_
          show Steps p.tables e below (T21.setTop (mkF m 273 #[.val (.int p0), .val (.int p1), .val (.int p2), .val (.int p3), .val (.int p4), .val (.int (3 : Int32)), .val (.int (v0_3_9 p1)), .val (.int (v0_3_20 p1 p2)), .val (.int (v0_3_31 p1 p2 p3)), .val (.int (v0_3_31 p1 p2 p3)), .val (.int (v0_3_78 p1 p2 p3 p4)), .val (.ref b82), .val (.int (v0_3_9 p1)), .val (.int (v0_3_20 p1 p2)), .val (.int (v0_3_31 p1 p2 p3)), .val (.int (1 : Int32)), .unset, .unset] [(.int ((v0_3_20 p1 p2) + (1 : Int32)))])) _
          refine XS.istore X21.here hx rfl (hb hby at_273) rfl (l' := #[.val (.int p0), .val (.int p1), .val (.int p2), .val (.int p3), .val (.int p4), .val (.int (3 : Int32)), .val (.int (v0_3_9 p1)), .val (.int (v0_3_20 p1 p2)), .val (.int (v0_3_31 p1 p2 p3)), .val (.int (v0_3_31 p1 p2 p3)), .val (.int (v0_3_78 p1 p2 p3 p4)), .val (.ref b82), .val (.int (v0_3_9 p1)), .val (.int (v0_3_273 p1 p2)), .val (.int (v0_3_31 p1 p2 p3)), .val (.int (1 : Int32)), .unset, .unset]) rfl ?_
          show Steps p.tables e below (T21.setTop (mkF m 275 #[.val (.int p0), .val (.int p1), .val (.int p2), .val (.int p3), .val (.int p4), .val (.int (3 : Int32)), .val (.int (v0_3_9 p1)), .val (.int (v0_3_20 p1 p2)), .val (.int (v0_3_31 p1 p2 p3)), .val (.int (v0_3_31 p1 p2 p3)), .val (.int (v0_3_78 p1 p2 p3 p4)), .val (.ref b82), .val (.int (v0_3_9 p1)), .val (.int (v0_3_273 p1 p2)), .val (.int (v0_3_31 p1 p2 p3)), .val (.int (1 : Int32)), .unset, .unset] [])) _
          refine XS.iload X21.here hx rfl (hb hby at_275) rfl ?_
          show Steps p.tables e below (T21.setTop (mkF m 277 #[.val (.int p0), .val (.int p1), .val (.int p2), .val (.int p3), .val (.int p4), .val (.int (3 : Int32)), .val (.int (v0_3_9 p1)), .val (.int (v0_3_20 p1 p2)), .val (.int (v0_3_31 p1 p2 p3)), .val (.int (v0_3_31 p1 p2 p3)), .val (.int (v0_3_78 p1 p2 p3 p4)), .val (.ref b82), .val (.int (v0_3_9 p1)), .val (.int (v0_3_273 p1 p2)), .val (.int (v0_3_31 p1 p2 p3)), .val (.int (1 : Int32)), .unset, .unset] [(.int (v0_3_20 p1 p2))])) _
          refine XS.iconst X21.here hx rfl (hb hby at_277) ?_
          show Steps p.tables e below (T21.setTop (mkF m 278 #[.val (.int p0), .val (.int p1), .val (.int p2), .val (.int p3), .val (.int p4), .val (.int (3 : Int32)), .val (.int (v0_3_9 p1)), .val (.int (v0_3_20 p1 p2)), .val (.int (v0_3_31 p1 p2 p3)), .val (.int (v0_3_31 p1 p2 p3)), .val (.int (v0_3_78 p1 p2 p3 p4)), .val (.ref b82), .val (.int (v0_3_9 p1)), .val (.int (v0_3_273 p1 p2)), .val (.int (v0_3_31 p1 p2 p3)), .val (.int (1 : Int32)), .unset, .unset] [(.int (2 : Int32)), (.int (v0_3_20 p1 p2))])) _
          refine XS.iadd X21.here hx rfl (hb hby at_278) rfl ?_
          show Steps p.tables e below (T21.setTop (mkF m 279 #[.val (.int p0), .val (.int p1), .val (.int p2), .val (.int p3), .val (.int p4), .val (.int (3 : Int32)), .val (.int (v0_3_9 p1)), .val (.int (v0_3_20 p1 p2)), .val (.int (v0_3_31 p1 p2 p3)), .val (.int (v0_3_31 p1 p2 p3)), .val (.int (v0_3_78 p1 p2 p3 p4)), .val (.ref b82), .val (.int (v0_3_9 p1)), .val (.int (v0_3_273 p1 p2)), .val (.int (v0_3_31 p1 p2 p3)), .val (.int (1 : Int32)), .unset, .unset] [(.int ((v0_3_20 p1 p2) + (2 : Int32)))])) _
          refine XS.istore X21.here hx rfl (hb hby at_279) rfl (l' := #[.val (.int p0), .val (.int p1), .val (.int p2), .val (.int p3), .val (.int p4), .val (.int (3 : Int32)), .val (.int (v0_3_9 p1)), .val (.int (v0_3_20 p1 p2)), .val (.int (v0_3_31 p1 p2 p3)), .val (.int (v0_3_31 p1 p2 p3)), .val (.int (v0_3_78 p1 p2 p3 p4)), .val (.ref b82), .val (.int (v0_3_9 p1)), .val (.int (v0_3_273 p1 p2)), .val (.int (v0_3_279 p1 p2)), .val (.int (1 : Int32)), .unset, .unset]) rfl ?_
          show Steps p.tables e below (T21.setTop (mkF m 281 #[.val (.int p0), .val (.int p1), .val (.int p2), .val (.int p3), .val (.int p4), .val (.int (3 : Int32)), .val (.int (v0_3_9 p1)), .val (.int (v0_3_20 p1 p2)), .val (.int (v0_3_31 p1 p2 p3)), .val (.int (v0_3_31 p1 p2 p3)), .val (.int (v0_3_78 p1 p2 p3 p4)), .val (.ref b82), .val (.int (v0_3_9 p1)), .val (.int (v0_3_273 p1 p2)), .val (.int (v0_3_279 p1 p2)), .val (.int (1 : Int32)), .unset, .unset] [])) _
          refine XS.goto X21.here hx rfl (pc0 := 281) (pc' := 320) rfl (hb hby at_281) (by decide) (by decide) ?_
          exact k)
        exact ⟨T21, _, X21, e21, N21, fun t k => pre27 t (by simpa only [v0_3_320_l12, v0_3_320_l13, v0_3_320_l14, v0_3_320_l15, if_neg hc242_1, if_pos hc263_2] using k)⟩
      · have pre28 : ∀ t, Steps p.tables e below (T21.setTop (mkF m 290 #[.val (.int p0), .val (.int p1), .val (.int p2), .val (.int p3), .val (.int p4), .val (.int (3 : Int32)), .val (.int (v0_3_9 p1)), .val (.int (v0_3_20 p1 p2)), .val (.int (v0_3_31 p1 p2 p3)), .val (.int (v0_3_31 p1 p2 p3)), .val (.int (v0_3_78 p1 p2 p3 p4)), .val (.ref b82), .val (.int (v0_3_9 p1)), .val (.int (v0_3_20 p1 p2)), .val (.int (v0_3_31 p1 p2 p3)), .unset, .unset, .unset] [(.int ((v0_3_78 p1 p2 p3 p4) - (3 : Int32))), (.int (v0_3_9 p1))])) t → Steps p.tables e below (s₁.setTop (entryFrame m #[(.int p0), (.int p1), (.int p2), (.int p3), (.int p4)] maxLocals)) t := fun t k => pre26 t (by
          show Steps p.tables e below (T21.setTop (mkF m 263 #[.val (.int p0), .val (.int p1), .val (.int p2), .val (.int p3), .val (.int p4), .val (.int (3 : Int32)), .val (.int (v0_3_9 p1)), .val (.int (v0_3_20 p1 p2)), .val (.int (v0_3_31 p1 p2 p3)), .val (.int (v0_3_31 p1 p2 p3)), .val (.int (v0_3_78 p1 p2 p3 p4)), .val (.ref b82), .val (.int (v0_3_9 p1)), .val (.int (v0_3_20 p1 p2)), .val (.int (v0_3_31 p1 p2 p3)), .unset, .unset, .unset] [(.int ((v0_3_78 p1 p2 p3 p4) - (2 : Int32))), (.int (v0_3_20 p1 p2))])) _
          refine XS.icmpYes X21.here hx rfl (pc0 := 263) (pc' := 284) rfl (hb hby at_263) rfl (flt hc263_2).2.1 (by decide) (by decide) ?_
          show Steps p.tables e below (T21.setTop (mkF m 284 #[.val (.int p0), .val (.int p1), .val (.int p2), .val (.int p3), .val (.int p4), .val (.int (3 : Int32)), .val (.int (v0_3_9 p1)), .val (.int (v0_3_20 p1 p2)), .val (.int (v0_3_31 p1 p2 p3)), .val (.int (v0_3_31 p1 p2 p3)), .val (.int (v0_3_78 p1 p2 p3 p4)), .val (.ref b82), .val (.int (v0_3_9 p1)), .val (.int (v0_3_20 p1 p2)), .val (.int (v0_3_31 p1 p2 p3)), .unset, .unset, .unset] [])) _
          refine XS.iload X21.here hx rfl (hb hby at_284) rfl ?_
          show Steps p.tables e below (T21.setTop (mkF m 286 #[.val (.int p0), .val (.int p1), .val (.int p2), .val (.int p3), .val (.int p4), .val (.int (3 : Int32)), .val (.int (v0_3_9 p1)), .val (.int (v0_3_20 p1 p2)), .val (.int (v0_3_31 p1 p2 p3)), .val (.int (v0_3_31 p1 p2 p3)), .val (.int (v0_3_78 p1 p2 p3 p4)), .val (.ref b82), .val (.int (v0_3_9 p1)), .val (.int (v0_3_20 p1 p2)), .val (.int (v0_3_31 p1 p2 p3)), .unset, .unset, .unset] [(.int (v0_3_9 p1))])) _
          refine XS.iload X21.here hx rfl (hb hby at_286) rfl ?_
          show Steps p.tables e below (T21.setTop (mkF m 288 #[.val (.int p0), .val (.int p1), .val (.int p2), .val (.int p3), .val (.int p4), .val (.int (3 : Int32)), .val (.int (v0_3_9 p1)), .val (.int (v0_3_20 p1 p2)), .val (.int (v0_3_31 p1 p2 p3)), .val (.int (v0_3_31 p1 p2 p3)), .val (.int (v0_3_78 p1 p2 p3 p4)), .val (.ref b82), .val (.int (v0_3_9 p1)), .val (.int (v0_3_20 p1 p2)), .val (.int (v0_3_31 p1 p2 p3)), .unset, .unset, .unset] [(.int (v0_3_78 p1 p2 p3 p4)), (.int (v0_3_9 p1))])) _
          refine XS.iconst X21.here hx rfl (hb hby at_288) ?_
          show Steps p.tables e below (T21.setTop (mkF m 289 #[.val (.int p0), .val (.int p1), .val (.int p2), .val (.int p3), .val (.int p4), .val (.int (3 : Int32)), .val (.int (v0_3_9 p1)), .val (.int (v0_3_20 p1 p2)), .val (.int (v0_3_31 p1 p2 p3)), .val (.int (v0_3_31 p1 p2 p3)), .val (.int (v0_3_78 p1 p2 p3 p4)), .val (.ref b82), .val (.int (v0_3_9 p1)), .val (.int (v0_3_20 p1 p2)), .val (.int (v0_3_31 p1 p2 p3)), .unset, .unset, .unset] [(.int (3 : Int32)), (.int (v0_3_78 p1 p2 p3 p4)), (.int (v0_3_9 p1))])) _
          refine XS.isub X21.here hx rfl (hb hby at_289) rfl ?_
          exact k)
        by_cases hc290_3 : (v0_3_9 p1) < ((v0_3_78 p1 p2 p3 p4) - (3 : Int32))
        · have pre29 : ∀ t, Steps p.tables e below (T21.setTop (mkF m 320 #[.val (.int p0), .val (.int p1), .val (.int p2), .val (.int p3), .val (.int p4), .val (.int (3 : Int32)), .val (.int (v0_3_9 p1)), .val (.int (v0_3_20 p1 p2)), .val (.int (v0_3_31 p1 p2 p3)), .val (.int (v0_3_31 p1 p2 p3)), .val (.int (v0_3_78 p1 p2 p3 p4)), .val (.ref b82), .val (.int (v0_3_300 p1)), .val (.int (v0_3_306 p1)), .val (.int (v0_3_312 p1)), .val (.int (1 : Int32)), .unset, .unset] [])) t → Steps p.tables e below (s₁.setTop (entryFrame m #[(.int p0), (.int p1), (.int p2), (.int p3), (.int p4)] maxLocals)) t := fun t k => pre28 t (by
            show Steps p.tables e below (T21.setTop (mkF m 290 #[.val (.int p0), .val (.int p1), .val (.int p2), .val (.int p3), .val (.int p4), .val (.int (3 : Int32)), .val (.int (v0_3_9 p1)), .val (.int (v0_3_20 p1 p2)), .val (.int (v0_3_31 p1 p2 p3)), .val (.int (v0_3_31 p1 p2 p3)), .val (.int (v0_3_78 p1 p2 p3 p4)), .val (.ref b82), .val (.int (v0_3_9 p1)), .val (.int (v0_3_20 p1 p2)), .val (.int (v0_3_31 p1 p2 p3)), .unset, .unset, .unset] [(.int ((v0_3_78 p1 p2 p3 p4) - (3 : Int32))), (.int (v0_3_9 p1))])) _
            refine XS.icmpNo X21.here hx rfl (hb hby at_290) rfl (tlt hc290_3).2.1 ?_
            show Steps p.tables e below (T21.setTop (mkF m 293 #[.val (.int p0), .val (.int p1), .val (.int p2), .val (.int p3), .val (.int p4), .val (.int (3 : Int32)), .val (.int (v0_3_9 p1)), .val (.int (v0_3_20 p1 p2)), .val (.int (v0_3_31 p1 p2 p3)), .val (.int (v0_3_31 p1 p2 p3)), .val (.int (v0_3_78 p1 p2 p3 p4)), .val (.ref b82), .val (.int (v0_3_9 p1)), .val (.int (v0_3_20 p1 p2)), .val (.int (v0_3_31 p1 p2 p3)), .unset, .unset, .unset] [])) _
            refine XS.iconst X21.here hx rfl (hb hby at_293) ?_
            show Steps p.tables e below (T21.setTop (mkF m 294 #[.val (.int p0), .val (.int p1), .val (.int p2), .val (.int p3), .val (.int p4), .val (.int (3 : Int32)), .val (.int (v0_3_9 p1)), .val (.int (v0_3_20 p1 p2)), .val (.int (v0_3_31 p1 p2 p3)), .val (.int (v0_3_31 p1 p2 p3)), .val (.int (v0_3_78 p1 p2 p3 p4)), .val (.ref b82), .val (.int (v0_3_9 p1)), .val (.int (v0_3_20 p1 p2)), .val (.int (v0_3_31 p1 p2 p3)), .unset, .unset, .unset] [(.int (1 : Int32))])) _
            refine XS.istore X21.here hx rfl (hb hby at_294) rfl (l' := #[.val (.int p0), .val (.int p1), .val (.int p2), .val (.int p3), .val (.int p4), .val (.int (3 : Int32)), .val (.int (v0_3_9 p1)), .val (.int (v0_3_20 p1 p2)), .val (.int (v0_3_31 p1 p2 p3)), .val (.int (v0_3_31 p1 p2 p3)), .val (.int (v0_3_78 p1 p2 p3 p4)), .val (.ref b82), .val (.int (v0_3_9 p1)), .val (.int (v0_3_20 p1 p2)), .val (.int (v0_3_31 p1 p2 p3)), .val (.int (1 : Int32)), .unset, .unset]) rfl ?_
            show Steps p.tables e below (T21.setTop (mkF m 296 #[.val (.int p0), .val (.int p1), .val (.int p2), .val (.int p3), .val (.int p4), .val (.int (3 : Int32)), .val (.int (v0_3_9 p1)), .val (.int (v0_3_20 p1 p2)), .val (.int (v0_3_31 p1 p2 p3)), .val (.int (v0_3_31 p1 p2 p3)), .val (.int (v0_3_78 p1 p2 p3 p4)), .val (.ref b82), .val (.int (v0_3_9 p1)), .val (.int (v0_3_20 p1 p2)), .val (.int (v0_3_31 p1 p2 p3)), .val (.int (1 : Int32)), .unset, .unset] [])) _
            refine XS.iload X21.here hx rfl (hb hby at_296) rfl ?_
            show Steps p.tables e below (T21.setTop (mkF m 298 #[.val (.int p0), .val (.int p1), .val (.int p2), .val (.int p3), .val (.int p4), .val (.int (3 : Int32)), .val (.int (v0_3_9 p1)), .val (.int (v0_3_20 p1 p2)), .val (.int (v0_3_31 p1 p2 p3)), .val (.int (v0_3_31 p1 p2 p3)), .val (.int (v0_3_78 p1 p2 p3 p4)), .val (.ref b82), .val (.int (v0_3_9 p1)), .val (.int (v0_3_20 p1 p2)), .val (.int (v0_3_31 p1 p2 p3)), .val (.int (1 : Int32)), .unset, .unset] [(.int (v0_3_9 p1))])) _
            refine XS.iconst X21.here hx rfl (hb hby at_298) ?_
            show Steps p.tables e below (T21.setTop (mkF m 299 #[.val (.int p0), .val (.int p1), .val (.int p2), .val (.int p3), .val (.int p4), .val (.int (3 : Int32)), .val (.int (v0_3_9 p1)), .val (.int (v0_3_20 p1 p2)), .val (.int (v0_3_31 p1 p2 p3)), .val (.int (v0_3_31 p1 p2 p3)), .val (.int (v0_3_78 p1 p2 p3 p4)), .val (.ref b82), .val (.int (v0_3_9 p1)), .val (.int (v0_3_20 p1 p2)), .val (.int (v0_3_31 p1 p2 p3)), .val (.int (1 : Int32)), .unset, .unset] [(.int (1 : Int32)), (.int (v0_3_9 p1))])) _
            refine XS.iadd X21.here hx rfl (hb hby at_299) rfl ?_
            show Steps p.tables e below (T21.setTop (mkF m 300 #[.val (.int p0), .val (.int p1), .val (.int p2), .val (.int p3), .val (.int p4), .val (.int (3 : Int32)), .val (.int (v0_3_9 p1)), .val (.int (v0_3_20 p1 p2)), .val (.int (v0_3_31 p1 p2 p3)), .val (.int (v0_3_31 p1 p2 p3)), .val (.int (v0_3_78 p1 p2 p3 p4)), .val (.ref b82), .val (.int (v0_3_9 p1)), .val (.int (v0_3_20 p1 p2)), .val (.int (v0_3_31 p1 p2 p3)), .val (.int (1 : Int32)), .unset, .unset] [(.int ((v0_3_9 p1) + (1 : Int32)))])) _
            refine XS.istore X21.here hx rfl (hb hby at_300) rfl (l' := #[.val (.int p0), .val (.int p1), .val (.int p2), .val (.int p3), .val (.int p4), .val (.int (3 : Int32)), .val (.int (v0_3_9 p1)), .val (.int (v0_3_20 p1 p2)), .val (.int (v0_3_31 p1 p2 p3)), .val (.int (v0_3_31 p1 p2 p3)), .val (.int (v0_3_78 p1 p2 p3 p4)), .val (.ref b82), .val (.int (v0_3_300 p1)), .val (.int (v0_3_20 p1 p2)), .val (.int (v0_3_31 p1 p2 p3)), .val (.int (1 : Int32)), .unset, .unset]) rfl ?_
            show Steps p.tables e below (T21.setTop (mkF m 302 #[.val (.int p0), .val (.int p1), .val (.int p2), .val (.int p3), .val (.int p4), .val (.int (3 : Int32)), .val (.int (v0_3_9 p1)), .val (.int (v0_3_20 p1 p2)), .val (.int (v0_3_31 p1 p2 p3)), .val (.int (v0_3_31 p1 p2 p3)), .val (.int (v0_3_78 p1 p2 p3 p4)), .val (.ref b82), .val (.int (v0_3_300 p1)), .val (.int (v0_3_20 p1 p2)), .val (.int (v0_3_31 p1 p2 p3)), .val (.int (1 : Int32)), .unset, .unset] [])) _
            refine XS.iload X21.here hx rfl (hb hby at_302) rfl ?_
            show Steps p.tables e below (T21.setTop (mkF m 304 #[.val (.int p0), .val (.int p1), .val (.int p2), .val (.int p3), .val (.int p4), .val (.int (3 : Int32)), .val (.int (v0_3_9 p1)), .val (.int (v0_3_20 p1 p2)), .val (.int (v0_3_31 p1 p2 p3)), .val (.int (v0_3_31 p1 p2 p3)), .val (.int (v0_3_78 p1 p2 p3 p4)), .val (.ref b82), .val (.int (v0_3_300 p1)), .val (.int (v0_3_20 p1 p2)), .val (.int (v0_3_31 p1 p2 p3)), .val (.int (1 : Int32)), .unset, .unset] [(.int (v0_3_9 p1))])) _
            refine XS.iconst X21.here hx rfl (hb hby at_304) ?_
            show Steps p.tables e below (T21.setTop (mkF m 305 #[.val (.int p0), .val (.int p1), .val (.int p2), .val (.int p3), .val (.int p4), .val (.int (3 : Int32)), .val (.int (v0_3_9 p1)), .val (.int (v0_3_20 p1 p2)), .val (.int (v0_3_31 p1 p2 p3)), .val (.int (v0_3_31 p1 p2 p3)), .val (.int (v0_3_78 p1 p2 p3 p4)), .val (.ref b82), .val (.int (v0_3_300 p1)), .val (.int (v0_3_20 p1 p2)), .val (.int (v0_3_31 p1 p2 p3)), .val (.int (1 : Int32)), .unset, .unset] [(.int (2 : Int32)), (.int (v0_3_9 p1))])) _
            refine XS.iadd X21.here hx rfl (hb hby at_305) rfl ?_
            show Steps p.tables e below (T21.setTop (mkF m 306 #[.val (.int p0), .val (.int p1), .val (.int p2), .val (.int p3), .val (.int p4), .val (.int (3 : Int32)), .val (.int (v0_3_9 p1)), .val (.int (v0_3_20 p1 p2)), .val (.int (v0_3_31 p1 p2 p3)), .val (.int (v0_3_31 p1 p2 p3)), .val (.int (v0_3_78 p1 p2 p3 p4)), .val (.ref b82), .val (.int (v0_3_300 p1)), .val (.int (v0_3_20 p1 p2)), .val (.int (v0_3_31 p1 p2 p3)), .val (.int (1 : Int32)), .unset, .unset] [(.int ((v0_3_9 p1) + (2 : Int32)))])) _
            refine XS.istore X21.here hx rfl (hb hby at_306) rfl (l' := #[.val (.int p0), .val (.int p1), .val (.int p2), .val (.int p3), .val (.int p4), .val (.int (3 : Int32)), .val (.int (v0_3_9 p1)), .val (.int (v0_3_20 p1 p2)), .val (.int (v0_3_31 p1 p2 p3)), .val (.int (v0_3_31 p1 p2 p3)), .val (.int (v0_3_78 p1 p2 p3 p4)), .val (.ref b82), .val (.int (v0_3_300 p1)), .val (.int (v0_3_306 p1)), .val (.int (v0_3_31 p1 p2 p3)), .val (.int (1 : Int32)), .unset, .unset]) rfl ?_
            show Steps p.tables e below (T21.setTop (mkF m 308 #[.val (.int p0), .val (.int p1), .val (.int p2), .val (.int p3), .val (.int p4), .val (.int (3 : Int32)), .val (.int (v0_3_9 p1)), .val (.int (v0_3_20 p1 p2)), .val (.int (v0_3_31 p1 p2 p3)), .val (.int (v0_3_31 p1 p2 p3)), .val (.int (v0_3_78 p1 p2 p3 p4)), .val (.ref b82), .val (.int (v0_3_300 p1)), .val (.int (v0_3_306 p1)), .val (.int (v0_3_31 p1 p2 p3)), .val (.int (1 : Int32)), .unset, .unset] [])) _
            refine XS.iload X21.here hx rfl (hb hby at_308) rfl ?_
            show Steps p.tables e below (T21.setTop (mkF m 310 #[.val (.int p0), .val (.int p1), .val (.int p2), .val (.int p3), .val (.int p4), .val (.int (3 : Int32)), .val (.int (v0_3_9 p1)), .val (.int (v0_3_20 p1 p2)), .val (.int (v0_3_31 p1 p2 p3)), .val (.int (v0_3_31 p1 p2 p3)), .val (.int (v0_3_78 p1 p2 p3 p4)), .val (.ref b82), .val (.int (v0_3_300 p1)), .val (.int (v0_3_306 p1)), .val (.int (v0_3_31 p1 p2 p3)), .val (.int (1 : Int32)), .unset, .unset] [(.int (v0_3_9 p1))])) _
            refine XS.iconst X21.here hx rfl (hb hby at_310) ?_
            show Steps p.tables e below (T21.setTop (mkF m 311 #[.val (.int p0), .val (.int p1), .val (.int p2), .val (.int p3), .val (.int p4), .val (.int (3 : Int32)), .val (.int (v0_3_9 p1)), .val (.int (v0_3_20 p1 p2)), .val (.int (v0_3_31 p1 p2 p3)), .val (.int (v0_3_31 p1 p2 p3)), .val (.int (v0_3_78 p1 p2 p3 p4)), .val (.ref b82), .val (.int (v0_3_300 p1)), .val (.int (v0_3_306 p1)), .val (.int (v0_3_31 p1 p2 p3)), .val (.int (1 : Int32)), .unset, .unset] [(.int (3 : Int32)), (.int (v0_3_9 p1))])) _
            refine XS.iadd X21.here hx rfl (hb hby at_311) rfl ?_
            show Steps p.tables e below (T21.setTop (mkF m 312 #[.val (.int p0), .val (.int p1), .val (.int p2), .val (.int p3), .val (.int p4), .val (.int (3 : Int32)), .val (.int (v0_3_9 p1)), .val (.int (v0_3_20 p1 p2)), .val (.int (v0_3_31 p1 p2 p3)), .val (.int (v0_3_31 p1 p2 p3)), .val (.int (v0_3_78 p1 p2 p3 p4)), .val (.ref b82), .val (.int (v0_3_300 p1)), .val (.int (v0_3_306 p1)), .val (.int (v0_3_31 p1 p2 p3)), .val (.int (1 : Int32)), .unset, .unset] [(.int ((v0_3_9 p1) + (3 : Int32)))])) _
            refine XS.istore X21.here hx rfl (hb hby at_312) rfl (l' := #[.val (.int p0), .val (.int p1), .val (.int p2), .val (.int p3), .val (.int p4), .val (.int (3 : Int32)), .val (.int (v0_3_9 p1)), .val (.int (v0_3_20 p1 p2)), .val (.int (v0_3_31 p1 p2 p3)), .val (.int (v0_3_31 p1 p2 p3)), .val (.int (v0_3_78 p1 p2 p3 p4)), .val (.ref b82), .val (.int (v0_3_300 p1)), .val (.int (v0_3_306 p1)), .val (.int (v0_3_312 p1)), .val (.int (1 : Int32)), .unset, .unset]) rfl ?_
            show Steps p.tables e below (T21.setTop (mkF m 314 #[.val (.int p0), .val (.int p1), .val (.int p2), .val (.int p3), .val (.int p4), .val (.int (3 : Int32)), .val (.int (v0_3_9 p1)), .val (.int (v0_3_20 p1 p2)), .val (.int (v0_3_31 p1 p2 p3)), .val (.int (v0_3_31 p1 p2 p3)), .val (.int (v0_3_78 p1 p2 p3 p4)), .val (.ref b82), .val (.int (v0_3_300 p1)), .val (.int (v0_3_306 p1)), .val (.int (v0_3_312 p1)), .val (.int (1 : Int32)), .unset, .unset] [])) _
            refine XS.goto X21.here hx rfl (pc0 := 314) (pc' := 320) rfl (hb hby at_314) (by decide) (by decide) ?_
            exact k)
          exact ⟨T21, _, X21, e21, N21, fun t k => pre29 t (by simpa only [v0_3_320_l12, v0_3_320_l13, v0_3_320_l14, v0_3_320_l15, if_neg hc242_1, if_neg hc263_2, if_pos hc290_3] using k)⟩
        · have pre30 : ∀ t, Steps p.tables e below (T21.setTop (mkF m 320 #[.val (.int p0), .val (.int p1), .val (.int p2), .val (.int p3), .val (.int p4), .val (.int (3 : Int32)), .val (.int (v0_3_9 p1)), .val (.int (v0_3_20 p1 p2)), .val (.int (v0_3_31 p1 p2 p3)), .val (.int (v0_3_31 p1 p2 p3)), .val (.int (v0_3_78 p1 p2 p3 p4)), .val (.ref b82), .val (.int (v0_3_9 p1)), .val (.int (v0_3_20 p1 p2)), .val (.int (v0_3_31 p1 p2 p3)), .val (.int (0 : Int32)), .unset, .unset] [])) t → Steps p.tables e below (s₁.setTop (entryFrame m #[(.int p0), (.int p1), (.int p2), (.int p3), (.int p4)] maxLocals)) t := fun t k => pre28 t (by
            show Steps p.tables e below (T21.setTop (mkF m 290 #[.val (.int p0), .val (.int p1), .val (.int p2), .val (.int p3), .val (.int p4), .val (.int (3 : Int32)), .val (.int (v0_3_9 p1)), .val (.int (v0_3_20 p1 p2)), .val (.int (v0_3_31 p1 p2 p3)), .val (.int (v0_3_31 p1 p2 p3)), .val (.int (v0_3_78 p1 p2 p3 p4)), .val (.ref b82), .val (.int (v0_3_9 p1)), .val (.int (v0_3_20 p1 p2)), .val (.int (v0_3_31 p1 p2 p3)), .unset, .unset, .unset] [(.int ((v0_3_78 p1 p2 p3 p4) - (3 : Int32))), (.int (v0_3_9 p1))])) _
            refine XS.icmpYes X21.here hx rfl (pc0 := 290) (pc' := 317) rfl (hb hby at_290) rfl (flt hc290_3).2.1 (by decide) (by decide) ?_
            show Steps p.tables e below (T21.setTop (mkF m 317 #[.val (.int p0), .val (.int p1), .val (.int p2), .val (.int p3), .val (.int p4), .val (.int (3 : Int32)), .val (.int (v0_3_9 p1)), .val (.int (v0_3_20 p1 p2)), .val (.int (v0_3_31 p1 p2 p3)), .val (.int (v0_3_31 p1 p2 p3)), .val (.int (v0_3_78 p1 p2 p3 p4)), .val (.ref b82), .val (.int (v0_3_9 p1)), .val (.int (v0_3_20 p1 p2)), .val (.int (v0_3_31 p1 p2 p3)), .unset, .unset, .unset] [])) _
            refine XS.iconst X21.here hx rfl (hb hby at_317) ?_
            show Steps p.tables e below (T21.setTop (mkF m 318 #[.val (.int p0), .val (.int p1), .val (.int p2), .val (.int p3), .val (.int p4), .val (.int (3 : Int32)), .val (.int (v0_3_9 p1)), .val (.int (v0_3_20 p1 p2)), .val (.int (v0_3_31 p1 p2 p3)), .val (.int (v0_3_31 p1 p2 p3)), .val (.int (v0_3_78 p1 p2 p3 p4)), .val (.ref b82), .val (.int (v0_3_9 p1)), .val (.int (v0_3_20 p1 p2)), .val (.int (v0_3_31 p1 p2 p3)), .unset, .unset, .unset] [(.int (0 : Int32))])) _
            refine XS.istore X21.here hx rfl (hb hby at_318) rfl (l' := #[.val (.int p0), .val (.int p1), .val (.int p2), .val (.int p3), .val (.int p4), .val (.int (3 : Int32)), .val (.int (v0_3_9 p1)), .val (.int (v0_3_20 p1 p2)), .val (.int (v0_3_31 p1 p2 p3)), .val (.int (v0_3_31 p1 p2 p3)), .val (.int (v0_3_78 p1 p2 p3 p4)), .val (.ref b82), .val (.int (v0_3_9 p1)), .val (.int (v0_3_20 p1 p2)), .val (.int (v0_3_31 p1 p2 p3)), .val (.int (0 : Int32)), .unset, .unset]) rfl ?_
            exact k)
          exact ⟨T21, _, X21, e21, N21, fun t k => pre30 t (by simpa only [v0_3_320_l12, v0_3_320_l13, v0_3_320_l14, v0_3_320_l15, if_neg hc242_1, if_neg hc263_2, if_neg hc290_3] using k)⟩
  have pre31 : ∀ t, Steps p.tables e below (T24.setTop (mkF m 324 #[.val (.int p0), .val (.int p1), .val (.int p2), .val (.int p3), .val (.int p4), .val (.int (3 : Int32)), .val (.int (v0_3_9 p1)), .val (.int (v0_3_20 p1 p2)), .val (.int (v0_3_31 p1 p2 p3)), .val (.int (v0_3_31 p1 p2 p3)), .val (.int (v0_3_78 p1 p2 p3 p4)), .val (.ref b82), .val (.int (v0_3_320_l12 p1 p2 p3 p4)), .val (.int (v0_3_320_l13 p1 p2 p3 p4)), .val (.int (v0_3_320_l14 p1 p2 p3 p4)), .val (.int (v0_3_320_l15 p1 p2 p3 p4)), .unset, .unset] [(.int (v0_3_78 p1 p2 p3 p4)), (.ref b82)])) t → Steps p.tables e below (s₁.setTop (entryFrame m #[(.int p0), (.int p1), (.int p2), (.int p3), (.int p4)] maxLocals)) t := fun t k => pre24 t (by
    show Steps p.tables e below (T24.setTop (mkF m 320 #[.val (.int p0), .val (.int p1), .val (.int p2), .val (.int p3), .val (.int p4), .val (.int (3 : Int32)), .val (.int (v0_3_9 p1)), .val (.int (v0_3_20 p1 p2)), .val (.int (v0_3_31 p1 p2 p3)), .val (.int (v0_3_31 p1 p2 p3)), .val (.int (v0_3_78 p1 p2 p3 p4)), .val (.ref b82), .val (.int (v0_3_320_l12 p1 p2 p3 p4)), .val (.int (v0_3_320_l13 p1 p2 p3 p4)), .val (.int (v0_3_320_l14 p1 p2 p3 p4)), .val (.int (v0_3_320_l15 p1 p2 p3 p4)), .unset, .unset] [])) _
    refine XS.aload X24.here hx rfl (hb hby at_320) rfl rfl ?_
    show Steps p.tables e below (T24.setTop (mkF m 322 #[.val (.int p0), .val (.int p1), .val (.int p2), .val (.int p3), .val (.int p4), .val (.int (3 : Int32)), .val (.int (v0_3_9 p1)), .val (.int (v0_3_20 p1 p2)), .val (.int (v0_3_31 p1 p2 p3)), .val (.int (v0_3_31 p1 p2 p3)), .val (.int (v0_3_78 p1 p2 p3 p4)), .val (.ref b82), .val (.int (v0_3_320_l12 p1 p2 p3 p4)), .val (.int (v0_3_320_l13 p1 p2 p3 p4)), .val (.int (v0_3_320_l14 p1 p2 p3 p4)), .val (.int (v0_3_320_l15 p1 p2 p3 p4)), .unset, .unset] [(.ref b82)])) _
    refine XS.iload X24.here hx rfl (hb hby at_322) rfl ?_
    exact k)
  obtain ⟨_, _, ⟨T32, L32, k32, n32⟩, -, X32, ⟨Lc32, hQ32, l32, y32, z32⟩, st32⟩ := Jvm.LawKit.callS X24 hx (y := (⟨"com/example/modloc/modloc/localize/Localizer", "advance", "([II)Z"⟩ : MethodName)) hown (mvT hZ (hw _ (List.mem_of_getElem? (i := 1) rfl))) (mvT hZ (hw _ (List.mem_of_getElem? (i := 2) rfl))) (mvT hZ (hw _ (List.mem_of_getElem? (i := 3) rfl))) (mvT hZ (hw _ (List.mem_of_getElem? (i := 4) rfl))) (by decide) (backOf (W := 0) (rm1_3 l Z a0 hw [] b82 (v0_3_78 p1 p2 p3 p4) _ (v0_3_9 p1) (v0_3_20 p1 p2) (v0_3_31 p1 p2 p3) h21 n0 Z21 V21 gg12) hZ (hw _ (List.mem_of_getElem? (i := 4) rfl)) (hw _ (List.mem_of_getElem? (i := 3) rfl)) (by decide) (by decide)) (g := (mkF m 324 #[.val (.int p0), .val (.int p1), .val (.int p2), .val (.int p3), .val (.int p4), .val (.int (3 : Int32)), .val (.int (v0_3_9 p1)), .val (.int (v0_3_20 p1 p2)), .val (.int (v0_3_31 p1 p2 p3)), .val (.int (v0_3_31 p1 p2 p3)), .val (.int (v0_3_78 p1 p2 p3 p4)), .val (.ref b82), .val (.int (v0_3_320_l12 p1 p2 p3 p4)), .val (.int (v0_3_320_l13 p1 p2 p3 p4)), .val (.int (v0_3_320_l14 p1 p2 p3 p4)), .val (.int (v0_3_320_l15 p1 p2 p3 p4)), .unset, .unset] [(.int (v0_3_78 p1 p2 p3 p4)), (.ref b82)])) rfl (by rw [hml]; rfl) (argsL := [(.ref b82), (.int (v0_3_78 p1 p2 p3 p4))]) (rest := []) (lenOf pd___II_Z rfl) rfl (by show 2 * 0 + _ ≤ _; exact Nat.le_of_eq rfl) (hb hby at_324) (fun _ _ => ⟨rfl, e24, (by decide : 1 + 0 ≤ _), (by decide : 3 + 0 ≤ _)⟩)
  dsimp only [Pt.U, Pt.locs, Pt.cells, Pt.slots] at X32 l32 y32 z32 st32 hQ32
  subst l32 y32 z32
  obtain ⟨rfl, Nq32, Kq32, o32_0⟩ := hQ32
  have N32 := Fr.app N24 Nq32
  have K32 : Keep h0 T32.heap [] := K21.trans Kq32 (allS (Or.inr sz12) all0)
  have Z32 : n0 ≤ T32.heap.size := Nat.le_trans Z21 Kq32.1
  have pre33 : ∀ t, Steps p.tables e below (T32.setTop (mkF m 327 #[.val (.int p0), .val (.int p1), .val (.int p2), .val (.int p3), .val (.int p4), .val (.int (3 : Int32)), .val (.int (v0_3_9 p1)), .val (.int (v0_3_20 p1 p2)), .val (.int (v0_3_31 p1 p2 p3)), .val (.int (v0_3_31 p1 p2 p3)), .val (.int (v0_3_78 p1 p2 p3 p4)), .val (.ref b82), .val (.int (v0_3_320_l12 p1 p2 p3 p4)), .val (.int (v0_3_320_l13 p1 p2 p3 p4)), .val (.int (v0_3_320_l14 p1 p2 p3 p4)), .val (.int (v0_3_320_l15 p1 p2 p3 p4)), .unset, .unset] [(.int (f1_3 (v0_3_78 p1 p2 p3 p4) (v0_3_9 p1) (v0_3_20 p1 p2) (v0_3_31 p1 p2 p3)))])) t → Steps p.tables e below (s₁.setTop (entryFrame m #[(.int p0), (.int p1), (.int p2), (.int p3), (.int p4)] maxLocals)) t := fun t k => pre31 t (st32 _ k)
  have pre34 : ∀ t, Steps p.tables e below (T32.setTop (mkF m 333 #[.val (.int p0), .val (.int p1), .val (.int p2), .val (.int p3), .val (.int p4), .val (.int (3 : Int32)), .val (.int (v0_3_9 p1)), .val (.int (v0_3_20 p1 p2)), .val (.int (v0_3_31 p1 p2 p3)), .val (.int (v0_3_31 p1 p2 p3)), .val (.int (v0_3_78 p1 p2 p3 p4)), .val (.ref b82), .val (.int (v0_3_320_l12 p1 p2 p3 p4)), .val (.int (v0_3_320_l13 p1 p2 p3 p4)), .val (.int (v0_3_320_l14 p1 p2 p3 p4)), .val (.int (v0_3_320_l15 p1 p2 p3 p4)), .val (.int (v0_3_327 p1 p2 p3 p4)), .unset] [(.int (v0_3_320_l15 p1 p2 p3 p4)), (.int (v0_3_327 p1 p2 p3 p4))])) t → Steps p.tables e below (s₁.setTop (entryFrame m #[(.int p0), (.int p1), (.int p2), (.int p3), (.int p4)] maxLocals)) t := fun t k => pre33 t (by
    show Steps p.tables e below (T32.setTop (mkF m 327 #[.val (.int p0), .val (.int p1), .val (.int p2), .val (.int p3), .val (.int p4), .val (.int (3 : Int32)), .val (.int (v0_3_9 p1)), .val (.int (v0_3_20 p1 p2)), .val (.int (v0_3_31 p1 p2 p3)), .val (.int (v0_3_31 p1 p2 p3)), .val (.int (v0_3_78 p1 p2 p3 p4)), .val (.ref b82), .val (.int (v0_3_320_l12 p1 p2 p3 p4)), .val (.int (v0_3_320_l13 p1 p2 p3 p4)), .val (.int (v0_3_320_l14 p1 p2 p3 p4)), .val (.int (v0_3_320_l15 p1 p2 p3 p4)), .unset, .unset] [(.int (f1_3 (v0_3_78 p1 p2 p3 p4) (v0_3_9 p1) (v0_3_20 p1 p2) (v0_3_31 p1 p2 p3)))])) _
    refine XS.istore X32.here hx rfl (hb hby at_327) rfl (l' := #[.val (.int p0), .val (.int p1), .val (.int p2), .val (.int p3), .val (.int p4), .val (.int (3 : Int32)), .val (.int (v0_3_9 p1)), .val (.int (v0_3_20 p1 p2)), .val (.int (v0_3_31 p1 p2 p3)), .val (.int (v0_3_31 p1 p2 p3)), .val (.int (v0_3_78 p1 p2 p3 p4)), .val (.ref b82), .val (.int (v0_3_320_l12 p1 p2 p3 p4)), .val (.int (v0_3_320_l13 p1 p2 p3 p4)), .val (.int (v0_3_320_l14 p1 p2 p3 p4)), .val (.int (v0_3_320_l15 p1 p2 p3 p4)), .val (.int (v0_3_327 p1 p2 p3 p4)), .unset]) rfl ?_
    show Steps p.tables e below (T32.setTop (mkF m 329 #[.val (.int p0), .val (.int p1), .val (.int p2), .val (.int p3), .val (.int p4), .val (.int (3 : Int32)), .val (.int (v0_3_9 p1)), .val (.int (v0_3_20 p1 p2)), .val (.int (v0_3_31 p1 p2 p3)), .val (.int (v0_3_31 p1 p2 p3)), .val (.int (v0_3_78 p1 p2 p3 p4)), .val (.ref b82), .val (.int (v0_3_320_l12 p1 p2 p3 p4)), .val (.int (v0_3_320_l13 p1 p2 p3 p4)), .val (.int (v0_3_320_l14 p1 p2 p3 p4)), .val (.int (v0_3_320_l15 p1 p2 p3 p4)), .val (.int (v0_3_327 p1 p2 p3 p4)), .unset] [])) _
    refine XS.iload X32.here hx rfl (hb hby at_329) rfl ?_
    show Steps p.tables e below (T32.setTop (mkF m 331 #[.val (.int p0), .val (.int p1), .val (.int p2), .val (.int p3), .val (.int p4), .val (.int (3 : Int32)), .val (.int (v0_3_9 p1)), .val (.int (v0_3_20 p1 p2)), .val (.int (v0_3_31 p1 p2 p3)), .val (.int (v0_3_31 p1 p2 p3)), .val (.int (v0_3_78 p1 p2 p3 p4)), .val (.ref b82), .val (.int (v0_3_320_l12 p1 p2 p3 p4)), .val (.int (v0_3_320_l13 p1 p2 p3 p4)), .val (.int (v0_3_320_l14 p1 p2 p3 p4)), .val (.int (v0_3_320_l15 p1 p2 p3 p4)), .val (.int (v0_3_327 p1 p2 p3 p4)), .unset] [(.int (v0_3_327 p1 p2 p3 p4))])) _
    refine XS.iload X32.here hx rfl (hb hby at_331) rfl ?_
    exact k)
  by_cases hc333_4 : (v0_3_327 p1 p2 p3 p4) = (v0_3_320_l15 p1 p2 p3 p4)
  · have pre35 : ∀ t, Steps p.tables e below (T32.setTop (mkF m 340 #[.val (.int p0), .val (.int p1), .val (.int p2), .val (.int p3), .val (.int p4), .val (.int (3 : Int32)), .val (.int (v0_3_9 p1)), .val (.int (v0_3_20 p1 p2)), .val (.int (v0_3_31 p1 p2 p3)), .val (.int (v0_3_31 p1 p2 p3)), .val (.int (v0_3_78 p1 p2 p3 p4)), .val (.ref b82), .val (.int (v0_3_320_l12 p1 p2 p3 p4)), .val (.int (v0_3_320_l13 p1 p2 p3 p4)), .val (.int (v0_3_320_l14 p1 p2 p3 p4)), .val (.int (v0_3_320_l15 p1 p2 p3 p4)), .val (.int (v0_3_327 p1 p2 p3 p4)), .unset] [(.int (v0_3_320_l15 p1 p2 p3 p4))])) t → Steps p.tables e below (s₁.setTop (entryFrame m #[(.int p0), (.int p1), (.int p2), (.int p3), (.int p4)] maxLocals)) t := fun t k => pre34 t (by
      show Steps p.tables e below (T32.setTop (mkF m 333 #[.val (.int p0), .val (.int p1), .val (.int p2), .val (.int p3), .val (.int p4), .val (.int (3 : Int32)), .val (.int (v0_3_9 p1)), .val (.int (v0_3_20 p1 p2)), .val (.int (v0_3_31 p1 p2 p3)), .val (.int (v0_3_31 p1 p2 p3)), .val (.int (v0_3_78 p1 p2 p3 p4)), .val (.ref b82), .val (.int (v0_3_320_l12 p1 p2 p3 p4)), .val (.int (v0_3_320_l13 p1 p2 p3 p4)), .val (.int (v0_3_320_l14 p1 p2 p3 p4)), .val (.int (v0_3_320_l15 p1 p2 p3 p4)), .val (.int (v0_3_327 p1 p2 p3 p4)), .unset] [(.int (v0_3_320_l15 p1 p2 p3 p4)), (.int (v0_3_327 p1 p2 p3 p4))])) _
      refine XS.icmpYes X32.here hx rfl (pc0 := 333) (pc' := 338) rfl (hb hby at_333) rfl (teq hc333_4).1 (by decide) (by decide) ?_
      show Steps p.tables e below (T32.setTop (mkF m 338 #[.val (.int p0), .val (.int p1), .val (.int p2), .val (.int p3), .val (.int p4), .val (.int (3 : Int32)), .val (.int (v0_3_9 p1)), .val (.int (v0_3_20 p1 p2)), .val (.int (v0_3_31 p1 p2 p3)), .val (.int (v0_3_31 p1 p2 p3)), .val (.int (v0_3_78 p1 p2 p3 p4)), .val (.ref b82), .val (.int (v0_3_320_l12 p1 p2 p3 p4)), .val (.int (v0_3_320_l13 p1 p2 p3 p4)), .val (.int (v0_3_320_l14 p1 p2 p3 p4)), .val (.int (v0_3_320_l15 p1 p2 p3 p4)), .val (.int (v0_3_327 p1 p2 p3 p4)), .unset] [])) _
      refine XS.iload X32.here hx rfl (hb hby at_338) rfl ?_
      exact k)
    by_cases hc340_5 : (v0_3_320_l15 p1 p2 p3 p4) = (0 : Int32)
    · have pre36 : ∀ t, Steps p.tables e below (T32.setTop (mkF m 344 #[.val (.int p0), .val (.int p1), .val (.int p2), .val (.int p3), .val (.int p4), .val (.int (3 : Int32)), .val (.int (v0_3_9 p1)), .val (.int (v0_3_20 p1 p2)), .val (.int (v0_3_31 p1 p2 p3)), .val (.int (v0_3_31 p1 p2 p3)), .val (.int (v0_3_78 p1 p2 p3 p4)), .val (.ref b82), .val (.int (v0_3_320_l12 p1 p2 p3 p4)), .val (.int (v0_3_320_l13 p1 p2 p3 p4)), .val (.int (v0_3_320_l14 p1 p2 p3 p4)), .val (.int (v0_3_320_l15 p1 p2 p3 p4)), .val (.int (v0_3_327 p1 p2 p3 p4)), .unset] [(.int (1 : Int32))])) t → Steps p.tables e below (s₁.setTop (entryFrame m #[(.int p0), (.int p1), (.int p2), (.int p3), (.int p4)] maxLocals)) t := fun t k => pre35 t (by
        show Steps p.tables e below (T32.setTop (mkF m 340 #[.val (.int p0), .val (.int p1), .val (.int p2), .val (.int p3), .val (.int p4), .val (.int (3 : Int32)), .val (.int (v0_3_9 p1)), .val (.int (v0_3_20 p1 p2)), .val (.int (v0_3_31 p1 p2 p3)), .val (.int (v0_3_31 p1 p2 p3)), .val (.int (v0_3_78 p1 p2 p3 p4)), .val (.ref b82), .val (.int (v0_3_320_l12 p1 p2 p3 p4)), .val (.int (v0_3_320_l13 p1 p2 p3 p4)), .val (.int (v0_3_320_l14 p1 p2 p3 p4)), .val (.int (v0_3_320_l15 p1 p2 p3 p4)), .val (.int (v0_3_327 p1 p2 p3 p4)), .unset] [(.int (v0_3_320_l15 p1 p2 p3 p4))])) _
        refine XS.ifNo X32.here hx rfl (hb hby at_340) rfl ((if0 _ _).trans (teq hc340_5).2) ?_
        show Steps p.tables e below (T32.setTop (mkF m 343 #[.val (.int p0), .val (.int p1), .val (.int p2), .val (.int p3), .val (.int p4), .val (.int (3 : Int32)), .val (.int (v0_3_9 p1)), .val (.int (v0_3_20 p1 p2)), .val (.int (v0_3_31 p1 p2 p3)), .val (.int (v0_3_31 p1 p2 p3)), .val (.int (v0_3_78 p1 p2 p3 p4)), .val (.ref b82), .val (.int (v0_3_320_l12 p1 p2 p3 p4)), .val (.int (v0_3_320_l13 p1 p2 p3 p4)), .val (.int (v0_3_320_l14 p1 p2 p3 p4)), .val (.int (v0_3_320_l15 p1 p2 p3 p4)), .val (.int (v0_3_327 p1 p2 p3 p4)), .unset] [])) _
        refine XS.iconst X32.here hx rfl (hb hby at_343) ?_
        exact k)
      obtain ⟨fs, hr, hrun, hended, hW, hsame⟩ := X32.leave (v := some (.int (1 : Int32))) (fun h => by rw [Bd.returns] at h; cases h)
      refine ⟨_, _, ?_, hrun, hended, _, _, rfl, ?_, ⟨_, rfl⟩, hW, hsame.mono (by decide) (by decide)⟩
      · exact pre36 _ (retN X32 hx (t := .boolean) Bd.returns (by simp) (hb hby at_344) hr)
      · exact ⟨by simp only [f0_3, if_pos hc333_4, if_pos hc340_5], N32, trivial⟩
    · have pre37 : ∀ t, Steps p.tables e below (T32.setTop (mkF m 362 #[.val (.int p0), .val (.int p1), .val (.int p2), .val (.int p3), .val (.int p4), .val (.int (3 : Int32)), .val (.int (v0_3_9 p1)), .val (.int (v0_3_20 p1 p2)), .val (.int (v0_3_31 p1 p2 p3)), .val (.int (v0_3_31 p1 p2 p3)), .val (.int (v0_3_78 p1 p2 p3 p4)), .val (.ref b82), .val (.int (v0_3_320_l12 p1 p2 p3 p4)), .val (.int (v0_3_320_l13 p1 p2 p3 p4)), .val (.int (v0_3_320_l14 p1 p2 p3 p4)), .val (.int (v0_3_320_l15 p1 p2 p3 p4)), .val (.int (v0_3_327 p1 p2 p3 p4)), .val (.int (1 : Int32))] [(.int (0 : Int32)), (.ref b82)])) t → Steps p.tables e below (s₁.setTop (entryFrame m #[(.int p0), (.int p1), (.int p2), (.int p3), (.int p4)] maxLocals)) t := fun t k => pre35 t (by
        show Steps p.tables e below (T32.setTop (mkF m 340 #[.val (.int p0), .val (.int p1), .val (.int p2), .val (.int p3), .val (.int p4), .val (.int (3 : Int32)), .val (.int (v0_3_9 p1)), .val (.int (v0_3_20 p1 p2)), .val (.int (v0_3_31 p1 p2 p3)), .val (.int (v0_3_31 p1 p2 p3)), .val (.int (v0_3_78 p1 p2 p3 p4)), .val (.ref b82), .val (.int (v0_3_320_l12 p1 p2 p3 p4)), .val (.int (v0_3_320_l13 p1 p2 p3 p4)), .val (.int (v0_3_320_l14 p1 p2 p3 p4)), .val (.int (v0_3_320_l15 p1 p2 p3 p4)), .val (.int (v0_3_327 p1 p2 p3 p4)), .unset] [(.int (v0_3_320_l15 p1 p2 p3 p4))])) _
        refine XS.ifYes X32.here hx rfl (pc0 := 340) (pc' := 345) rfl (hb hby at_340) rfl ((if0 _ _).trans (feq hc340_5).2) (by decide) (by decide) ?_
        show Steps p.tables e below (T32.setTop (mkF m 345 #[.val (.int p0), .val (.int p1), .val (.int p2), .val (.int p3), .val (.int p4), .val (.int (3 : Int32)), .val (.int (v0_3_9 p1)), .val (.int (v0_3_20 p1 p2)), .val (.int (v0_3_31 p1 p2 p3)), .val (.int (v0_3_31 p1 p2 p3)), .val (.int (v0_3_78 p1 p2 p3 p4)), .val (.ref b82), .val (.int (v0_3_320_l12 p1 p2 p3 p4)), .val (.int (v0_3_320_l13 p1 p2 p3 p4)), .val (.int (v0_3_320_l14 p1 p2 p3 p4)), .val (.int (v0_3_320_l15 p1 p2 p3 p4)), .val (.int (v0_3_327 p1 p2 p3 p4)), .unset] [])) _
        refine XS.iconst X32.here hx rfl (hb hby at_345) ?_
        show Steps p.tables e below (T32.setTop (mkF m 346 #[.val (.int p0), .val (.int p1), .val (.int p2), .val (.int p3), .val (.int p4), .val (.int (3 : Int32)), .val (.int (v0_3_9 p1)), .val (.int (v0_3_20 p1 p2)), .val (.int (v0_3_31 p1 p2 p3)), .val (.int (v0_3_31 p1 p2 p3)), .val (.int (v0_3_78 p1 p2 p3 p4)), .val (.ref b82), .val (.int (v0_3_320_l12 p1 p2 p3 p4)), .val (.int (v0_3_320_l13 p1 p2 p3 p4)), .val (.int (v0_3_320_l14 p1 p2 p3 p4)), .val (.int (v0_3_320_l15 p1 p2 p3 p4)), .val (.int (v0_3_327 p1 p2 p3 p4)), .unset] [(.int (1 : Int32))])) _
        refine XS.istore X32.here hx rfl (hb hby at_346) rfl (l' := #[.val (.int p0), .val (.int p1), .val (.int p2), .val (.int p3), .val (.int p4), .val (.int (3 : Int32)), .val (.int (v0_3_9 p1)), .val (.int (v0_3_20 p1 p2)), .val (.int (v0_3_31 p1 p2 p3)), .val (.int (v0_3_31 p1 p2 p3)), .val (.int (v0_3_78 p1 p2 p3 p4)), .val (.ref b82), .val (.int (v0_3_320_l12 p1 p2 p3 p4)), .val (.int (v0_3_320_l13 p1 p2 p3 p4)), .val (.int (v0_3_320_l14 p1 p2 p3 p4)), .val (.int (v0_3_320_l15 p1 p2 p3 p4)), .val (.int (v0_3_327 p1 p2 p3 p4)), .val (.int (1 : Int32))]) rfl ?_
        show Steps p.tables e below (T32.setTop (mkF m 348 #[.val (.int p0), .val (.int p1), .val (.int p2), .val (.int p3), .val (.int p4), .val (.int (3 : Int32)), .val (.int (v0_3_9 p1)), .val (.int (v0_3_20 p1 p2)), .val (.int (v0_3_31 p1 p2 p3)), .val (.int (v0_3_31 p1 p2 p3)), .val (.int (v0_3_78 p1 p2 p3 p4)), .val (.ref b82), .val (.int (v0_3_320_l12 p1 p2 p3 p4)), .val (.int (v0_3_320_l13 p1 p2 p3 p4)), .val (.int (v0_3_320_l14 p1 p2 p3 p4)), .val (.int (v0_3_320_l15 p1 p2 p3 p4)), .val (.int (v0_3_327 p1 p2 p3 p4)), .val (.int (1 : Int32))] [])) _
        refine XS.iload X32.here hx rfl (hb hby at_348) rfl ?_
        show Steps p.tables e below (T32.setTop (mkF m 350 #[.val (.int p0), .val (.int p1), .val (.int p2), .val (.int p3), .val (.int p4), .val (.int (3 : Int32)), .val (.int (v0_3_9 p1)), .val (.int (v0_3_20 p1 p2)), .val (.int (v0_3_31 p1 p2 p3)), .val (.int (v0_3_31 p1 p2 p3)), .val (.int (v0_3_78 p1 p2 p3 p4)), .val (.ref b82), .val (.int (v0_3_320_l12 p1 p2 p3 p4)), .val (.int (v0_3_320_l13 p1 p2 p3 p4)), .val (.int (v0_3_320_l14 p1 p2 p3 p4)), .val (.int (v0_3_320_l15 p1 p2 p3 p4)), .val (.int (v0_3_327 p1 p2 p3 p4)), .val (.int (1 : Int32))] [(.int (3 : Int32))])) _
        refine XS.iconst X32.here hx rfl (hb hby at_350) ?_
        show Steps p.tables e below (T32.setTop (mkF m 351 #[.val (.int p0), .val (.int p1), .val (.int p2), .val (.int p3), .val (.int p4), .val (.int (3 : Int32)), .val (.int (v0_3_9 p1)), .val (.int (v0_3_20 p1 p2)), .val (.int (v0_3_31 p1 p2 p3)), .val (.int (v0_3_31 p1 p2 p3)), .val (.int (v0_3_78 p1 p2 p3 p4)), .val (.ref b82), .val (.int (v0_3_320_l12 p1 p2 p3 p4)), .val (.int (v0_3_320_l13 p1 p2 p3 p4)), .val (.int (v0_3_320_l14 p1 p2 p3 p4)), .val (.int (v0_3_320_l15 p1 p2 p3 p4)), .val (.int (v0_3_327 p1 p2 p3 p4)), .val (.int (1 : Int32))] [(.int (1 : Int32)), (.int (3 : Int32))])) _
        refine XS.icmpNo X32.here hx rfl (hb hby at_351) rfl (by decide) ?_
        show Steps p.tables e below (T32.setTop (mkF m 354 #[.val (.int p0), .val (.int p1), .val (.int p2), .val (.int p3), .val (.int p4), .val (.int (3 : Int32)), .val (.int (v0_3_9 p1)), .val (.int (v0_3_20 p1 p2)), .val (.int (v0_3_31 p1 p2 p3)), .val (.int (v0_3_31 p1 p2 p3)), .val (.int (v0_3_78 p1 p2 p3 p4)), .val (.ref b82), .val (.int (v0_3_320_l12 p1 p2 p3 p4)), .val (.int (v0_3_320_l13 p1 p2 p3 p4)), .val (.int (v0_3_320_l14 p1 p2 p3 p4)), .val (.int (v0_3_320_l15 p1 p2 p3 p4)), .val (.int (v0_3_327 p1 p2 p3 p4)), .val (.int (1 : Int32))] [])) _
        refine XS.iload X32.here hx rfl (hb hby at_354) rfl ?_
        show Steps p.tables e below (T32.setTop (mkF m 356 #[.val (.int p0), .val (.int p1), .val (.int p2), .val (.int p3), .val (.int p4), .val (.int (3 : Int32)), .val (.int (v0_3_9 p1)), .val (.int (v0_3_20 p1 p2)), .val (.int (v0_3_31 p1 p2 p3)), .val (.int (v0_3_31 p1 p2 p3)), .val (.int (v0_3_78 p1 p2 p3 p4)), .val (.ref b82), .val (.int (v0_3_320_l12 p1 p2 p3 p4)), .val (.int (v0_3_320_l13 p1 p2 p3 p4)), .val (.int (v0_3_320_l14 p1 p2 p3 p4)), .val (.int (v0_3_320_l15 p1 p2 p3 p4)), .val (.int (v0_3_327 p1 p2 p3 p4)), .val (.int (1 : Int32))] [(.int (1 : Int32))])) _
        refine XS.ifNo X32.here hx rfl (hb hby at_356) rfl (by decide) ?_
        show Steps p.tables e below (T32.setTop (mkF m 359 #[.val (.int p0), .val (.int p1), .val (.int p2), .val (.int p3), .val (.int p4), .val (.int (3 : Int32)), .val (.int (v0_3_9 p1)), .val (.int (v0_3_20 p1 p2)), .val (.int (v0_3_31 p1 p2 p3)), .val (.int (v0_3_31 p1 p2 p3)), .val (.int (v0_3_78 p1 p2 p3 p4)), .val (.ref b82), .val (.int (v0_3_320_l12 p1 p2 p3 p4)), .val (.int (v0_3_320_l13 p1 p2 p3 p4)), .val (.int (v0_3_320_l14 p1 p2 p3 p4)), .val (.int (v0_3_320_l15 p1 p2 p3 p4)), .val (.int (v0_3_327 p1 p2 p3 p4)), .val (.int (1 : Int32))] [])) _
        refine XS.aload X32.here hx rfl (hb hby at_359) rfl rfl ?_
        show Steps p.tables e below (T32.setTop (mkF m 361 #[.val (.int p0), .val (.int p1), .val (.int p2), .val (.int p3), .val (.int p4), .val (.int (3 : Int32)), .val (.int (v0_3_9 p1)), .val (.int (v0_3_20 p1 p2)), .val (.int (v0_3_31 p1 p2 p3)), .val (.int (v0_3_31 p1 p2 p3)), .val (.int (v0_3_78 p1 p2 p3 p4)), .val (.ref b82), .val (.int (v0_3_320_l12 p1 p2 p3 p4)), .val (.int (v0_3_320_l13 p1 p2 p3 p4)), .val (.int (v0_3_320_l14 p1 p2 p3 p4)), .val (.int (v0_3_320_l15 p1 p2 p3 p4)), .val (.int (v0_3_327 p1 p2 p3 p4)), .val (.int (1 : Int32))] [(.ref b82)])) _
        refine XS.iconst X32.here hx rfl (hb hby at_361) ?_
        exact k)
      obtain ⟨cl38, Ar38, -, Sz38, Mn38, Hs38, -⟩ := id o32_0
      have hin38 : ¬ ((0 : Int32) < 0 ∨ cl38.slots.size ≤ ((0 : Int32)).toNatClampNeg) := inb_of Sz38 ⟨by decide, by decide⟩
      have hat38 : cl38.slots[((0 : Int32)).toNatClampNeg]? = some (.int (g1_3_o0_0 (v0_3_78 p1 p2 p3 p4) (v0_3_9 p1) (v0_3_20 p1 p2) (v0_3_31 p1 p2 p3))) := Hs38.at hin38 rfl
      have pre39 : ∀ t, Steps p.tables e below (T32.setTop (mkF m 363 #[.val (.int p0), .val (.int p1), .val (.int p2), .val (.int p3), .val (.int p4), .val (.int (3 : Int32)), .val (.int (v0_3_9 p1)), .val (.int (v0_3_20 p1 p2)), .val (.int (v0_3_31 p1 p2 p3)), .val (.int (v0_3_31 p1 p2 p3)), .val (.int (v0_3_78 p1 p2 p3 p4)), .val (.ref b82), .val (.int (v0_3_320_l12 p1 p2 p3 p4)), .val (.int (v0_3_320_l13 p1 p2 p3 p4)), .val (.int (v0_3_320_l14 p1 p2 p3 p4)), .val (.int (v0_3_320_l15 p1 p2 p3 p4)), .val (.int (v0_3_327 p1 p2 p3 p4)), .val (.int (1 : Int32))] [(.int (g1_3_o0_0 (v0_3_78 p1 p2 p3 p4) (v0_3_9 p1) (v0_3_20 p1 p2) (v0_3_31 p1 p2 p3)))])) t → Steps p.tables e below (s₁.setTop (entryFrame m #[(.int p0), (.int p1), (.int p2), (.int p3), (.int p4)] maxLocals)) t := fun t k => pre37 t (by
        show Steps p.tables e below (T32.setTop (mkF m 362 #[.val (.int p0), .val (.int p1), .val (.int p2), .val (.int p3), .val (.int p4), .val (.int (3 : Int32)), .val (.int (v0_3_9 p1)), .val (.int (v0_3_20 p1 p2)), .val (.int (v0_3_31 p1 p2 p3)), .val (.int (v0_3_31 p1 p2 p3)), .val (.int (v0_3_78 p1 p2 p3 p4)), .val (.ref b82), .val (.int (v0_3_320_l12 p1 p2 p3 p4)), .val (.int (v0_3_320_l13 p1 p2 p3 p4)), .val (.int (v0_3_320_l14 p1 p2 p3 p4)), .val (.int (v0_3_320_l15 p1 p2 p3 p4)), .val (.int (v0_3_327 p1 p2 p3 p4)), .val (.int (1 : Int32))] [(.int (0 : Int32)), (.ref b82)])) _
        refine X32.iaload hx (j := (0 : Int32)) (v := (.int (g1_3_o0_0 (v0_3_78 p1 p2 p3 p4) (v0_3_9 p1) (v0_3_20 p1 p2) (v0_3_31 p1 p2 p3)))) Ar38.1 (State.isArrayOf_alike hZ.alike Ar38.2.1) Ar38.2.2 hin38 hat38 (g := (mkF m 362 #[.val (.int p0), .val (.int p1), .val (.int p2), .val (.int p3), .val (.int p4), .val (.int (3 : Int32)), .val (.int (v0_3_9 p1)), .val (.int (v0_3_20 p1 p2)), .val (.int (v0_3_31 p1 p2 p3)), .val (.int (v0_3_31 p1 p2 p3)), .val (.int (v0_3_78 p1 p2 p3 p4)), .val (.ref b82), .val (.int (v0_3_320_l12 p1 p2 p3 p4)), .val (.int (v0_3_320_l13 p1 p2 p3 p4)), .val (.int (v0_3_320_l14 p1 p2 p3 p4)), .val (.int (v0_3_320_l15 p1 p2 p3 p4)), .val (.int (v0_3_327 p1 p2 p3 p4)), .val (.int (1 : Int32))] [(.int (0 : Int32)), (.ref b82)])) rfl rfl (hb hby at_362) _ ?_
        exact k)
      have pre40 : ∀ t, Steps p.tables e below (T32.setTop (mkF m 365 #[.val (.int p0), .val (.int p1), .val (.int p2), .val (.int p3), .val (.int p4), .val (.int (3 : Int32)), .val (.int (v0_3_9 p1)), .val (.int (v0_3_20 p1 p2)), .val (.int (v0_3_31 p1 p2 p3)), .val (.int (v0_3_31 p1 p2 p3)), .val (.int (v0_3_78 p1 p2 p3 p4)), .val (.ref b82), .val (.int (v0_3_320_l12 p1 p2 p3 p4)), .val (.int (v0_3_320_l13 p1 p2 p3 p4)), .val (.int (v0_3_320_l14 p1 p2 p3 p4)), .val (.int (v0_3_320_l15 p1 p2 p3 p4)), .val (.int (v0_3_327 p1 p2 p3 p4)), .val (.int (1 : Int32))] [(.int (v0_3_320_l12 p1 p2 p3 p4)), (.int (g1_3_o0_0 (v0_3_78 p1 p2 p3 p4) (v0_3_9 p1) (v0_3_20 p1 p2) (v0_3_31 p1 p2 p3)))])) t → Steps p.tables e below (s₁.setTop (entryFrame m #[(.int p0), (.int p1), (.int p2), (.int p3), (.int p4)] maxLocals)) t := fun t k => pre39 t (by
        show Steps p.tables e below (T32.setTop (mkF m 363 #[.val (.int p0), .val (.int p1), .val (.int p2), .val (.int p3), .val (.int p4), .val (.int (3 : Int32)), .val (.int (v0_3_9 p1)), .val (.int (v0_3_20 p1 p2)), .val (.int (v0_3_31 p1 p2 p3)), .val (.int (v0_3_31 p1 p2 p3)), .val (.int (v0_3_78 p1 p2 p3 p4)), .val (.ref b82), .val (.int (v0_3_320_l12 p1 p2 p3 p4)), .val (.int (v0_3_320_l13 p1 p2 p3 p4)), .val (.int (v0_3_320_l14 p1 p2 p3 p4)), .val (.int (v0_3_320_l15 p1 p2 p3 p4)), .val (.int (v0_3_327 p1 p2 p3 p4)), .val (.int (1 : Int32))] [(.int (g1_3_o0_0 (v0_3_78 p1 p2 p3 p4) (v0_3_9 p1) (v0_3_20 p1 p2) (v0_3_31 p1 p2 p3)))])) _
        refine XS.iload X32.here hx rfl (hb hby at_363) rfl ?_
        exact k)
      obtain ⟨T41, L41, X41, e41, N41, pre41⟩ : ∃ (T' : State) (L' : List Loc), Stand p l e room_1 s m #[(.int p0), (.int p1), (.int p2), (.int p3), (.int p4)] below meth c T' L' 1 3 ∧ T'.heap = T32.heap ∧ Fr n0 L' ∧ ∀ t, Steps p.tables e below (T'.setTop (mkF m 373 #[.val (.int p0), .val (.int p1), .val (.int p2), .val (.int p3), .val (.int p4), .val (.int (3 : Int32)), .val (.int (v0_3_9 p1)), .val (.int (v0_3_20 p1 p2)), .val (.int (v0_3_31 p1 p2 p3)), .val (.int (v0_3_31 p1 p2 p3)), .val (.int (v0_3_78 p1 p2 p3 p4)), .val (.ref b82), .val (.int (v0_3_320_l12 p1 p2 p3 p4)), .val (.int (v0_3_320_l13 p1 p2 p3 p4)), .val (.int (v0_3_320_l14 p1 p2 p3 p4)), .val (.int (v0_3_320_l15 p1 p2 p3 p4)), .val (.int (v0_3_327 p1 p2 p3 p4)), .val (.int (1 : Int32))] [(.int (v0_3_373_s0 p1 p2 p3 p4))])) t → Steps p.tables e below (s₁.setTop (entryFrame m #[(.int p0), (.int p1), (.int p2), (.int p3), (.int p4)] maxLocals)) t := by
        by_cases hc365_6 : (g1_3_o0_0 (v0_3_78 p1 p2 p3 p4) (v0_3_9 p1) (v0_3_20 p1 p2) (v0_3_31 p1 p2 p3)) = (v0_3_320_l12 p1 p2 p3 p4)
        · have pre42 : ∀ t, Steps p.tables e below (T32.setTop (mkF m 373 #[.val (.int p0), .val (.int p1), .val (.int p2), .val (.int p3), .val (.int p4), .val (.int (3 : Int32)), .val (.int (v0_3_9 p1)), .val (.int (v0_3_20 p1 p2)), .val (.int (v0_3_31 p1 p2 p3)), .val (.int (v0_3_31 p1 p2 p3)), .val (.int (v0_3_78 p1 p2 p3 p4)), .val (.ref b82), .val (.int (v0_3_320_l12 p1 p2 p3 p4)), .val (.int (v0_3_320_l13 p1 p2 p3 p4)), .val (.int (v0_3_320_l14 p1 p2 p3 p4)), .val (.int (v0_3_320_l15 p1 p2 p3 p4)), .val (.int (v0_3_327 p1 p2 p3 p4)), .val (.int (1 : Int32))] [(.int (1 : Int32))])) t → Steps p.tables e below (s₁.setTop (entryFrame m #[(.int p0), (.int p1), (.int p2), (.int p3), (.int p4)] maxLocals)) t := fun t k => pre40 t (by
            show Steps p.tables e below (T32.setTop (mkF m 365 #[.val (.int p0), .val (.int p1), .val (.int p2), .val (.int p3), .val (.int p4), .val (.int (3 : Int32)), .val (.int (v0_3_9 p1)), .val (.int (v0_3_20 p1 p2)), .val (.int (v0_3_31 p1 p2 p3)), .val (.int (v0_3_31 p1 p2 p3)), .val (.int (v0_3_78 p1 p2 p3 p4)), .val (.ref b82), .val (.int (v0_3_320_l12 p1 p2 p3 p4)), .val (.int (v0_3_320_l13 p1 p2 p3 p4)), .val (.int (v0_3_320_l14 p1 p2 p3 p4)), .val (.int (v0_3_320_l15 p1 p2 p3 p4)), .val (.int (v0_3_327 p1 p2 p3 p4)), .val (.int (1 : Int32))] [(.int (v0_3_320_l12 p1 p2 p3 p4)), (.int (g1_3_o0_0 (v0_3_78 p1 p2 p3 p4) (v0_3_9 p1) (v0_3_20 p1 p2) (v0_3_31 p1 p2 p3)))])) _
            refine XS.icmpNo X32.here hx rfl (hb hby at_365) rfl (teq hc365_6).2 ?_
            show Steps p.tables e below (T32.setTop (mkF m 368 #[.val (.int p0), .val (.int p1), .val (.int p2), .val (.int p3), .val (.int p4), .val (.int (3 : Int32)), .val (.int (v0_3_9 p1)), .val (.int (v0_3_20 p1 p2)), .val (.int (v0_3_31 p1 p2 p3)), .val (.int (v0_3_31 p1 p2 p3)), .val (.int (v0_3_78 p1 p2 p3 p4)), .val (.ref b82), .val (.int (v0_3_320_l12 p1 p2 p3 p4)), .val (.int (v0_3_320_l13 p1 p2 p3 p4)), .val (.int (v0_3_320_l14 p1 p2 p3 p4)), .val (.int (v0_3_320_l15 p1 p2 p3 p4)), .val (.int (v0_3_327 p1 p2 p3 p4)), .val (.int (1 : Int32))] [])) _
            refine XS.iconst X32.here hx rfl (hb hby at_368) ?_
            show Steps p.tables e below (T32.setTop (mkF m 369 #[.val (.int p0), .val (.int p1), .val (.int p2), .val (.int p3), .val (.int p4), .val (.int (3 : Int32)), .val (.int (v0_3_9 p1)), .val (.int (v0_3_20 p1 p2)), .val (.int (v0_3_31 p1 p2 p3)), .val (.int (v0_3_31 p1 p2 p3)), .val (.int (v0_3_78 p1 p2 p3 p4)), .val (.ref b82), .val (.int (v0_3_320_l12 p1 p2 p3 p4)), .val (.int (v0_3_320_l13 p1 p2 p3 p4)), .val (.int (v0_3_320_l14 p1 p2 p3 p4)), .val (.int (v0_3_320_l15 p1 p2 p3 p4)), .val (.int (v0_3_327 p1 p2 p3 p4)), .val (.int (1 : Int32))] [(.int (1 : Int32))])) _
            refine XS.goto X32.here hx rfl (pc0 := 369) (pc' := 373) rfl (hb hby at_369) (by decide) (by decide) ?_
            exact k)
          exact ⟨T32, _, X32, rfl, N32, fun t k => pre42 t (by simpa only [v0_3_373_s0, if_pos hc365_6] using k)⟩
        · have pre43 : ∀ t, Steps p.tables e below (T32.setTop (mkF m 373 #[.val (.int p0), .val (.int p1), .val (.int p2), .val (.int p3), .val (.int p4), .val (.int (3 : Int32)), .val (.int (v0_3_9 p1)), .val (.int (v0_3_20 p1 p2)), .val (.int (v0_3_31 p1 p2 p3)), .val (.int (v0_3_31 p1 p2 p3)), .val (.int (v0_3_78 p1 p2 p3 p4)), .val (.ref b82), .val (.int (v0_3_320_l12 p1 p2 p3 p4)), .val (.int (v0_3_320_l13 p1 p2 p3 p4)), .val (.int (v0_3_320_l14 p1 p2 p3 p4)), .val (.int (v0_3_320_l15 p1 p2 p3 p4)), .val (.int (v0_3_327 p1 p2 p3 p4)), .val (.int (1 : Int32))] [(.int (0 : Int32))])) t → Steps p.tables e below (s₁.setTop (entryFrame m #[(.int p0), (.int p1), (.int p2), (.int p3), (.int p4)] maxLocals)) t := fun t k => pre40 t (by
            show Steps p.tables e below (T32.setTop (mkF m 365 #[.val (.int p0), .val (.int p1), .val (.int p2), .val (.int p3), .val (.int p4), .val (.int (3 : Int32)), .val (.int (v0_3_9 p1)), .val (.int (v0_3_20 p1 p2)), .val (.int (v0_3_31 p1 p2 p3)), .val (.int (v0_3_31 p1 p2 p3)), .val (.int (v0_3_78 p1 p2 p3 p4)), .val (.ref b82), .val (.int (v0_3_320_l12 p1 p2 p3 p4)), .val (.int (v0_3_320_l13 p1 p2 p3 p4)), .val (.int (v0_3_320_l14 p1 p2 p3 p4)), .val (.int (v0_3_320_l15 p1 p2 p3 p4)), .val (.int (v0_3_327 p1 p2 p3 p4)), .val (.int (1 : Int32))] [(.int (v0_3_320_l12 p1 p2 p3 p4)), (.int (g1_3_o0_0 (v0_3_78 p1 p2 p3 p4) (v0_3_9 p1) (v0_3_20 p1 p2) (v0_3_31 p1 p2 p3)))])) _
            refine XS.icmpYes X32.here hx rfl (pc0 := 365) (pc' := 372) rfl (hb hby at_365) rfl (feq hc365_6).2 (by decide) (by decide) ?_
            show Steps p.tables e below (T32.setTop (mkF m 372 #[.val (.int p0), .val (.int p1), .val (.int p2), .val (.int p3), .val (.int p4), .val (.int (3 : Int32)), .val (.int (v0_3_9 p1)), .val (.int (v0_3_20 p1 p2)), .val (.int (v0_3_31 p1 p2 p3)), .val (.int (v0_3_31 p1 p2 p3)), .val (.int (v0_3_78 p1 p2 p3 p4)), .val (.ref b82), .val (.int (v0_3_320_l12 p1 p2 p3 p4)), .val (.int (v0_3_320_l13 p1 p2 p3 p4)), .val (.int (v0_3_320_l14 p1 p2 p3 p4)), .val (.int (v0_3_320_l15 p1 p2 p3 p4)), .val (.int (v0_3_327 p1 p2 p3 p4)), .val (.int (1 : Int32))] [])) _
            refine XS.iconst X32.here hx rfl (hb hby at_372) ?_
            exact k)
          exact ⟨T32, _, X32, rfl, N32, fun t k => pre43 t (by simpa only [v0_3_373_s0, if_neg hc365_6] using k)⟩
      have pre44 : ∀ t, Steps p.tables e below (T41.setTop (mkF m 383 #[.val (.int p0), .val (.int p1), .val (.int p2), .val (.int p3), .val (.int p4), .val (.int (3 : Int32)), .val (.int (v0_3_9 p1)), .val (.int (v0_3_20 p1 p2)), .val (.int (v0_3_31 p1 p2 p3)), .val (.int (v0_3_31 p1 p2 p3)), .val (.int (v0_3_78 p1 p2 p3 p4)), .val (.ref b82), .val (.int (v0_3_320_l12 p1 p2 p3 p4)), .val (.int (v0_3_320_l13 p1 p2 p3 p4)), .val (.int (v0_3_320_l14 p1 p2 p3 p4)), .val (.int (v0_3_320_l15 p1 p2 p3 p4)), .val (.int (v0_3_327 p1 p2 p3 p4)), .val (.int (v0_3_373_s0 p1 p2 p3 p4))] [(.int (v0_3_373_s0 p1 p2 p3 p4))])) t → Steps p.tables e below (s₁.setTop (entryFrame m #[(.int p0), (.int p1), (.int p2), (.int p3), (.int p4)] maxLocals)) t := fun t k => pre41 t (by
        show Steps p.tables e below (T41.setTop (mkF m 373 #[.val (.int p0), .val (.int p1), .val (.int p2), .val (.int p3), .val (.int p4), .val (.int (3 : Int32)), .val (.int (v0_3_9 p1)), .val (.int (v0_3_20 p1 p2)), .val (.int (v0_3_31 p1 p2 p3)), .val (.int (v0_3_31 p1 p2 p3)), .val (.int (v0_3_78 p1 p2 p3 p4)), .val (.ref b82), .val (.int (v0_3_320_l12 p1 p2 p3 p4)), .val (.int (v0_3_320_l13 p1 p2 p3 p4)), .val (.int (v0_3_320_l14 p1 p2 p3 p4)), .val (.int (v0_3_320_l15 p1 p2 p3 p4)), .val (.int (v0_3_327 p1 p2 p3 p4)), .val (.int (1 : Int32))] [(.int (v0_3_373_s0 p1 p2 p3 p4))])) _
        refine XS.istore X41.here hx rfl (hb hby at_373) rfl (l' := #[.val (.int p0), .val (.int p1), .val (.int p2), .val (.int p3), .val (.int p4), .val (.int (3 : Int32)), .val (.int (v0_3_9 p1)), .val (.int (v0_3_20 p1 p2)), .val (.int (v0_3_31 p1 p2 p3)), .val (.int (v0_3_31 p1 p2 p3)), .val (.int (v0_3_78 p1 p2 p3 p4)), .val (.ref b82), .val (.int (v0_3_320_l12 p1 p2 p3 p4)), .val (.int (v0_3_320_l13 p1 p2 p3 p4)), .val (.int (v0_3_320_l14 p1 p2 p3 p4)), .val (.int (v0_3_320_l15 p1 p2 p3 p4)), .val (.int (v0_3_327 p1 p2 p3 p4)), .val (.int (v0_3_373_s0 p1 p2 p3 p4))]) rfl ?_
        show Steps p.tables e below (T41.setTop (mkF m 375 #[.val (.int p0), .val (.int p1), .val (.int p2), .val (.int p3), .val (.int p4), .val (.int (3 : Int32)), .val (.int (v0_3_9 p1)), .val (.int (v0_3_20 p1 p2)), .val (.int (v0_3_31 p1 p2 p3)), .val (.int (v0_3_31 p1 p2 p3)), .val (.int (v0_3_78 p1 p2 p3 p4)), .val (.ref b82), .val (.int (v0_3_320_l12 p1 p2 p3 p4)), .val (.int (v0_3_320_l13 p1 p2 p3 p4)), .val (.int (v0_3_320_l14 p1 p2 p3 p4)), .val (.int (v0_3_320_l15 p1 p2 p3 p4)), .val (.int (v0_3_327 p1 p2 p3 p4)), .val (.int (v0_3_373_s0 p1 p2 p3 p4))] [])) _
        refine XS.iload X41.here hx rfl (hb hby at_375) rfl ?_
        show Steps p.tables e below (T41.setTop (mkF m 377 #[.val (.int p0), .val (.int p1), .val (.int p2), .val (.int p3), .val (.int p4), .val (.int (3 : Int32)), .val (.int (v0_3_9 p1)), .val (.int (v0_3_20 p1 p2)), .val (.int (v0_3_31 p1 p2 p3)), .val (.int (v0_3_31 p1 p2 p3)), .val (.int (v0_3_78 p1 p2 p3 p4)), .val (.ref b82), .val (.int (v0_3_320_l12 p1 p2 p3 p4)), .val (.int (v0_3_320_l13 p1 p2 p3 p4)), .val (.int (v0_3_320_l14 p1 p2 p3 p4)), .val (.int (v0_3_320_l15 p1 p2 p3 p4)), .val (.int (v0_3_327 p1 p2 p3 p4)), .val (.int (v0_3_373_s0 p1 p2 p3 p4))] [(.int (3 : Int32))])) _
        refine XS.iconst X41.here hx rfl (hb hby at_377) ?_
        show Steps p.tables e below (T41.setTop (mkF m 378 #[.val (.int p0), .val (.int p1), .val (.int p2), .val (.int p3), .val (.int p4), .val (.int (3 : Int32)), .val (.int (v0_3_9 p1)), .val (.int (v0_3_20 p1 p2)), .val (.int (v0_3_31 p1 p2 p3)), .val (.int (v0_3_31 p1 p2 p3)), .val (.int (v0_3_78 p1 p2 p3 p4)), .val (.ref b82), .val (.int (v0_3_320_l12 p1 p2 p3 p4)), .val (.int (v0_3_320_l13 p1 p2 p3 p4)), .val (.int (v0_3_320_l14 p1 p2 p3 p4)), .val (.int (v0_3_320_l15 p1 p2 p3 p4)), .val (.int (v0_3_327 p1 p2 p3 p4)), .val (.int (v0_3_373_s0 p1 p2 p3 p4))] [(.int (2 : Int32)), (.int (3 : Int32))])) _
        refine XS.icmpNo X41.here hx rfl (hb hby at_378) rfl (by decide) ?_
        show Steps p.tables e below (T41.setTop (mkF m 381 #[.val (.int p0), .val (.int p1), .val (.int p2), .val (.int p3), .val (.int p4), .val (.int (3 : Int32)), .val (.int (v0_3_9 p1)), .val (.int (v0_3_20 p1 p2)), .val (.int (v0_3_31 p1 p2 p3)), .val (.int (v0_3_31 p1 p2 p3)), .val (.int (v0_3_78 p1 p2 p3 p4)), .val (.ref b82), .val (.int (v0_3_320_l12 p1 p2 p3 p4)), .val (.int (v0_3_320_l13 p1 p2 p3 p4)), .val (.int (v0_3_320_l14 p1 p2 p3 p4)), .val (.int (v0_3_320_l15 p1 p2 p3 p4)), .val (.int (v0_3_327 p1 p2 p3 p4)), .val (.int (v0_3_373_s0 p1 p2 p3 p4))] [])) _
        refine XS.iload X41.here hx rfl (hb hby at_381) rfl ?_
        exact k)
      obtain ⟨T45, L45, X45, e45, N45, pre45⟩ : ∃ (T' : State) (L' : List Loc), Stand p l e room_1 s m #[(.int p0), (.int p1), (.int p2), (.int p3), (.int p4)] below meth c T' L' 1 3 ∧ T'.heap = T32.heap ∧ Fr n0 L' ∧ ∀ t, Steps p.tables e below (T'.setTop (mkF m 400 #[.val (.int p0), .val (.int p1), .val (.int p2), .val (.int p3), .val (.int p4), .val (.int (3 : Int32)), .val (.int (v0_3_9 p1)), .val (.int (v0_3_20 p1 p2)), .val (.int (v0_3_31 p1 p2 p3)), .val (.int (v0_3_31 p1 p2 p3)), .val (.int (v0_3_78 p1 p2 p3 p4)), .val (.ref b82), .val (.int (v0_3_320_l12 p1 p2 p3 p4)), .val (.int (v0_3_320_l13 p1 p2 p3 p4)), .val (.int (v0_3_320_l14 p1 p2 p3 p4)), .val (.int (v0_3_320_l15 p1 p2 p3 p4)), .val (.int (v0_3_327 p1 p2 p3 p4)), .val (.int (v0_3_373_s0 p1 p2 p3 p4))] [(.int (v0_3_400_s0 p1 p2 p3 p4))])) t → Steps p.tables e below (s₁.setTop (entryFrame m #[(.int p0), (.int p1), (.int p2), (.int p3), (.int p4)] maxLocals)) t := by
        by_cases hc383_7 : (v0_3_373_s0 p1 p2 p3 p4) = (0 : Int32)
        · have pre46 : ∀ t, Steps p.tables e below (T41.setTop (mkF m 400 #[.val (.int p0), .val (.int p1), .val (.int p2), .val (.int p3), .val (.int p4), .val (.int (3 : Int32)), .val (.int (v0_3_9 p1)), .val (.int (v0_3_20 p1 p2)), .val (.int (v0_3_31 p1 p2 p3)), .val (.int (v0_3_31 p1 p2 p3)), .val (.int (v0_3_78 p1 p2 p3 p4)), .val (.ref b82), .val (.int (v0_3_320_l12 p1 p2 p3 p4)), .val (.int (v0_3_320_l13 p1 p2 p3 p4)), .val (.int (v0_3_320_l14 p1 p2 p3 p4)), .val (.int (v0_3_320_l15 p1 p2 p3 p4)), .val (.int (v0_3_327 p1 p2 p3 p4)), .val (.int (v0_3_373_s0 p1 p2 p3 p4))] [(.int (0 : Int32))])) t → Steps p.tables e below (s₁.setTop (entryFrame m #[(.int p0), (.int p1), (.int p2), (.int p3), (.int p4)] maxLocals)) t := fun t k => pre44 t (by
            show Steps p.tables e below (T41.setTop (mkF m 383 #[.val (.int p0), .val (.int p1), .val (.int p2), .val (.int p3), .val (.int p4), .val (.int (3 : Int32)), .val (.int (v0_3_9 p1)), .val (.int (v0_3_20 p1 p2)), .val (.int (v0_3_31 p1 p2 p3)), .val (.int (v0_3_31 p1 p2 p3)), .val (.int (v0_3_78 p1 p2 p3 p4)), .val (.ref b82), .val (.int (v0_3_320_l12 p1 p2 p3 p4)), .val (.int (v0_3_320_l13 p1 p2 p3 p4)), .val (.int (v0_3_320_l14 p1 p2 p3 p4)), .val (.int (v0_3_320_l15 p1 p2 p3 p4)), .val (.int (v0_3_327 p1 p2 p3 p4)), .val (.int (v0_3_373_s0 p1 p2 p3 p4))] [(.int (v0_3_373_s0 p1 p2 p3 p4))])) _
            refine XS.ifYes X41.here hx rfl (pc0 := 383) (pc' := 399) rfl (hb hby at_383) rfl ((if0 _ _).trans (teq hc383_7).1) (by decide) (by decide) ?_
            show Steps p.tables e below (T41.setTop (mkF m 399 #[.val (.int p0), .val (.int p1), .val (.int p2), .val (.int p3), .val (.int p4), .val (.int (3 : Int32)), .val (.int (v0_3_9 p1)), .val (.int (v0_3_20 p1 p2)), .val (.int (v0_3_31 p1 p2 p3)), .val (.int (v0_3_31 p1 p2 p3)), .val (.int (v0_3_78 p1 p2 p3 p4)), .val (.ref b82), .val (.int (v0_3_320_l12 p1 p2 p3 p4)), .val (.int (v0_3_320_l13 p1 p2 p3 p4)), .val (.int (v0_3_320_l14 p1 p2 p3 p4)), .val (.int (v0_3_320_l15 p1 p2 p3 p4)), .val (.int (v0_3_327 p1 p2 p3 p4)), .val (.int (v0_3_373_s0 p1 p2 p3 p4))] [])) _
            refine XS.iconst X41.here hx rfl (hb hby at_399) ?_
            exact k)
          exact ⟨T41, _, X41, e41, N41, fun t k => pre46 t (by simpa only [v0_3_400_s0, if_pos hc383_7] using k)⟩
        · have pre47 : ∀ t, Steps p.tables e below (T41.setTop (mkF m 389 #[.val (.int p0), .val (.int p1), .val (.int p2), .val (.int p3), .val (.int p4), .val (.int (3 : Int32)), .val (.int (v0_3_9 p1)), .val (.int (v0_3_20 p1 p2)), .val (.int (v0_3_31 p1 p2 p3)), .val (.int (v0_3_31 p1 p2 p3)), .val (.int (v0_3_78 p1 p2 p3 p4)), .val (.ref b82), .val (.int (v0_3_320_l12 p1 p2 p3 p4)), .val (.int (v0_3_320_l13 p1 p2 p3 p4)), .val (.int (v0_3_320_l14 p1 p2 p3 p4)), .val (.int (v0_3_320_l15 p1 p2 p3 p4)), .val (.int (v0_3_327 p1 p2 p3 p4)), .val (.int (v0_3_373_s0 p1 p2 p3 p4))] [(.int (1 : Int32)), (.ref b82)])) t → Steps p.tables e below (s₁.setTop (entryFrame m #[(.int p0), (.int p1), (.int p2), (.int p3), (.int p4)] maxLocals)) t := fun t k => pre44 t (by
            show Steps p.tables e below (T41.setTop (mkF m 383 #[.val (.int p0), .val (.int p1), .val (.int p2), .val (.int p3), .val (.int p4), .val (.int (3 : Int32)), .val (.int (v0_3_9 p1)), .val (.int (v0_3_20 p1 p2)), .val (.int (v0_3_31 p1 p2 p3)), .val (.int (v0_3_31 p1 p2 p3)), .val (.int (v0_3_78 p1 p2 p3 p4)), .val (.ref b82), .val (.int (v0_3_320_l12 p1 p2 p3 p4)), .val (.int (v0_3_320_l13 p1 p2 p3 p4)), .val (.int (v0_3_320_l14 p1 p2 p3 p4)), .val (.int (v0_3_320_l15 p1 p2 p3 p4)), .val (.int (v0_3_327 p1 p2 p3 p4)), .val (.int (v0_3_373_s0 p1 p2 p3 p4))] [(.int (v0_3_373_s0 p1 p2 p3 p4))])) _
            refine XS.ifNo X41.here hx rfl (hb hby at_383) rfl ((if0 _ _).trans (feq hc383_7).1) ?_
            show Steps p.tables e below (T41.setTop (mkF m 386 #[.val (.int p0), .val (.int p1), .val (.int p2), .val (.int p3), .val (.int p4), .val (.int (3 : Int32)), .val (.int (v0_3_9 p1)), .val (.int (v0_3_20 p1 p2)), .val (.int (v0_3_31 p1 p2 p3)), .val (.int (v0_3_31 p1 p2 p3)), .val (.int (v0_3_78 p1 p2 p3 p4)), .val (.ref b82), .val (.int (v0_3_320_l12 p1 p2 p3 p4)), .val (.int (v0_3_320_l13 p1 p2 p3 p4)), .val (.int (v0_3_320_l14 p1 p2 p3 p4)), .val (.int (v0_3_320_l15 p1 p2 p3 p4)), .val (.int (v0_3_327 p1 p2 p3 p4)), .val (.int (v0_3_373_s0 p1 p2 p3 p4))] [])) _
            refine XS.aload X41.here hx rfl (hb hby at_386) rfl rfl ?_
            show Steps p.tables e below (T41.setTop (mkF m 388 #[.val (.int p0), .val (.int p1), .val (.int p2), .val (.int p3), .val (.int p4), .val (.int (3 : Int32)), .val (.int (v0_3_9 p1)), .val (.int (v0_3_20 p1 p2)), .val (.int (v0_3_31 p1 p2 p3)), .val (.int (v0_3_31 p1 p2 p3)), .val (.int (v0_3_78 p1 p2 p3 p4)), .val (.ref b82), .val (.int (v0_3_320_l12 p1 p2 p3 p4)), .val (.int (v0_3_320_l13 p1 p2 p3 p4)), .val (.int (v0_3_320_l14 p1 p2 p3 p4)), .val (.int (v0_3_320_l15 p1 p2 p3 p4)), .val (.int (v0_3_327 p1 p2 p3 p4)), .val (.int (v0_3_373_s0 p1 p2 p3 p4))] [(.ref b82)])) _
            refine XS.iconst X41.here hx rfl (hb hby at_388) ?_
            exact k)
          obtain ⟨cl48, Ar48, -, Sz48, Mn48, Hs48, -⟩ := id o32_0
          have hin48 : ¬ ((1 : Int32) < 0 ∨ cl48.slots.size ≤ ((1 : Int32)).toNatClampNeg) := inb_of Sz48 ⟨by decide, by decide⟩
          have hat48 : cl48.slots[((1 : Int32)).toNatClampNeg]? = some (.int (g1_3_o0_1 (v0_3_78 p1 p2 p3 p4) (v0_3_9 p1) (v0_3_20 p1 p2) (v0_3_31 p1 p2 p3))) := Hs48.at hin48 rfl
          have pre49 : ∀ t, Steps p.tables e below (T41.setTop (mkF m 390 #[.val (.int p0), .val (.int p1), .val (.int p2), .val (.int p3), .val (.int p4), .val (.int (3 : Int32)), .val (.int (v0_3_9 p1)), .val (.int (v0_3_20 p1 p2)), .val (.int (v0_3_31 p1 p2 p3)), .val (.int (v0_3_31 p1 p2 p3)), .val (.int (v0_3_78 p1 p2 p3 p4)), .val (.ref b82), .val (.int (v0_3_320_l12 p1 p2 p3 p4)), .val (.int (v0_3_320_l13 p1 p2 p3 p4)), .val (.int (v0_3_320_l14 p1 p2 p3 p4)), .val (.int (v0_3_320_l15 p1 p2 p3 p4)), .val (.int (v0_3_327 p1 p2 p3 p4)), .val (.int (v0_3_373_s0 p1 p2 p3 p4))] [(.int (g1_3_o0_1 (v0_3_78 p1 p2 p3 p4) (v0_3_9 p1) (v0_3_20 p1 p2) (v0_3_31 p1 p2 p3)))])) t → Steps p.tables e below (s₁.setTop (entryFrame m #[(.int p0), (.int p1), (.int p2), (.int p3), (.int p4)] maxLocals)) t := fun t k => pre47 t (by
            show Steps p.tables e below (T41.setTop (mkF m 389 #[.val (.int p0), .val (.int p1), .val (.int p2), .val (.int p3), .val (.int p4), .val (.int (3 : Int32)), .val (.int (v0_3_9 p1)), .val (.int (v0_3_20 p1 p2)), .val (.int (v0_3_31 p1 p2 p3)), .val (.int (v0_3_31 p1 p2 p3)), .val (.int (v0_3_78 p1 p2 p3 p4)), .val (.ref b82), .val (.int (v0_3_320_l12 p1 p2 p3 p4)), .val (.int (v0_3_320_l13 p1 p2 p3 p4)), .val (.int (v0_3_320_l14 p1 p2 p3 p4)), .val (.int (v0_3_320_l15 p1 p2 p3 p4)), .val (.int (v0_3_327 p1 p2 p3 p4)), .val (.int (v0_3_373_s0 p1 p2 p3 p4))] [(.int (1 : Int32)), (.ref b82)])) _
            refine X41.iaload hx (j := (1 : Int32)) (v := (.int (g1_3_o0_1 (v0_3_78 p1 p2 p3 p4) (v0_3_9 p1) (v0_3_20 p1 p2) (v0_3_31 p1 p2 p3)))) (by rw [e41]; exact Ar48.1) (State.isArrayOf_alike hZ.alike Ar48.2.1) Ar48.2.2 hin48 hat48 (g := (mkF m 389 #[.val (.int p0), .val (.int p1), .val (.int p2), .val (.int p3), .val (.int p4), .val (.int (3 : Int32)), .val (.int (v0_3_9 p1)), .val (.int (v0_3_20 p1 p2)), .val (.int (v0_3_31 p1 p2 p3)), .val (.int (v0_3_31 p1 p2 p3)), .val (.int (v0_3_78 p1 p2 p3 p4)), .val (.ref b82), .val (.int (v0_3_320_l12 p1 p2 p3 p4)), .val (.int (v0_3_320_l13 p1 p2 p3 p4)), .val (.int (v0_3_320_l14 p1 p2 p3 p4)), .val (.int (v0_3_320_l15 p1 p2 p3 p4)), .val (.int (v0_3_327 p1 p2 p3 p4)), .val (.int (v0_3_373_s0 p1 p2 p3 p4))] [(.int (1 : Int32)), (.ref b82)])) rfl rfl (hb hby at_389) _ ?_
            exact k)
          have pre50 : ∀ t, Steps p.tables e below (T41.setTop (mkF m 392 #[.val (.int p0), .val (.int p1), .val (.int p2), .val (.int p3), .val (.int p4), .val (.int (3 : Int32)), .val (.int (v0_3_9 p1)), .val (.int (v0_3_20 p1 p2)), .val (.int (v0_3_31 p1 p2 p3)), .val (.int (v0_3_31 p1 p2 p3)), .val (.int (v0_3_78 p1 p2 p3 p4)), .val (.ref b82), .val (.int (v0_3_320_l12 p1 p2 p3 p4)), .val (.int (v0_3_320_l13 p1 p2 p3 p4)), .val (.int (v0_3_320_l14 p1 p2 p3 p4)), .val (.int (v0_3_320_l15 p1 p2 p3 p4)), .val (.int (v0_3_327 p1 p2 p3 p4)), .val (.int (v0_3_373_s0 p1 p2 p3 p4))] [(.int (v0_3_320_l13 p1 p2 p3 p4)), (.int (g1_3_o0_1 (v0_3_78 p1 p2 p3 p4) (v0_3_9 p1) (v0_3_20 p1 p2) (v0_3_31 p1 p2 p3)))])) t → Steps p.tables e below (s₁.setTop (entryFrame m #[(.int p0), (.int p1), (.int p2), (.int p3), (.int p4)] maxLocals)) t := fun t k => pre49 t (by
            show Steps p.tables e below (T41.setTop (mkF m 390 #[.val (.int p0), .val (.int p1), .val (.int p2), .val (.int p3), .val (.int p4), .val (.int (3 : Int32)), .val (.int (v0_3_9 p1)), .val (.int (v0_3_20 p1 p2)), .val (.int (v0_3_31 p1 p2 p3)), .val (.int (v0_3_31 p1 p2 p3)), .val (.int (v0_3_78 p1 p2 p3 p4)), .val (.ref b82), .val (.int (v0_3_320_l12 p1 p2 p3 p4)), .val (.int (v0_3_320_l13 p1 p2 p3 p4)), .val (.int (v0_3_320_l14 p1 p2 p3 p4)), .val (.int (v0_3_320_l15 p1 p2 p3 p4)), .val (.int (v0_3_327 p1 p2 p3 p4)), .val (.int (v0_3_373_s0 p1 p2 p3 p4))] [(.int (g1_3_o0_1 (v0_3_78 p1 p2 p3 p4) (v0_3_9 p1) (v0_3_20 p1 p2) (v0_3_31 p1 p2 p3)))])) _
            refine XS.iload X41.here hx rfl (hb hby at_390) rfl ?_
            exact k)
          by_cases hc392_8 : (g1_3_o0_1 (v0_3_78 p1 p2 p3 p4) (v0_3_9 p1) (v0_3_20 p1 p2) (v0_3_31 p1 p2 p3)) = (v0_3_320_l13 p1 p2 p3 p4)
          · have pre51 : ∀ t, Steps p.tables e below (T41.setTop (mkF m 400 #[.val (.int p0), .val (.int p1), .val (.int p2), .val (.int p3), .val (.int p4), .val (.int (3 : Int32)), .val (.int (v0_3_9 p1)), .val (.int (v0_3_20 p1 p2)), .val (.int (v0_3_31 p1 p2 p3)), .val (.int (v0_3_31 p1 p2 p3)), .val (.int (v0_3_78 p1 p2 p3 p4)), .val (.ref b82), .val (.int (v0_3_320_l12 p1 p2 p3 p4)), .val (.int (v0_3_320_l13 p1 p2 p3 p4)), .val (.int (v0_3_320_l14 p1 p2 p3 p4)), .val (.int (v0_3_320_l15 p1 p2 p3 p4)), .val (.int (v0_3_327 p1 p2 p3 p4)), .val (.int (v0_3_373_s0 p1 p2 p3 p4))] [(.int (1 : Int32))])) t → Steps p.tables e below (s₁.setTop (entryFrame m #[(.int p0), (.int p1), (.int p2), (.int p3), (.int p4)] maxLocals)) t := fun t k => pre50 t (by
              show Steps p.tables e below (T41.setTop (mkF m 392 #[.val (.int p0), .val (.int p1), .val (.int p2), .val (.int p3), .val (.int p4), .val (.int (3 : Int32)), .val (.int (v0_3_9 p1)), .val (.int (v0_3_20 p1 p2)), .val (.int (v0_3_31 p1 p2 p3)), .val (.int (v0_3_31 p1 p2 p3)), .val (.int (v0_3_78 p1 p2 p3 p4)), .val (.ref b82), .val (.int (v0_3_320_l12 p1 p2 p3 p4)), .val (.int (v0_3_320_l13 p1 p2 p3 p4)), .val (.int (v0_3_320_l14 p1 p2 p3 p4)), .val (.int (v0_3_320_l15 p1 p2 p3 p4)), .val (.int (v0_3_327 p1 p2 p3 p4)), .val (.int (v0_3_373_s0 p1 p2 p3 p4))] [(.int (v0_3_320_l13 p1 p2 p3 p4)), (.int (g1_3_o0_1 (v0_3_78 p1 p2 p3 p4) (v0_3_9 p1) (v0_3_20 p1 p2) (v0_3_31 p1 p2 p3)))])) _
              refine XS.icmpNo X41.here hx rfl (hb hby at_392) rfl (teq hc392_8).2 ?_
              show Steps p.tables e below (T41.setTop (mkF m 395 #[.val (.int p0), .val (.int p1), .val (.int p2), .val (.int p3), .val (.int p4), .val (.int (3 : Int32)), .val (.int (v0_3_9 p1)), .val (.int (v0_3_20 p1 p2)), .val (.int (v0_3_31 p1 p2 p3)), .val (.int (v0_3_31 p1 p2 p3)), .val (.int (v0_3_78 p1 p2 p3 p4)), .val (.ref b82), .val (.int (v0_3_320_l12 p1 p2 p3 p4)), .val (.int (v0_3_320_l13 p1 p2 p3 p4)), .val (.int (v0_3_320_l14 p1 p2 p3 p4)), .val (.int (v0_3_320_l15 p1 p2 p3 p4)), .val (.int (v0_3_327 p1 p2 p3 p4)), .val (.int (v0_3_373_s0 p1 p2 p3 p4))] [])) _
              refine XS.iconst X41.here hx rfl (hb hby at_395) ?_
              show Steps p.tables e below (T41.setTop (mkF m 396 #[.val (.int p0), .val (.int p1), .val (.int p2), .val (.int p3), .val (.int p4), .val (.int (3 : Int32)), .val (.int (v0_3_9 p1)), .val (.int (v0_3_20 p1 p2)), .val (.int (v0_3_31 p1 p2 p3)), .val (.int (v0_3_31 p1 p2 p3)), .val (.int (v0_3_78 p1 p2 p3 p4)), .val (.ref b82), .val (.int (v0_3_320_l12 p1 p2 p3 p4)), .val (.int (v0_3_320_l13 p1 p2 p3 p4)), .val (.int (v0_3_320_l14 p1 p2 p3 p4)), .val (.int (v0_3_320_l15 p1 p2 p3 p4)), .val (.int (v0_3_327 p1 p2 p3 p4)), .val (.int (v0_3_373_s0 p1 p2 p3 p4))] [(.int (1 : Int32))])) _
              refine XS.goto X41.here hx rfl (pc0 := 396) (pc' := 400) rfl (hb hby at_396) (by decide) (by decide) ?_
              exact k)
            exact ⟨T41, _, X41, e41, N41, fun t k => pre51 t (by simpa only [v0_3_400_s0, if_neg hc383_7, if_pos hc392_8] using k)⟩
          · have pre52 : ∀ t, Steps p.tables e below (T41.setTop (mkF m 400 #[.val (.int p0), .val (.int p1), .val (.int p2), .val (.int p3), .val (.int p4), .val (.int (3 : Int32)), .val (.int (v0_3_9 p1)), .val (.int (v0_3_20 p1 p2)), .val (.int (v0_3_31 p1 p2 p3)), .val (.int (v0_3_31 p1 p2 p3)), .val (.int (v0_3_78 p1 p2 p3 p4)), .val (.ref b82), .val (.int (v0_3_320_l12 p1 p2 p3 p4)), .val (.int (v0_3_320_l13 p1 p2 p3 p4)), .val (.int (v0_3_320_l14 p1 p2 p3 p4)), .val (.int (v0_3_320_l15 p1 p2 p3 p4)), .val (.int (v0_3_327 p1 p2 p3 p4)), .val (.int (v0_3_373_s0 p1 p2 p3 p4))] [(.int (0 : Int32))])) t → Steps p.tables e below (s₁.setTop (entryFrame m #[(.int p0), (.int p1), (.int p2), (.int p3), (.int p4)] maxLocals)) t := fun t k => pre50 t (by
              show Steps p.tables e below (T41.setTop (mkF m 392 #[.val (.int p0), .val (.int p1), .val (.int p2), .val (.int p3), .val (.int p4), .val (.int (3 : Int32)), .val (.int (v0_3_9 p1)), .val (.int (v0_3_20 p1 p2)), .val (.int (v0_3_31 p1 p2 p3)), .val (.int (v0_3_31 p1 p2 p3)), .val (.int (v0_3_78 p1 p2 p3 p4)), .val (.ref b82), .val (.int (v0_3_320_l12 p1 p2 p3 p4)), .val (.int (v0_3_320_l13 p1 p2 p3 p4)), .val (.int (v0_3_320_l14 p1 p2 p3 p4)), .val (.int (v0_3_320_l15 p1 p2 p3 p4)), .val (.int (v0_3_327 p1 p2 p3 p4)), .val (.int (v0_3_373_s0 p1 p2 p3 p4))] [(.int (v0_3_320_l13 p1 p2 p3 p4)), (.int (g1_3_o0_1 (v0_3_78 p1 p2 p3 p4) (v0_3_9 p1) (v0_3_20 p1 p2) (v0_3_31 p1 p2 p3)))])) _
              refine XS.icmpYes X41.here hx rfl (pc0 := 392) (pc' := 399) rfl (hb hby at_392) rfl (feq hc392_8).2 (by decide) (by decide) ?_
              show Steps p.tables e below (T41.setTop (mkF m 399 #[.val (.int p0), .val (.int p1), .val (.int p2), .val (.int p3), .val (.int p4), .val (.int (3 : Int32)), .val (.int (v0_3_9 p1)), .val (.int (v0_3_20 p1 p2)), .val (.int (v0_3_31 p1 p2 p3)), .val (.int (v0_3_31 p1 p2 p3)), .val (.int (v0_3_78 p1 p2 p3 p4)), .val (.ref b82), .val (.int (v0_3_320_l12 p1 p2 p3 p4)), .val (.int (v0_3_320_l13 p1 p2 p3 p4)), .val (.int (v0_3_320_l14 p1 p2 p3 p4)), .val (.int (v0_3_320_l15 p1 p2 p3 p4)), .val (.int (v0_3_327 p1 p2 p3 p4)), .val (.int (v0_3_373_s0 p1 p2 p3 p4))] [])) _
              refine XS.iconst X41.here hx rfl (hb hby at_399) ?_
              exact k)
            exact ⟨T41, _, X41, e41, N41, fun t k => pre52 t (by simpa only [v0_3_400_s0, if_neg hc383_7, if_neg hc392_8] using k)⟩
      have pre53 : ∀ t, Steps p.tables e below (T45.setTop (mkF m 410 #[.val (.int p0), .val (.int p1), .val (.int p2), .val (.int p3), .val (.int p4), .val (.int (3 : Int32)), .val (.int (v0_3_9 p1)), .val (.int (v0_3_20 p1 p2)), .val (.int (v0_3_31 p1 p2 p3)), .val (.int (v0_3_31 p1 p2 p3)), .val (.int (v0_3_78 p1 p2 p3 p4)), .val (.ref b82), .val (.int (v0_3_320_l12 p1 p2 p3 p4)), .val (.int (v0_3_320_l13 p1 p2 p3 p4)), .val (.int (v0_3_320_l14 p1 p2 p3 p4)), .val (.int (v0_3_320_l15 p1 p2 p3 p4)), .val (.int (v0_3_327 p1 p2 p3 p4)), .val (.int (v0_3_400_s0 p1 p2 p3 p4))] [(.int (v0_3_400_s0 p1 p2 p3 p4))])) t → Steps p.tables e below (s₁.setTop (entryFrame m #[(.int p0), (.int p1), (.int p2), (.int p3), (.int p4)] maxLocals)) t := fun t k => pre45 t (by
        show Steps p.tables e below (T45.setTop (mkF m 400 #[.val (.int p0), .val (.int p1), .val (.int p2), .val (.int p3), .val (.int p4), .val (.int (3 : Int32)), .val (.int (v0_3_9 p1)), .val (.int (v0_3_20 p1 p2)), .val (.int (v0_3_31 p1 p2 p3)), .val (.int (v0_3_31 p1 p2 p3)), .val (.int (v0_3_78 p1 p2 p3 p4)), .val (.ref b82), .val (.int (v0_3_320_l12 p1 p2 p3 p4)), .val (.int (v0_3_320_l13 p1 p2 p3 p4)), .val (.int (v0_3_320_l14 p1 p2 p3 p4)), .val (.int (v0_3_320_l15 p1 p2 p3 p4)), .val (.int (v0_3_327 p1 p2 p3 p4)), .val (.int (v0_3_373_s0 p1 p2 p3 p4))] [(.int (v0_3_400_s0 p1 p2 p3 p4))])) _
        refine XS.istore X45.here hx rfl (hb hby at_400) rfl (l' := #[.val (.int p0), .val (.int p1), .val (.int p2), .val (.int p3), .val (.int p4), .val (.int (3 : Int32)), .val (.int (v0_3_9 p1)), .val (.int (v0_3_20 p1 p2)), .val (.int (v0_3_31 p1 p2 p3)), .val (.int (v0_3_31 p1 p2 p3)), .val (.int (v0_3_78 p1 p2 p3 p4)), .val (.ref b82), .val (.int (v0_3_320_l12 p1 p2 p3 p4)), .val (.int (v0_3_320_l13 p1 p2 p3 p4)), .val (.int (v0_3_320_l14 p1 p2 p3 p4)), .val (.int (v0_3_320_l15 p1 p2 p3 p4)), .val (.int (v0_3_327 p1 p2 p3 p4)), .val (.int (v0_3_400_s0 p1 p2 p3 p4))]) rfl ?_
        show Steps p.tables e below (T45.setTop (mkF m 402 #[.val (.int p0), .val (.int p1), .val (.int p2), .val (.int p3), .val (.int p4), .val (.int (3 : Int32)), .val (.int (v0_3_9 p1)), .val (.int (v0_3_20 p1 p2)), .val (.int (v0_3_31 p1 p2 p3)), .val (.int (v0_3_31 p1 p2 p3)), .val (.int (v0_3_78 p1 p2 p3 p4)), .val (.ref b82), .val (.int (v0_3_320_l12 p1 p2 p3 p4)), .val (.int (v0_3_320_l13 p1 p2 p3 p4)), .val (.int (v0_3_320_l14 p1 p2 p3 p4)), .val (.int (v0_3_320_l15 p1 p2 p3 p4)), .val (.int (v0_3_327 p1 p2 p3 p4)), .val (.int (v0_3_400_s0 p1 p2 p3 p4))] [])) _
        refine XS.iload X45.here hx rfl (hb hby at_402) rfl ?_
        show Steps p.tables e below (T45.setTop (mkF m 404 #[.val (.int p0), .val (.int p1), .val (.int p2), .val (.int p3), .val (.int p4), .val (.int (3 : Int32)), .val (.int (v0_3_9 p1)), .val (.int (v0_3_20 p1 p2)), .val (.int (v0_3_31 p1 p2 p3)), .val (.int (v0_3_31 p1 p2 p3)), .val (.int (v0_3_78 p1 p2 p3 p4)), .val (.ref b82), .val (.int (v0_3_320_l12 p1 p2 p3 p4)), .val (.int (v0_3_320_l13 p1 p2 p3 p4)), .val (.int (v0_3_320_l14 p1 p2 p3 p4)), .val (.int (v0_3_320_l15 p1 p2 p3 p4)), .val (.int (v0_3_327 p1 p2 p3 p4)), .val (.int (v0_3_400_s0 p1 p2 p3 p4))] [(.int (3 : Int32))])) _
        refine XS.iconst X45.here hx rfl (hb hby at_404) ?_
        show Steps p.tables e below (T45.setTop (mkF m 405 #[.val (.int p0), .val (.int p1), .val (.int p2), .val (.int p3), .val (.int p4), .val (.int (3 : Int32)), .val (.int (v0_3_9 p1)), .val (.int (v0_3_20 p1 p2)), .val (.int (v0_3_31 p1 p2 p3)), .val (.int (v0_3_31 p1 p2 p3)), .val (.int (v0_3_78 p1 p2 p3 p4)), .val (.ref b82), .val (.int (v0_3_320_l12 p1 p2 p3 p4)), .val (.int (v0_3_320_l13 p1 p2 p3 p4)), .val (.int (v0_3_320_l14 p1 p2 p3 p4)), .val (.int (v0_3_320_l15 p1 p2 p3 p4)), .val (.int (v0_3_327 p1 p2 p3 p4)), .val (.int (v0_3_400_s0 p1 p2 p3 p4))] [(.int (3 : Int32)), (.int (3 : Int32))])) _
        refine XS.icmpNo X45.here hx rfl (hb hby at_405) rfl (by decide) ?_
        show Steps p.tables e below (T45.setTop (mkF m 408 #[.val (.int p0), .val (.int p1), .val (.int p2), .val (.int p3), .val (.int p4), .val (.int (3 : Int32)), .val (.int (v0_3_9 p1)), .val (.int (v0_3_20 p1 p2)), .val (.int (v0_3_31 p1 p2 p3)), .val (.int (v0_3_31 p1 p2 p3)), .val (.int (v0_3_78 p1 p2 p3 p4)), .val (.ref b82), .val (.int (v0_3_320_l12 p1 p2 p3 p4)), .val (.int (v0_3_320_l13 p1 p2 p3 p4)), .val (.int (v0_3_320_l14 p1 p2 p3 p4)), .val (.int (v0_3_320_l15 p1 p2 p3 p4)), .val (.int (v0_3_327 p1 p2 p3 p4)), .val (.int (v0_3_400_s0 p1 p2 p3 p4))] [])) _
        refine XS.iload X45.here hx rfl (hb hby at_408) rfl ?_
        exact k)
      obtain ⟨T54, L54, X54, e54, N54, pre54⟩ : ∃ (T' : State) (L' : List Loc), Stand p l e room_1 s m #[(.int p0), (.int p1), (.int p2), (.int p3), (.int p4)] below meth c T' L' 1 3 ∧ T'.heap = T32.heap ∧ Fr n0 L' ∧ ∀ t, Steps p.tables e below (T'.setTop (mkF m 427 #[.val (.int p0), .val (.int p1), .val (.int p2), .val (.int p3), .val (.int p4), .val (.int (3 : Int32)), .val (.int (v0_3_9 p1)), .val (.int (v0_3_20 p1 p2)), .val (.int (v0_3_31 p1 p2 p3)), .val (.int (v0_3_31 p1 p2 p3)), .val (.int (v0_3_78 p1 p2 p3 p4)), .val (.ref b82), .val (.int (v0_3_320_l12 p1 p2 p3 p4)), .val (.int (v0_3_320_l13 p1 p2 p3 p4)), .val (.int (v0_3_320_l14 p1 p2 p3 p4)), .val (.int (v0_3_320_l15 p1 p2 p3 p4)), .val (.int (v0_3_327 p1 p2 p3 p4)), .val (.int (v0_3_400_s0 p1 p2 p3 p4))] [(.int (v0_3_427_s0 p1 p2 p3 p4))])) t → Steps p.tables e below (s₁.setTop (entryFrame m #[(.int p0), (.int p1), (.int p2), (.int p3), (.int p4)] maxLocals)) t := by
        by_cases hc410_9 : (v0_3_400_s0 p1 p2 p3 p4) = (0 : Int32)
        · have pre55 : ∀ t, Steps p.tables e below (T45.setTop (mkF m 427 #[.val (.int p0), .val (.int p1), .val (.int p2), .val (.int p3), .val (.int p4), .val (.int (3 : Int32)), .val (.int (v0_3_9 p1)), .val (.int (v0_3_20 p1 p2)), .val (.int (v0_3_31 p1 p2 p3)), .val (.int (v0_3_31 p1 p2 p3)), .val (.int (v0_3_78 p1 p2 p3 p4)), .val (.ref b82), .val (.int (v0_3_320_l12 p1 p2 p3 p4)), .val (.int (v0_3_320_l13 p1 p2 p3 p4)), .val (.int (v0_3_320_l14 p1 p2 p3 p4)), .val (.int (v0_3_320_l15 p1 p2 p3 p4)), .val (.int (v0_3_327 p1 p2 p3 p4)), .val (.int (v0_3_400_s0 p1 p2 p3 p4))] [(.int (0 : Int32))])) t → Steps p.tables e below (s₁.setTop (entryFrame m #[(.int p0), (.int p1), (.int p2), (.int p3), (.int p4)] maxLocals)) t := fun t k => pre53 t (by
            show Steps p.tables e below (T45.setTop (mkF m 410 #[.val (.int p0), .val (.int p1), .val (.int p2), .val (.int p3), .val (.int p4), .val (.int (3 : Int32)), .val (.int (v0_3_9 p1)), .val (.int (v0_3_20 p1 p2)), .val (.int (v0_3_31 p1 p2 p3)), .val (.int (v0_3_31 p1 p2 p3)), .val (.int (v0_3_78 p1 p2 p3 p4)), .val (.ref b82), .val (.int (v0_3_320_l12 p1 p2 p3 p4)), .val (.int (v0_3_320_l13 p1 p2 p3 p4)), .val (.int (v0_3_320_l14 p1 p2 p3 p4)), .val (.int (v0_3_320_l15 p1 p2 p3 p4)), .val (.int (v0_3_327 p1 p2 p3 p4)), .val (.int (v0_3_400_s0 p1 p2 p3 p4))] [(.int (v0_3_400_s0 p1 p2 p3 p4))])) _
            refine XS.ifYes X45.here hx rfl (pc0 := 410) (pc' := 426) rfl (hb hby at_410) rfl ((if0 _ _).trans (teq hc410_9).1) (by decide) (by decide) ?_
            show Steps p.tables e below (T45.setTop (mkF m 426 #[.val (.int p0), .val (.int p1), .val (.int p2), .val (.int p3), .val (.int p4), .val (.int (3 : Int32)), .val (.int (v0_3_9 p1)), .val (.int (v0_3_20 p1 p2)), .val (.int (v0_3_31 p1 p2 p3)), .val (.int (v0_3_31 p1 p2 p3)), .val (.int (v0_3_78 p1 p2 p3 p4)), .val (.ref b82), .val (.int (v0_3_320_l12 p1 p2 p3 p4)), .val (.int (v0_3_320_l13 p1 p2 p3 p4)), .val (.int (v0_3_320_l14 p1 p2 p3 p4)), .val (.int (v0_3_320_l15 p1 p2 p3 p4)), .val (.int (v0_3_327 p1 p2 p3 p4)), .val (.int (v0_3_400_s0 p1 p2 p3 p4))] [])) _
            refine XS.iconst X45.here hx rfl (hb hby at_426) ?_
            exact k)
          exact ⟨T45, _, X45, e45, N45, fun t k => pre55 t (by simpa only [v0_3_427_s0, if_pos hc410_9] using k)⟩
        · have pre56 : ∀ t, Steps p.tables e below (T45.setTop (mkF m 416 #[.val (.int p0), .val (.int p1), .val (.int p2), .val (.int p3), .val (.int p4), .val (.int (3 : Int32)), .val (.int (v0_3_9 p1)), .val (.int (v0_3_20 p1 p2)), .val (.int (v0_3_31 p1 p2 p3)), .val (.int (v0_3_31 p1 p2 p3)), .val (.int (v0_3_78 p1 p2 p3 p4)), .val (.ref b82), .val (.int (v0_3_320_l12 p1 p2 p3 p4)), .val (.int (v0_3_320_l13 p1 p2 p3 p4)), .val (.int (v0_3_320_l14 p1 p2 p3 p4)), .val (.int (v0_3_320_l15 p1 p2 p3 p4)), .val (.int (v0_3_327 p1 p2 p3 p4)), .val (.int (v0_3_400_s0 p1 p2 p3 p4))] [(.int (2 : Int32)), (.ref b82)])) t → Steps p.tables e below (s₁.setTop (entryFrame m #[(.int p0), (.int p1), (.int p2), (.int p3), (.int p4)] maxLocals)) t := fun t k => pre53 t (by
            show Steps p.tables e below (T45.setTop (mkF m 410 #[.val (.int p0), .val (.int p1), .val (.int p2), .val (.int p3), .val (.int p4), .val (.int (3 : Int32)), .val (.int (v0_3_9 p1)), .val (.int (v0_3_20 p1 p2)), .val (.int (v0_3_31 p1 p2 p3)), .val (.int (v0_3_31 p1 p2 p3)), .val (.int (v0_3_78 p1 p2 p3 p4)), .val (.ref b82), .val (.int (v0_3_320_l12 p1 p2 p3 p4)), .val (.int (v0_3_320_l13 p1 p2 p3 p4)), .val (.int (v0_3_320_l14 p1 p2 p3 p4)), .val (.int (v0_3_320_l15 p1 p2 p3 p4)), .val (.int (v0_3_327 p1 p2 p3 p4)), .val (.int (v0_3_400_s0 p1 p2 p3 p4))] [(.int (v0_3_400_s0 p1 p2 p3 p4))])) _
            refine XS.ifNo X45.here hx rfl (hb hby at_410) rfl ((if0 _ _).trans (feq hc410_9).1) ?_
            show Steps p.tables e below (T45.setTop (mkF m 413 #[.val (.int p0), .val (.int p1), .val (.int p2), .val (.int p3), .val (.int p4), .val (.int (3 : Int32)), .val (.int (v0_3_9 p1)), .val (.int (v0_3_20 p1 p2)), .val (.int (v0_3_31 p1 p2 p3)), .val (.int (v0_3_31 p1 p2 p3)), .val (.int (v0_3_78 p1 p2 p3 p4)), .val (.ref b82), .val (.int (v0_3_320_l12 p1 p2 p3 p4)), .val (.int (v0_3_320_l13 p1 p2 p3 p4)), .val (.int (v0_3_320_l14 p1 p2 p3 p4)), .val (.int (v0_3_320_l15 p1 p2 p3 p4)), .val (.int (v0_3_327 p1 p2 p3 p4)), .val (.int (v0_3_400_s0 p1 p2 p3 p4))] [])) _
            refine XS.aload X45.here hx rfl (hb hby at_413) rfl rfl ?_
            show Steps p.tables e below (T45.setTop (mkF m 415 #[.val (.int p0), .val (.int p1), .val (.int p2), .val (.int p3), .val (.int p4), .val (.int (3 : Int32)), .val (.int (v0_3_9 p1)), .val (.int (v0_3_20 p1 p2)), .val (.int (v0_3_31 p1 p2 p3)), .val (.int (v0_3_31 p1 p2 p3)), .val (.int (v0_3_78 p1 p2 p3 p4)), .val (.ref b82), .val (.int (v0_3_320_l12 p1 p2 p3 p4)), .val (.int (v0_3_320_l13 p1 p2 p3 p4)), .val (.int (v0_3_320_l14 p1 p2 p3 p4)), .val (.int (v0_3_320_l15 p1 p2 p3 p4)), .val (.int (v0_3_327 p1 p2 p3 p4)), .val (.int (v0_3_400_s0 p1 p2 p3 p4))] [(.ref b82)])) _
            refine XS.iconst X45.here hx rfl (hb hby at_415) ?_
            exact k)
          obtain ⟨cl57, Ar57, -, Sz57, Mn57, Hs57, -⟩ := id o32_0
          have hin57 : ¬ ((2 : Int32) < 0 ∨ cl57.slots.size ≤ ((2 : Int32)).toNatClampNeg) := inb_of Sz57 ⟨by decide, by decide⟩
          have hat57 : cl57.slots[((2 : Int32)).toNatClampNeg]? = some (.int (g1_3_o0_2 (v0_3_78 p1 p2 p3 p4) (v0_3_9 p1) (v0_3_20 p1 p2) (v0_3_31 p1 p2 p3))) := Hs57.at hin57 rfl
          have pre58 : ∀ t, Steps p.tables e below (T45.setTop (mkF m 417 #[.val (.int p0), .val (.int p1), .val (.int p2), .val (.int p3), .val (.int p4), .val (.int (3 : Int32)), .val (.int (v0_3_9 p1)), .val (.int (v0_3_20 p1 p2)), .val (.int (v0_3_31 p1 p2 p3)), .val (.int (v0_3_31 p1 p2 p3)), .val (.int (v0_3_78 p1 p2 p3 p4)), .val (.ref b82), .val (.int (v0_3_320_l12 p1 p2 p3 p4)), .val (.int (v0_3_320_l13 p1 p2 p3 p4)), .val (.int (v0_3_320_l14 p1 p2 p3 p4)), .val (.int (v0_3_320_l15 p1 p2 p3 p4)), .val (.int (v0_3_327 p1 p2 p3 p4)), .val (.int (v0_3_400_s0 p1 p2 p3 p4))] [(.int (g1_3_o0_2 (v0_3_78 p1 p2 p3 p4) (v0_3_9 p1) (v0_3_20 p1 p2) (v0_3_31 p1 p2 p3)))])) t → Steps p.tables e below (s₁.setTop (entryFrame m #[(.int p0), (.int p1), (.int p2), (.int p3), (.int p4)] maxLocals)) t := fun t k => pre56 t (by
            show Steps p.tables e below (T45.setTop (mkF m 416 #[.val (.int p0), .val (.int p1), .val (.int p2), .val (.int p3), .val (.int p4), .val (.int (3 : Int32)), .val (.int (v0_3_9 p1)), .val (.int (v0_3_20 p1 p2)), .val (.int (v0_3_31 p1 p2 p3)), .val (.int (v0_3_31 p1 p2 p3)), .val (.int (v0_3_78 p1 p2 p3 p4)), .val (.ref b82), .val (.int (v0_3_320_l12 p1 p2 p3 p4)), .val (.int (v0_3_320_l13 p1 p2 p3 p4)), .val (.int (v0_3_320_l14 p1 p2 p3 p4)), .val (.int (v0_3_320_l15 p1 p2 p3 p4)), .val (.int (v0_3_327 p1 p2 p3 p4)), .val (.int (v0_3_400_s0 p1 p2 p3 p4))] [(.int (2 : Int32)), (.ref b82)])) _
            refine X45.iaload hx (j := (2 : Int32)) (v := (.int (g1_3_o0_2 (v0_3_78 p1 p2 p3 p4) (v0_3_9 p1) (v0_3_20 p1 p2) (v0_3_31 p1 p2 p3)))) (by rw [e45]; exact Ar57.1) (State.isArrayOf_alike hZ.alike Ar57.2.1) Ar57.2.2 hin57 hat57 (g := (mkF m 416 #[.val (.int p0), .val (.int p1), .val (.int p2), .val (.int p3), .val (.int p4), .val (.int (3 : Int32)), .val (.int (v0_3_9 p1)), .val (.int (v0_3_20 p1 p2)), .val (.int (v0_3_31 p1 p2 p3)), .val (.int (v0_3_31 p1 p2 p3)), .val (.int (v0_3_78 p1 p2 p3 p4)), .val (.ref b82), .val (.int (v0_3_320_l12 p1 p2 p3 p4)), .val (.int (v0_3_320_l13 p1 p2 p3 p4)), .val (.int (v0_3_320_l14 p1 p2 p3 p4)), .val (.int (v0_3_320_l15 p1 p2 p3 p4)), .val (.int (v0_3_327 p1 p2 p3 p4)), .val (.int (v0_3_400_s0 p1 p2 p3 p4))] [(.int (2 : Int32)), (.ref b82)])) rfl rfl (hb hby at_416) _ ?_
            exact k)
          have pre59 : ∀ t, Steps p.tables e below (T45.setTop (mkF m 419 #[.val (.int p0), .val (.int p1), .val (.int p2), .val (.int p3), .val (.int p4), .val (.int (3 : Int32)), .val (.int (v0_3_9 p1)), .val (.int (v0_3_20 p1 p2)), .val (.int (v0_3_31 p1 p2 p3)), .val (.int (v0_3_31 p1 p2 p3)), .val (.int (v0_3_78 p1 p2 p3 p4)), .val (.ref b82), .val (.int (v0_3_320_l12 p1 p2 p3 p4)), .val (.int (v0_3_320_l13 p1 p2 p3 p4)), .val (.int (v0_3_320_l14 p1 p2 p3 p4)), .val (.int (v0_3_320_l15 p1 p2 p3 p4)), .val (.int (v0_3_327 p1 p2 p3 p4)), .val (.int (v0_3_400_s0 p1 p2 p3 p4))] [(.int (v0_3_320_l14 p1 p2 p3 p4)), (.int (g1_3_o0_2 (v0_3_78 p1 p2 p3 p4) (v0_3_9 p1) (v0_3_20 p1 p2) (v0_3_31 p1 p2 p3)))])) t → Steps p.tables e below (s₁.setTop (entryFrame m #[(.int p0), (.int p1), (.int p2), (.int p3), (.int p4)] maxLocals)) t := fun t k => pre58 t (by
            show Steps p.tables e below (T45.setTop (mkF m 417 #[.val (.int p0), .val (.int p1), .val (.int p2), .val (.int p3), .val (.int p4), .val (.int (3 : Int32)), .val (.int (v0_3_9 p1)), .val (.int (v0_3_20 p1 p2)), .val (.int (v0_3_31 p1 p2 p3)), .val (.int (v0_3_31 p1 p2 p3)), .val (.int (v0_3_78 p1 p2 p3 p4)), .val (.ref b82), .val (.int (v0_3_320_l12 p1 p2 p3 p4)), .val (.int (v0_3_320_l13 p1 p2 p3 p4)), .val (.int (v0_3_320_l14 p1 p2 p3 p4)), .val (.int (v0_3_320_l15 p1 p2 p3 p4)), .val (.int (v0_3_327 p1 p2 p3 p4)), .val (.int (v0_3_400_s0 p1 p2 p3 p4))] [(.int (g1_3_o0_2 (v0_3_78 p1 p2 p3 p4) (v0_3_9 p1) (v0_3_20 p1 p2) (v0_3_31 p1 p2 p3)))])) _
            refine XS.iload X45.here hx rfl (hb hby at_417) rfl ?_
            exact k)
          by_cases hc419_10 : (g1_3_o0_2 (v0_3_78 p1 p2 p3 p4) (v0_3_9 p1) (v0_3_20 p1 p2) (v0_3_31 p1 p2 p3)) = (v0_3_320_l14 p1 p2 p3 p4)
          · have pre60 : ∀ t, Steps p.tables e below (T45.setTop (mkF m 427 #[.val (.int p0), .val (.int p1), .val (.int p2), .val (.int p3), .val (.int p4), .val (.int (3 : Int32)), .val (.int (v0_3_9 p1)), .val (.int (v0_3_20 p1 p2)), .val (.int (v0_3_31 p1 p2 p3)), .val (.int (v0_3_31 p1 p2 p3)), .val (.int (v0_3_78 p1 p2 p3 p4)), .val (.ref b82), .val (.int (v0_3_320_l12 p1 p2 p3 p4)), .val (.int (v0_3_320_l13 p1 p2 p3 p4)), .val (.int (v0_3_320_l14 p1 p2 p3 p4)), .val (.int (v0_3_320_l15 p1 p2 p3 p4)), .val (.int (v0_3_327 p1 p2 p3 p4)), .val (.int (v0_3_400_s0 p1 p2 p3 p4))] [(.int (1 : Int32))])) t → Steps p.tables e below (s₁.setTop (entryFrame m #[(.int p0), (.int p1), (.int p2), (.int p3), (.int p4)] maxLocals)) t := fun t k => pre59 t (by
              show Steps p.tables e below (T45.setTop (mkF m 419 #[.val (.int p0), .val (.int p1), .val (.int p2), .val (.int p3), .val (.int p4), .val (.int (3 : Int32)), .val (.int (v0_3_9 p1)), .val (.int (v0_3_20 p1 p2)), .val (.int (v0_3_31 p1 p2 p3)), .val (.int (v0_3_31 p1 p2 p3)), .val (.int (v0_3_78 p1 p2 p3 p4)), .val (.ref b82), .val (.int (v0_3_320_l12 p1 p2 p3 p4)), .val (.int (v0_3_320_l13 p1 p2 p3 p4)), .val (.int (v0_3_320_l14 p1 p2 p3 p4)), .val (.int (v0_3_320_l15 p1 p2 p3 p4)), .val (.int (v0_3_327 p1 p2 p3 p4)), .val (.int (v0_3_400_s0 p1 p2 p3 p4))] [(.int (v0_3_320_l14 p1 p2 p3 p4)), (.int (g1_3_o0_2 (v0_3_78 p1 p2 p3 p4) (v0_3_9 p1) (v0_3_20 p1 p2) (v0_3_31 p1 p2 p3)))])) _
              refine XS.icmpNo X45.here hx rfl (hb hby at_419) rfl (teq hc419_10).2 ?_
              show Steps p.tables e below (T45.setTop (mkF m 422 #[.val (.int p0), .val (.int p1), .val (.int p2), .val (.int p3), .val (.int p4), .val (.int (3 : Int32)), .val (.int (v0_3_9 p1)), .val (.int (v0_3_20 p1 p2)), .val (.int (v0_3_31 p1 p2 p3)), .val (.int (v0_3_31 p1 p2 p3)), .val (.int (v0_3_78 p1 p2 p3 p4)), .val (.ref b82), .val (.int (v0_3_320_l12 p1 p2 p3 p4)), .val (.int (v0_3_320_l13 p1 p2 p3 p4)), .val (.int (v0_3_320_l14 p1 p2 p3 p4)), .val (.int (v0_3_320_l15 p1 p2 p3 p4)), .val (.int (v0_3_327 p1 p2 p3 p4)), .val (.int (v0_3_400_s0 p1 p2 p3 p4))] [])) _
              refine XS.iconst X45.here hx rfl (hb hby at_422) ?_
              show Steps p.tables e below (T45.setTop (mkF m 423 #[.val (.int p0), .val (.int p1), .val (.int p2), .val (.int p3), .val (.int p4), .val (.int (3 : Int32)), .val (.int (v0_3_9 p1)), .val (.int (v0_3_20 p1 p2)), .val (.int (v0_3_31 p1 p2 p3)), .val (.int (v0_3_31 p1 p2 p3)), .val (.int (v0_3_78 p1 p2 p3 p4)), .val (.ref b82), .val (.int (v0_3_320_l12 p1 p2 p3 p4)), .val (.int (v0_3_320_l13 p1 p2 p3 p4)), .val (.int (v0_3_320_l14 p1 p2 p3 p4)), .val (.int (v0_3_320_l15 p1 p2 p3 p4)), .val (.int (v0_3_327 p1 p2 p3 p4)), .val (.int (v0_3_400_s0 p1 p2 p3 p4))] [(.int (1 : Int32))])) _
              refine XS.goto X45.here hx rfl (pc0 := 423) (pc' := 427) rfl (hb hby at_423) (by decide) (by decide) ?_
              exact k)
            exact ⟨T45, _, X45, e45, N45, fun t k => pre60 t (by simpa only [v0_3_427_s0, if_neg hc410_9, if_pos hc419_10] using k)⟩
          · have pre61 : ∀ t, Steps p.tables e below (T45.setTop (mkF m 427 #[.val (.int p0), .val (.int p1), .val (.int p2), .val (.int p3), .val (.int p4), .val (.int (3 : Int32)), .val (.int (v0_3_9 p1)), .val (.int (v0_3_20 p1 p2)), .val (.int (v0_3_31 p1 p2 p3)), .val (.int (v0_3_31 p1 p2 p3)), .val (.int (v0_3_78 p1 p2 p3 p4)), .val (.ref b82), .val (.int (v0_3_320_l12 p1 p2 p3 p4)), .val (.int (v0_3_320_l13 p1 p2 p3 p4)), .val (.int (v0_3_320_l14 p1 p2 p3 p4)), .val (.int (v0_3_320_l15 p1 p2 p3 p4)), .val (.int (v0_3_327 p1 p2 p3 p4)), .val (.int (v0_3_400_s0 p1 p2 p3 p4))] [(.int (0 : Int32))])) t → Steps p.tables e below (s₁.setTop (entryFrame m #[(.int p0), (.int p1), (.int p2), (.int p3), (.int p4)] maxLocals)) t := fun t k => pre59 t (by
              show Steps p.tables e below (T45.setTop (mkF m 419 #[.val (.int p0), .val (.int p1), .val (.int p2), .val (.int p3), .val (.int p4), .val (.int (3 : Int32)), .val (.int (v0_3_9 p1)), .val (.int (v0_3_20 p1 p2)), .val (.int (v0_3_31 p1 p2 p3)), .val (.int (v0_3_31 p1 p2 p3)), .val (.int (v0_3_78 p1 p2 p3 p4)), .val (.ref b82), .val (.int (v0_3_320_l12 p1 p2 p3 p4)), .val (.int (v0_3_320_l13 p1 p2 p3 p4)), .val (.int (v0_3_320_l14 p1 p2 p3 p4)), .val (.int (v0_3_320_l15 p1 p2 p3 p4)), .val (.int (v0_3_327 p1 p2 p3 p4)), .val (.int (v0_3_400_s0 p1 p2 p3 p4))] [(.int (v0_3_320_l14 p1 p2 p3 p4)), (.int (g1_3_o0_2 (v0_3_78 p1 p2 p3 p4) (v0_3_9 p1) (v0_3_20 p1 p2) (v0_3_31 p1 p2 p3)))])) _
              refine XS.icmpYes X45.here hx rfl (pc0 := 419) (pc' := 426) rfl (hb hby at_419) rfl (feq hc419_10).2 (by decide) (by decide) ?_
              show Steps p.tables e below (T45.setTop (mkF m 426 #[.val (.int p0), .val (.int p1), .val (.int p2), .val (.int p3), .val (.int p4), .val (.int (3 : Int32)), .val (.int (v0_3_9 p1)), .val (.int (v0_3_20 p1 p2)), .val (.int (v0_3_31 p1 p2 p3)), .val (.int (v0_3_31 p1 p2 p3)), .val (.int (v0_3_78 p1 p2 p3 p4)), .val (.ref b82), .val (.int (v0_3_320_l12 p1 p2 p3 p4)), .val (.int (v0_3_320_l13 p1 p2 p3 p4)), .val (.int (v0_3_320_l14 p1 p2 p3 p4)), .val (.int (v0_3_320_l15 p1 p2 p3 p4)), .val (.int (v0_3_327 p1 p2 p3 p4)), .val (.int (v0_3_400_s0 p1 p2 p3 p4))] [])) _
              refine XS.iconst X45.here hx rfl (hb hby at_426) ?_
              exact k)
            exact ⟨T45, _, X45, e45, N45, fun t k => pre61 t (by simpa only [v0_3_427_s0, if_neg hc410_9, if_neg hc419_10] using k)⟩
      have pre62 : ∀ t, Steps p.tables e below (T54.setTop (mkF m 431 #[.val (.int p0), .val (.int p1), .val (.int p2), .val (.int p3), .val (.int p4), .val (.int (3 : Int32)), .val (.int (v0_3_9 p1)), .val (.int (v0_3_20 p1 p2)), .val (.int (v0_3_31 p1 p2 p3)), .val (.int (v0_3_31 p1 p2 p3)), .val (.int (v0_3_78 p1 p2 p3 p4)), .val (.ref b82), .val (.int (v0_3_320_l12 p1 p2 p3 p4)), .val (.int (v0_3_320_l13 p1 p2 p3 p4)), .val (.int (v0_3_320_l14 p1 p2 p3 p4)), .val (.int (v0_3_320_l15 p1 p2 p3 p4)), .val (.int (v0_3_327 p1 p2 p3 p4)), .val (.int (v0_3_427_s0 p1 p2 p3 p4))] [(.int (v0_3_427_s0 p1 p2 p3 p4))])) t → Steps p.tables e below (s₁.setTop (entryFrame m #[(.int p0), (.int p1), (.int p2), (.int p3), (.int p4)] maxLocals)) t := fun t k => pre54 t (by
        show Steps p.tables e below (T54.setTop (mkF m 427 #[.val (.int p0), .val (.int p1), .val (.int p2), .val (.int p3), .val (.int p4), .val (.int (3 : Int32)), .val (.int (v0_3_9 p1)), .val (.int (v0_3_20 p1 p2)), .val (.int (v0_3_31 p1 p2 p3)), .val (.int (v0_3_31 p1 p2 p3)), .val (.int (v0_3_78 p1 p2 p3 p4)), .val (.ref b82), .val (.int (v0_3_320_l12 p1 p2 p3 p4)), .val (.int (v0_3_320_l13 p1 p2 p3 p4)), .val (.int (v0_3_320_l14 p1 p2 p3 p4)), .val (.int (v0_3_320_l15 p1 p2 p3 p4)), .val (.int (v0_3_327 p1 p2 p3 p4)), .val (.int (v0_3_400_s0 p1 p2 p3 p4))] [(.int (v0_3_427_s0 p1 p2 p3 p4))])) _
        refine XS.istore X54.here hx rfl (hb hby at_427) rfl (l' := #[.val (.int p0), .val (.int p1), .val (.int p2), .val (.int p3), .val (.int p4), .val (.int (3 : Int32)), .val (.int (v0_3_9 p1)), .val (.int (v0_3_20 p1 p2)), .val (.int (v0_3_31 p1 p2 p3)), .val (.int (v0_3_31 p1 p2 p3)), .val (.int (v0_3_78 p1 p2 p3 p4)), .val (.ref b82), .val (.int (v0_3_320_l12 p1 p2 p3 p4)), .val (.int (v0_3_320_l13 p1 p2 p3 p4)), .val (.int (v0_3_320_l14 p1 p2 p3 p4)), .val (.int (v0_3_320_l15 p1 p2 p3 p4)), .val (.int (v0_3_327 p1 p2 p3 p4)), .val (.int (v0_3_427_s0 p1 p2 p3 p4))]) rfl ?_
        show Steps p.tables e below (T54.setTop (mkF m 429 #[.val (.int p0), .val (.int p1), .val (.int p2), .val (.int p3), .val (.int p4), .val (.int (3 : Int32)), .val (.int (v0_3_9 p1)), .val (.int (v0_3_20 p1 p2)), .val (.int (v0_3_31 p1 p2 p3)), .val (.int (v0_3_31 p1 p2 p3)), .val (.int (v0_3_78 p1 p2 p3 p4)), .val (.ref b82), .val (.int (v0_3_320_l12 p1 p2 p3 p4)), .val (.int (v0_3_320_l13 p1 p2 p3 p4)), .val (.int (v0_3_320_l14 p1 p2 p3 p4)), .val (.int (v0_3_320_l15 p1 p2 p3 p4)), .val (.int (v0_3_327 p1 p2 p3 p4)), .val (.int (v0_3_427_s0 p1 p2 p3 p4))] [])) _
        refine XS.iload X54.here hx rfl (hb hby at_429) rfl ?_
        exact k)
      obtain ⟨fs, hr, hrun, hended, hW, hsame⟩ := X54.leave (v := some (.int (nar .boolean (v0_3_427_s0 p1 p2 p3 p4)))) (fun h => by rw [Bd.returns] at h; cases h)
      refine ⟨_, _, ?_, hrun, hended, _, _, rfl, ?_, ⟨_, rfl⟩, hW, hsame.mono (by decide) (by decide)⟩
      · exact pre62 _ (retN X54 hx (t := .boolean) Bd.returns (by simp) (hb hby at_431) hr)
      · exact ⟨by simp only [f0_3, if_pos hc333_4, if_neg hc340_5], N54, trivial⟩
  · have pre63 : ∀ t, Steps p.tables e below (T32.setTop (mkF m 337 #[.val (.int p0), .val (.int p1), .val (.int p2), .val (.int p3), .val (.int p4), .val (.int (3 : Int32)), .val (.int (v0_3_9 p1)), .val (.int (v0_3_20 p1 p2)), .val (.int (v0_3_31 p1 p2 p3)), .val (.int (v0_3_31 p1 p2 p3)), .val (.int (v0_3_78 p1 p2 p3 p4)), .val (.ref b82), .val (.int (v0_3_320_l12 p1 p2 p3 p4)), .val (.int (v0_3_320_l13 p1 p2 p3 p4)), .val (.int (v0_3_320_l14 p1 p2 p3 p4)), .val (.int (v0_3_320_l15 p1 p2 p3 p4)), .val (.int (v0_3_327 p1 p2 p3 p4)), .unset] [(.int (0 : Int32))])) t → Steps p.tables e below (s₁.setTop (entryFrame m #[(.int p0), (.int p1), (.int p2), (.int p3), (.int p4)] maxLocals)) t := fun t k => pre34 t (by
      show Steps p.tables e below (T32.setTop (mkF m 333 #[.val (.int p0), .val (.int p1), .val (.int p2), .val (.int p3), .val (.int p4), .val (.int (3 : Int32)), .val (.int (v0_3_9 p1)), .val (.int (v0_3_20 p1 p2)), .val (.int (v0_3_31 p1 p2 p3)), .val (.int (v0_3_31 p1 p2 p3)), .val (.int (v0_3_78 p1 p2 p3 p4)), .val (.ref b82), .val (.int (v0_3_320_l12 p1 p2 p3 p4)), .val (.int (v0_3_320_l13 p1 p2 p3 p4)), .val (.int (v0_3_320_l14 p1 p2 p3 p4)), .val (.int (v0_3_320_l15 p1 p2 p3 p4)), .val (.int (v0_3_327 p1 p2 p3 p4)), .unset] [(.int (v0_3_320_l15 p1 p2 p3 p4)), (.int (v0_3_327 p1 p2 p3 p4))])) _
      refine XS.icmpNo X32.here hx rfl (hb hby at_333) rfl (feq hc333_4).1 ?_
      show Steps p.tables e below (T32.setTop (mkF m 336 #[.val (.int p0), .val (.int p1), .val (.int p2), .val (.int p3), .val (.int p4), .val (.int (3 : Int32)), .val (.int (v0_3_9 p1)), .val (.int (v0_3_20 p1 p2)), .val (.int (v0_3_31 p1 p2 p3)), .val (.int (v0_3_31 p1 p2 p3)), .val (.int (v0_3_78 p1 p2 p3 p4)), .val (.ref b82), .val (.int (v0_3_320_l12 p1 p2 p3 p4)), .val (.int (v0_3_320_l13 p1 p2 p3 p4)), .val (.int (v0_3_320_l14 p1 p2 p3 p4)), .val (.int (v0_3_320_l15 p1 p2 p3 p4)), .val (.int (v0_3_327 p1 p2 p3 p4)), .unset] [])) _
      refine XS.iconst X32.here hx rfl (hb hby at_336) ?_
      exact k)
    obtain ⟨fs, hr, hrun, hended, hW, hsame⟩ := X32.leave (v := some (.int (0 : Int32))) (fun h => by rw [Bd.returns] at h; cases h)
    refine ⟨_, _, ?_, hrun, hended, _, _, rfl, ?_, ⟨_, rfl⟩, hW, hsame.mono (by decide) (by decide)⟩
    · exact pre63 _ (retN X32 hx (t := .boolean) Bd.returns (by simp) (hb hby at_337) hr)
    · exact ⟨by simp only [f0_3, if_neg hc333_4], N32, trivial⟩
theorem own_7 (x : Int32) : 0 ≤ (x &&& (7 : Int32)).toInt ∧ (x &&& (7 : Int32)).toInt ≤ 7 := by
  have h : (x &&& 7).toInt = x.toInt % 8 := c_mask x 7 3 (by decide) (by decide)
  omega
theorem own_up (c x : Int32) (h0 : 0 ≤ c.toInt) (h1 : c.toInt ≤ 100) : c.toInt < ((c + (1 : Int32)) + (x &&& (7 : Int32))).toInt ∧ ((c + (1 : Int32)) + (x &&& (7 : Int32))).toInt ≤ c.toInt + 8 := by
  have a := own_7 x
  have b := c_iadd c 1
  have r := rng32 (c + 1)
  have d := c_iadd (c + 1) (x &&& 7)
  have r' := rng32 ((c + 1) + (x &&& 7))
  rw [show (1 : Int32).toInt = 1 from rfl] at b
  omega
theorem own_e (c n k j i : Int32) (h0 : 0 ≤ c.toInt) (h1 : n.toInt ≤ 200) (hk : k.toInt = j.toInt + i.toInt) (hi : 0 ≤ i.toInt) (hj : 0 ≤ j.toInt) (hk2 : k.toInt ≤ 3) (h : c.toInt ≤ n.toInt - i.toInt) : (c = (n - k) + j) ↔ ¬ (c < n - i) := by
  have a := c_isub n k
  have b := c_iadd (n - k) j
  have d := c_isub n i
  have r1 := rng32 (n - k)
  have r2 := rng32 ((n - k) + j)
  have r3 := rng32 (n - i)
  rw [← Int32.toInt_inj, Int32.lt_iff_toInt_lt]
  omega
theorem own_pp (c : Int32) : (c + 1) + 1 = c + (2 : Int32) := by rw [Int32.add_assoc]; rfl
theorem own_ppp (c : Int32) : (c + 2) + 1 = c + (3 : Int32) := by rw [Int32.add_assoc]; rfl
theorem own_law0 : f0_0 = 1 := by decide
theorem own_law1 (i1 i4 : Int32) : f0_1 i1 i4 = 1 := by
  have a := own_7 i1
  have b := own_up (v0_1_9 i1) i4 a.1 (by unfold v0_1_9; omega)
  have e : (v0_1_9 i1 = (v0_1_78 i1 i4 - 1) + 0) ↔ ¬ (v0_1_9 i1 < v0_1_78 i1 i4 - 1) := own_e _ _ 1 0 1 a.1 (by unfold v0_1_78; unfold v0_1_9 at *; omega) (by decide) (by decide) (by decide) (by decide) (by unfold v0_1_78; rw [show (1 : Int32).toInt = 1 from rfl]; omega)
  unfold f0_1 v0_1_327 v0_1_373_s0 v0_1_171 v0_1_165_s0 f1_1 g1_1_o0_0
  simp only [e]
  by_cases p : v0_1_9 i1 < v0_1_78 i1 i4 - 1
  · simp only [p, not_true, if_true, if_false] <;> decide
  · simp only [p, not_false_iff, if_true, if_false] <;> decide
theorem own_law2 (i1 i2 i4 : Int32) : f0_2 i1 i2 i4 = 1 := by
  have a := own_7 i1
  have b := own_up (v0_2_9 i1) i2 a.1 (by unfold v0_2_9; omega)
  have b' : (v0_2_9 i1).toInt < (v0_2_20 i1 i2).toInt ∧ (v0_2_20 i1 i2).toInt ≤ (v0_2_9 i1).toInt + 8 := b
  have a' : 0 ≤ (v0_2_9 i1).toInt ∧ (v0_2_9 i1).toInt ≤ 7 := a
  have c := own_up (v0_2_20 i1 i2) i4 (by omega) (by omega)
  have c' : (v0_2_20 i1 i2).toInt < (v0_2_78 i1 i2 i4).toInt ∧ (v0_2_78 i1 i2 i4).toInt ≤ (v0_2_20 i1 i2).toInt + 8 := c
  have e1 : (v0_2_20 i1 i2 = (v0_2_78 i1 i2 i4 - 2) + 1) ↔ ¬ (v0_2_20 i1 i2 < v0_2_78 i1 i2 i4 - 1) := own_e _ _ 2 1 1 (by omega) (by omega) (by decide) (by decide) (by decide) (by decide) (by rw [show (1 : Int32).toInt = 1 from rfl]; omega)
  have e0 : (v0_2_9 i1 = (v0_2_78 i1 i2 i4 - 2) + 0) ↔ ¬ (v0_2_9 i1 < v0_2_78 i1 i2 i4 - 2) := own_e _ _ 2 0 2 (by omega) (by omega) (by decide) (by decide) (by decide) (by decide) (by rw [show (2 : Int32).toInt = 2 from rfl]; omega)
  unfold f0_2 v0_2_327 v0_2_400_s0 v0_2_373_s0 v0_2_320_l15 v0_2_320_l13 v0_2_320_l12 v0_2_198 v0_2_219 v0_2_225 f1_2 g1_2_o0_0 g1_2_o0_1
  simp only [e1, e0, own_pp]
  by_cases p : v0_2_20 i1 i2 < v0_2_78 i1 i2 i4 - 1
  · simp only [p, not_true, if_true, if_false] <;> decide
  · by_cases q : v0_2_9 i1 < v0_2_78 i1 i2 i4 - 2
    · simp only [p, q, not_true, not_false_iff, if_true, if_false] <;> decide
    · simp only [p, q, not_false_iff, if_true, if_false] <;> decide
theorem own_law3 (i1 i2 i3 i4 : Int32) : f0_3 i1 i2 i3 i4 = 1 := by
  have a' : 0 ≤ (v0_3_9 i1).toInt ∧ (v0_3_9 i1).toInt ≤ 7 := own_7 i1
  have b' : (v0_3_9 i1).toInt < (v0_3_20 i1 i2).toInt ∧ (v0_3_20 i1 i2).toInt ≤ (v0_3_9 i1).toInt + 8 := own_up (v0_3_9 i1) i2 a'.1 (by omega)
  have c' : (v0_3_20 i1 i2).toInt < (v0_3_31 i1 i2 i3).toInt ∧ (v0_3_31 i1 i2 i3).toInt ≤ (v0_3_20 i1 i2).toInt + 8 := own_up (v0_3_20 i1 i2) i3 (by omega) (by omega)
  have d' : (v0_3_31 i1 i2 i3).toInt < (v0_3_78 i1 i2 i3 i4).toInt ∧ (v0_3_78 i1 i2 i3 i4).toInt ≤ (v0_3_31 i1 i2 i3).toInt + 8 := own_up (v0_3_31 i1 i2 i3) i4 (by omega) (by omega)
  have e2 : (v0_3_31 i1 i2 i3 = (v0_3_78 i1 i2 i3 i4 - 3) + 2) ↔ ¬ (v0_3_31 i1 i2 i3 < v0_3_78 i1 i2 i3 i4 - 1) := own_e _ _ 3 2 1 (by omega) (by omega) (by decide) (by decide) (by decide) (by decide) (by rw [show (1 : Int32).toInt = 1 from rfl]; omega)
  have e1 : (v0_3_20 i1 i2 = (v0_3_78 i1 i2 i3 i4 - 3) + 1) ↔ ¬ (v0_3_20 i1 i2 < v0_3_78 i1 i2 i3 i4 - 2) := own_e _ _ 3 1 2 (by omega) (by omega) (by decide) (by decide) (by decide) (by decide) (by rw [show (2 : Int32).toInt = 2 from rfl]; omega)
  have e0 : (v0_3_9 i1 = (v0_3_78 i1 i2 i3 i4 - 3) + 0) ↔ ¬ (v0_3_9 i1 < v0_3_78 i1 i2 i3 i4 - 3) := own_e _ _ 3 0 3 (by omega) (by omega) (by decide) (by decide) (by decide) (by decide) (by rw [show (3 : Int32).toInt = 3 from rfl]; omega)
  unfold f0_3 v0_3_327 v0_3_427_s0 v0_3_400_s0 v0_3_373_s0 v0_3_320_l15 v0_3_320_l14 v0_3_320_l13 v0_3_320_l12 v0_3_252 v0_3_273 v0_3_279 v0_3_300 v0_3_306 v0_3_312 f1_3 g1_3_o0_0 g1_3_o0_1 g1_3_o0_2
  simp only [e2, e1, e0, own_ppp, own_pp]
  by_cases p : v0_3_31 i1 i2 i3 < v0_3_78 i1 i2 i3 i4 - 1
  · simp only [p, not_true, if_true, if_false] <;> decide
  · by_cases q : v0_3_20 i1 i2 < v0_3_78 i1 i2 i3 i4 - 2
    · simp only [p, q, not_true, not_false_iff, if_true, if_false] <;> decide
    · by_cases r : v0_3_9 i1 < v0_3_78 i1 i2 i3 i4 - 3
      · simp only [p, q, r, not_true, not_false_iff, if_true, if_false] <;> decide
      · simp only [p, q, r, not_false_iff, if_true, if_false] <;> decide
theorem own_k (x : Int32) : x &&& (3 : Int32) = (0 : Int32) ∨ x &&& (3 : Int32) = (1 : Int32) ∨ x &&& (3 : Int32) = (2 : Int32) ∨ x &&& (3 : Int32) = (3 : Int32) := by
  have h : (x &&& 3).toInt = x.toInt % 4 := c_mask x 3 2 (by decide) (by decide)
  have e : ∀ k : Int32, (x &&& 3).toInt = k.toInt → x &&& 3 = k := fun k q => Int32.toInt_inj.mp q
  have c : (x &&& 3).toInt = 0 ∨ (x &&& 3).toInt = 1 ∨ (x &&& 3).toInt = 2 ∨ (x &&& 3).toInt = 3 := by omega
  rcases c with c | c | c | c
  · exact Or.inl (e 0 c)
  · exact Or.inr (Or.inl (e 1 c))
  · exact Or.inr (Or.inr (Or.inl (e 2 c)))
  · exact Or.inr (Or.inr (Or.inr (e 3 c)))
set_option maxRecDepth 65536 in
theorem rm0 (l : Launch) (Z : State) (a0 : Array Value) (hw : ∀ d ∈ tables_1, d.before a0 Z = true) (ws : List Jvm.Cond) (p0 : Int32) (p1 : Int32) (p2 : Int32) (p3 : Int32) (p4 : Int32) (h0 : Heap) (n0 : Nat) (Z0 : n0 ≤ h0.size) :
    MetFree l x (head1 (Jvm.Cond.code x code maxLocals ret :: ws) room_1) (fun a U => a = #[(.int p0), (.int p1), (.int p2), (.int p3), (.int p4)] ∧ Z.Warmed39 U.vm ∧ U.heap = h0) (fun _ _ _ _ _ => True) (fun _ U o U' => ∃ v L, o = .returned v ∧ QL (some (.int (1 : Int32))) n0 v U'.heap L ∧ FrameEnd U o U' L room_1.cells room_1.slots) := by
  rcases own_k p0 with hk | hk | hk | hk
  · have q := rm0_0 l Z a0 hw ws p0 p1 p2 p3 p4 h0 n0 Z0 hk
    rw [own_law0] at q
    exact q
  · have q := rm0_1 l Z a0 hw ws p0 p1 p2 p3 p4 h0 n0 Z0 hk
    rw [own_law1 p1 p4] at q
    exact q
  · have q := rm0_2 l Z a0 hw ws p0 p1 p2 p3 p4 h0 n0 Z0 hk
    rw [own_law2 p1 p2 p4] at q
    exact q
  · have q := rm0_3 l Z a0 hw ws p0 p1 p2 p3 p4 h0 n0 Z0 hk
    rw [own_law3 p1 p2 p3 p4] at q
    exact q
set_option maxRecDepth 65536 in
set_option maxHeartbeats 40000000 in
theorem comes_1 {Post : Tables → Env → Array Value → State → Outcome → State → Prop} (hpost : ∀ tb e args s v u, (limb_1_1.after args s (.returned v) u = true ∧ limb_1_2.after args s (.returned v) u = true ∧ True) → FrameEnd s (.returned v) u (Jvm.fieldLocs frame_1_writes args s ++ Jvm.arrayLocs frame_1_arrays args s ++ Jvm.staticLocs frame_1_statics s) 16 128 → Post tb e args s (.returned v) u) :
    ArmFor flags0 classFile x code maxLocals ret World_1 tables_1 room_1 Calls_1 rest_1 Pre_1 Post := by
  intro l hfl _ _ p e ha hc hk s m args below hf hA hF happ hP
  obtain ⟨hcalls, hrest, hpre⟩ := hP
  obtain ⟨-, -, -, hnamed, -, -, -, hat⟩ := (Spec.applies_iff hf).mp happ
  obtain ⟨hg, hn⟩ := and_e (Cond.before_iff.mp (show (Jvm.Cond.and given_1 narrow_1).before args s = true from hpre))
  obtain ⟨g1, g2⟩ := and_e hg
  obtain ⟨g3, g4⟩ := and_e g2
  obtain ⟨g5, g6⟩ := and_e g4
  obtain ⟨g7, g8⟩ := and_e g6
  obtain ⟨g9, g10⟩ := and_e g8
  obtain ⟨w0, w1, w2, w3, w4, rfl⟩ : ∃ w0 w1 w2 w3 w4 : Value, args = #[w0, w1, w2, w3, w4] := by
    have hs : args.size = 5 := by simpa [Cond.value, given_1] using g1
    obtain ⟨L⟩ := args
    match L, hs with
    | [w0, w1, w2, w3, w4], _ => exact ⟨w0, w1, w2, w3, w4, rfl⟩
  have hw := fun d (hd : d ∈ tables_1) => atoms_spec (ws := Jvm.Cond.code x code maxLocals ret :: tables_1) hat d (List.mem_cons_of_mem _ hd)
  obtain ⟨i0, ei0⟩ := is_v g3
  obtain rfl : w0 = (.int i0) := Option.some.inj ei0
  obtain ⟨i1, ei1⟩ := is_v g5
  obtain rfl : w1 = (.int i1) := Option.some.inj ei1
  obtain ⟨i2, ei2⟩ := is_v g7
  obtain rfl : w2 = (.int i2) := Option.some.inj ei2
  obtain ⟨i3, ei3⟩ := is_v g9
  obtain rfl : w3 = (.int i3) := Option.some.inj ei3
  obtain ⟨i4, ei4⟩ := is_v g10
  obtain rfl : w4 = (.int i4) := Option.some.inj ei4
  obtain ⟨n, o, h1, h2, h3, _, L, rfl, ⟨rfl, N, -⟩, hq⟩ := rm0 l s _ hw tables_1 i0 i1 i2 i3 i4 s.heap s.heap.size (Nat.le_refl _) p e ha hc hk s m _ below hf ((Spec.applies_iff_loose hf).mp happ).1 ⟨rfl, State.Warmed39.refl s, rfl⟩ trivial
  refine ⟨n, _, h1, h2, h3, hpost _ _ _ _ _ _ ⟨Cond.after_iff.mpr rfl, Cond.after_iff.mpr (eq_i res_at (Term.int_eval (1)) rfl), trivial⟩ ⟨hq.1, hq.2.1, (hq.2.2.sift fun y hy => Or.inr (N y hy)).mono (by decide) (by decide)⟩⟩
theorem main_1_1 : Claimed_1_1 := comes_1 fun _ _ _ _ _ _ h hF => ⟨h.1, hF⟩
theorem main_1_2 : Claimed_1_2 := comes_1 fun _ _ _ _ _ _ h hF => ⟨h.2.1, hF⟩
end Jvm.Pilot.@@N@@
namespace Jvm.Pilot.@@N@@
open Jvm Jvm.ClassFile Sem Op Lib Jvm.Free Jvm.Stand Jvm.Pilot.@@N@@.Jvm.D
/-! MADE BY PROGRAM (witnessworld.py) out of the Statement's table words and the real class files: 9 classes; the members and pool entries that the words name. The judged class is class 1, her method 1. -/
namespace start1
open Jvm.ClassFile
def u (s : String) : CpInfo := .utf8 (stringToUtf16 s)
/-- a pool by its gaps: so many unusable entries, then the entry; so many at the end -/
def gap : Nat → List CpInfo → List CpInfo
  | 0, r => r
  | n + 1, r => .unusable :: gap n r
def poolList (es : List (Nat × CpInfo)) (last : Nat) : List CpInfo := es.foldr (fun e r => gap e.1 (e.2 :: r)) (gap last [])
def pool (es : List (Nat × CpInfo)) (last : Nat) : Array CpInfo := ⟨poolList es last⟩
def fileOf (pool : Array CpInfo) (this : Nat) (attrs : Array Attribute := #[]) (ms : Array MethodInfo := #[]) (fl : Nat := 33) (sup : Nat := 0) (ifs : Array Nat := #[]) (fds : Array FieldInfo := #[]) : ClassFile where
  minorVersion := 0
  majorVersion := 65
  constantPool := pool
  accessFlags := fl
  thisClass := this
  superClass := sup
  interfaces := ifs
  fields := fds
  methods := ms
  attributes := attrs
def plain (name : String) (sup : Option ClassId) : Class where
  name := name
  kind := .ordinary
  loader := none
  accessFlags := 33
  super := sup
  interfaces := #[]
  cf := none
  fields := #[]
  methods := #[]
  instanceTypes := #[]
  staticTypes := #[]
  resolved := #[]
  callSites := []
  init := .initialized
  statics := none
  mirror := none

def pool0 : Array CpInfo := pool [(5, u "<init>"), (0, u "()V"), (1, .class_ 10), (1, u "java/lang/Object")] 113

def k0m0 : Method := { name := "<init>", desc := "()V", sig := { parameters := [], returnType := none }, accessFlags := 1, code := none }
/-- java/lang/Object -/
def k0 : Class := { plain "java/lang/Object" none with
  accessFlags := 33
  interfaces := #[]
  cf := some (fileOf pool0 8 #[] #[{ accessFlags := 1, nameIndex := 5, descriptorIndex := 6, attributes := #[] }] 33 0 #[] #[])
  fields := #[]
  methods := #[k0m0]
  instanceTypes := #[]
  staticTypes := #[]
  resolved := Array.replicate 124 none
  statics := none }

def pool1 : Array CpInfo := pool [(2, .class_ 4), (1, u "java/lang/Object"), (0, u "<init>"), (0, u "()V"), (0, .methodref 8 9), (0, .class_ 10), (0, .nameAndType 11 12), (0, u "com/example/modloc/modloc/localize/Localizer"), (0, u "advance"), (0, u "([II)Z"), (0, .class_ 14), (0, u "com/example/modloc/modloc/localize/LocalizerAdvancePinLaw"), (2, u "law"), (0, u "(IIIII)Z")] 5

def k1m0 : Method := { name := "<init>", desc := "()V", sig := { parameters := [], returnType := none }, accessFlags := 2, code := none }
def k1c1 : Code := { maxStack := 3, maxLocals := 18, code := code, exceptionTable := #[], attributes := #[] }
def k1m1 : Method := { name := "law", desc := "(IIIII)Z", sig := { parameters := [.int, .int, .int, .int, .int], returnType := some .boolean }, accessFlags := 9, code := some k1c1 }
/-- com/example/modloc/modloc/localize/LocalizerAdvancePinLaw -/
def k1 : Class := { plain "com/example/modloc/modloc/localize/LocalizerAdvancePinLaw" (some 0) with
  accessFlags := 49
  interfaces := #[]
  cf := some (fileOf pool1 13 #[] #[{ accessFlags := 2, nameIndex := 5, descriptorIndex := 6, attributes := #[] }, { accessFlags := 9, nameIndex := 17, descriptorIndex := 18, attributes := #[] }] 49 2 #[] #[])
  fields := #[]
  methods := #[k1m0, k1m1]
  instanceTypes := #[]
  staticTypes := #[]
  resolved := Array.replicate 24 none
  statics := none }

def pool2 : Array CpInfo := pool [(2, .class_ 4), (1, u "java/lang/Object"), (3, .class_ 10), (1, u "com/example/modloc/modloc/localize/Localizer"), (0, u "localized"), (0, u "Lcom/example/modloc/modloc/localize/LocalizedModification;"), (2, u "tolerance"), (0, u "Lcom/example/modloc/modloc/spectrum/MassTolerance;"), (4, u "neutralLoss"), (3, u "Ljava/util/OptionalDouble;"), (2, u "acceptorCodes"), (0, u "[Z"), (2, u "losingCodes"), (19, .class_ 54), (1, u "com/example/modloc/modloc/localize/Localizer$Sites"), (52, .class_ 108), (0, u "com/example/modloc/modloc/localize/Localizer$HeldIons"), (39, .class_ 150), (1, u "com/example/modloc/modloc/localize/Localizer$Ranking"), (6, .class_ 159), (1, u "com/example/modloc/modloc/localize/Localizer$Support"), (141, u "I"), (29, u "advance"), (0, u "([II)Z"), (25, u "MAX_PLACEMENTS"), (0, u "J"), (1, u "MAX_RESIDUES"), (1, u "MAX_CHARGE")] 47

def k2c0 : Code := { maxStack := 5, maxLocals := 4, code := prog_14_method_17_code, exceptionTable := #[], attributes := #[] }
def k2m0 : Method := { name := "advance", desc := "([II)Z", sig := { parameters := [(.array .int), .int], returnType := some .boolean }, accessFlags := 8, code := some k2c0 }
/-- com/example/modloc/modloc/localize/Localizer -/
def k2 : Class := { plain "com/example/modloc/modloc/localize/Localizer" (some 0) with
  accessFlags := 33
  interfaces := #[]
  cf := some (fileOf pool2 8 #[.nestMembers #[148, 157, 107, 52]] #[{ accessFlags := 8, nameIndex := 331, descriptorIndex := 332, attributes := #[] }] 33 2 #[] #[{ accessFlags := 25, nameIndex := 358, descriptorIndex := 359, attributes := #[] }, { accessFlags := 25, nameIndex := 361, descriptorIndex := 301, attributes := #[] }, { accessFlags := 25, nameIndex := 363, descriptorIndex := 301, attributes := #[] }, { accessFlags := 18, nameIndex := 11, descriptorIndex := 12, attributes := #[] }, { accessFlags := 18, nameIndex := 15, descriptorIndex := 16, attributes := #[] }, { accessFlags := 18, nameIndex := 21, descriptorIndex := 25, attributes := #[] }, { accessFlags := 18, nameIndex := 28, descriptorIndex := 29, attributes := #[] }, { accessFlags := 18, nameIndex := 32, descriptorIndex := 29, attributes := #[] }])
  fields := #[{ name := "MAX_PLACEMENTS", type := .long, accessFlags := 25, slot := 0, constantValue := 0 }, { name := "MAX_RESIDUES", type := .int, accessFlags := 25, slot := 1, constantValue := 0 }, { name := "MAX_CHARGE", type := .int, accessFlags := 25, slot := 2, constantValue := 0 }, { name := "localized", type := (.object "com/example/modloc/modloc/localize/LocalizedModification"), accessFlags := 18, slot := 0, constantValue := 0 }, { name := "tolerance", type := (.object "com/example/modloc/modloc/spectrum/MassTolerance"), accessFlags := 18, slot := 1, constantValue := 0 }, { name := "neutralLoss", type := (.object "java/util/OptionalDouble"), accessFlags := 18, slot := 2, constantValue := 0 }, { name := "acceptorCodes", type := (.array .boolean), accessFlags := 18, slot := 3, constantValue := 0 }, { name := "losingCodes", type := (.array .boolean), accessFlags := 18, slot := 4, constantValue := 0 }]
  methods := #[k2m0]
  instanceTypes := #[(.object "com/example/modloc/modloc/localize/LocalizedModification"), (.object "com/example/modloc/modloc/spectrum/MassTolerance"), (.object "java/util/OptionalDouble"), (.array .boolean), (.array .boolean)]
  staticTypes := #[.long, .int, .int]
  resolved := Array.replicate 411 none
  statics := none }

def pool3 : Array CpInfo := pool [(1, u "java/lang/Cloneable"), (0, .class_ 1), (0, u "java/lang/Object"), (0, .class_ 3)] 3

/-- java/lang/Cloneable -/
def k3 : Class := { plain "java/lang/Cloneable" (some 0) with
  accessFlags := 1537
  interfaces := #[]
  cf := some (fileOf pool3 2 #[] #[] 1537 4 #[] #[])
  fields := #[]
  methods := #[]
  instanceTypes := #[]
  staticTypes := #[]
  resolved := Array.replicate 8 none
  statics := none }

def pool4 : Array CpInfo := pool [(1, u "java/io/Serializable"), (0, .class_ 1), (0, u "java/lang/Object"), (0, .class_ 3)] 3

/-- java/io/Serializable -/
def k4 : Class := { plain "java/io/Serializable" (some 0) with
  accessFlags := 1537
  interfaces := #[]
  cf := some (fileOf pool4 2 #[] #[] 1537 4 #[] #[])
  fields := #[]
  methods := #[]
  instanceTypes := #[]
  staticTypes := #[]
  resolved := Array.replicate 8 none
  statics := none }

/-- the primitive byte -/
def k5 : Class := { plain "byte" none with kind := .primitive 'B', accessFlags := 0x411 }
/-- [B -/
def k6 : Class := { plain "[B" (some 0) with kind := .array 5 .byte, interfaces := #[3, 4], accessFlags := 1041 }

/-- the primitive int -/
def k7 : Class := { plain "int" none with kind := .primitive 'I', accessFlags := 0x411 }
/-- [I -/
def k8 : Class := { plain "[I" (some 0) with kind := .array 7 .int, interfaces := #[3, 4], accessFlags := 1041 }

def heap : Heap := #[]
def classes : Array Class := #[k0, k1, k2, k3, k4, k5, k6, k7, k8]
def interned : List (Array UInt16 × Addr) := []
def slotsUsed : Nat := 0
def theMethod : MethodId := ⟨1, 1⟩
def args0 : Array Value := #[.int 3, .int 7, .int 9, .int 3, .int 2]
def aboutOver (below : List Frame) : State where
  vm := { classes := classes, interned := interned.toArray }
  heap := heap
  slotsUsed := slotsUsed
  threads := #[{ frames := .invoking theMethod args0 :: below }]
def below0 : List Frame := [.native { method := ⟨0, 0⟩, args := #[] }]
def about1 : State := aboutOver below0
def p0 : Program := .bare "" "" ""
def e0 : Env := launch0.env 0 0 0
theorem w_frames : about1.frames = Frame.invoking theMethod args0 :: below0 := rfl
set_option maxRecDepth 65536 in
theorem w_args : argsFit about1.vm theMethod args0 = true := by decide +kernel
set_option maxRecDepth 65536 in
theorem w_heap : heapFits about1 = true := by decide +kernel
set_option maxRecDepth 65536 in
theorem w_runnable : about1.curStatus? = some .runnable := by decide +kernel
set_option maxRecDepth 65536 in
theorem w_alone : about1.alone = true := by decide +kernel
set_option maxRecDepth 65536 in
theorem w_named : about1.methodNamed? x = some theMethod := by decide +kernel
set_option maxRecDepth 65536 in
theorem w_hears : about1.hears theMethod below0 = true := by decide +kernel
set_option maxRecDepth 65536 in
theorem w_ripe : about1.ripe theMethod args0 below0 = true := by decide +kernel
theorem w_running : about1.status = .running := rfl
set_option maxRecDepth 65536 in
theorem w_room : about1.hasRoom e0.platform room_1 = true :=
  launch0.hasRoom_least _ room_1 (by decide +kernel) (by decide +kernel) (by decide +kernel) (by decide +kernel) (by decide +kernel) (by decide +kernel)
theorem allAtoms_all (ts : List Jvm.Cond) (a : Array Jvm.Value) (st : Jvm.State) : (allAtoms ts).before a st = ts.all (fun c => c.before a st) := by
  induction ts with
  | nil => rfl
  | cons c t ih =>
    show (Jvm.Cond.and c (allAtoms t)).before a st = _
    rw [Jvm.Cond.before_and, ih, List.all_cons]
def words1 : List Jvm.Cond := Jvm.Cond.code x code maxLocals ret :: tables_1
/-- a 'code' word, met by the world's own term for the bytes: nothing is compared byte by byte -/
theorem code_word {y : MethodName} {bytes : ByteArray} {mx : Nat} {rt : Option FieldType} {a : Array Value} {s : State} {m : MethodId} {meth : Method} {c : Code} (h1 : s.methodNamed? y = some m) (h2 : s.vm.method? m = some meth) (h3 : meth.code = some c) (h4 : c.code = bytes)
    (h5 : (c.maxLocals == mx && c.exceptionTable.isEmpty && decide (c.maxStack ≤ mostOperands) && decide (meth.sig.returnType = rt) && !meth.locks && decide (parseMethodDescriptor y.desc = some meth.sig)) = true) : (Jvm.Cond.code y bytes mx rt).before a s = true := by
  simp only [Bool.and_eq_true, beq_iff_eq, Bool.not_eq_true', decide_eq_true_eq] at h5
  obtain ⟨⟨⟨⟨⟨g1, g2⟩, g3⟩, g4⟩, g5⟩, g6⟩ := h5
  simp [Cond.before, Cond.holds, Cond.value, h1, h2, h3, h4, g1, g2, g3, g4, g5, g6]
def isCode : Jvm.Cond → Bool
  | .code _ _ _ _ => true
  | _ => false
theorem all_split {L : List Jvm.Cond} {P : Jvm.Cond → Bool} (h1 : L.all (fun c => isCode c || P c) = true) (h2 : ∀ c ∈ L.filter isCode, P c = true) : L.all P = true := by
  refine List.all_eq_true.mpr fun c hc => ?_
  have h := List.all_eq_true.mp h1 c hc
  rcases Bool.eq_false_or_eq_true (isCode c) with hi | hi
  · exact h2 c (List.mem_filter.mpr ⟨hc, hi⟩)
  · simpa [hi] using h
set_option maxRecDepth 65536 in
theorem w_c0 : (Jvm.Cond.code x code maxLocals ret).before args0 about1 = true := code_word (m := ⟨1, 1⟩) (meth := k1m1) (c := k1c1) (by decide +kernel) rfl rfl rfl (by decide +kernel)
set_option maxRecDepth 65536 in
theorem w_c1 : (Jvm.Cond.code ({ cls := "com/example/modloc/modloc/localize/Localizer", name := "advance", desc := "([II)Z" } : Jvm.MethodName) prog_14_method_17_code (4 : Nat) (Option.some Jvm.ClassFile.FieldType.boolean)).before args0 about1 = true := code_word (m := ⟨2, 0⟩) (meth := k2m0) (c := k2c0) (by decide +kernel) rfl rfl rfl (by decide +kernel)
def codes1 : List Jvm.Cond := [Jvm.Cond.code x code maxLocals ret, Jvm.Cond.code ({ cls := "com/example/modloc/modloc/localize/Localizer", name := "advance", desc := "([II)Z" } : Jvm.MethodName) prog_14_method_17_code (4 : Nat) (Option.some Jvm.ClassFile.FieldType.boolean)]
set_option maxRecDepth 65536 in
theorem codes_eq : words1.filter isCode = codes1 := rfl
theorem w_codes : ∀ c ∈ words1.filter isCode, c.before args0 about1 = true := by
  rw [codes_eq]
  intro c hc
  simp only [codes1, List.mem_cons, List.not_mem_nil, or_false] at hc
  rcases hc with rfl | rfl
  · exact w_c0
  · exact w_c1
set_option maxRecDepth 65536 in
theorem w_t1 : words1.all (fun c => isCode c || c.before args0 about1) = true := by decide +kernel
theorem w_tables : (allAtoms (Jvm.Cond.code x code maxLocals ret :: tables_1)).before args0 about1 = true := by
  rw [allAtoms_all]
  show words1.all (fun c => c.before args0 about1) = true
  refine all_split ?_ w_codes
  rw [w_t1]
set_option maxRecDepth 65536 in
theorem w_case : (Jvm.Cond.and given_1 narrow_1).before args0 about1 = true := by decide +kernel
theorem w_applies : (headSpec (Jvm.Cond.code x code maxLocals ret :: tables_1) room_1).applies x e0.platform about1 = true :=
  (Spec.applies_iff w_frames).mpr ⟨w_running, w_runnable, w_alone, w_named, w_hears, w_ripe, w_room, w_tables⟩
theorem atStart : AtStart classFile x code maxLocals ret World_1 tables_1 room_1 Calls_1 rest_1 Pre_1 launch0 p0 e0 about1 theMethod args0 below0 :=
  ⟨lists_1, trivial, launch0.admits_env _ _ _, launch0.least_env, fairChoices_fair.cas, fairChoices_fair.clock, w_frames, w_args, w_heap, w_applies, trivial, trivial, w_case⟩
end start1
theorem witness_1 : WitnessClaimed_1 := ⟨start1.p0, start1.e0, start1.about1, start1.theMethod, start1.args0, start1.below0, start1.atStart⟩
end Jvm.Pilot.@@N@@
