import JvmDerived
import JvmDerived.Pilot.@@N@@Statement
import JvmDerived.Pilot.@@N@@Code
set_option linter.unusedVariables false
set_option linter.unusedSimpArgs false
namespace Jvm.RoadKit
open Sem ClassFile Op Lib Jvm.Stand Jvm.Free Jvm.LawKit
section New
variable {p : Program} {l : Launch} {e : Env} {R : Room} {s : State} {m : MethodId} {args : Array Value} {below : List Frame} {meth : Method} {c : Code} {T : State} {locs : List Loc} {cells slots : Nat}
theorem retI (X : Stand p l e R s m args below meth c T locs cells slots) (hx : p.tables.exec = Jvm.exec) {pc : Nat} {Ls : Array Slot} {z : Int32} {rest : List Value} (hret : meth.sig.returnType = some .int) (hd : decode c.code pc = .ok (.ireturn, 1)) {fs : List Frame}
    (hl : ∀ (f : JFrame) (acts : List Action), f.method = m → f.locked = none → f.entered = [] → (doReturn e (T.setTop f) acts (some (.int z))).1 = T.setFrames fs) : Steps p.tables e below (T.setTop (mkF m pc Ls (.int z :: rest))) (T.setFrames fs) := by
  have hm' : T.vm.method? m = some meth := X.method'
  have hn : narrow .int (.int z) = .int z := rfl
  show Steps p.tables e below (T.setTop { method := m, pc := pc, locals := Ls, stack := _ :: rest, locked := none }) _
  jvm_step X.here [X.here.top, hx, hd, hm', hret, hn]
  first | (intro acts; rw [hl _ acts rfl rfl rfl]) | rw [hl _ _ rfl rfl rfl]
  exact Steps.refl _
end New
end Jvm.RoadKit
namespace Jvm.Pilot.@@N@@
open Jvm Jvm.ClassFile Sem Op Lib Jvm.Free Jvm.Stand Jvm.LawKit Jvm.RoadKit Bundle Jvm.Pilot.@@N@@.Jvm.D
def QP (w : Option Value) (h0 : Heap) (n0 : Nat) (v : Option Value) (h : Heap) (L : List Loc) : Prop := v = w ∧ Fr n0 L ∧ h = h0
def QL (w : Option Value) (n0 : Nat) (v : Option Value) (h : Heap) (L : List Loc) : Prop := v = w ∧ Fr n0 L ∧ True
theorem getFR {p : Program} {l : Launch} {e : Env} {R : Room} {s : State} {m : MethodId} {args : Array Value} {below : List Frame} {meth : Method} {c : Code} {T : State} {locs : List Loc} {cells slots : Nat} {Z : State} {a0 : Array Value} {h : Heap}
    (X : Stand p l e R s m args below meth c T locs cells slots) (hx : p.tables.exec = Jvm.exec) (hZ : Z.Warmed39 s.vm) {own O n d : String} {index : Nat} (hown : s.vm.findClass own = some m.cls) (w : (Jvm.Cond.fieldRef own index O n d).before a0 Z = true)
    (eT : T.heap = h) {a : Addr} {v : Value} (F : Fld Z h a O n d v) {g : JFrame} (hg : g.method = m) {rest : List Value} (hs : g.stack = .ref a :: rest) (hd : decode c.code g.pc = .ok (.getfield index, 3)) :
    ∃ T', Stand p l e R s m args below meth c T' locs cells slots ∧ T'.heap = h ∧ ∀ target, Steps p.tables e below (T'.setTop { g with pc := g.pc + 3, stack := v :: rest }) target → Steps p.tables e below (T.setTop g) target := by
  obtain ⟨cell, cf, k, i, f, h1, h2, h3, h4, -, -, h7⟩ := F
  have hT : Z.Warmed39 T.vm := wtrans hZ X.warmed
  have w' := Cond.fieldRef_warmed39 hT w
  have hown' : (Z.setVm T.vm).vm.findClass own = some m.cls := by
    show T.vm.findClass own = some m.cls
    rw [X.warmed.alike.findClass]; exact hown
  obtain ⟨c', k', i', f', q1, q2⟩ := Cond.fieldRef_spec (s := Z.setVm T.vm) hown' w'
  obtain ⟨k2, e2, -⟩ := State.fieldFound?_setVm (s := Z) hT.alike h2
  have q3 := q1.symm.trans e2
  cases q3
  refine ⟨T, X, eT, fun target hr => ?_⟩
  subst hg
  jvm_step X.here [hx, hd, getfield.wp_ready (e := e) (s := T) (f := g) X.here.top q2 h3 hs (by rw [eT]; exact h1) h4 h7]
  exact hr
theorem d2_0 : decode prog_44_method_1_code 0 = .ok (.aload_n 0, 1) := by decide +kernel
theorem d2_1 : decode prog_44_method_1_code 1 = .ok (.invokespecial 1, 3) := by decide +kernel
theorem d2_4 : decode prog_44_method_1_code 4 = .ok (.aload_n 0, 1) := by decide +kernel
theorem d2_5 : decode prog_44_method_1_code 5 = .ok (.lload_n 1, 1) := by decide +kernel
theorem d2_6 : decode prog_44_method_1_code 6 = .ok (.putfield 7, 3) := by decide +kernel
theorem d2_9 : decode prog_44_method_1_code 9 = .ok (.aload_n 0, 1) := by decide +kernel
theorem d2_10 : decode prog_44_method_1_code 10 = .ok (.lload_n 3, 1) := by decide +kernel
theorem d2_11 : decode prog_44_method_1_code 11 = .ok (.putfield 13, 3) := by decide +kernel
theorem d2_14 : decode prog_44_method_1_code 14 = .ok (.aload_n 0, 1) := by decide +kernel
theorem d2_15 : decode prog_44_method_1_code 15 = .ok (.lload 5, 2) := by decide +kernel
theorem d2_17 : decode prog_44_method_1_code 17 = .ok (.putfield 16, 3) := by decide +kernel
theorem d2_20 : decode prog_44_method_1_code 20 = .ok (.aload_n 0, 1) := by decide +kernel
theorem d2_21 : decode prog_44_method_1_code 21 = .ok (.lload 7, 2) := by decide +kernel
theorem d2_23 : decode prog_44_method_1_code 23 = .ok (.putfield 19, 3) := by decide +kernel
theorem d2_26 : decode prog_44_method_1_code 26 = .ok (.return_, 1) := by decide +kernel
theorem pn_2 : plainName "com/example/stint/stint/store/Decision$Outcome" = true := by first | (simp [plainName, overriddenIn]; done) | decide +kernel
theorem ef_2 (m : MethodId) (x0 : Addr) (x1 : Int64) (x2 : Int64) (x3 : Int64) (x4 : Int64) : entryFrame m #[(.ref x0), (.long x1), (.long x2), (.long x3), (.long x4)] 9 = mkF m 0 #[.val (.ref x0), .val (.long x1), .second, .val (.long x2), .second, .val (.long x3), .second, .val (.long x4), .second] [] := by first | (simp [entryFrame, mkF, argsToLocals, Value.category]; done) | rfl
def Q2 (Z : State) (o0 : Addr) (q1 : Int64) (q2 : Int64) (q3 : Int64) (q4 : Int64) (h0 : Heap) (n0 : Nat) (v : Option Value) (h : Heap) (L : List Loc) : Prop := v = none ∧ Fr n0 L ∧ Keep h0 h [o0] ∧ Exa Z h o0 "com/example/stint/stint/store/Decision$Outcome" ∧ Fld Z h o0 "com/example/stint/stint/store/Decision$Outcome" "waitMillis" "J" (.long q2)
set_option maxRecDepth 65536 in
set_option maxHeartbeats 40000000 in
theorem rm2 (l : Launch) (Z : State) (a0 : Array Value) (hw : ∀ d ∈ tables_1, d.before a0 Z = true) (ws : List Jvm.Cond) (o0 : Addr) (q1 : Int64) (q2 : Int64) (q3 : Int64) (q4 : Int64) (h0 : Heap) (n0 : Nat) (Z0 : n0 ≤ h0.size) (I0 : Exa Z h0 o0 "com/example/stint/stint/store/Decision$Outcome") (I1 : Fld Z h0 o0 "com/example/stint/stint/store/Decision$Outcome" "limit" "J" (.long (0 : Int64))) (I2 : Fld Z h0 o0 "com/example/stint/stint/store/Decision$Outcome" "waitMillis" "J" (.long (0 : Int64))) (I3 : Fld Z h0 o0 "com/example/stint/stint/store/Decision$Outcome" "remaining" "J" (.long (0 : Int64))) (I4 : Fld Z h0 o0 "com/example/stint/stint/store/Decision$Outcome" "resetMillis" "J" (.long (0 : Int64))) (gw_o0 : n0 ≤ o0) :
    MetFree l (⟨"com/example/stint/stint/store/Decision$Outcome", "<init>", "(JJJJ)V"⟩ : MethodName) (head1 (Jvm.Cond.code (⟨"com/example/stint/stint/store/Decision$Outcome", "<init>", "(JJJJ)V"⟩ : MethodName) prog_44_method_1_code 9 none :: ws) ({ frames := 1, cells := 0, slots := 0, locals := 12 } : Room)) (fun a U => a = #[(.ref o0), (.long q1), (.long q2), (.long q3), (.long q4)] ∧ Z.Warmed39 U.vm ∧ U.heap = h0) (fun _ _ _ _ _ => True) (fun _ U o U' => ∃ v L, o = .returned v ∧ Q2 Z o0 q1 q2 q3 q4 h0 n0 v U'.heap L ∧ FrameEnd U o U' L ({ frames := 1, cells := 0, slots := 0, locals := 12 } : Room).cells ({ frames := 1, cells := 0, slots := 0, locals := 12 } : Room).slots) := by
  refine MetFree.of_bodySF (plainFor_of_name pn_2) hisR ?_
  intro p e s m args below meth c s₁ Bd hml0 hP hK
  obtain ⟨rfl, hZ, hh⟩ := hP
  have hx := Bd.exec
  have hby := Bd.bytes
  have hml : c.maxLocals = 9 := hml0
  have hown : s.vm.findClass "com/example/stint/stint/store/Decision$Outcome" = some m.cls := findClass_of_methodNamed Bd.named
  have hnm := (name_of_methodNamed Bd.named Bd.method).1
  have X0 : Stand p l e ({ frames := 1, cells := 0, slots := 0, locals := 12 } : Room) s m #[(.ref o0), (.long q1), (.long q2), (.long q3), (.long q4)] below meth c s₁ [] 0 0 := Stand.of_body Bd
  have e0 : s₁.heap = h0 := by rw [← hh, Bd.state]; rfl
  have N0 := Fr.nil n0
  have K0 : Keep h0 h0 [o0] := Keep.refl _ _
  have pre0 : ∀ t, Steps p.tables e below (s₁.setTop (mkF m 0 #[.val (.ref o0), .val (.long q1), .second, .val (.long q2), .second, .val (.long q3), .second, .val (.long q4), .second] [])) t → Steps p.tables e below (s₁.setTop (entryFrame m #[(.ref o0), (.long q1), (.long q2), (.long q3), (.long q4)] 9)) t := fun t k => castTop (ef_2 m o0 q1 q2 q3 q4) k
  have pre1 : ∀ t, Steps p.tables e below (s₁.setTop (mkF m 1 #[.val (.ref o0), .val (.long q1), .second, .val (.long q2), .second, .val (.long q3), .second, .val (.long q4), .second] [(.ref o0)])) t → Steps p.tables e below (s₁.setTop (entryFrame m #[(.ref o0), (.long q1), (.long q2), (.long q3), (.long q4)] 9)) t := fun t k => pre0 t (by
    show Steps p.tables e below (s₁.setTop (mkF m 0 #[.val (.ref o0), .val (.long q1), .second, .val (.long q2), .second, .val (.long q3), .second, .val (.long q4), .second] [])) _
    refine XS.aloadN X0.here hx rfl (hb hby d2_0) rfl rfl ?_
    exact k)
  obtain ⟨T2, X2, e2, st2⟩ := initO X0 hx hZ hown (hw _ (List.mem_of_getElem? (i := 13) rfl)) (hw _ (List.mem_of_getElem? (i := 14) rfl)) (hw _ (List.mem_of_getElem? (i := 15) rfl)) e0 (g := (mkF m 1 #[.val (.ref o0), .val (.long q1), .second, .val (.long q2), .second, .val (.long q3), .second, .val (.long q4), .second] [(.ref o0)])) rfl (by rw [hml]; rfl) rfl (hb hby d2_1) (by decide) (W := 0) (by show 2 * 0 + _ ≤ _; exact Nat.le_of_eq rfl) (by decide)
  have pre3 : ∀ t, Steps p.tables e below (T2.setTop (mkF m 4 #[.val (.ref o0), .val (.long q1), .second, .val (.long q2), .second, .val (.long q3), .second, .val (.long q4), .second] [])) t → Steps p.tables e below (s₁.setTop (entryFrame m #[(.ref o0), (.long q1), (.long q2), (.long q3), (.long q4)] 9)) t := fun t k => pre1 t (st2 _ k)
  have pre4 : ∀ t, Steps p.tables e below (T2.setTop (mkF m 6 #[.val (.ref o0), .val (.long q1), .second, .val (.long q2), .second, .val (.long q3), .second, .val (.long q4), .second] [(.long q1), (.ref o0)])) t → Steps p.tables e below (s₁.setTop (entryFrame m #[(.ref o0), (.long q1), (.long q2), (.long q3), (.long q4)] 9)) t := fun t k => pre3 t (by
    show Steps p.tables e below (T2.setTop (mkF m 4 #[.val (.ref o0), .val (.long q1), .second, .val (.long q2), .second, .val (.long q3), .second, .val (.long q4), .second] [])) _
    refine XS.aloadN X2.here hx rfl (hb hby d2_4) rfl rfl ?_
    show Steps p.tables e below (T2.setTop (mkF m 5 #[.val (.ref o0), .val (.long q1), .second, .val (.long q2), .second, .val (.long q3), .second, .val (.long q4), .second] [(.ref o0)])) _
    refine XS.lloadN X2.here hx rfl (hb hby d2_5) rfl ?_
    exact k)
  obtain ⟨T5, h5, X5, e5, W5, st5⟩ := putF X2 hx hZ hown (host := "") (Or.inl (hw _ (List.mem_of_getElem? (i := 16) rfl))) Via.refl e2 I1 I0 (Or.inr ⟨(hw _ (List.mem_of_getElem? (i := 17) rfl)), rfl, hnm⟩) (hw _ (List.mem_of_getElem? (i := 7) rfl)) (ty := .long) (by decide) rfl rfl (g := (mkF m 6 #[.val (.ref o0), .val (.long q1), .second, .val (.long q2), .second, .val (.long q3), .second, .val (.long q4), .second] [(.long q1), (.ref o0)])) rfl rfl (hb hby d2_6)
  have N5 := Fr.snoc X5 N0 gw_o0
  have K5 : Keep h0 h5 [o0] := K0.wr W5 (Or.inl (List.mem_of_getElem? (i := 0) rfl))
  have Z5 : n0 ≤ h5.size := Nat.le_trans Z0 (Keep.of_wr W5).1
  have x6 := I0.wr W5
  have x7 := I1.same W5
  have x8 := I2.other W5 (Or.inr (slot_ne (Or.inr (hw _ (List.mem_of_getElem? (i := 19) rfl))) (Or.inr (hw _ (List.mem_of_getElem? (i := 17) rfl))) (by decide) (t := .long) (t' := .long) (by decide) (by decide)))
  have x9 := I3.other W5 (Or.inr (slot_ne (Or.inr (hw _ (List.mem_of_getElem? (i := 21) rfl))) (Or.inr (hw _ (List.mem_of_getElem? (i := 17) rfl))) (by decide) (t := .long) (t' := .long) (by decide) (by decide)))
  have x10 := I4.other W5 (Or.inr (slot_ne (Or.inr (hw _ (List.mem_of_getElem? (i := 23) rfl))) (Or.inr (hw _ (List.mem_of_getElem? (i := 17) rfl))) (by decide) (t := .long) (t' := .long) (by decide) (by decide)))
  have pre11 : ∀ t, Steps p.tables e below (T5.setTop (mkF m 9 #[.val (.ref o0), .val (.long q1), .second, .val (.long q2), .second, .val (.long q3), .second, .val (.long q4), .second] [])) t → Steps p.tables e below (s₁.setTop (entryFrame m #[(.ref o0), (.long q1), (.long q2), (.long q3), (.long q4)] 9)) t := fun t k => pre4 t (st5 _ k)
  have pre12 : ∀ t, Steps p.tables e below (T5.setTop (mkF m 11 #[.val (.ref o0), .val (.long q1), .second, .val (.long q2), .second, .val (.long q3), .second, .val (.long q4), .second] [(.long q2), (.ref o0)])) t → Steps p.tables e below (s₁.setTop (entryFrame m #[(.ref o0), (.long q1), (.long q2), (.long q3), (.long q4)] 9)) t := fun t k => pre11 t (by
    show Steps p.tables e below (T5.setTop (mkF m 9 #[.val (.ref o0), .val (.long q1), .second, .val (.long q2), .second, .val (.long q3), .second, .val (.long q4), .second] [])) _
    refine XS.aloadN X5.here hx rfl (hb hby d2_9) rfl rfl ?_
    show Steps p.tables e below (T5.setTop (mkF m 10 #[.val (.ref o0), .val (.long q1), .second, .val (.long q2), .second, .val (.long q3), .second, .val (.long q4), .second] [(.ref o0)])) _
    refine XS.lloadN X5.here hx rfl (hb hby d2_10) rfl ?_
    exact k)
  obtain ⟨T13, h13, X13, e13, W13, st13⟩ := putF X5 hx hZ hown (host := "") (Or.inl (hw _ (List.mem_of_getElem? (i := 18) rfl))) Via.refl e5 x8 x6 (Or.inr ⟨(hw _ (List.mem_of_getElem? (i := 19) rfl)), rfl, hnm⟩) (hw _ (List.mem_of_getElem? (i := 7) rfl)) (ty := .long) (by decide) rfl rfl (g := (mkF m 11 #[.val (.ref o0), .val (.long q1), .second, .val (.long q2), .second, .val (.long q3), .second, .val (.long q4), .second] [(.long q2), (.ref o0)])) rfl rfl (hb hby d2_11)
  have N13 := Fr.snoc X13 N5 gw_o0
  have K13 : Keep h0 h13 [o0] := K5.wr W13 (Or.inl (List.mem_of_getElem? (i := 0) rfl))
  have Z13 : n0 ≤ h13.size := Nat.le_trans Z5 (Keep.of_wr W13).1
  have x14 := x6.wr W13
  have x15 := x7.other W13 (Or.inr (slot_ne (Or.inr (hw _ (List.mem_of_getElem? (i := 17) rfl))) (Or.inr (hw _ (List.mem_of_getElem? (i := 19) rfl))) (by decide) (t := .long) (t' := .long) (by decide) (by decide)))
  have x16 := x8.same W13
  have x17 := x9.other W13 (Or.inr (slot_ne (Or.inr (hw _ (List.mem_of_getElem? (i := 21) rfl))) (Or.inr (hw _ (List.mem_of_getElem? (i := 19) rfl))) (by decide) (t := .long) (t' := .long) (by decide) (by decide)))
  have x18 := x10.other W13 (Or.inr (slot_ne (Or.inr (hw _ (List.mem_of_getElem? (i := 23) rfl))) (Or.inr (hw _ (List.mem_of_getElem? (i := 19) rfl))) (by decide) (t := .long) (t' := .long) (by decide) (by decide)))
  have pre19 : ∀ t, Steps p.tables e below (T13.setTop (mkF m 14 #[.val (.ref o0), .val (.long q1), .second, .val (.long q2), .second, .val (.long q3), .second, .val (.long q4), .second] [])) t → Steps p.tables e below (s₁.setTop (entryFrame m #[(.ref o0), (.long q1), (.long q2), (.long q3), (.long q4)] 9)) t := fun t k => pre12 t (st13 _ k)
  have pre20 : ∀ t, Steps p.tables e below (T13.setTop (mkF m 17 #[.val (.ref o0), .val (.long q1), .second, .val (.long q2), .second, .val (.long q3), .second, .val (.long q4), .second] [(.long q3), (.ref o0)])) t → Steps p.tables e below (s₁.setTop (entryFrame m #[(.ref o0), (.long q1), (.long q2), (.long q3), (.long q4)] 9)) t := fun t k => pre19 t (by
    show Steps p.tables e below (T13.setTop (mkF m 14 #[.val (.ref o0), .val (.long q1), .second, .val (.long q2), .second, .val (.long q3), .second, .val (.long q4), .second] [])) _
    refine XS.aloadN X13.here hx rfl (hb hby d2_14) rfl rfl ?_
    show Steps p.tables e below (T13.setTop (mkF m 15 #[.val (.ref o0), .val (.long q1), .second, .val (.long q2), .second, .val (.long q3), .second, .val (.long q4), .second] [(.ref o0)])) _
    refine XS.lload X13.here hx rfl (hb hby d2_15) rfl ?_
    exact k)
  obtain ⟨T21, h21, X21, e21, W21, st21⟩ := putF X13 hx hZ hown (host := "") (Or.inl (hw _ (List.mem_of_getElem? (i := 20) rfl))) Via.refl e13 x17 x14 (Or.inr ⟨(hw _ (List.mem_of_getElem? (i := 21) rfl)), rfl, hnm⟩) (hw _ (List.mem_of_getElem? (i := 7) rfl)) (ty := .long) (by decide) rfl rfl (g := (mkF m 17 #[.val (.ref o0), .val (.long q1), .second, .val (.long q2), .second, .val (.long q3), .second, .val (.long q4), .second] [(.long q3), (.ref o0)])) rfl rfl (hb hby d2_17)
  have N21 := Fr.snoc X21 N13 gw_o0
  have K21 : Keep h0 h21 [o0] := K13.wr W21 (Or.inl (List.mem_of_getElem? (i := 0) rfl))
  have Z21 : n0 ≤ h21.size := Nat.le_trans Z13 (Keep.of_wr W21).1
  have x22 := x14.wr W21
  have x23 := x15.other W21 (Or.inr (slot_ne (Or.inr (hw _ (List.mem_of_getElem? (i := 17) rfl))) (Or.inr (hw _ (List.mem_of_getElem? (i := 21) rfl))) (by decide) (t := .long) (t' := .long) (by decide) (by decide)))
  have x24 := x16.other W21 (Or.inr (slot_ne (Or.inr (hw _ (List.mem_of_getElem? (i := 19) rfl))) (Or.inr (hw _ (List.mem_of_getElem? (i := 21) rfl))) (by decide) (t := .long) (t' := .long) (by decide) (by decide)))
  have x25 := x17.same W21
  have x26 := x18.other W21 (Or.inr (slot_ne (Or.inr (hw _ (List.mem_of_getElem? (i := 23) rfl))) (Or.inr (hw _ (List.mem_of_getElem? (i := 21) rfl))) (by decide) (t := .long) (t' := .long) (by decide) (by decide)))
  have pre27 : ∀ t, Steps p.tables e below (T21.setTop (mkF m 20 #[.val (.ref o0), .val (.long q1), .second, .val (.long q2), .second, .val (.long q3), .second, .val (.long q4), .second] [])) t → Steps p.tables e below (s₁.setTop (entryFrame m #[(.ref o0), (.long q1), (.long q2), (.long q3), (.long q4)] 9)) t := fun t k => pre20 t (st21 _ k)
  have pre28 : ∀ t, Steps p.tables e below (T21.setTop (mkF m 23 #[.val (.ref o0), .val (.long q1), .second, .val (.long q2), .second, .val (.long q3), .second, .val (.long q4), .second] [(.long q4), (.ref o0)])) t → Steps p.tables e below (s₁.setTop (entryFrame m #[(.ref o0), (.long q1), (.long q2), (.long q3), (.long q4)] 9)) t := fun t k => pre27 t (by
    show Steps p.tables e below (T21.setTop (mkF m 20 #[.val (.ref o0), .val (.long q1), .second, .val (.long q2), .second, .val (.long q3), .second, .val (.long q4), .second] [])) _
    refine XS.aloadN X21.here hx rfl (hb hby d2_20) rfl rfl ?_
    show Steps p.tables e below (T21.setTop (mkF m 21 #[.val (.ref o0), .val (.long q1), .second, .val (.long q2), .second, .val (.long q3), .second, .val (.long q4), .second] [(.ref o0)])) _
    refine XS.lload X21.here hx rfl (hb hby d2_21) rfl ?_
    exact k)
  obtain ⟨T29, h29, X29, e29, W29, st29⟩ := putF X21 hx hZ hown (host := "") (Or.inl (hw _ (List.mem_of_getElem? (i := 22) rfl))) Via.refl e21 x26 x22 (Or.inr ⟨(hw _ (List.mem_of_getElem? (i := 23) rfl)), rfl, hnm⟩) (hw _ (List.mem_of_getElem? (i := 7) rfl)) (ty := .long) (by decide) rfl rfl (g := (mkF m 23 #[.val (.ref o0), .val (.long q1), .second, .val (.long q2), .second, .val (.long q3), .second, .val (.long q4), .second] [(.long q4), (.ref o0)])) rfl rfl (hb hby d2_23)
  have N29 := Fr.snoc X29 N21 gw_o0
  have K29 : Keep h0 h29 [o0] := K21.wr W29 (Or.inl (List.mem_of_getElem? (i := 0) rfl))
  have Z29 : n0 ≤ h29.size := Nat.le_trans Z21 (Keep.of_wr W29).1
  have x30 := x22.wr W29
  have x31 := x23.other W29 (Or.inr (slot_ne (Or.inr (hw _ (List.mem_of_getElem? (i := 17) rfl))) (Or.inr (hw _ (List.mem_of_getElem? (i := 23) rfl))) (by decide) (t := .long) (t' := .long) (by decide) (by decide)))
  have x32 := x24.other W29 (Or.inr (slot_ne (Or.inr (hw _ (List.mem_of_getElem? (i := 19) rfl))) (Or.inr (hw _ (List.mem_of_getElem? (i := 23) rfl))) (by decide) (t := .long) (t' := .long) (by decide) (by decide)))
  have x33 := x25.other W29 (Or.inr (slot_ne (Or.inr (hw _ (List.mem_of_getElem? (i := 21) rfl))) (Or.inr (hw _ (List.mem_of_getElem? (i := 23) rfl))) (by decide) (t := .long) (t' := .long) (by decide) (by decide)))
  have x34 := x26.same W29
  have pre35 : ∀ t, Steps p.tables e below (T29.setTop (mkF m 26 #[.val (.ref o0), .val (.long q1), .second, .val (.long q2), .second, .val (.long q3), .second, .val (.long q4), .second] [])) t → Steps p.tables e below (s₁.setTop (entryFrame m #[(.ref o0), (.long q1), (.long q2), (.long q3), (.long q4)] 9)) t := fun t k => pre28 t (st29 _ k)
  obtain ⟨fs, hr, hrun, hended, hW, hsame⟩ := X29.leave (v := none) (fun _ => rfl)
  refine ⟨_, _, ?_, hrun, hended, _, _, rfl, ?_, ⟨_, rfl⟩, hW, hsame.mono (by decide) (by decide)⟩
  · exact pre35 _ (X29.returnOut hx Bd.returns (hb hby d2_26) hr)
  · show Q2 Z o0 q1 q2 q3 q4 h0 n0 _ T29.heap _
    rw [e29]
    exact ⟨rfl, N29, K29, x30, x32⟩
theorem d5_0 : decode jdk_29_method_66_code 0 = .ok (.lload_n 0, 1) := by decide +kernel
theorem d5_1 : decode jdk_29_method_66_code 1 = .ok (.lload_n 2, 1) := by decide +kernel
theorem d5_2 : decode jdk_29_method_66_code 2 = .ok (.lcmp, 1) := by decide +kernel
theorem d5_3 : decode jdk_29_method_66_code 3 = .ok (.ifCond .lt 7, 3) := by decide +kernel
theorem d5_6 : decode jdk_29_method_66_code 6 = .ok (.lload_n 0, 1) := by decide +kernel
theorem d5_7 : decode jdk_29_method_66_code 7 = .ok (.goto 4, 3) := by decide +kernel
theorem d5_10 : decode jdk_29_method_66_code 10 = .ok (.lload_n 2, 1) := by decide +kernel
theorem d5_11 : decode jdk_29_method_66_code 11 = .ok (.lreturn, 1) := by decide +kernel
theorem ef_5 (m : MethodId) (x0 : Int64) (x1 : Int64) : entryFrame m #[(.long x0), (.long x1)] 4 = mkF m 0 #[.val (.long x0), .second, .val (.long x1), .second] [] := by first | (simp [entryFrame, mkF, argsToLocals, Value.category]; done) | rfl
def f5 (q0 : Int64) (q1 : Int64) : Int64 := (if q0 < q1 then q1 else q0)
set_option maxRecDepth 65536 in
set_option maxHeartbeats 40000000 in
theorem rm5 (l : Launch) (Z : State) (a0 : Array Value) (hw : ∀ d ∈ tables_1, d.before a0 Z = true) (ws : List Jvm.Cond) (q0 : Int64) (q1 : Int64) (h0 : Heap) (n0 : Nat) (Z0 : n0 ≤ h0.size) :
    MetFree l (⟨"java/lang/Math", "max", "(JJ)J"⟩ : MethodName) (head1 (Jvm.Cond.code (⟨"java/lang/Math", "max", "(JJ)J"⟩ : MethodName) jdk_29_method_66_code 4 (some .long) :: ws) ({ frames := 0, cells := 0, slots := 0, locals := 0 } : Room)) (fun a U => a = #[(.long q0), (.long q1)] ∧ Z.Warmed39 U.vm ∧ U.heap = h0) (fun _ _ _ _ _ => True) (fun _ U o U' => ∃ v L, o = .returned v ∧ QP (some (.long (f5 q0 q1))) h0 n0 v U'.heap L ∧ FrameEnd U o U' L ({ frames := 0, cells := 0, slots := 0, locals := 0 } : Room).cells ({ frames := 0, cells := 0, slots := 0, locals := 0 } : Room).slots) := by
  refine MetFree.of_bodySF (Jvm.Free.JP.mathPlain rfl (by decide +kernel)) hisR ?_
  intro p e s m args below meth c s₁ Bd hml0 hP hK
  obtain ⟨rfl, hZ, hh⟩ := hP
  have hx := Bd.exec
  have hby := Bd.bytes
  have hml : c.maxLocals = 4 := hml0
  have hown : s.vm.findClass "java/lang/Math" = some m.cls := findClass_of_methodNamed Bd.named
  have hnm := (name_of_methodNamed Bd.named Bd.method).1
  have X0 : Stand p l e ({ frames := 0, cells := 0, slots := 0, locals := 0 } : Room) s m #[(.long q0), (.long q1)] below meth c s₁ [] 0 0 := Stand.of_body Bd
  have e0 : s₁.heap = h0 := by rw [← hh, Bd.state]; rfl
  have N0 := Fr.nil n0
  have K0 : Keep h0 h0 [] := Keep.refl _ _
  have pre0 : ∀ t, Steps p.tables e below (s₁.setTop (mkF m 0 #[.val (.long q0), .second, .val (.long q1), .second] [])) t → Steps p.tables e below (s₁.setTop (entryFrame m #[(.long q0), (.long q1)] 4)) t := fun t k => castTop (ef_5 m q0 q1) k
  have pre2 : ∀ t, Steps p.tables e below (s₁.setTop (mkF m 3 #[.val (.long q0), .second, .val (.long q1), .second] [(.int (lcmpW q0 q1))])) t → Steps p.tables e below (s₁.setTop (entryFrame m #[(.long q0), (.long q1)] 4)) t := fun t k => pre0 t (by
    show Steps p.tables e below (s₁.setTop (mkF m 0 #[.val (.long q0), .second, .val (.long q1), .second] [])) _
    refine XS.lloadN X0.here hx rfl (hb hby d5_0) rfl ?_
    show Steps p.tables e below (s₁.setTop (mkF m 1 #[.val (.long q0), .second, .val (.long q1), .second] [(.long q0)])) _
    refine XS.lloadN X0.here hx rfl (hb hby d5_1) rfl ?_
    show Steps p.tables e below (s₁.setTop (mkF m 2 #[.val (.long q0), .second, .val (.long q1), .second] [(.long q1), (.long q0)])) _
    refine XS.lcmp X0.here hx rfl (hb hby d5_2) rfl ?_
    exact k)
  by_cases hc3_1 : q0 < q1
  · have pre3 : ∀ t, Steps p.tables e below (s₁.setTop (mkF m 11 #[.val (.long q0), .second, .val (.long q1), .second] [(.long q1)])) t → Steps p.tables e below (s₁.setTop (entryFrame m #[(.long q0), (.long q1)] 4)) t := fun t k => pre2 t (by
      show Steps p.tables e below (s₁.setTop (mkF m 3 #[.val (.long q0), .second, .val (.long q1), .second] [(.int (lcmpW q0 q1))])) _
      refine XS.ifYes X0.here hx rfl (pc0 := 3) (pc' := 10) rfl (hb hby d5_3) rfl ((if0 _ _).trans (tlt ((lw_lt _ _).mpr hc3_1)).1) (by decide) (by decide) ?_
      show Steps p.tables e below (s₁.setTop (mkF m 10 #[.val (.long q0), .second, .val (.long q1), .second] [])) _
      refine XS.lloadN X0.here hx rfl (hb hby d5_10) rfl ?_
      exact k)
    obtain ⟨fs, hr, hrun, hended, hW, hsame⟩ := X0.leave (v := some (.long q1)) (fun h => by rw [Bd.returns] at h; cases h)
    refine ⟨_, _, ?_, hrun, hended, _, _, rfl, ?_, ⟨_, rfl⟩, hW, hsame.mono (by decide) (by decide)⟩
    · exact pre3 _ (X0.lreturnOut hx Bd.returns (hb hby d5_11) hr)
    · exact ⟨by simp only [f5, if_pos hc3_1], N0, e0⟩
  · have pre4 : ∀ t, Steps p.tables e below (s₁.setTop (mkF m 11 #[.val (.long q0), .second, .val (.long q1), .second] [(.long q0)])) t → Steps p.tables e below (s₁.setTop (entryFrame m #[(.long q0), (.long q1)] 4)) t := fun t k => pre2 t (by
      show Steps p.tables e below (s₁.setTop (mkF m 3 #[.val (.long q0), .second, .val (.long q1), .second] [(.int (lcmpW q0 q1))])) _
      refine XS.ifNo X0.here hx rfl (hb hby d5_3) rfl ((if0 _ _).trans (flt (fun q => hc3_1 ((lw_lt _ _).mp q))).1) ?_
      show Steps p.tables e below (s₁.setTop (mkF m 6 #[.val (.long q0), .second, .val (.long q1), .second] [])) _
      refine XS.lloadN X0.here hx rfl (hb hby d5_6) rfl ?_
      show Steps p.tables e below (s₁.setTop (mkF m 7 #[.val (.long q0), .second, .val (.long q1), .second] [(.long q0)])) _
      refine XS.goto X0.here hx rfl (pc0 := 7) (pc' := 11) rfl (hb hby d5_7) (by decide) (by decide) ?_
      exact k)
    obtain ⟨fs, hr, hrun, hended, hW, hsame⟩ := X0.leave (v := some (.long q0)) (fun h => by rw [Bd.returns] at h; cases h)
    refine ⟨_, _, ?_, hrun, hended, _, _, rfl, ?_, ⟨_, rfl⟩, hW, hsame.mono (by decide) (by decide)⟩
    · exact pre4 _ (X0.lreturnOut hx Bd.returns (hb hby d5_11) hr)
    · exact ⟨by simp only [f5, if_neg hc3_1], N0, e0⟩
theorem d6_0 : decode prog_43_method_4_code 0 = .ok (.aload_n 0, 1) := by decide +kernel
theorem d6_1 : decode prog_43_method_4_code 1 = .ok (.getfield 32, 3) := by decide +kernel
theorem d6_4 : decode prog_43_method_4_code 4 = .ok (.lconst 0, 1) := by decide +kernel
theorem d6_5 : decode prog_43_method_4_code 5 = .ok (.lcmp, 1) := by decide +kernel
theorem d6_6 : decode prog_43_method_4_code 6 = .ok (.ifCond .ne 7, 3) := by decide +kernel
theorem d6_9 : decode prog_43_method_4_code 9 = .ok (.iconst 1, 1) := by decide +kernel
theorem d6_10 : decode prog_43_method_4_code 10 = .ok (.goto 4, 3) := by decide +kernel
theorem d6_13 : decode prog_43_method_4_code 13 = .ok (.iconst 0, 1) := by decide +kernel
theorem d6_14 : decode prog_43_method_4_code 14 = .ok (.ireturn, 1) := by decide +kernel
theorem pn_6 : plainName "com/example/stint/stint/store/Decision" = true := by first | (simp [plainName, overriddenIn]; done) | decide +kernel
theorem ef_6 (m : MethodId) (x0 : Addr) : entryFrame m #[(.ref x0)] 1 = mkF m 0 #[.val (.ref x0)] [] := by first | (simp [entryFrame, mkF, argsToLocals, Value.category]; done) | rfl
def f6 (w0 : Int64) : Int32 := (if w0 = (0 : Int64) then (1 : Int32) else (0 : Int32))
set_option maxRecDepth 65536 in
set_option maxHeartbeats 40000000 in
theorem rm6 (l : Launch) (Z : State) (a0 : Array Value) (hw : ∀ d ∈ tables_1, d.before a0 Z = true) (ws : List Jvm.Cond) (o0 : Addr) (w0 : Int64) (h0 : Heap) (n0 : Nat) (Z0 : n0 ≤ h0.size) (I0 : Fld Z h0 o0 "com/example/stint/stint/store/Decision" "waitMillis" "J" (.long w0)) :
    MetFree l (⟨"com/example/stint/stint/store/Decision", "admitted", "()Z"⟩ : MethodName) (head1 (Jvm.Cond.code (⟨"com/example/stint/stint/store/Decision", "admitted", "()Z"⟩ : MethodName) prog_43_method_4_code 1 (some .boolean) :: ws) ({ frames := 0, cells := 0, slots := 0, locals := 0 } : Room)) (fun a U => a = #[(.ref o0)] ∧ Z.Warmed39 U.vm ∧ U.heap = h0) (fun _ _ _ _ _ => True) (fun _ U o U' => ∃ v L, o = .returned v ∧ QP (some (.int (f6 w0))) h0 n0 v U'.heap L ∧ FrameEnd U o U' L ({ frames := 0, cells := 0, slots := 0, locals := 0 } : Room).cells ({ frames := 0, cells := 0, slots := 0, locals := 0 } : Room).slots) := by
  refine MetFree.of_bodySF (plainFor_of_name pn_6) hisR ?_
  intro p e s m args below meth c s₁ Bd hml0 hP hK
  obtain ⟨rfl, hZ, hh⟩ := hP
  have hx := Bd.exec
  have hby := Bd.bytes
  have hml : c.maxLocals = 1 := hml0
  have hown : s.vm.findClass "com/example/stint/stint/store/Decision" = some m.cls := findClass_of_methodNamed Bd.named
  have hnm := (name_of_methodNamed Bd.named Bd.method).1
  have X0 : Stand p l e ({ frames := 0, cells := 0, slots := 0, locals := 0 } : Room) s m #[(.ref o0)] below meth c s₁ [] 0 0 := Stand.of_body Bd
  have e0 : s₁.heap = h0 := by rw [← hh, Bd.state]; rfl
  have N0 := Fr.nil n0
  have K0 : Keep h0 h0 [] := Keep.refl _ _
  have pre0 : ∀ t, Steps p.tables e below (s₁.setTop (mkF m 0 #[.val (.ref o0)] [])) t → Steps p.tables e below (s₁.setTop (entryFrame m #[(.ref o0)] 1)) t := fun t k => castTop (ef_6 m o0) k
  have pre2 : ∀ t, Steps p.tables e below (s₁.setTop (mkF m 1 #[.val (.ref o0)] [(.ref o0)])) t → Steps p.tables e below (s₁.setTop (entryFrame m #[(.ref o0)] 1)) t := fun t k => pre0 t (by
    show Steps p.tables e below (s₁.setTop (mkF m 0 #[.val (.ref o0)] [])) _
    refine XS.aloadN X0.here hx rfl (hb hby d6_0) rfl rfl ?_
    exact k)
  obtain ⟨T3, X3, e3, st3⟩ := getF X0 hx hZ hown (host := "") (Or.inl (hw _ (List.mem_of_getElem? (i := 40) rfl))) Via.refl e0 I0 (g := (mkF m 1 #[.val (.ref o0)] [(.ref o0)])) rfl rfl (hb hby d6_1)
  have pre4 : ∀ t, Steps p.tables e below (T3.setTop (mkF m 4 #[.val (.ref o0)] [(.long w0)])) t → Steps p.tables e below (s₁.setTop (entryFrame m #[(.ref o0)] 1)) t := fun t k => pre2 t (st3 _ k)
  have pre5 : ∀ t, Steps p.tables e below (T3.setTop (mkF m 6 #[.val (.ref o0)] [(.int (lcmpW w0 (0 : Int64)))])) t → Steps p.tables e below (s₁.setTop (entryFrame m #[(.ref o0)] 1)) t := fun t k => pre4 t (by
    show Steps p.tables e below (T3.setTop (mkF m 4 #[.val (.ref o0)] [(.long w0)])) _
    refine XS.lconst X3.here hx rfl (hb hby d6_4) ?_
    show Steps p.tables e below (T3.setTop (mkF m 5 #[.val (.ref o0)] [(.long (0 : Int64)), (.long w0)])) _
    refine XS.lcmp X3.here hx rfl (hb hby d6_5) rfl ?_
    exact k)
  by_cases hc6_1 : w0 = (0 : Int64)
  · have pre6 : ∀ t, Steps p.tables e below (T3.setTop (mkF m 14 #[.val (.ref o0)] [(.int (1 : Int32))])) t → Steps p.tables e below (s₁.setTop (entryFrame m #[(.ref o0)] 1)) t := fun t k => pre5 t (by
      show Steps p.tables e below (T3.setTop (mkF m 6 #[.val (.ref o0)] [(.int (lcmpW w0 (0 : Int64)))])) _
      refine XS.ifNo X3.here hx rfl (hb hby d6_6) rfl ((if0 _ _).trans (teq ((lw_eq _ _).mpr hc6_1)).2) ?_
      show Steps p.tables e below (T3.setTop (mkF m 9 #[.val (.ref o0)] [])) _
      refine XS.iconst X3.here hx rfl (hb hby d6_9) ?_
      show Steps p.tables e below (T3.setTop (mkF m 10 #[.val (.ref o0)] [(.int (1 : Int32))])) _
      refine XS.goto X3.here hx rfl (pc0 := 10) (pc' := 14) rfl (hb hby d6_10) (by decide) (by decide) ?_
      exact k)
    obtain ⟨fs, hr, hrun, hended, hW, hsame⟩ := X3.leave (v := some (.int (1 : Int32))) (fun h => by rw [Bd.returns] at h; cases h)
    refine ⟨_, _, ?_, hrun, hended, _, _, rfl, ?_, ⟨_, rfl⟩, hW, hsame.mono (by decide) (by decide)⟩
    · exact pre6 _ (retN X3 hx (t := .boolean) Bd.returns (by simp) (hb hby d6_14) hr)
    · exact ⟨by simp only [f6, if_pos hc6_1], N0, e3⟩
  · have pre7 : ∀ t, Steps p.tables e below (T3.setTop (mkF m 14 #[.val (.ref o0)] [(.int (0 : Int32))])) t → Steps p.tables e below (s₁.setTop (entryFrame m #[(.ref o0)] 1)) t := fun t k => pre5 t (by
      show Steps p.tables e below (T3.setTop (mkF m 6 #[.val (.ref o0)] [(.int (lcmpW w0 (0 : Int64)))])) _
      refine XS.ifYes X3.here hx rfl (pc0 := 6) (pc' := 13) rfl (hb hby d6_6) rfl ((if0 _ _).trans (feq (fun q => hc6_1 ((lw_eq _ _).mp q))).2) (by decide) (by decide) ?_
      show Steps p.tables e below (T3.setTop (mkF m 13 #[.val (.ref o0)] [])) _
      refine XS.iconst X3.here hx rfl (hb hby d6_13) ?_
      exact k)
    obtain ⟨fs, hr, hrun, hended, hW, hsame⟩ := X3.leave (v := some (.int (0 : Int32))) (fun h => by rw [Bd.returns] at h; cases h)
    refine ⟨_, _, ?_, hrun, hended, _, _, rfl, ?_, ⟨_, rfl⟩, hW, hsame.mono (by decide) (by decide)⟩
    · exact pre7 _ (retN X3 hx (t := .boolean) Bd.returns (by simp) (hb hby d6_14) hr)
    · exact ⟨by simp only [f6, if_neg hc6_1], N0, e3⟩
theorem d7_0 : decode prog_43_method_5_code 0 = .ok (.aload_n 0, 1) := by decide +kernel
theorem d7_1 : decode prog_43_method_5_code 1 = .ok (.getfield 16, 3) := by decide +kernel
theorem d7_4 : decode prog_43_method_5_code 4 = .ok (.ireturn, 1) := by decide +kernel
theorem pn_7 : plainName "com/example/stint/stint/store/Decision" = true := by first | (simp [plainName, overriddenIn]; done) | decide +kernel
theorem ef_7 (m : MethodId) (x0 : Addr) : entryFrame m #[(.ref x0)] 1 = mkF m 0 #[.val (.ref x0)] [] := by first | (simp [entryFrame, mkF, argsToLocals, Value.category]; done) | rfl
def f7 (w0 : Int32) : Int32 := (nar .boolean w0)
set_option maxRecDepth 65536 in
set_option maxHeartbeats 40000000 in
theorem rm7 (l : Launch) (Z : State) (a0 : Array Value) (hw : ∀ d ∈ tables_1, d.before a0 Z = true) (ws : List Jvm.Cond) (o0 : Addr) (w0 : Int32) (h0 : Heap) (n0 : Nat) (Z0 : n0 ≤ h0.size) (I0 : Fld Z h0 o0 "com/example/stint/stint/store/Decision" "unavailable" "Z" (.int w0)) :
    MetFree l (⟨"com/example/stint/stint/store/Decision", "unavailable", "()Z"⟩ : MethodName) (head1 (Jvm.Cond.code (⟨"com/example/stint/stint/store/Decision", "unavailable", "()Z"⟩ : MethodName) prog_43_method_5_code 1 (some .boolean) :: ws) ({ frames := 0, cells := 0, slots := 0, locals := 0 } : Room)) (fun a U => a = #[(.ref o0)] ∧ Z.Warmed39 U.vm ∧ U.heap = h0) (fun _ _ _ _ _ => True) (fun _ U o U' => ∃ v L, o = .returned v ∧ QP (some (.int (f7 w0))) h0 n0 v U'.heap L ∧ FrameEnd U o U' L ({ frames := 0, cells := 0, slots := 0, locals := 0 } : Room).cells ({ frames := 0, cells := 0, slots := 0, locals := 0 } : Room).slots) := by
  refine MetFree.of_bodySF (plainFor_of_name pn_7) hisR ?_
  intro p e s m args below meth c s₁ Bd hml0 hP hK
  obtain ⟨rfl, hZ, hh⟩ := hP
  have hx := Bd.exec
  have hby := Bd.bytes
  have hml : c.maxLocals = 1 := hml0
  have hown : s.vm.findClass "com/example/stint/stint/store/Decision" = some m.cls := findClass_of_methodNamed Bd.named
  have hnm := (name_of_methodNamed Bd.named Bd.method).1
  have X0 : Stand p l e ({ frames := 0, cells := 0, slots := 0, locals := 0 } : Room) s m #[(.ref o0)] below meth c s₁ [] 0 0 := Stand.of_body Bd
  have e0 : s₁.heap = h0 := by rw [← hh, Bd.state]; rfl
  have N0 := Fr.nil n0
  have K0 : Keep h0 h0 [] := Keep.refl _ _
  have pre0 : ∀ t, Steps p.tables e below (s₁.setTop (mkF m 0 #[.val (.ref o0)] [])) t → Steps p.tables e below (s₁.setTop (entryFrame m #[(.ref o0)] 1)) t := fun t k => castTop (ef_7 m o0) k
  have pre1 : ∀ t, Steps p.tables e below (s₁.setTop (mkF m 1 #[.val (.ref o0)] [(.ref o0)])) t → Steps p.tables e below (s₁.setTop (entryFrame m #[(.ref o0)] 1)) t := fun t k => pre0 t (by
    show Steps p.tables e below (s₁.setTop (mkF m 0 #[.val (.ref o0)] [])) _
    refine XS.aloadN X0.here hx rfl (hb hby d7_0) rfl rfl ?_
    exact k)
  obtain ⟨T2, X2, e2, st2⟩ := getF X0 hx hZ hown (host := "") (Or.inl (hw _ (List.mem_of_getElem? (i := 33) rfl))) Via.refl e0 I0 (g := (mkF m 1 #[.val (.ref o0)] [(.ref o0)])) rfl rfl (hb hby d7_1)
  have pre3 : ∀ t, Steps p.tables e below (T2.setTop (mkF m 4 #[.val (.ref o0)] [(.int w0)])) t → Steps p.tables e below (s₁.setTop (entryFrame m #[(.ref o0)] 1)) t := fun t k => pre1 t (st2 _ k)
  obtain ⟨fs, hr, hrun, hended, hW, hsame⟩ := X2.leave (v := some (.int (nar .boolean w0))) (fun h => by rw [Bd.returns] at h; cases h)
  refine ⟨_, _, ?_, hrun, hended, _, _, rfl, ?_, ⟨_, rfl⟩, hW, hsame.mono (by decide) (by decide)⟩
  · exact pre3 _ (retN X2 hx (t := .boolean) Bd.returns (by simp) (hb hby d7_4) hr)
  · exact ⟨by simp only [f7], N0, e2⟩
theorem d8_0 : decode prog_43_method_7_code 0 = .ok (.aload_n 0, 1) := by decide +kernel
theorem d8_1 : decode prog_43_method_7_code 1 = .ok (.getfield 32, 3) := by decide +kernel
theorem d8_4 : decode prog_43_method_7_code 4 = .ok (.lreturn, 1) := by decide +kernel
theorem pn_8 : plainName "com/example/stint/stint/store/Decision" = true := by first | (simp [plainName, overriddenIn]; done) | decide +kernel
theorem ef_8 (m : MethodId) (x0 : Addr) : entryFrame m #[(.ref x0)] 1 = mkF m 0 #[.val (.ref x0)] [] := by first | (simp [entryFrame, mkF, argsToLocals, Value.category]; done) | rfl
def f8 (w0 : Int64) : Int64 := w0
set_option maxRecDepth 65536 in
set_option maxHeartbeats 40000000 in
theorem rm8 (l : Launch) (Z : State) (a0 : Array Value) (hw : ∀ d ∈ tables_1, d.before a0 Z = true) (ws : List Jvm.Cond) (o0 : Addr) (w0 : Int64) (h0 : Heap) (n0 : Nat) (Z0 : n0 ≤ h0.size) (I0 : Fld Z h0 o0 "com/example/stint/stint/store/Decision" "waitMillis" "J" (.long w0)) :
    MetFree l (⟨"com/example/stint/stint/store/Decision", "waitMillis", "()J"⟩ : MethodName) (head1 (Jvm.Cond.code (⟨"com/example/stint/stint/store/Decision", "waitMillis", "()J"⟩ : MethodName) prog_43_method_7_code 1 (some .long) :: ws) ({ frames := 0, cells := 0, slots := 0, locals := 0 } : Room)) (fun a U => a = #[(.ref o0)] ∧ Z.Warmed39 U.vm ∧ U.heap = h0) (fun _ _ _ _ _ => True) (fun _ U o U' => ∃ v L, o = .returned v ∧ QP (some (.long (f8 w0))) h0 n0 v U'.heap L ∧ FrameEnd U o U' L ({ frames := 0, cells := 0, slots := 0, locals := 0 } : Room).cells ({ frames := 0, cells := 0, slots := 0, locals := 0 } : Room).slots) := by
  refine MetFree.of_bodySF (plainFor_of_name pn_8) hisR ?_
  intro p e s m args below meth c s₁ Bd hml0 hP hK
  obtain ⟨rfl, hZ, hh⟩ := hP
  have hx := Bd.exec
  have hby := Bd.bytes
  have hml : c.maxLocals = 1 := hml0
  have hown : s.vm.findClass "com/example/stint/stint/store/Decision" = some m.cls := findClass_of_methodNamed Bd.named
  have hnm := (name_of_methodNamed Bd.named Bd.method).1
  have X0 : Stand p l e ({ frames := 0, cells := 0, slots := 0, locals := 0 } : Room) s m #[(.ref o0)] below meth c s₁ [] 0 0 := Stand.of_body Bd
  have e0 : s₁.heap = h0 := by rw [← hh, Bd.state]; rfl
  have N0 := Fr.nil n0
  have K0 : Keep h0 h0 [] := Keep.refl _ _
  have pre0 : ∀ t, Steps p.tables e below (s₁.setTop (mkF m 0 #[.val (.ref o0)] [])) t → Steps p.tables e below (s₁.setTop (entryFrame m #[(.ref o0)] 1)) t := fun t k => castTop (ef_8 m o0) k
  have pre1 : ∀ t, Steps p.tables e below (s₁.setTop (mkF m 1 #[.val (.ref o0)] [(.ref o0)])) t → Steps p.tables e below (s₁.setTop (entryFrame m #[(.ref o0)] 1)) t := fun t k => pre0 t (by
    show Steps p.tables e below (s₁.setTop (mkF m 0 #[.val (.ref o0)] [])) _
    refine XS.aloadN X0.here hx rfl (hb hby d8_0) rfl rfl ?_
    exact k)
  obtain ⟨T2, X2, e2, st2⟩ := getF X0 hx hZ hown (host := "") (Or.inl (hw _ (List.mem_of_getElem? (i := 40) rfl))) Via.refl e0 I0 (g := (mkF m 1 #[.val (.ref o0)] [(.ref o0)])) rfl rfl (hb hby d8_1)
  have pre3 : ∀ t, Steps p.tables e below (T2.setTop (mkF m 4 #[.val (.ref o0)] [(.long w0)])) t → Steps p.tables e below (s₁.setTop (entryFrame m #[(.ref o0)] 1)) t := fun t k => pre1 t (st2 _ k)
  obtain ⟨fs, hr, hrun, hended, hW, hsame⟩ := X2.leave (v := some (.long w0)) (fun h => by rw [Bd.returns] at h; cases h)
  refine ⟨_, _, ?_, hrun, hended, _, _, rfl, ?_, ⟨_, rfl⟩, hW, hsame.mono (by decide) (by decide)⟩
  · exact pre3 _ (X2.lreturnOut hx Bd.returns (hb hby d8_4) hr)
  · exact ⟨by simp only [f8], N0, e2⟩
theorem d12_0 : decode jdk_29_method_49_code 0 = .ok (.lload_n 0, 1) := by decide +kernel
theorem d12_1 : decode jdk_29_method_49_code 1 = .ok (.lload_n 2, 1) := by decide +kernel
theorem d12_2 : decode jdk_29_method_49_code 2 = .ok (.ldiv, 1) := by decide +kernel
theorem d12_3 : decode jdk_29_method_49_code 3 = .ok (.lstore 4, 2) := by decide +kernel
theorem d12_5 : decode jdk_29_method_49_code 5 = .ok (.lload_n 0, 1) := by decide +kernel
theorem d12_6 : decode jdk_29_method_49_code 6 = .ok (.lload_n 2, 1) := by decide +kernel
theorem d12_7 : decode jdk_29_method_49_code 7 = .ok (.lxor, 1) := by decide +kernel
theorem d12_8 : decode jdk_29_method_49_code 8 = .ok (.lconst 0, 1) := by decide +kernel
theorem d12_9 : decode jdk_29_method_49_code 9 = .ok (.lcmp, 1) := by decide +kernel
theorem d12_10 : decode jdk_29_method_49_code 10 = .ok (.ifCond .ge 17, 3) := by decide +kernel
theorem d12_13 : decode jdk_29_method_49_code 13 = .ok (.lload 4, 2) := by decide +kernel
theorem d12_15 : decode jdk_29_method_49_code 15 = .ok (.lload_n 2, 1) := by decide +kernel
theorem d12_16 : decode jdk_29_method_49_code 16 = .ok (.lmul, 1) := by decide +kernel
theorem d12_17 : decode jdk_29_method_49_code 17 = .ok (.lload_n 0, 1) := by decide +kernel
theorem d12_18 : decode jdk_29_method_49_code 18 = .ok (.lcmp, 1) := by decide +kernel
theorem d12_19 : decode jdk_29_method_49_code 19 = .ok (.ifCond .eq 8, 3) := by decide +kernel
theorem d12_22 : decode jdk_29_method_49_code 22 = .ok (.lload 4, 2) := by decide +kernel
theorem d12_24 : decode jdk_29_method_49_code 24 = .ok (.lconst 1, 1) := by decide +kernel
theorem d12_25 : decode jdk_29_method_49_code 25 = .ok (.lsub, 1) := by decide +kernel
theorem d12_26 : decode jdk_29_method_49_code 26 = .ok (.lreturn, 1) := by decide +kernel
theorem d12_27 : decode jdk_29_method_49_code 27 = .ok (.lload 4, 2) := by decide +kernel
theorem d12_29 : decode jdk_29_method_49_code 29 = .ok (.lreturn, 1) := by decide +kernel
theorem ef_12 (m : MethodId) (x0 : Int64) (x1 : Int64) : entryFrame m #[(.long x0), (.long x1)] 6 = mkF m 0 #[.val (.long x0), .second, .val (.long x1), .second, .unset, .unset] [] := by first | (simp [entryFrame, mkF, argsToLocals, Value.category]; done) | rfl
def f12 (q0 : Int64) (q1 : Int64) : Int64 := (if (q0 ^^^ q1) < (0 : Int64) then (if ((q0 / q1) * q1) = q0 then (q0 / q1) else ((q0 / q1) - (1 : Int64))) else (q0 / q1))
set_option maxRecDepth 65536 in
set_option maxHeartbeats 40000000 in
theorem rm12 (l : Launch) (Z : State) (a0 : Array Value) (hw : ∀ d ∈ tables_1, d.before a0 Z = true) (ws : List Jvm.Cond) (q0 : Int64) (q1 : Int64) (h0 : Heap) (n0 : Nat) (Z0 : n0 ≤ h0.size) (hd : q1 ≠ 0) :
    MetFree l (⟨"java/lang/Math", "floorDiv", "(JJ)J"⟩ : MethodName) (head1 (Jvm.Cond.code (⟨"java/lang/Math", "floorDiv", "(JJ)J"⟩ : MethodName) jdk_29_method_49_code 6 (some .long) :: ws) ({ frames := 0, cells := 0, slots := 0, locals := 0 } : Room)) (fun a U => a = #[(.long q0), (.long q1)] ∧ Z.Warmed39 U.vm ∧ U.heap = h0) (fun _ _ _ _ _ => True) (fun _ U o U' => ∃ v L, o = .returned v ∧ QP (some (.long (f12 q0 q1))) h0 n0 v U'.heap L ∧ FrameEnd U o U' L ({ frames := 0, cells := 0, slots := 0, locals := 0 } : Room).cells ({ frames := 0, cells := 0, slots := 0, locals := 0 } : Room).slots) := by
  refine MetFree.of_bodySF (Jvm.Free.JP.mathPlain rfl (by decide +kernel)) hisR ?_
  intro p e s m args below meth c s₁ Bd hml0 hP hK
  obtain ⟨rfl, hZ, hh⟩ := hP
  have hx := Bd.exec
  have hby := Bd.bytes
  have hml : c.maxLocals = 6 := hml0
  have hown : s.vm.findClass "java/lang/Math" = some m.cls := findClass_of_methodNamed Bd.named
  have hnm := (name_of_methodNamed Bd.named Bd.method).1
  have X0 : Stand p l e ({ frames := 0, cells := 0, slots := 0, locals := 0 } : Room) s m #[(.long q0), (.long q1)] below meth c s₁ [] 0 0 := Stand.of_body Bd
  have e0 : s₁.heap = h0 := by rw [← hh, Bd.state]; rfl
  have N0 := Fr.nil n0
  have K0 : Keep h0 h0 [] := Keep.refl _ _
  have pre0 : ∀ t, Steps p.tables e below (s₁.setTop (mkF m 0 #[.val (.long q0), .second, .val (.long q1), .second, .unset, .unset] [])) t → Steps p.tables e below (s₁.setTop (entryFrame m #[(.long q0), (.long q1)] 6)) t := fun t k => castTop (ef_12 m q0 q1) k
  have pre3 : ∀ t, Steps p.tables e below (s₁.setTop (mkF m 10 #[.val (.long q0), .second, .val (.long q1), .second, .val (.long (q0 / q1)), .second] [(.int (lcmpW (q0 ^^^ q1) (0 : Int64)))])) t → Steps p.tables e below (s₁.setTop (entryFrame m #[(.long q0), (.long q1)] 6)) t := fun t k => pre0 t (by
    show Steps p.tables e below (s₁.setTop (mkF m 0 #[.val (.long q0), .second, .val (.long q1), .second, .unset, .unset] [])) _
    refine XS.lloadN X0.here hx rfl (hb hby d12_0) rfl ?_
    show Steps p.tables e below (s₁.setTop (mkF m 1 #[.val (.long q0), .second, .val (.long q1), .second, .unset, .unset] [(.long q0)])) _
    refine XS.lloadN X0.here hx rfl (hb hby d12_1) rfl ?_
    show Steps p.tables e below (s₁.setTop (mkF m 2 #[.val (.long q0), .second, .val (.long q1), .second, .unset, .unset] [(.long q1), (.long q0)])) _
    refine XS.ldiv X0.here hx rfl (hb hby d12_2) rfl hd ?_
    show Steps p.tables e below (s₁.setTop (mkF m 3 #[.val (.long q0), .second, .val (.long q1), .second, .unset, .unset] [(.long (q0 / q1))])) _
    refine XS.lstore X0.here hx rfl (hb hby d12_3) rfl (l' := #[.val (.long q0), .second, .val (.long q1), .second, .val (.long (q0 / q1)), .second]) rfl ?_
    show Steps p.tables e below (s₁.setTop (mkF m 5 #[.val (.long q0), .second, .val (.long q1), .second, .val (.long (q0 / q1)), .second] [])) _
    refine XS.lloadN X0.here hx rfl (hb hby d12_5) rfl ?_
    show Steps p.tables e below (s₁.setTop (mkF m 6 #[.val (.long q0), .second, .val (.long q1), .second, .val (.long (q0 / q1)), .second] [(.long q0)])) _
    refine XS.lloadN X0.here hx rfl (hb hby d12_6) rfl ?_
    show Steps p.tables e below (s₁.setTop (mkF m 7 #[.val (.long q0), .second, .val (.long q1), .second, .val (.long (q0 / q1)), .second] [(.long q1), (.long q0)])) _
    refine XS.lxor X0.here hx rfl (hb hby d12_7) rfl ?_
    show Steps p.tables e below (s₁.setTop (mkF m 8 #[.val (.long q0), .second, .val (.long q1), .second, .val (.long (q0 / q1)), .second] [(.long (q0 ^^^ q1))])) _
    refine XS.lconst X0.here hx rfl (hb hby d12_8) ?_
    show Steps p.tables e below (s₁.setTop (mkF m 9 #[.val (.long q0), .second, .val (.long q1), .second, .val (.long (q0 / q1)), .second] [(.long (0 : Int64)), (.long (q0 ^^^ q1))])) _
    refine XS.lcmp X0.here hx rfl (hb hby d12_9) rfl ?_
    exact k)
  by_cases hc10_1 : (q0 ^^^ q1) < (0 : Int64)
  · have pre4 : ∀ t, Steps p.tables e below (s₁.setTop (mkF m 19 #[.val (.long q0), .second, .val (.long q1), .second, .val (.long (q0 / q1)), .second] [(.int (lcmpW ((q0 / q1) * q1) q0))])) t → Steps p.tables e below (s₁.setTop (entryFrame m #[(.long q0), (.long q1)] 6)) t := fun t k => pre3 t (by
      show Steps p.tables e below (s₁.setTop (mkF m 10 #[.val (.long q0), .second, .val (.long q1), .second, .val (.long (q0 / q1)), .second] [(.int (lcmpW (q0 ^^^ q1) (0 : Int64)))])) _
      refine XS.ifNo X0.here hx rfl (hb hby d12_10) rfl ((if0 _ _).trans (tlt ((lw_lt _ _).mpr hc10_1)).2.1) ?_
      show Steps p.tables e below (s₁.setTop (mkF m 13 #[.val (.long q0), .second, .val (.long q1), .second, .val (.long (q0 / q1)), .second] [])) _
      refine XS.lload X0.here hx rfl (hb hby d12_13) rfl ?_
      show Steps p.tables e below (s₁.setTop (mkF m 15 #[.val (.long q0), .second, .val (.long q1), .second, .val (.long (q0 / q1)), .second] [(.long (q0 / q1))])) _
      refine XS.lloadN X0.here hx rfl (hb hby d12_15) rfl ?_
      show Steps p.tables e below (s₁.setTop (mkF m 16 #[.val (.long q0), .second, .val (.long q1), .second, .val (.long (q0 / q1)), .second] [(.long q1), (.long (q0 / q1))])) _
      refine XS.lmul X0.here hx rfl (hb hby d12_16) rfl ?_
      show Steps p.tables e below (s₁.setTop (mkF m 17 #[.val (.long q0), .second, .val (.long q1), .second, .val (.long (q0 / q1)), .second] [(.long ((q0 / q1) * q1))])) _
      refine XS.lloadN X0.here hx rfl (hb hby d12_17) rfl ?_
      show Steps p.tables e below (s₁.setTop (mkF m 18 #[.val (.long q0), .second, .val (.long q1), .second, .val (.long (q0 / q1)), .second] [(.long q0), (.long ((q0 / q1) * q1))])) _
      refine XS.lcmp X0.here hx rfl (hb hby d12_18) rfl ?_
      exact k)
    by_cases hc19_2 : ((q0 / q1) * q1) = q0
    · have pre5 : ∀ t, Steps p.tables e below (s₁.setTop (mkF m 29 #[.val (.long q0), .second, .val (.long q1), .second, .val (.long (q0 / q1)), .second] [(.long (q0 / q1))])) t → Steps p.tables e below (s₁.setTop (entryFrame m #[(.long q0), (.long q1)] 6)) t := fun t k => pre4 t (by
        show Steps p.tables e below (s₁.setTop (mkF m 19 #[.val (.long q0), .second, .val (.long q1), .second, .val (.long (q0 / q1)), .second] [(.int (lcmpW ((q0 / q1) * q1) q0))])) _
        refine XS.ifYes X0.here hx rfl (pc0 := 19) (pc' := 27) rfl (hb hby d12_19) rfl ((if0 _ _).trans (teq ((lw_eq _ _).mpr hc19_2)).1) (by decide) (by decide) ?_
        show Steps p.tables e below (s₁.setTop (mkF m 27 #[.val (.long q0), .second, .val (.long q1), .second, .val (.long (q0 / q1)), .second] [])) _
        refine XS.lload X0.here hx rfl (hb hby d12_27) rfl ?_
        exact k)
      obtain ⟨fs, hr, hrun, hended, hW, hsame⟩ := X0.leave (v := some (.long (q0 / q1))) (fun h => by rw [Bd.returns] at h; cases h)
      refine ⟨_, _, ?_, hrun, hended, _, _, rfl, ?_, ⟨_, rfl⟩, hW, hsame.mono (by decide) (by decide)⟩
      · exact pre5 _ (X0.lreturnOut hx Bd.returns (hb hby d12_29) hr)
      · exact ⟨by simp only [f12, if_pos hc10_1, if_pos hc19_2], N0, e0⟩
    · have pre6 : ∀ t, Steps p.tables e below (s₁.setTop (mkF m 26 #[.val (.long q0), .second, .val (.long q1), .second, .val (.long (q0 / q1)), .second] [(.long ((q0 / q1) - (1 : Int64)))])) t → Steps p.tables e below (s₁.setTop (entryFrame m #[(.long q0), (.long q1)] 6)) t := fun t k => pre4 t (by
        show Steps p.tables e below (s₁.setTop (mkF m 19 #[.val (.long q0), .second, .val (.long q1), .second, .val (.long (q0 / q1)), .second] [(.int (lcmpW ((q0 / q1) * q1) q0))])) _
        refine XS.ifNo X0.here hx rfl (hb hby d12_19) rfl ((if0 _ _).trans (feq (fun q => hc19_2 ((lw_eq _ _).mp q))).1) ?_
        show Steps p.tables e below (s₁.setTop (mkF m 22 #[.val (.long q0), .second, .val (.long q1), .second, .val (.long (q0 / q1)), .second] [])) _
        refine XS.lload X0.here hx rfl (hb hby d12_22) rfl ?_
        show Steps p.tables e below (s₁.setTop (mkF m 24 #[.val (.long q0), .second, .val (.long q1), .second, .val (.long (q0 / q1)), .second] [(.long (q0 / q1))])) _
        refine XS.lconst X0.here hx rfl (hb hby d12_24) ?_
        show Steps p.tables e below (s₁.setTop (mkF m 25 #[.val (.long q0), .second, .val (.long q1), .second, .val (.long (q0 / q1)), .second] [(.long (1 : Int64)), (.long (q0 / q1))])) _
        refine XS.lsub X0.here hx rfl (hb hby d12_25) rfl ?_
        exact k)
      obtain ⟨fs, hr, hrun, hended, hW, hsame⟩ := X0.leave (v := some (.long ((q0 / q1) - (1 : Int64)))) (fun h => by rw [Bd.returns] at h; cases h)
      refine ⟨_, _, ?_, hrun, hended, _, _, rfl, ?_, ⟨_, rfl⟩, hW, hsame.mono (by decide) (by decide)⟩
      · exact pre6 _ (X0.lreturnOut hx Bd.returns (hb hby d12_26) hr)
      · exact ⟨by simp only [f12, if_pos hc10_1, if_neg hc19_2], N0, e0⟩
  · have pre7 : ∀ t, Steps p.tables e below (s₁.setTop (mkF m 29 #[.val (.long q0), .second, .val (.long q1), .second, .val (.long (q0 / q1)), .second] [(.long (q0 / q1))])) t → Steps p.tables e below (s₁.setTop (entryFrame m #[(.long q0), (.long q1)] 6)) t := fun t k => pre3 t (by
      show Steps p.tables e below (s₁.setTop (mkF m 10 #[.val (.long q0), .second, .val (.long q1), .second, .val (.long (q0 / q1)), .second] [(.int (lcmpW (q0 ^^^ q1) (0 : Int64)))])) _
      refine XS.ifYes X0.here hx rfl (pc0 := 10) (pc' := 27) rfl (hb hby d12_10) rfl ((if0 _ _).trans (flt (fun q => hc10_1 ((lw_lt _ _).mp q))).2.1) (by decide) (by decide) ?_
      show Steps p.tables e below (s₁.setTop (mkF m 27 #[.val (.long q0), .second, .val (.long q1), .second, .val (.long (q0 / q1)), .second] [])) _
      refine XS.lload X0.here hx rfl (hb hby d12_27) rfl ?_
      exact k)
    obtain ⟨fs, hr, hrun, hended, hW, hsame⟩ := X0.leave (v := some (.long (q0 / q1))) (fun h => by rw [Bd.returns] at h; cases h)
    refine ⟨_, _, ?_, hrun, hended, _, _, rfl, ?_, ⟨_, rfl⟩, hW, hsame.mono (by decide) (by decide)⟩
    · exact pre7 _ (X0.lreturnOut hx Bd.returns (hb hby d12_29) hr)
    · exact ⟨by simp only [f12, if_neg hc10_1], N0, e0⟩
theorem d11_0 : decode jdk_29_method_48_code 0 = .ok (.lload_n 0, 1) := by decide +kernel
theorem d11_1 : decode jdk_29_method_48_code 1 = .ok (.iload_n 2, 1) := by decide +kernel
theorem d11_2 : decode jdk_29_method_48_code 2 = .ok (.i2l, 1) := by decide +kernel
theorem d11_3 : decode jdk_29_method_48_code 3 = .ok (.invokestatic 143, 3) := by decide +kernel
theorem d11_6 : decode jdk_29_method_48_code 6 = .ok (.lreturn, 1) := by decide +kernel
theorem pd__JJ_J : parseMethodDescriptor "(JJ)J" = some ⟨[.long, .long], some .long⟩ := by decide +kernel
theorem ef_11 (m : MethodId) (x0 : Int64) (x1 : Int32) : entryFrame m #[(.long x0), (.int x1)] 3 = mkF m 0 #[.val (.long x0), .second, .val (.int x1)] [] := by first | (simp [entryFrame, mkF, argsToLocals, Value.category]; done) | rfl
def f11 (q0 : Int64) (p1 : Int32) : Int64 := (f12 q0 (p1.toInt64))
set_option maxRecDepth 65536 in
set_option maxHeartbeats 40000000 in
theorem rm11 (l : Launch) (Z : State) (a0 : Array Value) (hw : ∀ d ∈ tables_1, d.before a0 Z = true) (ws : List Jvm.Cond) (q0 : Int64) (p1 : Int32) (h0 : Heap) (n0 : Nat) (Z0 : n0 ≤ h0.size) (hd : (p1.toInt64) ≠ 0) :
    MetFree l (⟨"java/lang/Math", "floorDiv", "(JI)J"⟩ : MethodName) (head1 (Jvm.Cond.code (⟨"java/lang/Math", "floorDiv", "(JI)J"⟩ : MethodName) jdk_29_method_48_code 3 (some .long) :: ws) ({ frames := 1, cells := 0, slots := 0, locals := 17 } : Room)) (fun a U => a = #[(.long q0), (.int p1)] ∧ Z.Warmed39 U.vm ∧ U.heap = h0) (fun _ _ _ _ _ => True) (fun _ U o U' => ∃ v L, o = .returned v ∧ QP (some (.long (f11 q0 p1))) h0 n0 v U'.heap L ∧ FrameEnd U o U' L ({ frames := 1, cells := 0, slots := 0, locals := 17 } : Room).cells ({ frames := 1, cells := 0, slots := 0, locals := 17 } : Room).slots) := by
  refine MetFree.of_bodySF (Jvm.Free.JP.mathPlain rfl (by decide +kernel)) hisR ?_
  intro p e s m args below meth c s₁ Bd hml0 hP hK
  obtain ⟨rfl, hZ, hh⟩ := hP
  have hx := Bd.exec
  have hby := Bd.bytes
  have hml : c.maxLocals = 3 := hml0
  have hown : s.vm.findClass "java/lang/Math" = some m.cls := findClass_of_methodNamed Bd.named
  have hnm := (name_of_methodNamed Bd.named Bd.method).1
  have X0 : Stand p l e ({ frames := 1, cells := 0, slots := 0, locals := 17 } : Room) s m #[(.long q0), (.int p1)] below meth c s₁ [] 0 0 := Stand.of_body Bd
  have e0 : s₁.heap = h0 := by rw [← hh, Bd.state]; rfl
  have N0 := Fr.nil n0
  have K0 : Keep h0 h0 [] := Keep.refl _ _
  have pre0 : ∀ t, Steps p.tables e below (s₁.setTop (mkF m 0 #[.val (.long q0), .second, .val (.int p1)] [])) t → Steps p.tables e below (s₁.setTop (entryFrame m #[(.long q0), (.int p1)] 3)) t := fun t k => castTop (ef_11 m q0 p1) k
  have pre1 : ∀ t, Steps p.tables e below (s₁.setTop (mkF m 3 #[.val (.long q0), .second, .val (.int p1)] [(.long (p1.toInt64)), (.long q0)])) t → Steps p.tables e below (s₁.setTop (entryFrame m #[(.long q0), (.int p1)] 3)) t := fun t k => pre0 t (by
    show Steps p.tables e below (s₁.setTop (mkF m 0 #[.val (.long q0), .second, .val (.int p1)] [])) _
    refine XS.lloadN X0.here hx rfl (hb hby d11_0) rfl ?_
    show Steps p.tables e below (s₁.setTop (mkF m 1 #[.val (.long q0), .second, .val (.int p1)] [(.long q0)])) _
    refine XS.iloadN X0.here hx rfl (hb hby d11_1) rfl ?_
    show Steps p.tables e below (s₁.setTop (mkF m 2 #[.val (.long q0), .second, .val (.int p1)] [(.int p1), (.long q0)])) _
    refine XS.i2l X0.here hx rfl (hb hby d11_2) rfl ?_
    exact k)
  obtain ⟨_, _, ⟨T2, L2, k2, n2⟩, -, X2, ⟨Lc2, hQ2, l2, y2, z2⟩, st2⟩ := Jvm.LawKit.callS X0 hx (y := (⟨"java/lang/Math", "floorDiv", "(JJ)J"⟩ : MethodName)) hown (mvT hZ (hw _ (List.mem_of_getElem? (i := 72) rfl))) (mvT hZ (hw _ (List.mem_of_getElem? (i := 73) rfl))) (mvT hZ (hw _ (List.mem_of_getElem? (i := 38) rfl))) (mvT hZ (hw _ (List.mem_of_getElem? (i := 74) rfl))) (by decide) (backOf (W := 0) (rm12 l Z a0 hw [] q0 (p1.toInt64) h0 n0 Z0 hd) hZ (hw _ (List.mem_of_getElem? (i := 74) rfl)) (hw _ (List.mem_of_getElem? (i := 38) rfl)) (by decide) (by decide)) (g := (mkF m 3 #[.val (.long q0), .second, .val (.int p1)] [(.long (p1.toInt64)), (.long q0)])) rfl (by rw [hml]; rfl) (argsL := [(.long q0), (.long (p1.toInt64))]) (rest := []) (lenOf pd__JJ_J rfl) rfl (by show 2 * 0 + _ ≤ _; exact Nat.le_of_eq rfl) (hb hby d11_3) (fun _ _ => ⟨rfl, e0, (by decide : 0 + 0 ≤ _), (by decide : 0 + 0 ≤ _)⟩)
  dsimp only [Pt.U, Pt.locs, Pt.cells, Pt.slots] at X2 l2 y2 z2 st2 hQ2
  subst l2 y2 z2
  obtain ⟨rfl, Nq2, e2⟩ := hQ2
  have N2 := Fr.app N0 Nq2
  have pre3 : ∀ t, Steps p.tables e below (T2.setTop (mkF m 6 #[.val (.long q0), .second, .val (.int p1)] [(.long (f12 q0 (p1.toInt64)))])) t → Steps p.tables e below (s₁.setTop (entryFrame m #[(.long q0), (.int p1)] 3)) t := fun t k => pre1 t (st2 _ k)
  obtain ⟨fs, hr, hrun, hended, hW, hsame⟩ := X2.leave (v := some (.long (f12 q0 (p1.toInt64)))) (fun h => by rw [Bd.returns] at h; cases h)
  refine ⟨_, _, ?_, hrun, hended, _, _, rfl, ?_, ⟨_, rfl⟩, hW, hsame.mono (by decide) (by decide)⟩
  · exact pre3 _ (X2.lreturnOut hx Bd.returns (hb hby d11_6) hr)
  · exact ⟨by simp only [f11], N2, e2⟩
theorem d10_0 : decode prog_43_method_14_code 0 = .ok (.lload_n 0, 1) := by decide +kernel
theorem d10_1 : decode prog_43_method_14_code 1 = .ok (.lneg, 1) := by decide +kernel
theorem d10_2 : decode prog_43_method_14_code 2 = .ok (.sipush 1000, 3) := by decide +kernel
theorem d10_5 : decode prog_43_method_14_code 5 = .ok (.invokestatic 72, 3) := by decide +kernel
theorem d10_8 : decode prog_43_method_14_code 8 = .ok (.lneg, 1) := by decide +kernel
theorem d10_9 : decode prog_43_method_14_code 9 = .ok (.lreturn, 1) := by decide +kernel
theorem pn_10 : plainName "com/example/stint/stint/store/Decision" = true := by first | (simp [plainName, overriddenIn]; done) | decide +kernel
theorem pd__JI_J : parseMethodDescriptor "(JI)J" = some ⟨[.long, .int], some .long⟩ := by decide +kernel
theorem ef_10 (m : MethodId) (x0 : Int64) : entryFrame m #[(.long x0)] 2 = mkF m 0 #[.val (.long x0), .second] [] := by first | (simp [entryFrame, mkF, argsToLocals, Value.category]; done) | rfl
def f10 (q0 : Int64) : Int64 := (-(f11 (-q0) (1000 : Int32)))
set_option maxRecDepth 65536 in
set_option maxHeartbeats 40000000 in
theorem rm10 (l : Launch) (Z : State) (a0 : Array Value) (hw : ∀ d ∈ tables_1, d.before a0 Z = true) (ws : List Jvm.Cond) (q0 : Int64) (h0 : Heap) (n0 : Nat) (Z0 : n0 ≤ h0.size) :
    MetFree l (⟨"com/example/stint/stint/store/Decision", "secondsRoundedUp", "(J)J"⟩ : MethodName) (head1 (Jvm.Cond.code (⟨"com/example/stint/stint/store/Decision", "secondsRoundedUp", "(J)J"⟩ : MethodName) prog_43_method_14_code 2 (some .long) :: ws) ({ frames := 2, cells := 0, slots := 0, locals := 31 } : Room)) (fun a U => a = #[(.long q0)] ∧ Z.Warmed39 U.vm ∧ U.heap = h0) (fun _ _ _ _ _ => True) (fun _ U o U' => ∃ v L, o = .returned v ∧ QP (some (.long (f10 q0))) h0 n0 v U'.heap L ∧ FrameEnd U o U' L ({ frames := 2, cells := 0, slots := 0, locals := 31 } : Room).cells ({ frames := 2, cells := 0, slots := 0, locals := 31 } : Room).slots) := by
  refine MetFree.of_bodySF (plainFor_of_name pn_10) hisR ?_
  intro p e s m args below meth c s₁ Bd hml0 hP hK
  obtain ⟨rfl, hZ, hh⟩ := hP
  have hx := Bd.exec
  have hby := Bd.bytes
  have hml : c.maxLocals = 2 := hml0
  have hown : s.vm.findClass "com/example/stint/stint/store/Decision" = some m.cls := findClass_of_methodNamed Bd.named
  have hnm := (name_of_methodNamed Bd.named Bd.method).1
  have X0 : Stand p l e ({ frames := 2, cells := 0, slots := 0, locals := 31 } : Room) s m #[(.long q0)] below meth c s₁ [] 0 0 := Stand.of_body Bd
  have e0 : s₁.heap = h0 := by rw [← hh, Bd.state]; rfl
  have N0 := Fr.nil n0
  have K0 : Keep h0 h0 [] := Keep.refl _ _
  have pre0 : ∀ t, Steps p.tables e below (s₁.setTop (mkF m 0 #[.val (.long q0), .second] [])) t → Steps p.tables e below (s₁.setTop (entryFrame m #[(.long q0)] 2)) t := fun t k => castTop (ef_10 m q0) k
  have pre1 : ∀ t, Steps p.tables e below (s₁.setTop (mkF m 5 #[.val (.long q0), .second] [(.int (1000 : Int32)), (.long (-q0))])) t → Steps p.tables e below (s₁.setTop (entryFrame m #[(.long q0)] 2)) t := fun t k => pre0 t (by
    show Steps p.tables e below (s₁.setTop (mkF m 0 #[.val (.long q0), .second] [])) _
    refine XS.lloadN X0.here hx rfl (hb hby d10_0) rfl ?_
    show Steps p.tables e below (s₁.setTop (mkF m 1 #[.val (.long q0), .second] [(.long q0)])) _
    refine XS.lneg X0.here hx rfl (hb hby d10_1) rfl ?_
    show Steps p.tables e below (s₁.setTop (mkF m 2 #[.val (.long q0), .second] [(.long (-q0))])) _
    refine XS.sipush X0.here hx rfl (hb hby d10_2) ?_
    exact k)
  obtain ⟨_, _, ⟨T2, L2, k2, n2⟩, -, X2, ⟨Lc2, hQ2, l2, y2, z2⟩, st2⟩ := Jvm.LawKit.callS X0 hx (y := (⟨"java/lang/Math", "floorDiv", "(JI)J"⟩ : MethodName)) hown (mvT hZ (hw _ (List.mem_of_getElem? (i := 69) rfl))) (mvT hZ (hw _ (List.mem_of_getElem? (i := 70) rfl))) (mvT hZ (hw _ (List.mem_of_getElem? (i := 38) rfl))) (mvT hZ (hw _ (List.mem_of_getElem? (i := 71) rfl))) (by decide) (backOf (W := 0) (rm11 l Z a0 hw [] (-q0) (1000 : Int32) h0 n0 Z0 (by decide)) hZ (hw _ (List.mem_of_getElem? (i := 71) rfl)) (hw _ (List.mem_of_getElem? (i := 38) rfl)) (by decide) (by decide)) (g := (mkF m 5 #[.val (.long q0), .second] [(.int (1000 : Int32)), (.long (-q0))])) rfl (by rw [hml]; rfl) (argsL := [(.long (-q0)), (.int (1000 : Int32))]) (rest := []) (lenOf pd__JI_J rfl) rfl (by show 2 * 0 + _ ≤ _; exact Nat.le_of_eq rfl) (hb hby d10_5) (fun _ _ => ⟨rfl, e0, (by decide : 0 + 0 ≤ _), (by decide : 0 + 0 ≤ _)⟩)
  dsimp only [Pt.U, Pt.locs, Pt.cells, Pt.slots] at X2 l2 y2 z2 st2 hQ2
  subst l2 y2 z2
  obtain ⟨rfl, Nq2, e2⟩ := hQ2
  have N2 := Fr.app N0 Nq2
  have pre3 : ∀ t, Steps p.tables e below (T2.setTop (mkF m 8 #[.val (.long q0), .second] [(.long (f11 (-q0) (1000 : Int32)))])) t → Steps p.tables e below (s₁.setTop (entryFrame m #[(.long q0)] 2)) t := fun t k => pre1 t (st2 _ k)
  have pre4 : ∀ t, Steps p.tables e below (T2.setTop (mkF m 9 #[.val (.long q0), .second] [(.long (-(f11 (-q0) (1000 : Int32))))])) t → Steps p.tables e below (s₁.setTop (entryFrame m #[(.long q0)] 2)) t := fun t k => pre3 t (by
    show Steps p.tables e below (T2.setTop (mkF m 8 #[.val (.long q0), .second] [(.long (f11 (-q0) (1000 : Int32)))])) _
    refine XS.lneg X2.here hx rfl (hb hby d10_8) rfl ?_
    exact k)
  obtain ⟨fs, hr, hrun, hended, hW, hsame⟩ := X2.leave (v := some (.long (-(f11 (-q0) (1000 : Int32))))) (fun h => by rw [Bd.returns] at h; cases h)
  refine ⟨_, _, ?_, hrun, hended, _, _, rfl, ?_, ⟨_, rfl⟩, hW, hsame.mono (by decide) (by decide)⟩
  · exact pre4 _ (X2.lreturnOut hx Bd.returns (hb hby d10_9) hr)
  · exact ⟨by simp only [f10], N2, e2⟩
theorem d9_0 : decode prog_43_method_8_code 0 = .ok (.aload_n 0, 1) := by decide +kernel
theorem d9_1 : decode prog_43_method_8_code 1 = .ok (.getfield 32, 3) := by decide +kernel
theorem d9_4 : decode prog_43_method_8_code 4 = .ok (.invokestatic 49, 3) := by decide +kernel
theorem d9_7 : decode prog_43_method_8_code 7 = .ok (.lreturn, 1) := by decide +kernel
theorem pn_9 : plainName "com/example/stint/stint/store/Decision" = true := by first | (simp [plainName, overriddenIn]; done) | decide +kernel
theorem pd__J_J : parseMethodDescriptor "(J)J" = some ⟨[.long], some .long⟩ := by decide +kernel
theorem ef_9 (m : MethodId) (x0 : Addr) : entryFrame m #[(.ref x0)] 1 = mkF m 0 #[.val (.ref x0)] [] := by first | (simp [entryFrame, mkF, argsToLocals, Value.category]; done) | rfl
def f9 (w0 : Int64) : Int64 := (f10 w0)
set_option maxRecDepth 65536 in
set_option maxHeartbeats 40000000 in
theorem rm9 (l : Launch) (Z : State) (a0 : Array Value) (hw : ∀ d ∈ tables_1, d.before a0 Z = true) (ws : List Jvm.Cond) (o0 : Addr) (w0 : Int64) (h0 : Heap) (n0 : Nat) (Z0 : n0 ≤ h0.size) (I0 : Fld Z h0 o0 "com/example/stint/stint/store/Decision" "waitMillis" "J" (.long w0)) :
    MetFree l (⟨"com/example/stint/stint/store/Decision", "retryAfterSeconds", "()J"⟩ : MethodName) (head1 (Jvm.Cond.code (⟨"com/example/stint/stint/store/Decision", "retryAfterSeconds", "()J"⟩ : MethodName) prog_43_method_8_code 1 (some .long) :: ws) ({ frames := 3, cells := 0, slots := 0, locals := 44 } : Room)) (fun a U => a = #[(.ref o0)] ∧ Z.Warmed39 U.vm ∧ U.heap = h0) (fun _ _ _ _ _ => True) (fun _ U o U' => ∃ v L, o = .returned v ∧ QP (some (.long (f9 w0))) h0 n0 v U'.heap L ∧ FrameEnd U o U' L ({ frames := 3, cells := 0, slots := 0, locals := 44 } : Room).cells ({ frames := 3, cells := 0, slots := 0, locals := 44 } : Room).slots) := by
  refine MetFree.of_bodySF (plainFor_of_name pn_9) hisR ?_
  intro p e s m args below meth c s₁ Bd hml0 hP hK
  obtain ⟨rfl, hZ, hh⟩ := hP
  have hx := Bd.exec
  have hby := Bd.bytes
  have hml : c.maxLocals = 1 := hml0
  have hown : s.vm.findClass "com/example/stint/stint/store/Decision" = some m.cls := findClass_of_methodNamed Bd.named
  have hnm := (name_of_methodNamed Bd.named Bd.method).1
  have X0 : Stand p l e ({ frames := 3, cells := 0, slots := 0, locals := 44 } : Room) s m #[(.ref o0)] below meth c s₁ [] 0 0 := Stand.of_body Bd
  have e0 : s₁.heap = h0 := by rw [← hh, Bd.state]; rfl
  have N0 := Fr.nil n0
  have K0 : Keep h0 h0 [] := Keep.refl _ _
  have pre0 : ∀ t, Steps p.tables e below (s₁.setTop (mkF m 0 #[.val (.ref o0)] [])) t → Steps p.tables e below (s₁.setTop (entryFrame m #[(.ref o0)] 1)) t := fun t k => castTop (ef_9 m o0) k
  have pre1 : ∀ t, Steps p.tables e below (s₁.setTop (mkF m 1 #[.val (.ref o0)] [(.ref o0)])) t → Steps p.tables e below (s₁.setTop (entryFrame m #[(.ref o0)] 1)) t := fun t k => pre0 t (by
    show Steps p.tables e below (s₁.setTop (mkF m 0 #[.val (.ref o0)] [])) _
    refine XS.aloadN X0.here hx rfl (hb hby d9_0) rfl rfl ?_
    exact k)
  obtain ⟨T2, X2, e2, st2⟩ := getF X0 hx hZ hown (host := "") (Or.inl (hw _ (List.mem_of_getElem? (i := 40) rfl))) Via.refl e0 I0 (g := (mkF m 1 #[.val (.ref o0)] [(.ref o0)])) rfl rfl (hb hby d9_1)
  have pre3 : ∀ t, Steps p.tables e below (T2.setTop (mkF m 4 #[.val (.ref o0)] [(.long w0)])) t → Steps p.tables e below (s₁.setTop (entryFrame m #[(.ref o0)] 1)) t := fun t k => pre1 t (st2 _ k)
  obtain ⟨_, _, ⟨T4, L4, k4, n4⟩, -, X4, ⟨Lc4, hQ4, l4, y4, z4⟩, st4⟩ := Jvm.LawKit.callS X2 hx (y := (⟨"com/example/stint/stint/store/Decision", "secondsRoundedUp", "(J)J"⟩ : MethodName)) hown (mvT hZ (hw _ (List.mem_of_getElem? (i := 66) rfl))) (mvT hZ (hw _ (List.mem_of_getElem? (i := 67) rfl))) (mvT hZ (hw _ (List.mem_of_getElem? (i := 3) rfl))) (mvT hZ (hw _ (List.mem_of_getElem? (i := 68) rfl))) (by decide) (backOf (W := 0) (rm10 l Z a0 hw [] w0 h0 n0 Z0) hZ (hw _ (List.mem_of_getElem? (i := 68) rfl)) (hw _ (List.mem_of_getElem? (i := 3) rfl)) (by decide) (by decide)) (g := (mkF m 4 #[.val (.ref o0)] [(.long w0)])) rfl (by rw [hml]; rfl) (argsL := [(.long w0)]) (rest := []) (lenOf pd__J_J rfl) rfl (by show 2 * 0 + _ ≤ _; exact Nat.le_of_eq rfl) (hb hby d9_4) (fun _ _ => ⟨rfl, e2, (by decide : 0 + 0 ≤ _), (by decide : 0 + 0 ≤ _)⟩)
  dsimp only [Pt.U, Pt.locs, Pt.cells, Pt.slots] at X4 l4 y4 z4 st4 hQ4
  subst l4 y4 z4
  obtain ⟨rfl, Nq4, e4⟩ := hQ4
  have N4 := Fr.app N0 Nq4
  have pre5 : ∀ t, Steps p.tables e below (T4.setTop (mkF m 7 #[.val (.ref o0)] [(.long (f10 w0))])) t → Steps p.tables e below (s₁.setTop (entryFrame m #[(.ref o0)] 1)) t := fun t k => pre3 t (st4 _ k)
  obtain ⟨fs, hr, hrun, hended, hW, hsame⟩ := X4.leave (v := some (.long (f10 w0))) (fun h => by rw [Bd.returns] at h; cases h)
  refine ⟨_, _, ?_, hrun, hended, _, _, rfl, ?_, ⟨_, rfl⟩, hW, hsame.mono (by decide) (by decide)⟩
  · exact pre5 _ (X4.lreturnOut hx Bd.returns (hb hby d9_7) hr)
  · exact ⟨by simp only [f9], N4, e4⟩
theorem d13_0 : decode prog_43_method_9_code 0 = .ok (.aload_n 0, 1) := by decide +kernel
theorem d13_1 : decode prog_43_method_9_code 1 = .ok (.getfield 40, 3) := by decide +kernel
theorem d13_4 : decode prog_43_method_9_code 4 = .ok (.ireturn, 1) := by decide +kernel
theorem pn_13 : plainName "com/example/stint/stint/store/Decision" = true := by first | (simp [plainName, overriddenIn]; done) | decide +kernel
theorem ef_13 (m : MethodId) (x0 : Addr) : entryFrame m #[(.ref x0)] 1 = mkF m 0 #[.val (.ref x0)] [] := by first | (simp [entryFrame, mkF, argsToLocals, Value.category]; done) | rfl
def f13 (w0 : Int32) : Int32 := w0
set_option maxRecDepth 65536 in
set_option maxHeartbeats 40000000 in
theorem rm13 (l : Launch) (Z : State) (a0 : Array Value) (hw : ∀ d ∈ tables_1, d.before a0 Z = true) (ws : List Jvm.Cond) (o0 : Addr) (w0 : Int32) (h0 : Heap) (n0 : Nat) (Z0 : n0 ≤ h0.size) (I0 : Fld Z h0 o0 "com/example/stint/stint/store/Decision" "reporting" "I" (.int w0)) :
    MetFree l (⟨"com/example/stint/stint/store/Decision", "reportingRule", "()I"⟩ : MethodName) (head1 (Jvm.Cond.code (⟨"com/example/stint/stint/store/Decision", "reportingRule", "()I"⟩ : MethodName) prog_43_method_9_code 1 (some .int) :: ws) ({ frames := 0, cells := 0, slots := 0, locals := 0 } : Room)) (fun a U => a = #[(.ref o0)] ∧ Z.Warmed39 U.vm ∧ U.heap = h0) (fun _ _ _ _ _ => True) (fun _ U o U' => ∃ v L, o = .returned v ∧ QP (some (.int (f13 w0))) h0 n0 v U'.heap L ∧ FrameEnd U o U' L ({ frames := 0, cells := 0, slots := 0, locals := 0 } : Room).cells ({ frames := 0, cells := 0, slots := 0, locals := 0 } : Room).slots) := by
  refine MetFree.of_bodySF (plainFor_of_name pn_13) hisR ?_
  intro p e s m args below meth c s₁ Bd hml0 hP hK
  obtain ⟨rfl, hZ, hh⟩ := hP
  have hx := Bd.exec
  have hby := Bd.bytes
  have hml : c.maxLocals = 1 := hml0
  have hown : s.vm.findClass "com/example/stint/stint/store/Decision" = some m.cls := findClass_of_methodNamed Bd.named
  have hnm := (name_of_methodNamed Bd.named Bd.method).1
  have X0 : Stand p l e ({ frames := 0, cells := 0, slots := 0, locals := 0 } : Room) s m #[(.ref o0)] below meth c s₁ [] 0 0 := Stand.of_body Bd
  have e0 : s₁.heap = h0 := by rw [← hh, Bd.state]; rfl
  have N0 := Fr.nil n0
  have K0 : Keep h0 h0 [] := Keep.refl _ _
  have pre0 : ∀ t, Steps p.tables e below (s₁.setTop (mkF m 0 #[.val (.ref o0)] [])) t → Steps p.tables e below (s₁.setTop (entryFrame m #[(.ref o0)] 1)) t := fun t k => castTop (ef_13 m o0) k
  have pre1 : ∀ t, Steps p.tables e below (s₁.setTop (mkF m 1 #[.val (.ref o0)] [(.ref o0)])) t → Steps p.tables e below (s₁.setTop (entryFrame m #[(.ref o0)] 1)) t := fun t k => pre0 t (by
    show Steps p.tables e below (s₁.setTop (mkF m 0 #[.val (.ref o0)] [])) _
    refine XS.aloadN X0.here hx rfl (hb hby d13_0) rfl rfl ?_
    exact k)
  obtain ⟨T2, X2, e2, st2⟩ := getF X0 hx hZ hown (host := "") (Or.inl (hw _ (List.mem_of_getElem? (i := 47) rfl))) Via.refl e0 I0 (g := (mkF m 1 #[.val (.ref o0)] [(.ref o0)])) rfl rfl (hb hby d13_1)
  have pre3 : ∀ t, Steps p.tables e below (T2.setTop (mkF m 4 #[.val (.ref o0)] [(.int w0)])) t → Steps p.tables e below (s₁.setTop (entryFrame m #[(.ref o0)] 1)) t := fun t k => pre1 t (st2 _ k)
  obtain ⟨fs, hr, hrun, hended, hW, hsame⟩ := X2.leave (v := some (.int w0)) (fun h => by rw [Bd.returns] at h; cases h)
  refine ⟨_, _, ?_, hrun, hended, _, _, rfl, ?_, ⟨_, rfl⟩, hW, hsame.mono (by decide) (by decide)⟩
  · exact pre3 _ (retI X2 hx Bd.returns (hb hby d13_4) hr)
  · exact ⟨by simp only [f13], N0, e2⟩
theorem d14_0 : decode prog_43_method_6_code 0 = .ok (.aload_n 0, 1) := by decide +kernel
theorem d14_1 : decode prog_43_method_6_code 1 = .ok (.getfield 12, 3) := by decide +kernel
theorem d14_4 : decode prog_43_method_6_code 4 = .ok (.iload_n 1, 1) := by decide +kernel
theorem d14_5 : decode prog_43_method_6_code 5 = .ok (.aaload, 1) := by decide +kernel
theorem d14_6 : decode prog_43_method_6_code 6 = .ok (.ifnull 17, 3) := by decide +kernel
theorem d14_9 : decode prog_43_method_6_code 9 = .ok (.aload_n 0, 1) := by decide +kernel
theorem d14_10 : decode prog_43_method_6_code 10 = .ok (.getfield 12, 3) := by decide +kernel
theorem d14_13 : decode prog_43_method_6_code 13 = .ok (.iload_n 1, 1) := by decide +kernel
theorem d14_14 : decode prog_43_method_6_code 14 = .ok (.aaload, 1) := by decide +kernel
theorem d14_15 : decode prog_43_method_6_code 15 = .ok (.getfield 20, 3) := by decide +kernel
theorem d14_18 : decode prog_43_method_6_code 18 = .ok (.lconst 0, 1) := by decide +kernel
theorem d14_19 : decode prog_43_method_6_code 19 = .ok (.lcmp, 1) := by decide +kernel
theorem d14_20 : decode prog_43_method_6_code 20 = .ok (.ifCond .ne 7, 3) := by decide +kernel
theorem d14_23 : decode prog_43_method_6_code 23 = .ok (.iconst 1, 1) := by decide +kernel
theorem d14_24 : decode prog_43_method_6_code 24 = .ok (.goto 4, 3) := by decide +kernel
theorem d14_27 : decode prog_43_method_6_code 27 = .ok (.iconst 0, 1) := by decide +kernel
theorem d14_28 : decode prog_43_method_6_code 28 = .ok (.ireturn, 1) := by decide +kernel
theorem pn_14 : plainName "com/example/stint/stint/store/Decision" = true := by first | (simp [plainName, overriddenIn]; done) | decide +kernel
theorem ef_14_y (m : MethodId) (x0 : Addr) (x1 : Int32) : entryFrame m #[(.ref x0), (.int x1)] 2 = mkF m 0 #[.val (.ref x0), .val (.int x1)] [] := by first | (simp [entryFrame, mkF, argsToLocals, Value.category]; done) | rfl
def f14_y : Int32 := (if (1000 : Int64) = (0 : Int64) then (1 : Int32) else (0 : Int32))
set_option maxRecDepth 65536 in
set_option maxHeartbeats 40000000 in
theorem rm14_y (l : Launch) (Z : State) (a0 : Array Value) (hw : ∀ d ∈ tables_1, d.before a0 Z = true) (ws : List Jvm.Cond) (o0 : Addr) (p1 : Int32) (oa : Addr) (ka : ClassId) (n : Int32) (r : Int32) (ob : Addr) (h0 : Heap) (n0 : Nat) (Z0 : n0 ≤ h0.size) (I0 : Fld Z h0 o0 "com/example/stint/stint/store/Decision" "outcomes" "[Lcom/example/stint/stint/store/Decision$Outcome;" (.ref oa)) (I1 : Arh Z h0 oa ka (.object "com/example/stint/stint/store/Decision$Outcome") n [(r, (.ref ob))] [] .null) (I2 : Fld Z h0 ob "com/example/stint/stint/store/Decision$Outcome" "waitMillis" "J" (.long (1000 : Int64))) (hi0 : ¬ p1 < 0) (hi1 : p1 < n) (hir : p1 = r) :
    MetFree l (⟨"com/example/stint/stint/store/Decision", "hasBudget", "(I)Z"⟩ : MethodName) (head1 (Jvm.Cond.code (⟨"com/example/stint/stint/store/Decision", "hasBudget", "(I)Z"⟩ : MethodName) prog_43_method_6_code 2 (some .boolean) :: ws) ({ frames := 0, cells := 0, slots := 0, locals := 0 } : Room)) (fun a U => a = #[(.ref o0), (.int p1)] ∧ Z.Warmed39 U.vm ∧ U.heap = h0) (fun _ _ _ _ _ => True) (fun _ U o U' => ∃ v L, o = .returned v ∧ QP (some (.int (f14_y))) h0 n0 v U'.heap L ∧ FrameEnd U o U' L ({ frames := 0, cells := 0, slots := 0, locals := 0 } : Room).cells ({ frames := 0, cells := 0, slots := 0, locals := 0 } : Room).slots) := by
  refine MetFree.of_bodySF (plainFor_of_name pn_14) hisR ?_
  intro p e s m args below meth c s₁ Bd hml0 hP hK
  obtain ⟨rfl, hZ, hh⟩ := hP
  have hx := Bd.exec
  have hby := Bd.bytes
  have hml : c.maxLocals = 2 := hml0
  have hown : s.vm.findClass "com/example/stint/stint/store/Decision" = some m.cls := findClass_of_methodNamed Bd.named
  have hnm := (name_of_methodNamed Bd.named Bd.method).1
  have X0 : Stand p l e ({ frames := 0, cells := 0, slots := 0, locals := 0 } : Room) s m #[(.ref o0), (.int p1)] below meth c s₁ [] 0 0 := Stand.of_body Bd
  have e0 : s₁.heap = h0 := by rw [← hh, Bd.state]; rfl
  have N0 := Fr.nil n0
  have K0 : Keep h0 h0 [] := Keep.refl _ _
  have pre0 : ∀ t, Steps p.tables e below (s₁.setTop (mkF m 0 #[.val (.ref o0), .val (.int p1)] [])) t → Steps p.tables e below (s₁.setTop (entryFrame m #[(.ref o0), (.int p1)] 2)) t := fun t k => castTop (ef_14_y m o0 p1) k
  have pre2 : ∀ t, Steps p.tables e below (s₁.setTop (mkF m 1 #[.val (.ref o0), .val (.int p1)] [(.ref o0)])) t → Steps p.tables e below (s₁.setTop (entryFrame m #[(.ref o0), (.int p1)] 2)) t := fun t k => pre0 t (by
    show Steps p.tables e below (s₁.setTop (mkF m 0 #[.val (.ref o0), .val (.int p1)] [])) _
    refine XS.aloadN X0.here hx rfl (hb hby d14_0) rfl rfl ?_
    exact k)
  obtain ⟨T3, X3, e3, st3⟩ := getF X0 hx hZ hown (host := "") (Or.inl (hw _ (List.mem_of_getElem? (i := 31) rfl))) Via.refl e0 I0 (g := (mkF m 1 #[.val (.ref o0), .val (.int p1)] [(.ref o0)])) rfl rfl (hb hby d14_1)
  have pre4 : ∀ t, Steps p.tables e below (T3.setTop (mkF m 4 #[.val (.ref o0), .val (.int p1)] [(.ref oa)])) t → Steps p.tables e below (s₁.setTop (entryFrame m #[(.ref o0), (.int p1)] 2)) t := fun t k => pre2 t (st3 _ k)
  have pre5 : ∀ t, Steps p.tables e below (T3.setTop (mkF m 5 #[.val (.ref o0), .val (.int p1)] [(.int p1), (.ref oa)])) t → Steps p.tables e below (s₁.setTop (entryFrame m #[(.ref o0), (.int p1)] 2)) t := fun t k => pre4 t (by
    show Steps p.tables e below (T3.setTop (mkF m 4 #[.val (.ref o0), .val (.int p1)] [(.ref oa)])) _
    refine XS.iloadN X3.here hx rfl (hb hby d14_4) rfl ?_
    exact k)
  obtain ⟨cl6, Ar6, -, Sz6, Mn6, Hs6, -⟩ := id I1
  have hin6 : ¬ (p1 < 0 ∨ cl6.slots.size ≤ (p1).toNatClampNeg) := inb_of Sz6 ⟨hi0, hi1⟩
  have hat6 : cl6.slots[(p1).toNatClampNeg]? = some (.ref ob) := atH Hs6 hin6 (getH_hit hi0 hir)
  have pre7 : ∀ t, Steps p.tables e below (T3.setTop (mkF m 6 #[.val (.ref o0), .val (.int p1)] [(.ref ob)])) t → Steps p.tables e below (s₁.setTop (entryFrame m #[(.ref o0), (.int p1)] 2)) t := fun t k => pre5 t (by
    show Steps p.tables e below (T3.setTop (mkF m 5 #[.val (.ref o0), .val (.int p1)] [(.int p1), (.ref oa)])) _
    refine X3.aaload hx (j := p1) (v := (.ref ob)) (by rw [e3]; exact Ar6.1) (State.isArrayOf_alike hZ.alike Ar6.2.1) rfl Ar6.2.2 hin6 hat6 (g := (mkF m 5 #[.val (.ref o0), .val (.int p1)] [(.int p1), (.ref oa)])) rfl rfl (hb hby d14_5) _ ?_
    exact k)
  have pre8 : ∀ t, Steps p.tables e below (T3.setTop (mkF m 10 #[.val (.ref o0), .val (.int p1)] [(.ref o0)])) t → Steps p.tables e below (s₁.setTop (entryFrame m #[(.ref o0), (.int p1)] 2)) t := fun t k => pre7 t (by
    show Steps p.tables e below (T3.setTop (mkF m 6 #[.val (.ref o0), .val (.int p1)] [(.ref ob)])) _
    refine XS.ifnullNo X3.here hx rfl (hb hby d14_6) rfl ?_
    show Steps p.tables e below (T3.setTop (mkF m 9 #[.val (.ref o0), .val (.int p1)] [])) _
    refine XS.aloadN X3.here hx rfl (hb hby d14_9) rfl rfl ?_
    exact k)
  obtain ⟨T9, X9, e9, st9⟩ := getF X3 hx hZ hown (host := "") (Or.inl (hw _ (List.mem_of_getElem? (i := 31) rfl))) Via.refl e3 I0 (g := (mkF m 10 #[.val (.ref o0), .val (.int p1)] [(.ref o0)])) rfl rfl (hb hby d14_10)
  have pre10 : ∀ t, Steps p.tables e below (T9.setTop (mkF m 13 #[.val (.ref o0), .val (.int p1)] [(.ref oa)])) t → Steps p.tables e below (s₁.setTop (entryFrame m #[(.ref o0), (.int p1)] 2)) t := fun t k => pre8 t (st9 _ k)
  have pre11 : ∀ t, Steps p.tables e below (T9.setTop (mkF m 14 #[.val (.ref o0), .val (.int p1)] [(.int p1), (.ref oa)])) t → Steps p.tables e below (s₁.setTop (entryFrame m #[(.ref o0), (.int p1)] 2)) t := fun t k => pre10 t (by
    show Steps p.tables e below (T9.setTop (mkF m 13 #[.val (.ref o0), .val (.int p1)] [(.ref oa)])) _
    refine XS.iloadN X9.here hx rfl (hb hby d14_13) rfl ?_
    exact k)
  obtain ⟨cl12, Ar12, -, Sz12, Mn12, Hs12, -⟩ := id I1
  have hin12 : ¬ (p1 < 0 ∨ cl12.slots.size ≤ (p1).toNatClampNeg) := inb_of Sz12 ⟨hi0, hi1⟩
  have hat12 : cl12.slots[(p1).toNatClampNeg]? = some (.ref ob) := atH Hs12 hin12 (getH_hit hi0 hir)
  have pre13 : ∀ t, Steps p.tables e below (T9.setTop (mkF m 15 #[.val (.ref o0), .val (.int p1)] [(.ref ob)])) t → Steps p.tables e below (s₁.setTop (entryFrame m #[(.ref o0), (.int p1)] 2)) t := fun t k => pre11 t (by
    show Steps p.tables e below (T9.setTop (mkF m 14 #[.val (.ref o0), .val (.int p1)] [(.int p1), (.ref oa)])) _
    refine X9.aaload hx (j := p1) (v := (.ref ob)) (by rw [e9]; exact Ar12.1) (State.isArrayOf_alike hZ.alike Ar12.2.1) rfl Ar12.2.2 hin12 hat12 (g := (mkF m 14 #[.val (.ref o0), .val (.int p1)] [(.int p1), (.ref oa)])) rfl rfl (hb hby d14_14) _ ?_
    exact k)
  obtain ⟨T14, X14, e14, st14⟩ := getFR X9 hx hZ hown (hw _ (List.mem_of_getElem? (i := 35) rfl)) e9 I2 (g := (mkF m 15 #[.val (.ref o0), .val (.int p1)] [(.ref ob)])) rfl rfl (hb hby d14_15)
  have pre15 : ∀ t, Steps p.tables e below (T14.setTop (mkF m 18 #[.val (.ref o0), .val (.int p1)] [(.long (1000 : Int64))])) t → Steps p.tables e below (s₁.setTop (entryFrame m #[(.ref o0), (.int p1)] 2)) t := fun t k => pre13 t (st14 _ k)
  have pre16 : ∀ t, Steps p.tables e below (T14.setTop (mkF m 20 #[.val (.ref o0), .val (.int p1)] [(.int (lcmpW (1000 : Int64) (0 : Int64)))])) t → Steps p.tables e below (s₁.setTop (entryFrame m #[(.ref o0), (.int p1)] 2)) t := fun t k => pre15 t (by
    show Steps p.tables e below (T14.setTop (mkF m 18 #[.val (.ref o0), .val (.int p1)] [(.long (1000 : Int64))])) _
    refine XS.lconst X14.here hx rfl (hb hby d14_18) ?_
    show Steps p.tables e below (T14.setTop (mkF m 19 #[.val (.ref o0), .val (.int p1)] [(.long (0 : Int64)), (.long (1000 : Int64))])) _
    refine XS.lcmp X14.here hx rfl (hb hby d14_19) rfl ?_
    exact k)
  by_cases hc20_1 : (1000 : Int64) = (0 : Int64)
  · have pre17 : ∀ t, Steps p.tables e below (T14.setTop (mkF m 28 #[.val (.ref o0), .val (.int p1)] [(.int (1 : Int32))])) t → Steps p.tables e below (s₁.setTop (entryFrame m #[(.ref o0), (.int p1)] 2)) t := fun t k => pre16 t (by
      show Steps p.tables e below (T14.setTop (mkF m 20 #[.val (.ref o0), .val (.int p1)] [(.int (lcmpW (1000 : Int64) (0 : Int64)))])) _
      refine XS.ifNo X14.here hx rfl (hb hby d14_20) rfl ((if0 _ _).trans (teq ((lw_eq _ _).mpr hc20_1)).2) ?_
      show Steps p.tables e below (T14.setTop (mkF m 23 #[.val (.ref o0), .val (.int p1)] [])) _
      refine XS.iconst X14.here hx rfl (hb hby d14_23) ?_
      show Steps p.tables e below (T14.setTop (mkF m 24 #[.val (.ref o0), .val (.int p1)] [(.int (1 : Int32))])) _
      refine XS.goto X14.here hx rfl (pc0 := 24) (pc' := 28) rfl (hb hby d14_24) (by decide) (by decide) ?_
      exact k)
    obtain ⟨fs, hr, hrun, hended, hW, hsame⟩ := X14.leave (v := some (.int (1 : Int32))) (fun h => by rw [Bd.returns] at h; cases h)
    refine ⟨_, _, ?_, hrun, hended, _, _, rfl, ?_, ⟨_, rfl⟩, hW, hsame.mono (by decide) (by decide)⟩
    · exact pre17 _ (retN X14 hx (t := .boolean) Bd.returns (by simp) (hb hby d14_28) hr)
    · exact ⟨by simp only [f14_y, if_pos hc20_1], N0, e14⟩
  · have pre18 : ∀ t, Steps p.tables e below (T14.setTop (mkF m 28 #[.val (.ref o0), .val (.int p1)] [(.int (0 : Int32))])) t → Steps p.tables e below (s₁.setTop (entryFrame m #[(.ref o0), (.int p1)] 2)) t := fun t k => pre16 t (by
      show Steps p.tables e below (T14.setTop (mkF m 20 #[.val (.ref o0), .val (.int p1)] [(.int (lcmpW (1000 : Int64) (0 : Int64)))])) _
      refine XS.ifYes X14.here hx rfl (pc0 := 20) (pc' := 27) rfl (hb hby d14_20) rfl ((if0 _ _).trans (feq (fun q => hc20_1 ((lw_eq _ _).mp q))).2) (by decide) (by decide) ?_
      show Steps p.tables e below (T14.setTop (mkF m 27 #[.val (.ref o0), .val (.int p1)] [])) _
      refine XS.iconst X14.here hx rfl (hb hby d14_27) ?_
      exact k)
    obtain ⟨fs, hr, hrun, hended, hW, hsame⟩ := X14.leave (v := some (.int (0 : Int32))) (fun h => by rw [Bd.returns] at h; cases h)
    refine ⟨_, _, ?_, hrun, hended, _, _, rfl, ?_, ⟨_, rfl⟩, hW, hsame.mono (by decide) (by decide)⟩
    · exact pre18 _ (retN X14 hx (t := .boolean) Bd.returns (by simp) (hb hby d14_28) hr)
    · exact ⟨by simp only [f14_y, if_neg hc20_1], N0, e14⟩
def f14_n : Int32 := (1 : Int32)
set_option maxRecDepth 65536 in
set_option maxHeartbeats 40000000 in
theorem rm14_n (l : Launch) (Z : State) (a0 : Array Value) (hw : ∀ d ∈ tables_1, d.before a0 Z = true) (ws : List Jvm.Cond) (o0 : Addr) (p1 : Int32) (oa : Addr) (ka : ClassId) (n : Int32) (r : Int32) (ob : Addr) (h0 : Heap) (n0 : Nat) (Z0 : n0 ≤ h0.size) (I0 : Fld Z h0 o0 "com/example/stint/stint/store/Decision" "outcomes" "[Lcom/example/stint/stint/store/Decision$Outcome;" (.ref oa)) (I1 : Arh Z h0 oa ka (.object "com/example/stint/stint/store/Decision$Outcome") n [(r, (.ref ob))] [] .null) (I2 : Fld Z h0 ob "com/example/stint/stint/store/Decision$Outcome" "waitMillis" "J" (.long (1000 : Int64))) (hi0 : ¬ p1 < 0) (hi1 : p1 < n) (hir : ¬ (p1 = r)) :
    MetFree l (⟨"com/example/stint/stint/store/Decision", "hasBudget", "(I)Z"⟩ : MethodName) (head1 (Jvm.Cond.code (⟨"com/example/stint/stint/store/Decision", "hasBudget", "(I)Z"⟩ : MethodName) prog_43_method_6_code 2 (some .boolean) :: ws) ({ frames := 0, cells := 0, slots := 0, locals := 0 } : Room)) (fun a U => a = #[(.ref o0), (.int p1)] ∧ Z.Warmed39 U.vm ∧ U.heap = h0) (fun _ _ _ _ _ => True) (fun _ U o U' => ∃ v L, o = .returned v ∧ QP (some (.int (f14_n))) h0 n0 v U'.heap L ∧ FrameEnd U o U' L ({ frames := 0, cells := 0, slots := 0, locals := 0 } : Room).cells ({ frames := 0, cells := 0, slots := 0, locals := 0 } : Room).slots) := by
  refine MetFree.of_bodySF (plainFor_of_name pn_14) hisR ?_
  intro p e s m args below meth c s₁ Bd hml0 hP hK
  obtain ⟨rfl, hZ, hh⟩ := hP
  have hx := Bd.exec
  have hby := Bd.bytes
  have hml : c.maxLocals = 2 := hml0
  have hown : s.vm.findClass "com/example/stint/stint/store/Decision" = some m.cls := findClass_of_methodNamed Bd.named
  have hnm := (name_of_methodNamed Bd.named Bd.method).1
  have X0 : Stand p l e ({ frames := 0, cells := 0, slots := 0, locals := 0 } : Room) s m #[(.ref o0), (.int p1)] below meth c s₁ [] 0 0 := Stand.of_body Bd
  have e0 : s₁.heap = h0 := by rw [← hh, Bd.state]; rfl
  have N0 := Fr.nil n0
  have K0 : Keep h0 h0 [] := Keep.refl _ _
  have pre0 : ∀ t, Steps p.tables e below (s₁.setTop (mkF m 0 #[.val (.ref o0), .val (.int p1)] [])) t → Steps p.tables e below (s₁.setTop (entryFrame m #[(.ref o0), (.int p1)] 2)) t := fun t k => castTop (ef_14_y m o0 p1) k
  have pre1 : ∀ t, Steps p.tables e below (s₁.setTop (mkF m 1 #[.val (.ref o0), .val (.int p1)] [(.ref o0)])) t → Steps p.tables e below (s₁.setTop (entryFrame m #[(.ref o0), (.int p1)] 2)) t := fun t k => pre0 t (by
    show Steps p.tables e below (s₁.setTop (mkF m 0 #[.val (.ref o0), .val (.int p1)] [])) _
    refine XS.aloadN X0.here hx rfl (hb hby d14_0) rfl rfl ?_
    exact k)
  obtain ⟨T2, X2, e2, st2⟩ := getF X0 hx hZ hown (host := "") (Or.inl (hw _ (List.mem_of_getElem? (i := 31) rfl))) Via.refl e0 I0 (g := (mkF m 1 #[.val (.ref o0), .val (.int p1)] [(.ref o0)])) rfl rfl (hb hby d14_1)
  have pre3 : ∀ t, Steps p.tables e below (T2.setTop (mkF m 4 #[.val (.ref o0), .val (.int p1)] [(.ref oa)])) t → Steps p.tables e below (s₁.setTop (entryFrame m #[(.ref o0), (.int p1)] 2)) t := fun t k => pre1 t (st2 _ k)
  have pre4 : ∀ t, Steps p.tables e below (T2.setTop (mkF m 5 #[.val (.ref o0), .val (.int p1)] [(.int p1), (.ref oa)])) t → Steps p.tables e below (s₁.setTop (entryFrame m #[(.ref o0), (.int p1)] 2)) t := fun t k => pre3 t (by
    show Steps p.tables e below (T2.setTop (mkF m 4 #[.val (.ref o0), .val (.int p1)] [(.ref oa)])) _
    refine XS.iloadN X2.here hx rfl (hb hby d14_4) rfl ?_
    exact k)
  obtain ⟨cl5, Ar5, -, Sz5, Mn5, Hs5, -⟩ := id I1
  have hin5 : ¬ (p1 < 0 ∨ cl5.slots.size ≤ (p1).toNatClampNeg) := inb_of Sz5 ⟨hi0, hi1⟩
  have hat5 : cl5.slots[(p1).toNatClampNeg]? = some .null := atH Hs5 hin5 (getH_miss hi0 hir (getH_all rfl _))
  have pre6 : ∀ t, Steps p.tables e below (T2.setTop (mkF m 6 #[.val (.ref o0), .val (.int p1)] [.null])) t → Steps p.tables e below (s₁.setTop (entryFrame m #[(.ref o0), (.int p1)] 2)) t := fun t k => pre4 t (by
    show Steps p.tables e below (T2.setTop (mkF m 5 #[.val (.ref o0), .val (.int p1)] [(.int p1), (.ref oa)])) _
    refine X2.aaload hx (j := p1) (v := .null) (by rw [e2]; exact Ar5.1) (State.isArrayOf_alike hZ.alike Ar5.2.1) rfl Ar5.2.2 hin5 hat5 (g := (mkF m 5 #[.val (.ref o0), .val (.int p1)] [(.int p1), (.ref oa)])) rfl rfl (hb hby d14_5) _ ?_
    exact k)
  have pre7 : ∀ t, Steps p.tables e below (T2.setTop (mkF m 28 #[.val (.ref o0), .val (.int p1)] [(.int (1 : Int32))])) t → Steps p.tables e below (s₁.setTop (entryFrame m #[(.ref o0), (.int p1)] 2)) t := fun t k => pre6 t (by
    show Steps p.tables e below (T2.setTop (mkF m 6 #[.val (.ref o0), .val (.int p1)] [.null])) _
    refine XS.ifnullYes X2.here hx rfl (pc0 := 6) (pc' := 23) rfl (hb hby d14_6) rfl (by decide) (by decide) ?_
    show Steps p.tables e below (T2.setTop (mkF m 23 #[.val (.ref o0), .val (.int p1)] [])) _
    refine XS.iconst X2.here hx rfl (hb hby d14_23) ?_
    show Steps p.tables e below (T2.setTop (mkF m 24 #[.val (.ref o0), .val (.int p1)] [(.int (1 : Int32))])) _
    refine XS.goto X2.here hx rfl (pc0 := 24) (pc' := 28) rfl (hb hby d14_24) (by decide) (by decide) ?_
    exact k)
  obtain ⟨fs, hr, hrun, hended, hW, hsame⟩ := X2.leave (v := some (.int (1 : Int32))) (fun h => by rw [Bd.returns] at h; cases h)
  refine ⟨_, _, ?_, hrun, hended, _, _, rfl, ?_, ⟨_, rfl⟩, hW, hsame.mono (by decide) (by decide)⟩
  · exact pre7 _ (retN X2 hx (t := .boolean) Bd.returns (by simp) (hb hby d14_28) hr)
  · exact ⟨by simp only [f14_n], N0, e2⟩
theorem d4_27 : decode prog_43_method_2_code 27 = .ok (.iload 7, 2) := by decide +kernel
theorem d4_29 : decode prog_43_method_2_code 29 = .ok (.iload 6, 2) := by decide +kernel
theorem d4_31 : decode prog_43_method_2_code 31 = .ok (.if_icmp .ge 35, 3) := by decide +kernel
theorem d4_34 : decode prog_43_method_2_code 34 = .ok (.aload 5, 2) := by decide +kernel
theorem d4_36 : decode prog_43_method_2_code 36 = .ok (.iload 7, 2) := by decide +kernel
theorem d4_38 : decode prog_43_method_2_code 38 = .ok (.aaload, 1) := by decide +kernel
theorem d4_39 : decode prog_43_method_2_code 39 = .ok (.astore 8, 2) := by decide +kernel
theorem d4_41 : decode prog_43_method_2_code 41 = .ok (.lload_n 3, 1) := by decide +kernel
theorem d4_42 : decode prog_43_method_2_code 42 = .ok (.aload 8, 2) := by decide +kernel
theorem d4_44 : decode prog_43_method_2_code 44 = .ok (.ifnonnull 7, 3) := by decide +kernel
theorem d4_51 : decode prog_43_method_2_code 51 = .ok (.aload 8, 2) := by decide +kernel
theorem d4_53 : decode prog_43_method_2_code 53 = .ok (.getfield 20, 3) := by decide +kernel
theorem d4_56 : decode prog_43_method_2_code 56 = .ok (.invokestatic 26, 3) := by decide +kernel
theorem d4_59 : decode prog_43_method_2_code 59 = .ok (.lstore_n 3, 1) := by decide +kernel
theorem d4_60 : decode prog_43_method_2_code 60 = .ok (.iinc 7 1, 3) := by decide +kernel
theorem d4_63 : decode prog_43_method_2_code 63 = .ok (.goto (-36), 3) := by decide +kernel
set_option maxRecDepth 65536 in
set_option maxHeartbeats 40000000 in
theorem tn1h {p : Program} {l : Launch} {e : Env} {s : State} {m : MethodId} {args : Array Value} {below : List Frame} {meth : Method} {c : Code} {T0 : State} {locs : List Loc} {Z : State} {a0 : Array Value} {h0 : Heap} {n0 : Nat} {o0 : Addr} {o1 : Addr} {p2 : Int32} {ka : ClassId} {n : Int32} {r : Int32} {ob : Addr} {w : Int64} {i : Int32} {s8 : Slot}
    (X0 : Stand p l e ({ frames := 1, cells := 0, slots := 0, locals := 15 } : Room) s m args below meth c T0 locs 0 0) (hx : p.tables.exec = Jvm.exec) (hZ : Z.Warmed39 s.vm) (hw : ∀ d ∈ tables_1, d.before a0 Z = true) (hby : c.code = prog_43_method_2_code) (hml : c.maxLocals = 9) (hown : s.vm.findClass "com/example/stint/stint/store/Decision" = some m.cls) (e0 : T0.heap = h0) (N0 : Fr n0 locs) (Z0 : n0 ≤ h0.size) (I0 : Arh Z h0 o1 ka (.object "com/example/stint/stint/store/Decision$Outcome") n [(r, (.ref ob))] [] .null) (I1 : Fld Z h0 ob "com/example/stint/stint/store/Decision$Outcome" "waitMillis" "J" (.long (1000 : Int64))) (hs8 : One s8) (hi0 : ¬ i < 0) (hlt : i < n) (hir : i = r) :
    ∃ (T' : State) (L' : List Loc), Stand p l e ({ frames := 1, cells := 0, slots := 0, locals := 15 } : Room) s m args below meth c T' L' 0 0 ∧ T'.heap = h0 ∧ Fr n0 L' ∧ ∀ t, Steps p.tables e below (T'.setTop (mkF m 27 #[.val (.ref o0), .val (.ref o1), .val (.int p2), .val (.long (f5 w (1000 : Int64))), .second, .val (.ref o1), .val (.int n), .val (.int (i + (1 : Int32))), .val (.ref ob)] [])) t → Steps p.tables e below (T0.setTop (mkF m 27 #[.val (.ref o0), .val (.ref o1), .val (.int p2), .val (.long w), .second, .val (.ref o1), .val (.int n), .val (.int i), s8] [])) t := by
  have pre0 : ∀ t, Steps p.tables e below (T0.setTop (mkF m 27 #[.val (.ref o0), .val (.ref o1), .val (.int p2), .val (.long w), .second, .val (.ref o1), .val (.int n), .val (.int i), s8] [])) t → Steps p.tables e below (T0.setTop (mkF m 27 #[.val (.ref o0), .val (.ref o1), .val (.int p2), .val (.long w), .second, .val (.ref o1), .val (.int n), .val (.int i), s8] [])) t := fun t k => k
  have pre1 : ∀ t, Steps p.tables e below (T0.setTop (mkF m 38 #[.val (.ref o0), .val (.ref o1), .val (.int p2), .val (.long w), .second, .val (.ref o1), .val (.int n), .val (.int i), s8] [(.int i), (.ref o1)])) t → Steps p.tables e below (T0.setTop (mkF m 27 #[.val (.ref o0), .val (.ref o1), .val (.int p2), .val (.long w), .second, .val (.ref o1), .val (.int n), .val (.int i), s8] [])) t := fun t k => pre0 t (by
    show Steps p.tables e below (T0.setTop (mkF m 27 #[.val (.ref o0), .val (.ref o1), .val (.int p2), .val (.long w), .second, .val (.ref o1), .val (.int n), .val (.int i), s8] [])) _
    refine XS.iload X0.here hx rfl (hb hby d4_27) rfl ?_
    show Steps p.tables e below (T0.setTop (mkF m 29 #[.val (.ref o0), .val (.ref o1), .val (.int p2), .val (.long w), .second, .val (.ref o1), .val (.int n), .val (.int i), s8] [(.int i)])) _
    refine XS.iload X0.here hx rfl (hb hby d4_29) rfl ?_
    show Steps p.tables e below (T0.setTop (mkF m 31 #[.val (.ref o0), .val (.ref o1), .val (.int p2), .val (.long w), .second, .val (.ref o1), .val (.int n), .val (.int i), s8] [(.int n), (.int i)])) _
    refine XS.icmpNo X0.here hx rfl (hb hby d4_31) rfl (tlt hlt).2.1 ?_
    show Steps p.tables e below (T0.setTop (mkF m 34 #[.val (.ref o0), .val (.ref o1), .val (.int p2), .val (.long w), .second, .val (.ref o1), .val (.int n), .val (.int i), s8] [])) _
    refine XS.aload X0.here hx rfl (hb hby d4_34) rfl rfl ?_
    show Steps p.tables e below (T0.setTop (mkF m 36 #[.val (.ref o0), .val (.ref o1), .val (.int p2), .val (.long w), .second, .val (.ref o1), .val (.int n), .val (.int i), s8] [(.ref o1)])) _
    refine XS.iload X0.here hx rfl (hb hby d4_36) rfl ?_
    exact k)
  obtain ⟨cl2, Ar2, -, Sz2, Mn2, Hs2, -⟩ := id I0
  have hin2 : ¬ (i < 0 ∨ cl2.slots.size ≤ (i).toNatClampNeg) := inb_of Sz2 ⟨hi0, hlt⟩
  have hat2 : cl2.slots[(i).toNatClampNeg]? = some (.ref ob) := atH Hs2 hin2 (getH_hit hi0 hir)
  have pre3 : ∀ t, Steps p.tables e below (T0.setTop (mkF m 39 #[.val (.ref o0), .val (.ref o1), .val (.int p2), .val (.long w), .second, .val (.ref o1), .val (.int n), .val (.int i), s8] [(.ref ob)])) t → Steps p.tables e below (T0.setTop (mkF m 27 #[.val (.ref o0), .val (.ref o1), .val (.int p2), .val (.long w), .second, .val (.ref o1), .val (.int n), .val (.int i), s8] [])) t := fun t k => pre1 t (by
    show Steps p.tables e below (T0.setTop (mkF m 38 #[.val (.ref o0), .val (.ref o1), .val (.int p2), .val (.long w), .second, .val (.ref o1), .val (.int n), .val (.int i), s8] [(.int i), (.ref o1)])) _
    refine X0.aaload hx (j := i) (v := (.ref ob)) (by rw [e0]; exact Ar2.1) (State.isArrayOf_alike hZ.alike Ar2.2.1) rfl Ar2.2.2 hin2 hat2 (g := (mkF m 38 #[.val (.ref o0), .val (.ref o1), .val (.int p2), .val (.long w), .second, .val (.ref o1), .val (.int n), .val (.int i), s8] [(.int i), (.ref o1)])) rfl rfl (hb hby d4_38) _ ?_
    exact k)
  have pre4 : ∀ t, Steps p.tables e below (T0.setTop (mkF m 53 #[.val (.ref o0), .val (.ref o1), .val (.int p2), .val (.long w), .second, .val (.ref o1), .val (.int n), .val (.int i), .val (.ref ob)] [(.ref ob), (.long w)])) t → Steps p.tables e below (T0.setTop (mkF m 27 #[.val (.ref o0), .val (.ref o1), .val (.int p2), .val (.long w), .second, .val (.ref o1), .val (.int n), .val (.int i), s8] [])) t := fun t k => pre3 t (by
    show Steps p.tables e below (T0.setTop (mkF m 39 #[.val (.ref o0), .val (.ref o1), .val (.int p2), .val (.long w), .second, .val (.ref o1), .val (.int n), .val (.int i), s8] [(.ref ob)])) _
    refine XS.astoreS X0.here hx rfl (hb hby d4_39) rfl rfl rfl rfl hs8 ?_
    show Steps p.tables e below (T0.setTop (mkF m 41 #[.val (.ref o0), .val (.ref o1), .val (.int p2), .val (.long w), .second, .val (.ref o1), .val (.int n), .val (.int i), .val (.ref ob)] [])) _
    refine XS.lloadN X0.here hx rfl (hb hby d4_41) rfl ?_
    show Steps p.tables e below (T0.setTop (mkF m 42 #[.val (.ref o0), .val (.ref o1), .val (.int p2), .val (.long w), .second, .val (.ref o1), .val (.int n), .val (.int i), .val (.ref ob)] [(.long w)])) _
    refine XS.aload X0.here hx rfl (hb hby d4_42) rfl rfl ?_
    show Steps p.tables e below (T0.setTop (mkF m 44 #[.val (.ref o0), .val (.ref o1), .val (.int p2), .val (.long w), .second, .val (.ref o1), .val (.int n), .val (.int i), .val (.ref ob)] [(.ref ob), (.long w)])) _
    refine XS.ifnonnullYes X0.here hx rfl (pc0 := 44) (pc' := 51) rfl (hb hby d4_44) rfl (by decide) (by decide) ?_
    show Steps p.tables e below (T0.setTop (mkF m 51 #[.val (.ref o0), .val (.ref o1), .val (.int p2), .val (.long w), .second, .val (.ref o1), .val (.int n), .val (.int i), .val (.ref ob)] [(.long w)])) _
    refine XS.aload X0.here hx rfl (hb hby d4_51) rfl rfl ?_
    exact k)
  obtain ⟨T5, X5, e5, st5⟩ := getFR X0 hx hZ hown (hw _ (List.mem_of_getElem? (i := 35) rfl)) e0 I1 (g := (mkF m 53 #[.val (.ref o0), .val (.ref o1), .val (.int p2), .val (.long w), .second, .val (.ref o1), .val (.int n), .val (.int i), .val (.ref ob)] [(.ref ob), (.long w)])) rfl rfl (hb hby d4_53)
  have pre6 : ∀ t, Steps p.tables e below (T5.setTop (mkF m 56 #[.val (.ref o0), .val (.ref o1), .val (.int p2), .val (.long w), .second, .val (.ref o1), .val (.int n), .val (.int i), .val (.ref ob)] [(.long (1000 : Int64)), (.long w)])) t → Steps p.tables e below (T0.setTop (mkF m 27 #[.val (.ref o0), .val (.ref o1), .val (.int p2), .val (.long w), .second, .val (.ref o1), .val (.int n), .val (.int i), s8] [])) t := fun t k => pre4 t (st5 _ k)
  obtain ⟨_, _, ⟨T7, L7, k7, n7⟩, -, X7, ⟨Lc7, hQ7, l7, y7, z7⟩, st7⟩ := Jvm.LawKit.callS X5 hx (y := (⟨"java/lang/Math", "max", "(JJ)J"⟩ : MethodName)) hown (mvT hZ (hw _ (List.mem_of_getElem? (i := 36) rfl))) (mvT hZ (hw _ (List.mem_of_getElem? (i := 37) rfl))) (mvT hZ (hw _ (List.mem_of_getElem? (i := 38) rfl))) (mvT hZ (hw _ (List.mem_of_getElem? (i := 39) rfl))) (by decide) (backOf (W := 0) (rm5 l Z a0 hw [] w (1000 : Int64) h0 n0 Z0) hZ (hw _ (List.mem_of_getElem? (i := 39) rfl)) (hw _ (List.mem_of_getElem? (i := 38) rfl)) (by decide) (by decide)) (g := (mkF m 56 #[.val (.ref o0), .val (.ref o1), .val (.int p2), .val (.long w), .second, .val (.ref o1), .val (.int n), .val (.int i), .val (.ref ob)] [(.long (1000 : Int64)), (.long w)])) rfl (by rw [hml]; rfl) (argsL := [(.long w), (.long (1000 : Int64))]) (rest := []) (lenOf pd__JJ_J rfl) rfl (by show 2 * 0 + _ ≤ _; exact Nat.le_of_eq rfl) (hb hby d4_56) (fun _ _ => ⟨rfl, e5, (by decide : 0 + 0 ≤ _), (by decide : 0 + 0 ≤ _)⟩)
  dsimp only [Pt.U, Pt.locs, Pt.cells, Pt.slots] at X7 l7 y7 z7 st7 hQ7
  subst l7 y7 z7
  obtain ⟨rfl, Nq7, e7⟩ := hQ7
  have N7 := Fr.app N0 Nq7
  have pre8 : ∀ t, Steps p.tables e below (T7.setTop (mkF m 59 #[.val (.ref o0), .val (.ref o1), .val (.int p2), .val (.long w), .second, .val (.ref o1), .val (.int n), .val (.int i), .val (.ref ob)] [(.long (f5 w (1000 : Int64)))])) t → Steps p.tables e below (T0.setTop (mkF m 27 #[.val (.ref o0), .val (.ref o1), .val (.int p2), .val (.long w), .second, .val (.ref o1), .val (.int n), .val (.int i), s8] [])) t := fun t k => pre6 t (st7 _ k)
  have pre9 : ∀ t, Steps p.tables e below (T7.setTop (mkF m 27 #[.val (.ref o0), .val (.ref o1), .val (.int p2), .val (.long (f5 w (1000 : Int64))), .second, .val (.ref o1), .val (.int n), .val (.int (i + (1 : Int32))), .val (.ref ob)] [])) t → Steps p.tables e below (T0.setTop (mkF m 27 #[.val (.ref o0), .val (.ref o1), .val (.int p2), .val (.long w), .second, .val (.ref o1), .val (.int n), .val (.int i), s8] [])) t := fun t k => pre8 t (by
    show Steps p.tables e below (T7.setTop (mkF m 59 #[.val (.ref o0), .val (.ref o1), .val (.int p2), .val (.long w), .second, .val (.ref o1), .val (.int n), .val (.int i), .val (.ref ob)] [(.long (f5 w (1000 : Int64)))])) _
    refine XS.lstoreN X7.here hx rfl (hb hby d4_59) rfl (l' := #[.val (.ref o0), .val (.ref o1), .val (.int p2), .val (.long (f5 w (1000 : Int64))), .second, .val (.ref o1), .val (.int n), .val (.int i), .val (.ref ob)]) rfl ?_
    show Steps p.tables e below (T7.setTop (mkF m 60 #[.val (.ref o0), .val (.ref o1), .val (.int p2), .val (.long (f5 w (1000 : Int64))), .second, .val (.ref o1), .val (.int n), .val (.int i), .val (.ref ob)] [])) _
    refine XS.iinc X7.here hx rfl (hb hby d4_60) rfl (l' := #[.val (.ref o0), .val (.ref o1), .val (.int p2), .val (.long (f5 w (1000 : Int64))), .second, .val (.ref o1), .val (.int n), .val (.int (i + (1 : Int32))), .val (.ref ob)]) rfl ?_
    show Steps p.tables e below (T7.setTop (mkF m 63 #[.val (.ref o0), .val (.ref o1), .val (.int p2), .val (.long (f5 w (1000 : Int64))), .second, .val (.ref o1), .val (.int n), .val (.int (i + (1 : Int32))), .val (.ref ob)] [])) _
    refine XS.goto X7.here hx rfl (pc0 := 63) (pc' := 27) rfl (hb hby d4_63) (by decide) (by decide) ?_
    exact k)
  exact ⟨T7, _, X7, e7, N7, fun t k => pre9 t (k)⟩
theorem d4_47 : decode prog_43_method_2_code 47 = .ok (.lconst 0, 1) := by decide +kernel
theorem d4_48 : decode prog_43_method_2_code 48 = .ok (.goto 8, 3) := by decide +kernel
set_option maxRecDepth 65536 in
set_option maxHeartbeats 40000000 in
theorem tn1m {p : Program} {l : Launch} {e : Env} {s : State} {m : MethodId} {args : Array Value} {below : List Frame} {meth : Method} {c : Code} {T0 : State} {locs : List Loc} {Z : State} {a0 : Array Value} {h0 : Heap} {n0 : Nat} {o0 : Addr} {o1 : Addr} {p2 : Int32} {ka : ClassId} {n : Int32} {r : Int32} {ob : Addr} {w : Int64} {i : Int32} {s8 : Slot}
    (X0 : Stand p l e ({ frames := 1, cells := 0, slots := 0, locals := 15 } : Room) s m args below meth c T0 locs 0 0) (hx : p.tables.exec = Jvm.exec) (hZ : Z.Warmed39 s.vm) (hw : ∀ d ∈ tables_1, d.before a0 Z = true) (hby : c.code = prog_43_method_2_code) (hml : c.maxLocals = 9) (hown : s.vm.findClass "com/example/stint/stint/store/Decision" = some m.cls) (e0 : T0.heap = h0) (N0 : Fr n0 locs) (Z0 : n0 ≤ h0.size) (I0 : Arh Z h0 o1 ka (.object "com/example/stint/stint/store/Decision$Outcome") n [(r, (.ref ob))] [] .null) (hs8 : One s8) (hi0 : ¬ i < 0) (hlt : i < n) (hir : ¬ (i = r)) :
    ∃ (T' : State) (L' : List Loc), Stand p l e ({ frames := 1, cells := 0, slots := 0, locals := 15 } : Room) s m args below meth c T' L' 0 0 ∧ T'.heap = h0 ∧ Fr n0 L' ∧ ∀ t, Steps p.tables e below (T'.setTop (mkF m 27 #[.val (.ref o0), .val (.ref o1), .val (.int p2), .val (.long (f5 w (0 : Int64))), .second, .val (.ref o1), .val (.int n), .val (.int (i + (1 : Int32))), .val .null] [])) t → Steps p.tables e below (T0.setTop (mkF m 27 #[.val (.ref o0), .val (.ref o1), .val (.int p2), .val (.long w), .second, .val (.ref o1), .val (.int n), .val (.int i), s8] [])) t := by
  have pre0 : ∀ t, Steps p.tables e below (T0.setTop (mkF m 27 #[.val (.ref o0), .val (.ref o1), .val (.int p2), .val (.long w), .second, .val (.ref o1), .val (.int n), .val (.int i), s8] [])) t → Steps p.tables e below (T0.setTop (mkF m 27 #[.val (.ref o0), .val (.ref o1), .val (.int p2), .val (.long w), .second, .val (.ref o1), .val (.int n), .val (.int i), s8] [])) t := fun t k => k
  have pre1 : ∀ t, Steps p.tables e below (T0.setTop (mkF m 38 #[.val (.ref o0), .val (.ref o1), .val (.int p2), .val (.long w), .second, .val (.ref o1), .val (.int n), .val (.int i), s8] [(.int i), (.ref o1)])) t → Steps p.tables e below (T0.setTop (mkF m 27 #[.val (.ref o0), .val (.ref o1), .val (.int p2), .val (.long w), .second, .val (.ref o1), .val (.int n), .val (.int i), s8] [])) t := fun t k => pre0 t (by
    show Steps p.tables e below (T0.setTop (mkF m 27 #[.val (.ref o0), .val (.ref o1), .val (.int p2), .val (.long w), .second, .val (.ref o1), .val (.int n), .val (.int i), s8] [])) _
    refine XS.iload X0.here hx rfl (hb hby d4_27) rfl ?_
    show Steps p.tables e below (T0.setTop (mkF m 29 #[.val (.ref o0), .val (.ref o1), .val (.int p2), .val (.long w), .second, .val (.ref o1), .val (.int n), .val (.int i), s8] [(.int i)])) _
    refine XS.iload X0.here hx rfl (hb hby d4_29) rfl ?_
    show Steps p.tables e below (T0.setTop (mkF m 31 #[.val (.ref o0), .val (.ref o1), .val (.int p2), .val (.long w), .second, .val (.ref o1), .val (.int n), .val (.int i), s8] [(.int n), (.int i)])) _
    refine XS.icmpNo X0.here hx rfl (hb hby d4_31) rfl (tlt hlt).2.1 ?_
    show Steps p.tables e below (T0.setTop (mkF m 34 #[.val (.ref o0), .val (.ref o1), .val (.int p2), .val (.long w), .second, .val (.ref o1), .val (.int n), .val (.int i), s8] [])) _
    refine XS.aload X0.here hx rfl (hb hby d4_34) rfl rfl ?_
    show Steps p.tables e below (T0.setTop (mkF m 36 #[.val (.ref o0), .val (.ref o1), .val (.int p2), .val (.long w), .second, .val (.ref o1), .val (.int n), .val (.int i), s8] [(.ref o1)])) _
    refine XS.iload X0.here hx rfl (hb hby d4_36) rfl ?_
    exact k)
  obtain ⟨cl2, Ar2, -, Sz2, Mn2, Hs2, -⟩ := id I0
  have hin2 : ¬ (i < 0 ∨ cl2.slots.size ≤ (i).toNatClampNeg) := inb_of Sz2 ⟨hi0, hlt⟩
  have hat2 : cl2.slots[(i).toNatClampNeg]? = some .null := atH Hs2 hin2 (getH_miss hi0 hir (getH_all rfl _))
  have pre3 : ∀ t, Steps p.tables e below (T0.setTop (mkF m 39 #[.val (.ref o0), .val (.ref o1), .val (.int p2), .val (.long w), .second, .val (.ref o1), .val (.int n), .val (.int i), s8] [.null])) t → Steps p.tables e below (T0.setTop (mkF m 27 #[.val (.ref o0), .val (.ref o1), .val (.int p2), .val (.long w), .second, .val (.ref o1), .val (.int n), .val (.int i), s8] [])) t := fun t k => pre1 t (by
    show Steps p.tables e below (T0.setTop (mkF m 38 #[.val (.ref o0), .val (.ref o1), .val (.int p2), .val (.long w), .second, .val (.ref o1), .val (.int n), .val (.int i), s8] [(.int i), (.ref o1)])) _
    refine X0.aaload hx (j := i) (v := .null) (by rw [e0]; exact Ar2.1) (State.isArrayOf_alike hZ.alike Ar2.2.1) rfl Ar2.2.2 hin2 hat2 (g := (mkF m 38 #[.val (.ref o0), .val (.ref o1), .val (.int p2), .val (.long w), .second, .val (.ref o1), .val (.int n), .val (.int i), s8] [(.int i), (.ref o1)])) rfl rfl (hb hby d4_38) _ ?_
    exact k)
  have pre4 : ∀ t, Steps p.tables e below (T0.setTop (mkF m 56 #[.val (.ref o0), .val (.ref o1), .val (.int p2), .val (.long w), .second, .val (.ref o1), .val (.int n), .val (.int i), .val .null] [(.long (0 : Int64)), (.long w)])) t → Steps p.tables e below (T0.setTop (mkF m 27 #[.val (.ref o0), .val (.ref o1), .val (.int p2), .val (.long w), .second, .val (.ref o1), .val (.int n), .val (.int i), s8] [])) t := fun t k => pre3 t (by
    show Steps p.tables e below (T0.setTop (mkF m 39 #[.val (.ref o0), .val (.ref o1), .val (.int p2), .val (.long w), .second, .val (.ref o1), .val (.int n), .val (.int i), s8] [.null])) _
    refine XS.astoreS X0.here hx rfl (hb hby d4_39) rfl rfl rfl rfl hs8 ?_
    show Steps p.tables e below (T0.setTop (mkF m 41 #[.val (.ref o0), .val (.ref o1), .val (.int p2), .val (.long w), .second, .val (.ref o1), .val (.int n), .val (.int i), .val .null] [])) _
    refine XS.lloadN X0.here hx rfl (hb hby d4_41) rfl ?_
    show Steps p.tables e below (T0.setTop (mkF m 42 #[.val (.ref o0), .val (.ref o1), .val (.int p2), .val (.long w), .second, .val (.ref o1), .val (.int n), .val (.int i), .val .null] [(.long w)])) _
    refine XS.aload X0.here hx rfl (hb hby d4_42) rfl rfl ?_
    show Steps p.tables e below (T0.setTop (mkF m 44 #[.val (.ref o0), .val (.ref o1), .val (.int p2), .val (.long w), .second, .val (.ref o1), .val (.int n), .val (.int i), .val .null] [.null, (.long w)])) _
    refine XS.ifnonnullNo X0.here hx rfl (hb hby d4_44) rfl ?_
    show Steps p.tables e below (T0.setTop (mkF m 47 #[.val (.ref o0), .val (.ref o1), .val (.int p2), .val (.long w), .second, .val (.ref o1), .val (.int n), .val (.int i), .val .null] [(.long w)])) _
    refine XS.lconst X0.here hx rfl (hb hby d4_47) ?_
    show Steps p.tables e below (T0.setTop (mkF m 48 #[.val (.ref o0), .val (.ref o1), .val (.int p2), .val (.long w), .second, .val (.ref o1), .val (.int n), .val (.int i), .val .null] [(.long (0 : Int64)), (.long w)])) _
    refine XS.goto X0.here hx rfl (pc0 := 48) (pc' := 56) rfl (hb hby d4_48) (by decide) (by decide) ?_
    exact k)
  obtain ⟨_, _, ⟨T5, L5, k5, n5⟩, -, X5, ⟨Lc5, hQ5, l5, y5, z5⟩, st5⟩ := Jvm.LawKit.callS X0 hx (y := (⟨"java/lang/Math", "max", "(JJ)J"⟩ : MethodName)) hown (mvT hZ (hw _ (List.mem_of_getElem? (i := 36) rfl))) (mvT hZ (hw _ (List.mem_of_getElem? (i := 37) rfl))) (mvT hZ (hw _ (List.mem_of_getElem? (i := 38) rfl))) (mvT hZ (hw _ (List.mem_of_getElem? (i := 39) rfl))) (by decide) (backOf (W := 0) (rm5 l Z a0 hw [] w (0 : Int64) h0 n0 Z0) hZ (hw _ (List.mem_of_getElem? (i := 39) rfl)) (hw _ (List.mem_of_getElem? (i := 38) rfl)) (by decide) (by decide)) (g := (mkF m 56 #[.val (.ref o0), .val (.ref o1), .val (.int p2), .val (.long w), .second, .val (.ref o1), .val (.int n), .val (.int i), .val .null] [(.long (0 : Int64)), (.long w)])) rfl (by rw [hml]; rfl) (argsL := [(.long w), (.long (0 : Int64))]) (rest := []) (lenOf pd__JJ_J rfl) rfl (by show 2 * 0 + _ ≤ _; exact Nat.le_of_eq rfl) (hb hby d4_56) (fun _ _ => ⟨rfl, e0, (by decide : 0 + 0 ≤ _), (by decide : 0 + 0 ≤ _)⟩)
  dsimp only [Pt.U, Pt.locs, Pt.cells, Pt.slots] at X5 l5 y5 z5 st5 hQ5
  subst l5 y5 z5
  obtain ⟨rfl, Nq5, e5⟩ := hQ5
  have N5 := Fr.app N0 Nq5
  have pre6 : ∀ t, Steps p.tables e below (T5.setTop (mkF m 59 #[.val (.ref o0), .val (.ref o1), .val (.int p2), .val (.long w), .second, .val (.ref o1), .val (.int n), .val (.int i), .val .null] [(.long (f5 w (0 : Int64)))])) t → Steps p.tables e below (T0.setTop (mkF m 27 #[.val (.ref o0), .val (.ref o1), .val (.int p2), .val (.long w), .second, .val (.ref o1), .val (.int n), .val (.int i), s8] [])) t := fun t k => pre4 t (st5 _ k)
  have pre7 : ∀ t, Steps p.tables e below (T5.setTop (mkF m 27 #[.val (.ref o0), .val (.ref o1), .val (.int p2), .val (.long (f5 w (0 : Int64))), .second, .val (.ref o1), .val (.int n), .val (.int (i + (1 : Int32))), .val .null] [])) t → Steps p.tables e below (T0.setTop (mkF m 27 #[.val (.ref o0), .val (.ref o1), .val (.int p2), .val (.long w), .second, .val (.ref o1), .val (.int n), .val (.int i), s8] [])) t := fun t k => pre6 t (by
    show Steps p.tables e below (T5.setTop (mkF m 59 #[.val (.ref o0), .val (.ref o1), .val (.int p2), .val (.long w), .second, .val (.ref o1), .val (.int n), .val (.int i), .val .null] [(.long (f5 w (0 : Int64)))])) _
    refine XS.lstoreN X5.here hx rfl (hb hby d4_59) rfl (l' := #[.val (.ref o0), .val (.ref o1), .val (.int p2), .val (.long (f5 w (0 : Int64))), .second, .val (.ref o1), .val (.int n), .val (.int i), .val .null]) rfl ?_
    show Steps p.tables e below (T5.setTop (mkF m 60 #[.val (.ref o0), .val (.ref o1), .val (.int p2), .val (.long (f5 w (0 : Int64))), .second, .val (.ref o1), .val (.int n), .val (.int i), .val .null] [])) _
    refine XS.iinc X5.here hx rfl (hb hby d4_60) rfl (l' := #[.val (.ref o0), .val (.ref o1), .val (.int p2), .val (.long (f5 w (0 : Int64))), .second, .val (.ref o1), .val (.int n), .val (.int (i + (1 : Int32))), .val .null]) rfl ?_
    show Steps p.tables e below (T5.setTop (mkF m 63 #[.val (.ref o0), .val (.ref o1), .val (.int p2), .val (.long (f5 w (0 : Int64))), .second, .val (.ref o1), .val (.int n), .val (.int (i + (1 : Int32))), .val .null] [])) _
    refine XS.goto X5.here hx rfl (pc0 := 63) (pc' := 27) rfl (hb hby d4_63) (by decide) (by decide) ?_
    exact k)
  exact ⟨T5, _, X5, e5, N5, fun t k => pre7 t (k)⟩
set_option maxRecDepth 65536 in
set_option maxHeartbeats 40000000 in
theorem tn1e {p : Program} {l : Launch} {e : Env} {s : State} {m : MethodId} {args : Array Value} {below : List Frame} {meth : Method} {c : Code} {T0 : State} {locs : List Loc} {Z : State} {a0 : Array Value} {h0 : Heap} {n0 : Nat} {o0 : Addr} {o1 : Addr} {p2 : Int32} {ka : ClassId} {n : Int32} {r : Int32} {ob : Addr} {w : Int64} {i : Int32} {s8 : Slot}
    (X0 : Stand p l e ({ frames := 1, cells := 0, slots := 0, locals := 15 } : Room) s m args below meth c T0 locs 0 0) (hx : p.tables.exec = Jvm.exec) (hZ : Z.Warmed39 s.vm) (hw : ∀ d ∈ tables_1, d.before a0 Z = true) (hby : c.code = prog_43_method_2_code) (hml : c.maxLocals = 9) (hown : s.vm.findClass "com/example/stint/stint/store/Decision" = some m.cls) (e0 : T0.heap = h0) (N0 : Fr n0 locs) (Z0 : n0 ≤ h0.size) (hlt : ¬ (i < n)) :
    ∃ (T' : State) (L' : List Loc), Stand p l e ({ frames := 1, cells := 0, slots := 0, locals := 15 } : Room) s m args below meth c T' L' 0 0 ∧ T'.heap = h0 ∧ Fr n0 L' ∧ ∀ t, Steps p.tables e below (T'.setTop (mkF m 66 #[.val (.ref o0), .val (.ref o1), .val (.int p2), .val (.long w), .second, .val (.ref o1), .val (.int n), .val (.int i), s8] [])) t → Steps p.tables e below (T0.setTop (mkF m 27 #[.val (.ref o0), .val (.ref o1), .val (.int p2), .val (.long w), .second, .val (.ref o1), .val (.int n), .val (.int i), s8] [])) t := by
  have pre0 : ∀ t, Steps p.tables e below (T0.setTop (mkF m 27 #[.val (.ref o0), .val (.ref o1), .val (.int p2), .val (.long w), .second, .val (.ref o1), .val (.int n), .val (.int i), s8] [])) t → Steps p.tables e below (T0.setTop (mkF m 27 #[.val (.ref o0), .val (.ref o1), .val (.int p2), .val (.long w), .second, .val (.ref o1), .val (.int n), .val (.int i), s8] [])) t := fun t k => k
  have pre1 : ∀ t, Steps p.tables e below (T0.setTop (mkF m 66 #[.val (.ref o0), .val (.ref o1), .val (.int p2), .val (.long w), .second, .val (.ref o1), .val (.int n), .val (.int i), s8] [])) t → Steps p.tables e below (T0.setTop (mkF m 27 #[.val (.ref o0), .val (.ref o1), .val (.int p2), .val (.long w), .second, .val (.ref o1), .val (.int n), .val (.int i), s8] [])) t := fun t k => pre0 t (by
    show Steps p.tables e below (T0.setTop (mkF m 27 #[.val (.ref o0), .val (.ref o1), .val (.int p2), .val (.long w), .second, .val (.ref o1), .val (.int n), .val (.int i), s8] [])) _
    refine XS.iload X0.here hx rfl (hb hby d4_27) rfl ?_
    show Steps p.tables e below (T0.setTop (mkF m 29 #[.val (.ref o0), .val (.ref o1), .val (.int p2), .val (.long w), .second, .val (.ref o1), .val (.int n), .val (.int i), s8] [(.int i)])) _
    refine XS.iload X0.here hx rfl (hb hby d4_29) rfl ?_
    show Steps p.tables e below (T0.setTop (mkF m 31 #[.val (.ref o0), .val (.ref o1), .val (.int p2), .val (.long w), .second, .val (.ref o1), .val (.int n), .val (.int i), s8] [(.int n), (.int i)])) _
    refine XS.icmpYes X0.here hx rfl (pc0 := 31) (pc' := 66) rfl (hb hby d4_31) rfl (flt hlt).2.1 (by decide) (by decide) ?_
    exact k)
  exact ⟨T0, _, X0, e0, N0, fun t k => pre1 t (k)⟩
theorem d4_83 : decode prog_43_method_2_code 83 = .ok (.iload 7, 2) := by decide +kernel
theorem d4_85 : decode prog_43_method_2_code 85 = .ok (.aload_n 1, 1) := by decide +kernel
theorem d4_86 : decode prog_43_method_2_code 86 = .ok (.arraylength, 1) := by decide +kernel
theorem d4_87 : decode prog_43_method_2_code 87 = .ok (.if_icmp .ge 88, 3) := by decide +kernel
theorem d4_90 : decode prog_43_method_2_code 90 = .ok (.aload_n 1, 1) := by decide +kernel
theorem d4_91 : decode prog_43_method_2_code 91 = .ok (.iload 7, 2) := by decide +kernel
theorem d4_93 : decode prog_43_method_2_code 93 = .ok (.aaload, 1) := by decide +kernel
theorem d4_94 : decode prog_43_method_2_code 94 = .ok (.astore 8, 2) := by decide +kernel
theorem d4_96 : decode prog_43_method_2_code 96 = .ok (.aload 8, 2) := by decide +kernel
theorem d4_98 : decode prog_43_method_2_code 98 = .ok (.ifnonnull 6, 3) := by decide +kernel
theorem d4_104 : decode prog_43_method_2_code 104 = .ok (.iload 6, 2) := by decide +kernel
theorem d4_106 : decode prog_43_method_2_code 106 = .ok (.ifCond .ge 10, 3) := by decide +kernel
theorem d4_109 : decode prog_43_method_2_code 109 = .ok (.iload 7, 2) := by decide +kernel
theorem d4_111 : decode prog_43_method_2_code 111 = .ok (.istore 6, 2) := by decide +kernel
theorem d4_113 : decode prog_43_method_2_code 113 = .ok (.goto 56, 3) := by decide +kernel
theorem d4_169 : decode prog_43_method_2_code 169 = .ok (.iinc 7 1, 3) := by decide +kernel
theorem d4_172 : decode prog_43_method_2_code 172 = .ok (.goto (-89), 3) := by decide +kernel
set_option maxRecDepth 65536 in
set_option maxHeartbeats 40000000 in
theorem tn2h {p : Program} {l : Launch} {e : Env} {s : State} {m : MethodId} {args : Array Value} {below : List Frame} {meth : Method} {c : Code} {T0 : State} {locs : List Loc} {Z : State} {a0 : Array Value} {h0 : Heap} {n0 : Nat} {o0 : Addr} {o1 : Addr} {p2 : Int32} {ka : ClassId} {n : Int32} {r : Int32} {ob : Addr} {w : Int64} {ad : Int32} {rp : Int32} {i : Int32} {s8 : Slot}
    (X0 : Stand p l e ({ frames := 1, cells := 0, slots := 0, locals := 15 } : Room) s m args below meth c T0 locs 0 0) (hx : p.tables.exec = Jvm.exec) (hZ : Z.Warmed39 s.vm) (hw : ∀ d ∈ tables_1, d.before a0 Z = true) (hby : c.code = prog_43_method_2_code) (hml : c.maxLocals = 9) (hown : s.vm.findClass "com/example/stint/stint/store/Decision" = some m.cls) (e0 : T0.heap = h0) (N0 : Fr n0 locs) (Z0 : n0 ≤ h0.size) (I0 : Arh Z h0 o1 ka (.object "com/example/stint/stint/store/Decision$Outcome") n [(r, (.ref ob))] [] .null) (hs8 : One s8) (hi0 : ¬ i < 0) (hlt : i < n) (hir : i = r) (hrp : rp < (0 : Int32)) :
    ∃ (T' : State) (L' : List Loc), Stand p l e ({ frames := 1, cells := 0, slots := 0, locals := 15 } : Room) s m args below meth c T' L' 0 0 ∧ T'.heap = h0 ∧ Fr n0 L' ∧ ∀ t, Steps p.tables e below (T'.setTop (mkF m 83 #[.val (.ref o0), .val (.ref o1), .val (.int p2), .val (.long w), .second, .val (.int ad), .val (.int i), .val (.int (i + (1 : Int32))), .val (.ref ob)] [])) t → Steps p.tables e below (T0.setTop (mkF m 83 #[.val (.ref o0), .val (.ref o1), .val (.int p2), .val (.long w), .second, .val (.int ad), .val (.int rp), .val (.int i), s8] [])) t := by
  have pre0 : ∀ t, Steps p.tables e below (T0.setTop (mkF m 83 #[.val (.ref o0), .val (.ref o1), .val (.int p2), .val (.long w), .second, .val (.int ad), .val (.int rp), .val (.int i), s8] [])) t → Steps p.tables e below (T0.setTop (mkF m 83 #[.val (.ref o0), .val (.ref o1), .val (.int p2), .val (.long w), .second, .val (.int ad), .val (.int rp), .val (.int i), s8] [])) t := fun t k => k
  have pre1 : ∀ t, Steps p.tables e below (T0.setTop (mkF m 86 #[.val (.ref o0), .val (.ref o1), .val (.int p2), .val (.long w), .second, .val (.int ad), .val (.int rp), .val (.int i), s8] [(.ref o1), (.int i)])) t → Steps p.tables e below (T0.setTop (mkF m 83 #[.val (.ref o0), .val (.ref o1), .val (.int p2), .val (.long w), .second, .val (.int ad), .val (.int rp), .val (.int i), s8] [])) t := fun t k => pre0 t (by
    show Steps p.tables e below (T0.setTop (mkF m 83 #[.val (.ref o0), .val (.ref o1), .val (.int p2), .val (.long w), .second, .val (.int ad), .val (.int rp), .val (.int i), s8] [])) _
    refine XS.iload X0.here hx rfl (hb hby d4_83) rfl ?_
    show Steps p.tables e below (T0.setTop (mkF m 85 #[.val (.ref o0), .val (.ref o1), .val (.int p2), .val (.long w), .second, .val (.int ad), .val (.int rp), .val (.int i), s8] [(.int i)])) _
    refine XS.aloadN X0.here hx rfl (hb hby d4_85) rfl rfl ?_
    exact k)
  obtain ⟨cl2, Ar2, -, Sz2, Mn2, Hs2, -⟩ := id I0
  have pre3 : ∀ t, Steps p.tables e below (T0.setTop (mkF m 87 #[.val (.ref o0), .val (.ref o1), .val (.int p2), .val (.long w), .second, .val (.int ad), .val (.int rp), .val (.int i), s8] [(.int n), (.int i)])) t → Steps p.tables e below (T0.setTop (mkF m 83 #[.val (.ref o0), .val (.ref o1), .val (.int p2), .val (.long w), .second, .val (.int ad), .val (.int rp), .val (.int i), s8] [])) t := fun t k => pre1 t (by
    show Steps p.tables e below (T0.setTop (mkF m 86 #[.val (.ref o0), .val (.ref o1), .val (.int p2), .val (.long w), .second, .val (.int ad), .val (.int rp), .val (.int i), s8] [(.ref o1), (.int i)])) _
    refine X0.arraylength hx (by rw [e0]; exact Ar2.1) (State.isArrayOf_alike hZ.alike Ar2.2.1) (g := (mkF m 86 #[.val (.ref o0), .val (.ref o1), .val (.int p2), .val (.long w), .second, .val (.int ad), .val (.int rp), .val (.int i), s8] [(.ref o1), (.int i)])) rfl rfl (hb hby d4_86) _ ?_
    rw [len_of Sz2 Mn2]
    exact k)
  have pre4 : ∀ t, Steps p.tables e below (T0.setTop (mkF m 93 #[.val (.ref o0), .val (.ref o1), .val (.int p2), .val (.long w), .second, .val (.int ad), .val (.int rp), .val (.int i), s8] [(.int i), (.ref o1)])) t → Steps p.tables e below (T0.setTop (mkF m 83 #[.val (.ref o0), .val (.ref o1), .val (.int p2), .val (.long w), .second, .val (.int ad), .val (.int rp), .val (.int i), s8] [])) t := fun t k => pre3 t (by
    show Steps p.tables e below (T0.setTop (mkF m 87 #[.val (.ref o0), .val (.ref o1), .val (.int p2), .val (.long w), .second, .val (.int ad), .val (.int rp), .val (.int i), s8] [(.int n), (.int i)])) _
    refine XS.icmpNo X0.here hx rfl (hb hby d4_87) rfl (tlt hlt).2.1 ?_
    show Steps p.tables e below (T0.setTop (mkF m 90 #[.val (.ref o0), .val (.ref o1), .val (.int p2), .val (.long w), .second, .val (.int ad), .val (.int rp), .val (.int i), s8] [])) _
    refine XS.aloadN X0.here hx rfl (hb hby d4_90) rfl rfl ?_
    show Steps p.tables e below (T0.setTop (mkF m 91 #[.val (.ref o0), .val (.ref o1), .val (.int p2), .val (.long w), .second, .val (.int ad), .val (.int rp), .val (.int i), s8] [(.ref o1)])) _
    refine XS.iload X0.here hx rfl (hb hby d4_91) rfl ?_
    exact k)
  obtain ⟨cl5, Ar5, -, Sz5, Mn5, Hs5, -⟩ := id I0
  have hin5 : ¬ (i < 0 ∨ cl5.slots.size ≤ (i).toNatClampNeg) := inb_of Sz5 ⟨hi0, hlt⟩
  have hat5 : cl5.slots[(i).toNatClampNeg]? = some (.ref ob) := atH Hs5 hin5 (getH_hit hi0 hir)
  have pre6 : ∀ t, Steps p.tables e below (T0.setTop (mkF m 94 #[.val (.ref o0), .val (.ref o1), .val (.int p2), .val (.long w), .second, .val (.int ad), .val (.int rp), .val (.int i), s8] [(.ref ob)])) t → Steps p.tables e below (T0.setTop (mkF m 83 #[.val (.ref o0), .val (.ref o1), .val (.int p2), .val (.long w), .second, .val (.int ad), .val (.int rp), .val (.int i), s8] [])) t := fun t k => pre4 t (by
    show Steps p.tables e below (T0.setTop (mkF m 93 #[.val (.ref o0), .val (.ref o1), .val (.int p2), .val (.long w), .second, .val (.int ad), .val (.int rp), .val (.int i), s8] [(.int i), (.ref o1)])) _
    refine X0.aaload hx (j := i) (v := (.ref ob)) (by rw [e0]; exact Ar5.1) (State.isArrayOf_alike hZ.alike Ar5.2.1) rfl Ar5.2.2 hin5 hat5 (g := (mkF m 93 #[.val (.ref o0), .val (.ref o1), .val (.int p2), .val (.long w), .second, .val (.int ad), .val (.int rp), .val (.int i), s8] [(.int i), (.ref o1)])) rfl rfl (hb hby d4_93) _ ?_
    exact k)
  have pre7 : ∀ t, Steps p.tables e below (T0.setTop (mkF m 83 #[.val (.ref o0), .val (.ref o1), .val (.int p2), .val (.long w), .second, .val (.int ad), .val (.int i), .val (.int (i + (1 : Int32))), .val (.ref ob)] [])) t → Steps p.tables e below (T0.setTop (mkF m 83 #[.val (.ref o0), .val (.ref o1), .val (.int p2), .val (.long w), .second, .val (.int ad), .val (.int rp), .val (.int i), s8] [])) t := fun t k => pre6 t (by
    show Steps p.tables e below (T0.setTop (mkF m 94 #[.val (.ref o0), .val (.ref o1), .val (.int p2), .val (.long w), .second, .val (.int ad), .val (.int rp), .val (.int i), s8] [(.ref ob)])) _
    refine XS.astoreS X0.here hx rfl (hb hby d4_94) rfl rfl rfl rfl hs8 ?_
    show Steps p.tables e below (T0.setTop (mkF m 96 #[.val (.ref o0), .val (.ref o1), .val (.int p2), .val (.long w), .second, .val (.int ad), .val (.int rp), .val (.int i), .val (.ref ob)] [])) _
    refine XS.aload X0.here hx rfl (hb hby d4_96) rfl rfl ?_
    show Steps p.tables e below (T0.setTop (mkF m 98 #[.val (.ref o0), .val (.ref o1), .val (.int p2), .val (.long w), .second, .val (.int ad), .val (.int rp), .val (.int i), .val (.ref ob)] [(.ref ob)])) _
    refine XS.ifnonnullYes X0.here hx rfl (pc0 := 98) (pc' := 104) rfl (hb hby d4_98) rfl (by decide) (by decide) ?_
    show Steps p.tables e below (T0.setTop (mkF m 104 #[.val (.ref o0), .val (.ref o1), .val (.int p2), .val (.long w), .second, .val (.int ad), .val (.int rp), .val (.int i), .val (.ref ob)] [])) _
    refine XS.iload X0.here hx rfl (hb hby d4_104) rfl ?_
    show Steps p.tables e below (T0.setTop (mkF m 106 #[.val (.ref o0), .val (.ref o1), .val (.int p2), .val (.long w), .second, .val (.int ad), .val (.int rp), .val (.int i), .val (.ref ob)] [(.int rp)])) _
    refine XS.ifNo X0.here hx rfl (hb hby d4_106) rfl ((if0 _ _).trans (tlt hrp).2.1) ?_
    show Steps p.tables e below (T0.setTop (mkF m 109 #[.val (.ref o0), .val (.ref o1), .val (.int p2), .val (.long w), .second, .val (.int ad), .val (.int rp), .val (.int i), .val (.ref ob)] [])) _
    refine XS.iload X0.here hx rfl (hb hby d4_109) rfl ?_
    show Steps p.tables e below (T0.setTop (mkF m 111 #[.val (.ref o0), .val (.ref o1), .val (.int p2), .val (.long w), .second, .val (.int ad), .val (.int rp), .val (.int i), .val (.ref ob)] [(.int i)])) _
    refine XS.istore X0.here hx rfl (hb hby d4_111) rfl (l' := #[.val (.ref o0), .val (.ref o1), .val (.int p2), .val (.long w), .second, .val (.int ad), .val (.int i), .val (.int i), .val (.ref ob)]) rfl ?_
    show Steps p.tables e below (T0.setTop (mkF m 113 #[.val (.ref o0), .val (.ref o1), .val (.int p2), .val (.long w), .second, .val (.int ad), .val (.int i), .val (.int i), .val (.ref ob)] [])) _
    refine XS.goto X0.here hx rfl (pc0 := 113) (pc' := 169) rfl (hb hby d4_113) (by decide) (by decide) ?_
    show Steps p.tables e below (T0.setTop (mkF m 169 #[.val (.ref o0), .val (.ref o1), .val (.int p2), .val (.long w), .second, .val (.int ad), .val (.int i), .val (.int i), .val (.ref ob)] [])) _
    refine XS.iinc X0.here hx rfl (hb hby d4_169) rfl (l' := #[.val (.ref o0), .val (.ref o1), .val (.int p2), .val (.long w), .second, .val (.int ad), .val (.int i), .val (.int (i + (1 : Int32))), .val (.ref ob)]) rfl ?_
    show Steps p.tables e below (T0.setTop (mkF m 172 #[.val (.ref o0), .val (.ref o1), .val (.int p2), .val (.long w), .second, .val (.int ad), .val (.int i), .val (.int (i + (1 : Int32))), .val (.ref ob)] [])) _
    refine XS.goto X0.here hx rfl (pc0 := 172) (pc' := 83) rfl (hb hby d4_172) (by decide) (by decide) ?_
    exact k)
  exact ⟨T0, _, X0, e0, N0, fun t k => pre7 t (k)⟩
theorem d4_101 : decode prog_43_method_2_code 101 = .ok (.goto 68, 3) := by decide +kernel
set_option maxRecDepth 65536 in
set_option maxHeartbeats 40000000 in
theorem tn2m {p : Program} {l : Launch} {e : Env} {s : State} {m : MethodId} {args : Array Value} {below : List Frame} {meth : Method} {c : Code} {T0 : State} {locs : List Loc} {Z : State} {a0 : Array Value} {h0 : Heap} {n0 : Nat} {o0 : Addr} {o1 : Addr} {p2 : Int32} {ka : ClassId} {n : Int32} {r : Int32} {ob : Addr} {w : Int64} {ad : Int32} {rp : Int32} {i : Int32} {s8 : Slot}
    (X0 : Stand p l e ({ frames := 1, cells := 0, slots := 0, locals := 15 } : Room) s m args below meth c T0 locs 0 0) (hx : p.tables.exec = Jvm.exec) (hZ : Z.Warmed39 s.vm) (hw : ∀ d ∈ tables_1, d.before a0 Z = true) (hby : c.code = prog_43_method_2_code) (hml : c.maxLocals = 9) (hown : s.vm.findClass "com/example/stint/stint/store/Decision" = some m.cls) (e0 : T0.heap = h0) (N0 : Fr n0 locs) (Z0 : n0 ≤ h0.size) (I0 : Arh Z h0 o1 ka (.object "com/example/stint/stint/store/Decision$Outcome") n [(r, (.ref ob))] [] .null) (hs8 : One s8) (hi0 : ¬ i < 0) (hlt : i < n) (hir : ¬ (i = r)) :
    ∃ (T' : State) (L' : List Loc), Stand p l e ({ frames := 1, cells := 0, slots := 0, locals := 15 } : Room) s m args below meth c T' L' 0 0 ∧ T'.heap = h0 ∧ Fr n0 L' ∧ ∀ t, Steps p.tables e below (T'.setTop (mkF m 83 #[.val (.ref o0), .val (.ref o1), .val (.int p2), .val (.long w), .second, .val (.int ad), .val (.int rp), .val (.int (i + (1 : Int32))), .val .null] [])) t → Steps p.tables e below (T0.setTop (mkF m 83 #[.val (.ref o0), .val (.ref o1), .val (.int p2), .val (.long w), .second, .val (.int ad), .val (.int rp), .val (.int i), s8] [])) t := by
  have pre0 : ∀ t, Steps p.tables e below (T0.setTop (mkF m 83 #[.val (.ref o0), .val (.ref o1), .val (.int p2), .val (.long w), .second, .val (.int ad), .val (.int rp), .val (.int i), s8] [])) t → Steps p.tables e below (T0.setTop (mkF m 83 #[.val (.ref o0), .val (.ref o1), .val (.int p2), .val (.long w), .second, .val (.int ad), .val (.int rp), .val (.int i), s8] [])) t := fun t k => k
  have pre1 : ∀ t, Steps p.tables e below (T0.setTop (mkF m 86 #[.val (.ref o0), .val (.ref o1), .val (.int p2), .val (.long w), .second, .val (.int ad), .val (.int rp), .val (.int i), s8] [(.ref o1), (.int i)])) t → Steps p.tables e below (T0.setTop (mkF m 83 #[.val (.ref o0), .val (.ref o1), .val (.int p2), .val (.long w), .second, .val (.int ad), .val (.int rp), .val (.int i), s8] [])) t := fun t k => pre0 t (by
    show Steps p.tables e below (T0.setTop (mkF m 83 #[.val (.ref o0), .val (.ref o1), .val (.int p2), .val (.long w), .second, .val (.int ad), .val (.int rp), .val (.int i), s8] [])) _
    refine XS.iload X0.here hx rfl (hb hby d4_83) rfl ?_
    show Steps p.tables e below (T0.setTop (mkF m 85 #[.val (.ref o0), .val (.ref o1), .val (.int p2), .val (.long w), .second, .val (.int ad), .val (.int rp), .val (.int i), s8] [(.int i)])) _
    refine XS.aloadN X0.here hx rfl (hb hby d4_85) rfl rfl ?_
    exact k)
  obtain ⟨cl2, Ar2, -, Sz2, Mn2, Hs2, -⟩ := id I0
  have pre3 : ∀ t, Steps p.tables e below (T0.setTop (mkF m 87 #[.val (.ref o0), .val (.ref o1), .val (.int p2), .val (.long w), .second, .val (.int ad), .val (.int rp), .val (.int i), s8] [(.int n), (.int i)])) t → Steps p.tables e below (T0.setTop (mkF m 83 #[.val (.ref o0), .val (.ref o1), .val (.int p2), .val (.long w), .second, .val (.int ad), .val (.int rp), .val (.int i), s8] [])) t := fun t k => pre1 t (by
    show Steps p.tables e below (T0.setTop (mkF m 86 #[.val (.ref o0), .val (.ref o1), .val (.int p2), .val (.long w), .second, .val (.int ad), .val (.int rp), .val (.int i), s8] [(.ref o1), (.int i)])) _
    refine X0.arraylength hx (by rw [e0]; exact Ar2.1) (State.isArrayOf_alike hZ.alike Ar2.2.1) (g := (mkF m 86 #[.val (.ref o0), .val (.ref o1), .val (.int p2), .val (.long w), .second, .val (.int ad), .val (.int rp), .val (.int i), s8] [(.ref o1), (.int i)])) rfl rfl (hb hby d4_86) _ ?_
    rw [len_of Sz2 Mn2]
    exact k)
  have pre4 : ∀ t, Steps p.tables e below (T0.setTop (mkF m 93 #[.val (.ref o0), .val (.ref o1), .val (.int p2), .val (.long w), .second, .val (.int ad), .val (.int rp), .val (.int i), s8] [(.int i), (.ref o1)])) t → Steps p.tables e below (T0.setTop (mkF m 83 #[.val (.ref o0), .val (.ref o1), .val (.int p2), .val (.long w), .second, .val (.int ad), .val (.int rp), .val (.int i), s8] [])) t := fun t k => pre3 t (by
    show Steps p.tables e below (T0.setTop (mkF m 87 #[.val (.ref o0), .val (.ref o1), .val (.int p2), .val (.long w), .second, .val (.int ad), .val (.int rp), .val (.int i), s8] [(.int n), (.int i)])) _
    refine XS.icmpNo X0.here hx rfl (hb hby d4_87) rfl (tlt hlt).2.1 ?_
    show Steps p.tables e below (T0.setTop (mkF m 90 #[.val (.ref o0), .val (.ref o1), .val (.int p2), .val (.long w), .second, .val (.int ad), .val (.int rp), .val (.int i), s8] [])) _
    refine XS.aloadN X0.here hx rfl (hb hby d4_90) rfl rfl ?_
    show Steps p.tables e below (T0.setTop (mkF m 91 #[.val (.ref o0), .val (.ref o1), .val (.int p2), .val (.long w), .second, .val (.int ad), .val (.int rp), .val (.int i), s8] [(.ref o1)])) _
    refine XS.iload X0.here hx rfl (hb hby d4_91) rfl ?_
    exact k)
  obtain ⟨cl5, Ar5, -, Sz5, Mn5, Hs5, -⟩ := id I0
  have hin5 : ¬ (i < 0 ∨ cl5.slots.size ≤ (i).toNatClampNeg) := inb_of Sz5 ⟨hi0, hlt⟩
  have hat5 : cl5.slots[(i).toNatClampNeg]? = some .null := atH Hs5 hin5 (getH_miss hi0 hir (getH_all rfl _))
  have pre6 : ∀ t, Steps p.tables e below (T0.setTop (mkF m 94 #[.val (.ref o0), .val (.ref o1), .val (.int p2), .val (.long w), .second, .val (.int ad), .val (.int rp), .val (.int i), s8] [.null])) t → Steps p.tables e below (T0.setTop (mkF m 83 #[.val (.ref o0), .val (.ref o1), .val (.int p2), .val (.long w), .second, .val (.int ad), .val (.int rp), .val (.int i), s8] [])) t := fun t k => pre4 t (by
    show Steps p.tables e below (T0.setTop (mkF m 93 #[.val (.ref o0), .val (.ref o1), .val (.int p2), .val (.long w), .second, .val (.int ad), .val (.int rp), .val (.int i), s8] [(.int i), (.ref o1)])) _
    refine X0.aaload hx (j := i) (v := .null) (by rw [e0]; exact Ar5.1) (State.isArrayOf_alike hZ.alike Ar5.2.1) rfl Ar5.2.2 hin5 hat5 (g := (mkF m 93 #[.val (.ref o0), .val (.ref o1), .val (.int p2), .val (.long w), .second, .val (.int ad), .val (.int rp), .val (.int i), s8] [(.int i), (.ref o1)])) rfl rfl (hb hby d4_93) _ ?_
    exact k)
  have pre7 : ∀ t, Steps p.tables e below (T0.setTop (mkF m 83 #[.val (.ref o0), .val (.ref o1), .val (.int p2), .val (.long w), .second, .val (.int ad), .val (.int rp), .val (.int (i + (1 : Int32))), .val .null] [])) t → Steps p.tables e below (T0.setTop (mkF m 83 #[.val (.ref o0), .val (.ref o1), .val (.int p2), .val (.long w), .second, .val (.int ad), .val (.int rp), .val (.int i), s8] [])) t := fun t k => pre6 t (by
    show Steps p.tables e below (T0.setTop (mkF m 94 #[.val (.ref o0), .val (.ref o1), .val (.int p2), .val (.long w), .second, .val (.int ad), .val (.int rp), .val (.int i), s8] [.null])) _
    refine XS.astoreS X0.here hx rfl (hb hby d4_94) rfl rfl rfl rfl hs8 ?_
    show Steps p.tables e below (T0.setTop (mkF m 96 #[.val (.ref o0), .val (.ref o1), .val (.int p2), .val (.long w), .second, .val (.int ad), .val (.int rp), .val (.int i), .val .null] [])) _
    refine XS.aload X0.here hx rfl (hb hby d4_96) rfl rfl ?_
    show Steps p.tables e below (T0.setTop (mkF m 98 #[.val (.ref o0), .val (.ref o1), .val (.int p2), .val (.long w), .second, .val (.int ad), .val (.int rp), .val (.int i), .val .null] [.null])) _
    refine XS.ifnonnullNo X0.here hx rfl (hb hby d4_98) rfl ?_
    show Steps p.tables e below (T0.setTop (mkF m 101 #[.val (.ref o0), .val (.ref o1), .val (.int p2), .val (.long w), .second, .val (.int ad), .val (.int rp), .val (.int i), .val .null] [])) _
    refine XS.goto X0.here hx rfl (pc0 := 101) (pc' := 169) rfl (hb hby d4_101) (by decide) (by decide) ?_
    show Steps p.tables e below (T0.setTop (mkF m 169 #[.val (.ref o0), .val (.ref o1), .val (.int p2), .val (.long w), .second, .val (.int ad), .val (.int rp), .val (.int i), .val .null] [])) _
    refine XS.iinc X0.here hx rfl (hb hby d4_169) rfl (l' := #[.val (.ref o0), .val (.ref o1), .val (.int p2), .val (.long w), .second, .val (.int ad), .val (.int rp), .val (.int (i + (1 : Int32))), .val .null]) rfl ?_
    show Steps p.tables e below (T0.setTop (mkF m 172 #[.val (.ref o0), .val (.ref o1), .val (.int p2), .val (.long w), .second, .val (.int ad), .val (.int rp), .val (.int (i + (1 : Int32))), .val .null] [])) _
    refine XS.goto X0.here hx rfl (pc0 := 172) (pc' := 83) rfl (hb hby d4_172) (by decide) (by decide) ?_
    exact k)
  exact ⟨T0, _, X0, e0, N0, fun t k => pre7 t (k)⟩
set_option maxRecDepth 65536 in
set_option maxHeartbeats 40000000 in
theorem tn2e {p : Program} {l : Launch} {e : Env} {s : State} {m : MethodId} {args : Array Value} {below : List Frame} {meth : Method} {c : Code} {T0 : State} {locs : List Loc} {Z : State} {a0 : Array Value} {h0 : Heap} {n0 : Nat} {o0 : Addr} {o1 : Addr} {p2 : Int32} {ka : ClassId} {n : Int32} {r : Int32} {ob : Addr} {w : Int64} {ad : Int32} {rp : Int32} {i : Int32} {s8 : Slot}
    (X0 : Stand p l e ({ frames := 1, cells := 0, slots := 0, locals := 15 } : Room) s m args below meth c T0 locs 0 0) (hx : p.tables.exec = Jvm.exec) (hZ : Z.Warmed39 s.vm) (hw : ∀ d ∈ tables_1, d.before a0 Z = true) (hby : c.code = prog_43_method_2_code) (hml : c.maxLocals = 9) (hown : s.vm.findClass "com/example/stint/stint/store/Decision" = some m.cls) (e0 : T0.heap = h0) (N0 : Fr n0 locs) (Z0 : n0 ≤ h0.size) (I0 : Arh Z h0 o1 ka (.object "com/example/stint/stint/store/Decision$Outcome") n [(r, (.ref ob))] [] .null) (hlt : ¬ (i < n)) :
    ∃ (T' : State) (L' : List Loc), Stand p l e ({ frames := 1, cells := 0, slots := 0, locals := 15 } : Room) s m args below meth c T' L' 0 0 ∧ T'.heap = h0 ∧ Fr n0 L' ∧ ∀ t, Steps p.tables e below (T'.setTop (mkF m 175 #[.val (.ref o0), .val (.ref o1), .val (.int p2), .val (.long w), .second, .val (.int ad), .val (.int rp), .val (.int i), s8] [])) t → Steps p.tables e below (T0.setTop (mkF m 83 #[.val (.ref o0), .val (.ref o1), .val (.int p2), .val (.long w), .second, .val (.int ad), .val (.int rp), .val (.int i), s8] [])) t := by
  have pre0 : ∀ t, Steps p.tables e below (T0.setTop (mkF m 83 #[.val (.ref o0), .val (.ref o1), .val (.int p2), .val (.long w), .second, .val (.int ad), .val (.int rp), .val (.int i), s8] [])) t → Steps p.tables e below (T0.setTop (mkF m 83 #[.val (.ref o0), .val (.ref o1), .val (.int p2), .val (.long w), .second, .val (.int ad), .val (.int rp), .val (.int i), s8] [])) t := fun t k => k
  have pre1 : ∀ t, Steps p.tables e below (T0.setTop (mkF m 86 #[.val (.ref o0), .val (.ref o1), .val (.int p2), .val (.long w), .second, .val (.int ad), .val (.int rp), .val (.int i), s8] [(.ref o1), (.int i)])) t → Steps p.tables e below (T0.setTop (mkF m 83 #[.val (.ref o0), .val (.ref o1), .val (.int p2), .val (.long w), .second, .val (.int ad), .val (.int rp), .val (.int i), s8] [])) t := fun t k => pre0 t (by
    show Steps p.tables e below (T0.setTop (mkF m 83 #[.val (.ref o0), .val (.ref o1), .val (.int p2), .val (.long w), .second, .val (.int ad), .val (.int rp), .val (.int i), s8] [])) _
    refine XS.iload X0.here hx rfl (hb hby d4_83) rfl ?_
    show Steps p.tables e below (T0.setTop (mkF m 85 #[.val (.ref o0), .val (.ref o1), .val (.int p2), .val (.long w), .second, .val (.int ad), .val (.int rp), .val (.int i), s8] [(.int i)])) _
    refine XS.aloadN X0.here hx rfl (hb hby d4_85) rfl rfl ?_
    exact k)
  obtain ⟨cl2, Ar2, -, Sz2, Mn2, Hs2, -⟩ := id I0
  have pre3 : ∀ t, Steps p.tables e below (T0.setTop (mkF m 87 #[.val (.ref o0), .val (.ref o1), .val (.int p2), .val (.long w), .second, .val (.int ad), .val (.int rp), .val (.int i), s8] [(.int n), (.int i)])) t → Steps p.tables e below (T0.setTop (mkF m 83 #[.val (.ref o0), .val (.ref o1), .val (.int p2), .val (.long w), .second, .val (.int ad), .val (.int rp), .val (.int i), s8] [])) t := fun t k => pre1 t (by
    show Steps p.tables e below (T0.setTop (mkF m 86 #[.val (.ref o0), .val (.ref o1), .val (.int p2), .val (.long w), .second, .val (.int ad), .val (.int rp), .val (.int i), s8] [(.ref o1), (.int i)])) _
    refine X0.arraylength hx (by rw [e0]; exact Ar2.1) (State.isArrayOf_alike hZ.alike Ar2.2.1) (g := (mkF m 86 #[.val (.ref o0), .val (.ref o1), .val (.int p2), .val (.long w), .second, .val (.int ad), .val (.int rp), .val (.int i), s8] [(.ref o1), (.int i)])) rfl rfl (hb hby d4_86) _ ?_
    rw [len_of Sz2 Mn2]
    exact k)
  have pre4 : ∀ t, Steps p.tables e below (T0.setTop (mkF m 175 #[.val (.ref o0), .val (.ref o1), .val (.int p2), .val (.long w), .second, .val (.int ad), .val (.int rp), .val (.int i), s8] [])) t → Steps p.tables e below (T0.setTop (mkF m 83 #[.val (.ref o0), .val (.ref o1), .val (.int p2), .val (.long w), .second, .val (.int ad), .val (.int rp), .val (.int i), s8] [])) t := fun t k => pre3 t (by
    show Steps p.tables e below (T0.setTop (mkF m 87 #[.val (.ref o0), .val (.ref o1), .val (.int p2), .val (.long w), .second, .val (.int ad), .val (.int rp), .val (.int i), s8] [(.int n), (.int i)])) _
    refine XS.icmpYes X0.here hx rfl (pc0 := 87) (pc' := 175) rfl (hb hby d4_87) rfl (flt hlt).2.1 (by decide) (by decide) ?_
    exact k)
  exact ⟨T0, _, X0, e0, N0, fun t k => pre4 t (k)⟩
theorem own_up {i n : Int32} {k : Nat} (h0 : 0 ≤ i.toInt) (h : i.toInt + (k + 1 : Nat) = n.toInt) (hn : n.toInt ≤ 16) : ¬ i < 0 ∧ i < n ∧ (i + (1 : Int32)).toInt = i.toInt + 1 := by
  have a := c_iadd i 1
  have b := rng32 (i + 1)
  rw [show (1 : Int32).toInt = 1 from rfl] at a
  rw [Int32.lt_iff_toInt_lt, Int32.lt_iff_toInt_lt, show (0 : Int32).toInt = 0 from rfl]
  omega
theorem own_end {i n : Int32} (h : i.toInt + (0 : Nat) = n.toInt) : i = n ∧ ¬ (i < n) := by
  have e : i = n := Int32.toInt_inj.mp (by omega)
  subst e
  exact ⟨rfl, by rw [Int32.lt_iff_toInt_lt]; omega⟩
set_option maxRecDepth 65536 in
theorem own_loop1 {p : Program} {l : Launch} {e : Env} {s : State} {m : MethodId} {args : Array Value} {below : List Frame} {meth : Method} {c : Code} {Z : State} {a0 : Array Value} {h0 : Heap} {n0 : Nat} {o0 : Addr} {o1 : Addr} {p2 : Int32} {ka : ClassId} {n : Int32} {r : Int32} {ob : Addr} (hx : p.tables.exec = Jvm.exec) (hZ : Z.Warmed39 s.vm) (hw : ∀ d ∈ tables_1, d.before a0 Z = true) (hby : c.code = prog_43_method_2_code) (hml : c.maxLocals = 9) (hown : s.vm.findClass "com/example/stint/stint/store/Decision" = some m.cls) (Z0 : n0 ≤ h0.size) (VH : Arh Z h0 o1 ka (.object "com/example/stint/stint/store/Decision$Outcome") n [(r, (.ref ob))] [] .null) (FW : Fld Z h0 ob "com/example/stint/stint/store/Decision$Outcome" "waitMillis" "J" (.long (1000 : Int64))) (hn : n.toInt ≤ 16) (hr0 : 0 ≤ r.toInt) (hr1 : r.toInt < n.toInt) :
    ∀ (k : Nat) (i : Int32) (w : Int64) (s8 : Slot) (T0 : State) (locs : List Loc), 0 ≤ i.toInt → i.toInt + k = n.toInt → w = (if r < i then (1000 : Int64) else (0 : Int64)) → One s8 → Stand p l e ({ frames := 1, cells := 0, slots := 0, locals := 15 } : Room) s m args below meth c T0 locs 0 0 → T0.heap = h0 → Fr n0 locs →
      ∃ (T' : State) (L' : List Loc) (s8' : Slot), Stand p l e ({ frames := 1, cells := 0, slots := 0, locals := 15 } : Room) s m args below meth c T' L' 0 0 ∧ T'.heap = h0 ∧ Fr n0 L' ∧ One s8' ∧ ∀ t, Steps p.tables e below (T'.setTop (mkF m 66 #[.val (.ref o0), .val (.ref o1), .val (.int p2), .val (.long (1000 : Int64)), .second, .val (.ref o1), .val (.int n), .val (.int n), s8'] [])) t → Steps p.tables e below (T0.setTop (mkF m 27 #[.val (.ref o0), .val (.ref o1), .val (.int p2), .val (.long w), .second, .val (.ref o1), .val (.int n), .val (.int i), s8] [])) t := by
  intro k
  induction k with
  | zero =>
    intro i w s8 T0 locs h0i hk hwv h8 X e0 N
    obtain ⟨e1, e2⟩ := own_end hk
    subst e1
    have hw1 : w = 1000 := by rw [hwv, if_pos (by rw [Int32.lt_iff_toInt_lt]; exact hr1)]
    subst hw1
    obtain ⟨T', L', X', e', N', st⟩ := tn1e (o0 := o0) (o1 := o1) (p2 := p2) (ka := ka) (r := r) (ob := ob) (s8 := s8) X hx hZ hw hby hml hown e0 N Z0 e2
    exact ⟨T', L', s8, X', e', N', h8, st⟩
  | succ k ih =>
    intro i w s8 T0 locs h0i hk hwv h8 X e0 N
    obtain ⟨u1, u2, u3⟩ := own_up h0i hk hn
    by_cases hir : i = r
    · obtain ⟨T', L', X', e', N', st⟩ := tn1h (o0 := o0) (o1 := o1) (p2 := p2) (w := w) X hx hZ hw hby hml hown e0 N Z0 VH FW h8 u1 u2 hir
      have hv : f5 w (1000 : Int64) = if r < i + (1 : Int32) then (1000 : Int64) else (0 : Int64) := by
        rw [hwv, if_neg (by rw [Int32.lt_iff_toInt_lt, hir]; omega), if_pos (by rw [Int32.lt_iff_toInt_lt, u3, hir]; omega)]; decide
      obtain ⟨T2, L2, s2, X2, e2, N2, q2, st2⟩ := ih (i + 1) (f5 w (1000 : Int64)) (.val (.ref ob)) T' L' (by omega) (by rw [u3]; omega) hv (One.val rfl) X' e' N'
      exact ⟨T2, L2, s2, X2, e2, N2, q2, fun t kt => st t (st2 t kt)⟩
    · obtain ⟨T', L', X', e', N', st⟩ := tn1m (o0 := o0) (o1 := o1) (p2 := p2) (w := w) X hx hZ hw hby hml hown e0 N Z0 VH h8 u1 u2 hir
      have hv : f5 w (0 : Int64) = if r < i + (1 : Int32) then (1000 : Int64) else (0 : Int64) := by
        have hne : r.toInt ≠ i.toInt := fun q => hir (Int32.toInt_inj.mp q.symm)
        by_cases p : r < i
        · rw [hwv, if_pos p, if_pos (by rw [Int32.lt_iff_toInt_lt] at p ⊢; omega)]; decide
        · rw [hwv, if_neg p, if_neg (by rw [Int32.lt_iff_toInt_lt] at p ⊢; omega)]; decide
      obtain ⟨T2, L2, s2, X2, e2, N2, q2, st2⟩ := ih (i + 1) (f5 w (0 : Int64)) (.val .null) T' L' (by omega) (by rw [u3]; omega) hv (One.val rfl) X' e' N'
      exact ⟨T2, L2, s2, X2, e2, N2, q2, fun t kt => st t (st2 t kt)⟩
set_option maxRecDepth 65536 in
theorem own_loop2 {w : Int64} {ad : Int32} {p : Program} {l : Launch} {e : Env} {s : State} {m : MethodId} {args : Array Value} {below : List Frame} {meth : Method} {c : Code} {Z : State} {a0 : Array Value} {h0 : Heap} {n0 : Nat} {o0 : Addr} {o1 : Addr} {p2 : Int32} {ka : ClassId} {n : Int32} {r : Int32} {ob : Addr} (hx : p.tables.exec = Jvm.exec) (hZ : Z.Warmed39 s.vm) (hw : ∀ d ∈ tables_1, d.before a0 Z = true) (hby : c.code = prog_43_method_2_code) (hml : c.maxLocals = 9) (hown : s.vm.findClass "com/example/stint/stint/store/Decision" = some m.cls) (Z0 : n0 ≤ h0.size) (VH : Arh Z h0 o1 ka (.object "com/example/stint/stint/store/Decision$Outcome") n [(r, (.ref ob))] [] .null) (FW : Fld Z h0 ob "com/example/stint/stint/store/Decision$Outcome" "waitMillis" "J" (.long (1000 : Int64))) (hn : n.toInt ≤ 16) (hr0 : 0 ≤ r.toInt) (hr1 : r.toInt < n.toInt) :
    ∀ (k : Nat) (i rp : Int32) (s8 : Slot) (T0 : State) (locs : List Loc), 0 ≤ i.toInt → i.toInt + k = n.toInt → rp = (if r < i then r else (-1 : Int32)) → One s8 → Stand p l e ({ frames := 1, cells := 0, slots := 0, locals := 15 } : Room) s m args below meth c T0 locs 0 0 → T0.heap = h0 → Fr n0 locs →
      ∃ (T' : State) (L' : List Loc) (s8' : Slot), Stand p l e ({ frames := 1, cells := 0, slots := 0, locals := 15 } : Room) s m args below meth c T' L' 0 0 ∧ T'.heap = h0 ∧ Fr n0 L' ∧ One s8' ∧ ∀ t, Steps p.tables e below (T'.setTop (mkF m 175 #[.val (.ref o0), .val (.ref o1), .val (.int p2), .val (.long w), .second, .val (.int ad), .val (.int r), .val (.int n), s8'] [])) t → Steps p.tables e below (T0.setTop (mkF m 83 #[.val (.ref o0), .val (.ref o1), .val (.int p2), .val (.long w), .second, .val (.int ad), .val (.int rp), .val (.int i), s8] [])) t := by
  intro k
  induction k with
  | zero =>
    intro i rp s8 T0 locs h0i hk hwv h8 X e0 N
    obtain ⟨e1, e2⟩ := own_end hk
    subst e1
    have hw1 : rp = r := by rw [hwv, if_pos (by rw [Int32.lt_iff_toInt_lt]; exact hr1)]
    subst hw1
    obtain ⟨T', L', X', e', N', st⟩ := tn2e (o0 := o0) (o1 := o1) (p2 := p2) (w := w) (ad := ad) (s8 := s8) X hx hZ hw hby hml hown e0 N Z0 VH e2
    exact ⟨T', L', s8, X', e', N', h8, st⟩
  | succ k ih =>
    intro i rp s8 T0 locs h0i hk hwv h8 X e0 N
    obtain ⟨u1, u2, u3⟩ := own_up h0i hk hn
    by_cases hir : i = r
    · have hrp : rp < (0 : Int32) := by rw [hwv, if_neg (by rw [Int32.lt_iff_toInt_lt, hir]; omega)]; decide
      obtain ⟨T', L', X', e', N', st⟩ := tn2h (o0 := o0) (o1 := o1) (p2 := p2) (w := w) (ad := ad) X hx hZ hw hby hml hown e0 N Z0 VH h8 u1 u2 hir hrp
      have hv : i = if r < i + (1 : Int32) then r else (-1 : Int32) := by
        rw [if_pos (by rw [Int32.lt_iff_toInt_lt, u3, hir]; omega), hir]
      obtain ⟨T2, L2, s2, X2, e2, N2, q2, st2⟩ := ih (i + 1) i (.val (.ref ob)) T' L' (by omega) (by rw [u3]; omega) hv (One.val rfl) X' e' N'
      exact ⟨T2, L2, s2, X2, e2, N2, q2, fun t kt => st t (st2 t kt)⟩
    · obtain ⟨T', L', X', e', N', st⟩ := tn2m (o0 := o0) (o1 := o1) (p2 := p2) (w := w) (ad := ad) (rp := rp) X hx hZ hw hby hml hown e0 N Z0 VH h8 u1 u2 hir
      have hv : rp = if r < i + (1 : Int32) then r else (-1 : Int32) := by
        have hne : r.toInt ≠ i.toInt := fun q => hir (Int32.toInt_inj.mp q.symm)
        by_cases p : r < i
        · rw [hwv, if_pos p, if_pos (by rw [Int32.lt_iff_toInt_lt] at p ⊢; omega)]
        · rw [hwv, if_neg p, if_neg (by rw [Int32.lt_iff_toInt_lt] at p ⊢; omega)]
      obtain ⟨T2, L2, s2, X2, e2, N2, q2, st2⟩ := ih (i + 1) rp (.val .null) T' L' (by omega) (by rw [u3]; omega) hv (One.val rfl) X' e' N'
      exact ⟨T2, L2, s2, X2, e2, N2, q2, fun t kt => st t (st2 t kt)⟩
theorem d4_0 : decode prog_43_method_2_code 0 = .ok (.aload_n 0, 1) := by decide +kernel
theorem d4_1 : decode prog_43_method_2_code 1 = .ok (.invokespecial 7, 3) := by decide +kernel
theorem d4_4 : decode prog_43_method_2_code 4 = .ok (.aload_n 0, 1) := by decide +kernel
theorem d4_5 : decode prog_43_method_2_code 5 = .ok (.aload_n 1, 1) := by decide +kernel
theorem d4_6 : decode prog_43_method_2_code 6 = .ok (.putfield 12, 3) := by decide +kernel
theorem d4_9 : decode prog_43_method_2_code 9 = .ok (.aload_n 0, 1) := by decide +kernel
theorem d4_10 : decode prog_43_method_2_code 10 = .ok (.iload_n 2, 1) := by decide +kernel
theorem d4_11 : decode prog_43_method_2_code 11 = .ok (.putfield 16, 3) := by decide +kernel
theorem d4_14 : decode prog_43_method_2_code 14 = .ok (.lconst 0, 1) := by decide +kernel
theorem d4_15 : decode prog_43_method_2_code 15 = .ok (.lstore_n 3, 1) := by decide +kernel
theorem d4_16 : decode prog_43_method_2_code 16 = .ok (.aload_n 1, 1) := by decide +kernel
theorem d4_17 : decode prog_43_method_2_code 17 = .ok (.astore 5, 2) := by decide +kernel
theorem d4_19 : decode prog_43_method_2_code 19 = .ok (.aload 5, 2) := by decide +kernel
theorem d4_21 : decode prog_43_method_2_code 21 = .ok (.arraylength, 1) := by decide +kernel
theorem d4_22 : decode prog_43_method_2_code 22 = .ok (.istore 6, 2) := by decide +kernel
theorem d4_24 : decode prog_43_method_2_code 24 = .ok (.iconst 0, 1) := by decide +kernel
theorem d4_25 : decode prog_43_method_2_code 25 = .ok (.istore 7, 2) := by decide +kernel
theorem d4_66 : decode prog_43_method_2_code 66 = .ok (.aload_n 0, 1) := by decide +kernel
theorem d4_67 : decode prog_43_method_2_code 67 = .ok (.lload_n 3, 1) := by decide +kernel
theorem d4_68 : decode prog_43_method_2_code 68 = .ok (.putfield 32, 3) := by decide +kernel
theorem d4_71 : decode prog_43_method_2_code 71 = .ok (.aload_n 0, 1) := by decide +kernel
theorem d4_72 : decode prog_43_method_2_code 72 = .ok (.invokevirtual 33, 3) := by decide +kernel
theorem d4_75 : decode prog_43_method_2_code 75 = .ok (.istore 5, 2) := by decide +kernel
theorem d4_77 : decode prog_43_method_2_code 77 = .ok (.iconst (-1), 1) := by decide +kernel
theorem d4_78 : decode prog_43_method_2_code 78 = .ok (.istore 6, 2) := by decide +kernel
theorem d4_80 : decode prog_43_method_2_code 80 = .ok (.iconst 0, 1) := by decide +kernel
theorem d4_81 : decode prog_43_method_2_code 81 = .ok (.istore 7, 2) := by decide +kernel
theorem d4_175 : decode prog_43_method_2_code 175 = .ok (.aload_n 0, 1) := by decide +kernel
theorem d4_176 : decode prog_43_method_2_code 176 = .ok (.iload 6, 2) := by decide +kernel
theorem d4_178 : decode prog_43_method_2_code 178 = .ok (.putfield 40, 3) := by decide +kernel
theorem d4_181 : decode prog_43_method_2_code 181 = .ok (.return_, 1) := by decide +kernel
theorem pn_4 : plainName "com/example/stint/stint/store/Decision" = true := by first | (simp [plainName, overriddenIn]; done) | decide +kernel
theorem pd___Z : parseMethodDescriptor "()Z" = some ⟨[], some .boolean⟩ := by decide +kernel
theorem ef_4 (m : MethodId) (x0 : Addr) (x1 : Addr) (x2 : Int32) : entryFrame m #[(.ref x0), (.ref x1), (.int x2)] 9 = mkF m 0 #[.val (.ref x0), .val (.ref x1), .val (.int x2), .unset, .unset, .unset, .unset, .unset, .unset] [] := by first | (simp [entryFrame, mkF, argsToLocals, Value.category]; done) | rfl
def Q4 (Z : State) (o0 : Addr) (o1 : Addr) (p2 : Int32) (ka : ClassId) (n : Int32) (r : Int32) (ob : Addr) (h0 : Heap) (n0 : Nat) (v : Option Value) (h : Heap) (L : List Loc) : Prop := v = none ∧ Fr n0 L ∧ Keep h0 h [o0] ∧ Exa Z h o0 "com/example/stint/stint/store/Decision" ∧ Fld Z h o0 "com/example/stint/stint/store/Decision" "outcomes" "[Lcom/example/stint/stint/store/Decision$Outcome;" (.ref o1) ∧ Fld Z h o0 "com/example/stint/stint/store/Decision" "unavailable" "Z" (.int (nar .boolean p2)) ∧ Fld Z h o0 "com/example/stint/stint/store/Decision" "waitMillis" "J" (.long (1000 : Int64)) ∧ Fld Z h o0 "com/example/stint/stint/store/Decision" "reporting" "I" (.int r)
set_option maxRecDepth 65536 in
set_option maxHeartbeats 40000000 in
theorem rm4 (l : Launch) (Z : State) (a0 : Array Value) (hw : ∀ d ∈ tables_1, d.before a0 Z = true) (ws : List Jvm.Cond) (o0 : Addr) (o1 : Addr) (p2 : Int32) (ka : ClassId) (n : Int32) (r : Int32) (ob : Addr) (h0 : Heap) (n0 : Nat) (Z0 : n0 ≤ h0.size) (I0 : Exa Z h0 o0 "com/example/stint/stint/store/Decision") (I1 : Fld Z h0 o0 "com/example/stint/stint/store/Decision" "outcomes" "[Lcom/example/stint/stint/store/Decision$Outcome;" .null) (I2 : Fld Z h0 o0 "com/example/stint/stint/store/Decision" "unavailable" "Z" (.int (0 : Int32))) (I3 : Fld Z h0 o0 "com/example/stint/stint/store/Decision" "waitMillis" "J" (.long (0 : Int64))) (I4 : Fld Z h0 o0 "com/example/stint/stint/store/Decision" "reporting" "I" (.int (0 : Int32))) (I5 : Arh Z h0 o1 ka (.object "com/example/stint/stint/store/Decision$Outcome") n [(r, (.ref ob))] [] .null) (I6 : Fld Z h0 ob "com/example/stint/stint/store/Decision$Outcome" "waitMillis" "J" (.long (1000 : Int64))) (gw_o0 : n0 ≤ o0) (ne_o1_o0 : o1 ≠ o0) (ne_ob_o0 : ob ≠ o0) (hn : n.toInt ≤ 16) (hr0 : 0 ≤ r.toInt) (hr1 : r.toInt < n.toInt) :
    MetFree l (⟨"com/example/stint/stint/store/Decision", "<init>", "([Lcom/example/stint/stint/store/Decision$Outcome;Z)V"⟩ : MethodName) (head1 (Jvm.Cond.code (⟨"com/example/stint/stint/store/Decision", "<init>", "([Lcom/example/stint/stint/store/Decision$Outcome;Z)V"⟩ : MethodName) prog_43_method_2_code 9 none :: ws) ({ frames := 1, cells := 0, slots := 0, locals := 15 } : Room)) (fun a U => a = #[(.ref o0), (.ref o1), (.int p2)] ∧ Z.Warmed39 U.vm ∧ U.heap = h0) (fun _ _ _ _ _ => True) (fun _ U o U' => ∃ v L, o = .returned v ∧ Q4 Z o0 o1 p2 ka n r ob h0 n0 v U'.heap L ∧ FrameEnd U o U' L ({ frames := 1, cells := 0, slots := 0, locals := 15 } : Room).cells ({ frames := 1, cells := 0, slots := 0, locals := 15 } : Room).slots) := by
  refine MetFree.of_bodySF (plainFor_of_name pn_4) hisR ?_
  intro p e s m args below meth c s₁ Bd hml0 hP hK
  obtain ⟨rfl, hZ, hh⟩ := hP
  have hx := Bd.exec
  have hby := Bd.bytes
  have hml : c.maxLocals = 9 := hml0
  have hown : s.vm.findClass "com/example/stint/stint/store/Decision" = some m.cls := findClass_of_methodNamed Bd.named
  have hnm := (name_of_methodNamed Bd.named Bd.method).1
  have X0 : Stand p l e ({ frames := 1, cells := 0, slots := 0, locals := 15 } : Room) s m #[(.ref o0), (.ref o1), (.int p2)] below meth c s₁ [] 0 0 := Stand.of_body Bd
  have e0 : s₁.heap = h0 := by rw [← hh, Bd.state]; rfl
  have N0 := Fr.nil n0
  have K0 : Keep h0 h0 [o0] := Keep.refl _ _
  have pre0 : ∀ t, Steps p.tables e below (s₁.setTop (mkF m 0 #[.val (.ref o0), .val (.ref o1), .val (.int p2), .unset, .unset, .unset, .unset, .unset, .unset] [])) t → Steps p.tables e below (s₁.setTop (entryFrame m #[(.ref o0), (.ref o1), (.int p2)] 9)) t := fun t k => castTop (ef_4 m o0 o1 p2) k
  have pre1 : ∀ t, Steps p.tables e below (s₁.setTop (mkF m 1 #[.val (.ref o0), .val (.ref o1), .val (.int p2), .unset, .unset, .unset, .unset, .unset, .unset] [(.ref o0)])) t → Steps p.tables e below (s₁.setTop (entryFrame m #[(.ref o0), (.ref o1), (.int p2)] 9)) t := fun t k => pre0 t (by
    show Steps p.tables e below (s₁.setTop (mkF m 0 #[.val (.ref o0), .val (.ref o1), .val (.int p2), .unset, .unset, .unset, .unset, .unset, .unset] [])) _
    refine XS.aloadN X0.here hx rfl (hb hby d4_0) rfl rfl ?_
    exact k)
  obtain ⟨T2, X2, e2, st2⟩ := initO X0 hx hZ hown (hw _ (List.mem_of_getElem? (i := 30) rfl)) (hw _ (List.mem_of_getElem? (i := 14) rfl)) (hw _ (List.mem_of_getElem? (i := 15) rfl)) e0 (g := (mkF m 1 #[.val (.ref o0), .val (.ref o1), .val (.int p2), .unset, .unset, .unset, .unset, .unset, .unset] [(.ref o0)])) rfl (by rw [hml]; rfl) rfl (hb hby d4_1) (by decide) (W := 0) (by show 2 * 0 + _ ≤ _; exact Nat.le_of_eq rfl) (by decide)
  have pre3 : ∀ t, Steps p.tables e below (T2.setTop (mkF m 4 #[.val (.ref o0), .val (.ref o1), .val (.int p2), .unset, .unset, .unset, .unset, .unset, .unset] [])) t → Steps p.tables e below (s₁.setTop (entryFrame m #[(.ref o0), (.ref o1), (.int p2)] 9)) t := fun t k => pre1 t (st2 _ k)
  have pre4 : ∀ t, Steps p.tables e below (T2.setTop (mkF m 6 #[.val (.ref o0), .val (.ref o1), .val (.int p2), .unset, .unset, .unset, .unset, .unset, .unset] [(.ref o1), (.ref o0)])) t → Steps p.tables e below (s₁.setTop (entryFrame m #[(.ref o0), (.ref o1), (.int p2)] 9)) t := fun t k => pre3 t (by
    show Steps p.tables e below (T2.setTop (mkF m 4 #[.val (.ref o0), .val (.ref o1), .val (.int p2), .unset, .unset, .unset, .unset, .unset, .unset] [])) _
    refine XS.aloadN X2.here hx rfl (hb hby d4_4) rfl rfl ?_
    show Steps p.tables e below (T2.setTop (mkF m 5 #[.val (.ref o0), .val (.ref o1), .val (.int p2), .unset, .unset, .unset, .unset, .unset, .unset] [(.ref o0)])) _
    refine XS.aloadN X2.here hx rfl (hb hby d4_5) rfl rfl ?_
    exact k)
  obtain ⟨T5, h5, X5, e5, W5, st5⟩ := putF X2 hx hZ hown (host := "") (Or.inl (hw _ (List.mem_of_getElem? (i := 31) rfl))) Via.refl e2 I1 I0 (Or.inr ⟨(hw _ (List.mem_of_getElem? (i := 32) rfl)), rfl, hnm⟩) (hw _ (List.mem_of_getElem? (i := 26) rfl)) (ty := (.array (.object "com/example/stint/stint/store/Decision$Outcome"))) (by decide) rfl rfl (g := (mkF m 6 #[.val (.ref o0), .val (.ref o1), .val (.int p2), .unset, .unset, .unset, .unset, .unset, .unset] [(.ref o1), (.ref o0)])) rfl rfl (hb hby d4_6)
  have N5 := Fr.snoc X5 N0 gw_o0
  have K5 : Keep h0 h5 [o0] := K0.wr W5 (Or.inl (List.mem_of_getElem? (i := 0) rfl))
  have Z5 : n0 ≤ h5.size := Nat.le_trans Z0 (Keep.of_wr W5).1
  have x6 := I0.wr W5
  have x7 := I1.same W5
  have x8 := I2.other W5 (Or.inr (slot_ne (Or.inr (hw _ (List.mem_of_getElem? (i := 34) rfl))) (Or.inr (hw _ (List.mem_of_getElem? (i := 32) rfl))) (by decide) (t := .boolean) (t' := (.array (.object "com/example/stint/stint/store/Decision$Outcome"))) (by decide) (by decide)))
  have x9 := I3.other W5 (Or.inr (slot_ne (Or.inr (hw _ (List.mem_of_getElem? (i := 41) rfl))) (Or.inr (hw _ (List.mem_of_getElem? (i := 32) rfl))) (by decide) (t := .long) (t' := (.array (.object "com/example/stint/stint/store/Decision$Outcome"))) (by decide) (by decide)))
  have x10 := I4.other W5 (Or.inr (slot_ne (Or.inr (hw _ (List.mem_of_getElem? (i := 48) rfl))) (Or.inr (hw _ (List.mem_of_getElem? (i := 32) rfl))) (by decide) (t := .int) (t' := (.array (.object "com/example/stint/stint/store/Decision$Outcome"))) (by decide) (by decide)))
  have x11 := I5.other W5 ne_o1_o0
  have x12 := I6.other W5 (Or.inl ne_ob_o0)
  have pre13 : ∀ t, Steps p.tables e below (T5.setTop (mkF m 9 #[.val (.ref o0), .val (.ref o1), .val (.int p2), .unset, .unset, .unset, .unset, .unset, .unset] [])) t → Steps p.tables e below (s₁.setTop (entryFrame m #[(.ref o0), (.ref o1), (.int p2)] 9)) t := fun t k => pre4 t (st5 _ k)
  have pre14 : ∀ t, Steps p.tables e below (T5.setTop (mkF m 11 #[.val (.ref o0), .val (.ref o1), .val (.int p2), .unset, .unset, .unset, .unset, .unset, .unset] [(.int p2), (.ref o0)])) t → Steps p.tables e below (s₁.setTop (entryFrame m #[(.ref o0), (.ref o1), (.int p2)] 9)) t := fun t k => pre13 t (by
    show Steps p.tables e below (T5.setTop (mkF m 9 #[.val (.ref o0), .val (.ref o1), .val (.int p2), .unset, .unset, .unset, .unset, .unset, .unset] [])) _
    refine XS.aloadN X5.here hx rfl (hb hby d4_9) rfl rfl ?_
    show Steps p.tables e below (T5.setTop (mkF m 10 #[.val (.ref o0), .val (.ref o1), .val (.int p2), .unset, .unset, .unset, .unset, .unset, .unset] [(.ref o0)])) _
    refine XS.iloadN X5.here hx rfl (hb hby d4_10) rfl ?_
    exact k)
  obtain ⟨T15, h15, X15, e15, W15, st15⟩ := putFN X5 hx hZ hown (hw _ (List.mem_of_getElem? (i := 33) rfl)) Via.refl e5 x8 x6 (Or.inr ⟨(hw _ (List.mem_of_getElem? (i := 34) rfl)), rfl, hnm⟩) (hw _ (List.mem_of_getElem? (i := 26) rfl)) (ty := .boolean) (v' := (.int (nar .boolean p2))) (by decide) rfl (fits_nar_bool _) (g := (mkF m 11 #[.val (.ref o0), .val (.ref o1), .val (.int p2), .unset, .unset, .unset, .unset, .unset, .unset] [(.int p2), (.ref o0)])) rfl rfl (hb hby d4_11)
  have N15 := Fr.snoc X15 N5 gw_o0
  have K15 : Keep h0 h15 [o0] := K5.wr W15 (Or.inl (List.mem_of_getElem? (i := 0) rfl))
  have Z15 : n0 ≤ h15.size := Nat.le_trans Z5 (Keep.of_wr W15).1
  have x16 := x6.wr W15
  have x17 := x7.other W15 (Or.inr (slot_ne (Or.inr (hw _ (List.mem_of_getElem? (i := 32) rfl))) (Or.inr (hw _ (List.mem_of_getElem? (i := 34) rfl))) (by decide) (t := (.array (.object "com/example/stint/stint/store/Decision$Outcome"))) (t' := .boolean) (by decide) (by decide)))
  have x18 := x8.same W15
  have x19 := x9.other W15 (Or.inr (slot_ne (Or.inr (hw _ (List.mem_of_getElem? (i := 41) rfl))) (Or.inr (hw _ (List.mem_of_getElem? (i := 34) rfl))) (by decide) (t := .long) (t' := .boolean) (by decide) (by decide)))
  have x20 := x10.other W15 (Or.inr (slot_ne (Or.inr (hw _ (List.mem_of_getElem? (i := 48) rfl))) (Or.inr (hw _ (List.mem_of_getElem? (i := 34) rfl))) (by decide) (t := .int) (t' := .boolean) (by decide) (by decide)))
  have x21 := x11.other W15 ne_o1_o0
  have x22 := x12.other W15 (Or.inl ne_ob_o0)
  have pre23 : ∀ t, Steps p.tables e below (T15.setTop (mkF m 14 #[.val (.ref o0), .val (.ref o1), .val (.int p2), .unset, .unset, .unset, .unset, .unset, .unset] [])) t → Steps p.tables e below (s₁.setTop (entryFrame m #[(.ref o0), (.ref o1), (.int p2)] 9)) t := fun t k => pre14 t (st15 _ k)
  have pre24 : ∀ t, Steps p.tables e below (T15.setTop (mkF m 21 #[.val (.ref o0), .val (.ref o1), .val (.int p2), .val (.long (0 : Int64)), .second, .val (.ref o1), .unset, .unset, .unset] [(.ref o1)])) t → Steps p.tables e below (s₁.setTop (entryFrame m #[(.ref o0), (.ref o1), (.int p2)] 9)) t := fun t k => pre23 t (by
    show Steps p.tables e below (T15.setTop (mkF m 14 #[.val (.ref o0), .val (.ref o1), .val (.int p2), .unset, .unset, .unset, .unset, .unset, .unset] [])) _
    refine XS.lconst X15.here hx rfl (hb hby d4_14) ?_
    show Steps p.tables e below (T15.setTop (mkF m 15 #[.val (.ref o0), .val (.ref o1), .val (.int p2), .unset, .unset, .unset, .unset, .unset, .unset] [(.long (0 : Int64))])) _
    refine XS.lstoreN X15.here hx rfl (hb hby d4_15) rfl (l' := #[.val (.ref o0), .val (.ref o1), .val (.int p2), .val (.long (0 : Int64)), .second, .unset, .unset, .unset, .unset]) rfl ?_
    show Steps p.tables e below (T15.setTop (mkF m 16 #[.val (.ref o0), .val (.ref o1), .val (.int p2), .val (.long (0 : Int64)), .second, .unset, .unset, .unset, .unset] [])) _
    refine XS.aloadN X15.here hx rfl (hb hby d4_16) rfl rfl ?_
    show Steps p.tables e below (T15.setTop (mkF m 17 #[.val (.ref o0), .val (.ref o1), .val (.int p2), .val (.long (0 : Int64)), .second, .unset, .unset, .unset, .unset] [(.ref o1)])) _
    refine XS.astore X15.here hx rfl (hb hby d4_17) rfl rfl (l' := #[.val (.ref o0), .val (.ref o1), .val (.int p2), .val (.long (0 : Int64)), .second, .val (.ref o1), .unset, .unset, .unset]) rfl ?_
    show Steps p.tables e below (T15.setTop (mkF m 19 #[.val (.ref o0), .val (.ref o1), .val (.int p2), .val (.long (0 : Int64)), .second, .val (.ref o1), .unset, .unset, .unset] [])) _
    refine XS.aload X15.here hx rfl (hb hby d4_19) rfl rfl ?_
    exact k)
  obtain ⟨cl25, Ar25, -, Sz25, Mn25, Hs25, -⟩ := id x21
  have pre26 : ∀ t, Steps p.tables e below (T15.setTop (mkF m 22 #[.val (.ref o0), .val (.ref o1), .val (.int p2), .val (.long (0 : Int64)), .second, .val (.ref o1), .unset, .unset, .unset] [(.int n)])) t → Steps p.tables e below (s₁.setTop (entryFrame m #[(.ref o0), (.ref o1), (.int p2)] 9)) t := fun t k => pre24 t (by
    show Steps p.tables e below (T15.setTop (mkF m 21 #[.val (.ref o0), .val (.ref o1), .val (.int p2), .val (.long (0 : Int64)), .second, .val (.ref o1), .unset, .unset, .unset] [(.ref o1)])) _
    refine X15.arraylength hx (by rw [e15]; exact Ar25.1) (State.isArrayOf_alike hZ.alike Ar25.2.1) (g := (mkF m 21 #[.val (.ref o0), .val (.ref o1), .val (.int p2), .val (.long (0 : Int64)), .second, .val (.ref o1), .unset, .unset, .unset] [(.ref o1)])) rfl rfl (hb hby d4_21) _ ?_
    rw [len_of Sz25 Mn25]
    exact k)
  have pre27 : ∀ t, Steps p.tables e below (T15.setTop (mkF m 27 #[.val (.ref o0), .val (.ref o1), .val (.int p2), .val (.long (0 : Int64)), .second, .val (.ref o1), .val (.int n), .val (.int (0 : Int32)), .unset] [])) t → Steps p.tables e below (s₁.setTop (entryFrame m #[(.ref o0), (.ref o1), (.int p2)] 9)) t := fun t k => pre26 t (by
    show Steps p.tables e below (T15.setTop (mkF m 22 #[.val (.ref o0), .val (.ref o1), .val (.int p2), .val (.long (0 : Int64)), .second, .val (.ref o1), .unset, .unset, .unset] [(.int n)])) _
    refine XS.istore X15.here hx rfl (hb hby d4_22) rfl (l' := #[.val (.ref o0), .val (.ref o1), .val (.int p2), .val (.long (0 : Int64)), .second, .val (.ref o1), .val (.int n), .unset, .unset]) rfl ?_
    show Steps p.tables e below (T15.setTop (mkF m 24 #[.val (.ref o0), .val (.ref o1), .val (.int p2), .val (.long (0 : Int64)), .second, .val (.ref o1), .val (.int n), .unset, .unset] [])) _
    refine XS.iconst X15.here hx rfl (hb hby d4_24) ?_
    show Steps p.tables e below (T15.setTop (mkF m 25 #[.val (.ref o0), .val (.ref o1), .val (.int p2), .val (.long (0 : Int64)), .second, .val (.ref o1), .val (.int n), .unset, .unset] [(.int (0 : Int32))])) _
    refine XS.istore X15.here hx rfl (hb hby d4_25) rfl (l' := #[.val (.ref o0), .val (.ref o1), .val (.int p2), .val (.long (0 : Int64)), .second, .val (.ref o1), .val (.int n), .val (.int (0 : Int32)), .unset]) rfl ?_
    exact k)
  obtain ⟨T28, L28, sa8, X28, e28, N28, hsa8, st28⟩ := own_loop1 (p2 := p2) hx hZ hw hby hml hown Z15 x21 x22 hn hr0 hr1 n.toInt.toNat (0 : Int32) (0 : Int64) .unset _ _ (by decide) (by show (0 : Int) + _ = _; omega) (by rw [if_neg (by rw [Int32.lt_iff_toInt_lt]; show ¬ r.toInt < 0; omega)]) One.u X15 e15 N15
  have pre29 : ∀ t, Steps p.tables e below (T28.setTop (mkF m 66 #[.val (.ref o0), .val (.ref o1), .val (.int p2), .val (.long (1000 : Int64)), .second, .val (.ref o1), .val (.int n), .val (.int n), sa8] [])) t → Steps p.tables e below (s₁.setTop (entryFrame m #[(.ref o0), (.ref o1), (.int p2)] 9)) t := fun t k => pre27 t (st28 _ k)
  have pre30 : ∀ t, Steps p.tables e below (T28.setTop (mkF m 68 #[.val (.ref o0), .val (.ref o1), .val (.int p2), .val (.long (1000 : Int64)), .second, .val (.ref o1), .val (.int n), .val (.int n), sa8] [(.long (1000 : Int64)), (.ref o0)])) t → Steps p.tables e below (s₁.setTop (entryFrame m #[(.ref o0), (.ref o1), (.int p2)] 9)) t := fun t k => pre29 t (by
    show Steps p.tables e below (T28.setTop (mkF m 66 #[.val (.ref o0), .val (.ref o1), .val (.int p2), .val (.long (1000 : Int64)), .second, .val (.ref o1), .val (.int n), .val (.int n), sa8] [])) _
    refine XS.aloadN X28.here hx rfl (hb hby d4_66) rfl rfl ?_
    show Steps p.tables e below (T28.setTop (mkF m 67 #[.val (.ref o0), .val (.ref o1), .val (.int p2), .val (.long (1000 : Int64)), .second, .val (.ref o1), .val (.int n), .val (.int n), sa8] [(.ref o0)])) _
    refine XS.lloadN X28.here hx rfl (hb hby d4_67) rfl ?_
    exact k)
  obtain ⟨T31, h31, X31, e31, W31, st31⟩ := putF X28 hx hZ hown (host := "") (Or.inl (hw _ (List.mem_of_getElem? (i := 40) rfl))) Via.refl e28 x19 x16 (Or.inr ⟨(hw _ (List.mem_of_getElem? (i := 41) rfl)), rfl, hnm⟩) (hw _ (List.mem_of_getElem? (i := 26) rfl)) (ty := .long) (by decide) rfl rfl (g := (mkF m 68 #[.val (.ref o0), .val (.ref o1), .val (.int p2), .val (.long (1000 : Int64)), .second, .val (.ref o1), .val (.int n), .val (.int n), sa8] [(.long (1000 : Int64)), (.ref o0)])) rfl rfl (hb hby d4_68)
  have N31 := Fr.snoc X31 N28 gw_o0
  have K31 : Keep h0 h31 [o0] := K15.wr W31 (Or.inl (List.mem_of_getElem? (i := 0) rfl))
  have Z31 : n0 ≤ h31.size := Nat.le_trans Z15 (Keep.of_wr W31).1
  have x32 := x16.wr W31
  have x33 := x17.other W31 (Or.inr (slot_ne (Or.inr (hw _ (List.mem_of_getElem? (i := 32) rfl))) (Or.inr (hw _ (List.mem_of_getElem? (i := 41) rfl))) (by decide) (t := (.array (.object "com/example/stint/stint/store/Decision$Outcome"))) (t' := .long) (by decide) (by decide)))
  have x34 := x18.other W31 (Or.inr (slot_ne (Or.inr (hw _ (List.mem_of_getElem? (i := 34) rfl))) (Or.inr (hw _ (List.mem_of_getElem? (i := 41) rfl))) (by decide) (t := .boolean) (t' := .long) (by decide) (by decide)))
  have x35 := x19.same W31
  have x36 := x20.other W31 (Or.inr (slot_ne (Or.inr (hw _ (List.mem_of_getElem? (i := 48) rfl))) (Or.inr (hw _ (List.mem_of_getElem? (i := 41) rfl))) (by decide) (t := .int) (t' := .long) (by decide) (by decide)))
  have x37 := x21.other W31 ne_o1_o0
  have x38 := x22.other W31 (Or.inl ne_ob_o0)
  have pre39 : ∀ t, Steps p.tables e below (T31.setTop (mkF m 71 #[.val (.ref o0), .val (.ref o1), .val (.int p2), .val (.long (1000 : Int64)), .second, .val (.ref o1), .val (.int n), .val (.int n), sa8] [])) t → Steps p.tables e below (s₁.setTop (entryFrame m #[(.ref o0), (.ref o1), (.int p2)] 9)) t := fun t k => pre30 t (st31 _ k)
  have pre40 : ∀ t, Steps p.tables e below (T31.setTop (mkF m 72 #[.val (.ref o0), .val (.ref o1), .val (.int p2), .val (.long (1000 : Int64)), .second, .val (.ref o1), .val (.int n), .val (.int n), sa8] [(.ref o0)])) t → Steps p.tables e below (s₁.setTop (entryFrame m #[(.ref o0), (.ref o1), (.int p2)] 9)) t := fun t k => pre39 t (by
    show Steps p.tables e below (T31.setTop (mkF m 71 #[.val (.ref o0), .val (.ref o1), .val (.int p2), .val (.long (1000 : Int64)), .second, .val (.ref o1), .val (.int n), .val (.int n), sa8] [])) _
    refine XS.aloadN X31.here hx rfl (hb hby d4_71) rfl rfl ?_
    exact k)
  obtain ⟨cq41, kq41, q41a, q41b, q41c⟩ := isOf hZ e31 x32
  obtain ⟨_, _, ⟨T41, L41, k41, n41⟩, -, X41, ⟨Lc41, hQ41, l41, y41, z41⟩, st41⟩ := X31.virtualBack hx (y := (⟨"com/example/stint/stint/store/Decision", "admitted", "()Z"⟩ : MethodName)) (z := (⟨"com/example/stint/stint/store/Decision", "admitted", "()Z"⟩ : MethodName)) hown (mvT hZ (hw _ (List.mem_of_getElem? (i := 42) rfl))) (mvT hZ (hw _ (List.mem_of_getElem? (i := 43) rfl))) (notFace_of_selects (args := #[]) (mvT hZ (hw _ (List.mem_of_getElem? (i := 45) rfl)))) (mvT hZ (hw _ (List.mem_of_getElem? (i := 45) rfl))) (mvT hZ (hw _ (List.mem_of_getElem? (i := 44) rfl))) (by decide) (backOf (W := 0) (rm6 l Z a0 hw [] o0 (1000 : Int64) h31 n0 Z31 x35) hZ (hw _ (List.mem_of_getElem? (i := 46) rfl)) (hw _ (List.mem_of_getElem? (i := 3) rfl)) (by decide) (by decide)) q41a q41c (g := (mkF m 72 #[.val (.ref o0), .val (.ref o1), .val (.int p2), .val (.long (1000 : Int64)), .second, .val (.ref o1), .val (.int n), .val (.int n), sa8] [(.ref o0)])) rfl (by rw [hml]; rfl) (Steps.refl _) (argsL := []) (rest := []) (lenOf pd___Z rfl) rfl (by show 2 * 0 + _ ≤ _; exact Nat.le_of_eq rfl) (hb hby d4_72) (fun _ _ => ⟨rfl, e31, (by decide : 0 + 0 ≤ _), (by decide : 0 + 0 ≤ _)⟩)
  dsimp only [Pt.U, Pt.locs, Pt.cells, Pt.slots] at X41 l41 y41 z41 st41 hQ41
  subst l41 y41 z41
  obtain ⟨rfl, Nq41, e41⟩ := hQ41
  have N41 := Fr.app N31 Nq41
  have pre42 : ∀ t, Steps p.tables e below (T41.setTop (mkF m 75 #[.val (.ref o0), .val (.ref o1), .val (.int p2), .val (.long (1000 : Int64)), .second, .val (.ref o1), .val (.int n), .val (.int n), sa8] [(.int (f6 (1000 : Int64)))])) t → Steps p.tables e below (s₁.setTop (entryFrame m #[(.ref o0), (.ref o1), (.int p2)] 9)) t := fun t k => pre40 t (st41.trans k)
  have pre43 : ∀ t, Steps p.tables e below (T41.setTop (mkF m 83 #[.val (.ref o0), .val (.ref o1), .val (.int p2), .val (.long (1000 : Int64)), .second, .val (.int (f6 (1000 : Int64))), .val (.int (-1 : Int32)), .val (.int (0 : Int32)), sa8] [])) t → Steps p.tables e below (s₁.setTop (entryFrame m #[(.ref o0), (.ref o1), (.int p2)] 9)) t := fun t k => pre42 t (by
    show Steps p.tables e below (T41.setTop (mkF m 75 #[.val (.ref o0), .val (.ref o1), .val (.int p2), .val (.long (1000 : Int64)), .second, .val (.ref o1), .val (.int n), .val (.int n), sa8] [(.int (f6 (1000 : Int64)))])) _
    refine XS.istore X41.here hx rfl (hb hby d4_75) rfl (l' := #[.val (.ref o0), .val (.ref o1), .val (.int p2), .val (.long (1000 : Int64)), .second, .val (.int (f6 (1000 : Int64))), .val (.int n), .val (.int n), sa8]) rfl ?_
    show Steps p.tables e below (T41.setTop (mkF m 77 #[.val (.ref o0), .val (.ref o1), .val (.int p2), .val (.long (1000 : Int64)), .second, .val (.int (f6 (1000 : Int64))), .val (.int n), .val (.int n), sa8] [])) _
    refine XS.iconst X41.here hx rfl (hb hby d4_77) ?_
    show Steps p.tables e below (T41.setTop (mkF m 78 #[.val (.ref o0), .val (.ref o1), .val (.int p2), .val (.long (1000 : Int64)), .second, .val (.int (f6 (1000 : Int64))), .val (.int n), .val (.int n), sa8] [(.int (-1 : Int32))])) _
    refine XS.istore X41.here hx rfl (hb hby d4_78) rfl (l' := #[.val (.ref o0), .val (.ref o1), .val (.int p2), .val (.long (1000 : Int64)), .second, .val (.int (f6 (1000 : Int64))), .val (.int (-1 : Int32)), .val (.int n), sa8]) rfl ?_
    show Steps p.tables e below (T41.setTop (mkF m 80 #[.val (.ref o0), .val (.ref o1), .val (.int p2), .val (.long (1000 : Int64)), .second, .val (.int (f6 (1000 : Int64))), .val (.int (-1 : Int32)), .val (.int n), sa8] [])) _
    refine XS.iconst X41.here hx rfl (hb hby d4_80) ?_
    show Steps p.tables e below (T41.setTop (mkF m 81 #[.val (.ref o0), .val (.ref o1), .val (.int p2), .val (.long (1000 : Int64)), .second, .val (.int (f6 (1000 : Int64))), .val (.int (-1 : Int32)), .val (.int n), sa8] [(.int (0 : Int32))])) _
    refine XS.istore X41.here hx rfl (hb hby d4_81) rfl (l' := #[.val (.ref o0), .val (.ref o1), .val (.int p2), .val (.long (1000 : Int64)), .second, .val (.int (f6 (1000 : Int64))), .val (.int (-1 : Int32)), .val (.int (0 : Int32)), sa8]) rfl ?_
    exact k)
  obtain ⟨T44, L44, sb8, X44, e44, N44, hsb8, st44⟩ := own_loop2 (p2 := p2) hx hZ hw hby hml hown Z31 x37 x38 hn hr0 hr1 n.toInt.toNat (0 : Int32) (-1 : Int32) sa8 _ _ (by decide) (by show (0 : Int) + _ = _; omega) (by rw [if_neg (by rw [Int32.lt_iff_toInt_lt]; show ¬ r.toInt < 0; omega)]) hsa8 X41 e41 N41
  have pre45 : ∀ t, Steps p.tables e below (T44.setTop (mkF m 175 #[.val (.ref o0), .val (.ref o1), .val (.int p2), .val (.long (1000 : Int64)), .second, .val (.int (f6 (1000 : Int64))), .val (.int r), .val (.int n), sb8] [])) t → Steps p.tables e below (s₁.setTop (entryFrame m #[(.ref o0), (.ref o1), (.int p2)] 9)) t := fun t k => pre43 t (st44 _ k)
  have pre46 : ∀ t, Steps p.tables e below (T44.setTop (mkF m 178 #[.val (.ref o0), .val (.ref o1), .val (.int p2), .val (.long (1000 : Int64)), .second, .val (.int (f6 (1000 : Int64))), .val (.int r), .val (.int n), sb8] [(.int r), (.ref o0)])) t → Steps p.tables e below (s₁.setTop (entryFrame m #[(.ref o0), (.ref o1), (.int p2)] 9)) t := fun t k => pre45 t (by
    show Steps p.tables e below (T44.setTop (mkF m 175 #[.val (.ref o0), .val (.ref o1), .val (.int p2), .val (.long (1000 : Int64)), .second, .val (.int (f6 (1000 : Int64))), .val (.int r), .val (.int n), sb8] [])) _
    refine XS.aloadN X44.here hx rfl (hb hby d4_175) rfl rfl ?_
    show Steps p.tables e below (T44.setTop (mkF m 176 #[.val (.ref o0), .val (.ref o1), .val (.int p2), .val (.long (1000 : Int64)), .second, .val (.int (f6 (1000 : Int64))), .val (.int r), .val (.int n), sb8] [(.ref o0)])) _
    refine XS.iload X44.here hx rfl (hb hby d4_176) rfl ?_
    exact k)
  obtain ⟨T47, h47, X47, e47, W47, st47⟩ := putF X44 hx hZ hown (host := "") (Or.inl (hw _ (List.mem_of_getElem? (i := 47) rfl))) Via.refl e44 x36 x32 (Or.inr ⟨(hw _ (List.mem_of_getElem? (i := 48) rfl)), rfl, hnm⟩) (hw _ (List.mem_of_getElem? (i := 26) rfl)) (ty := .int) (by decide) rfl rfl (g := (mkF m 178 #[.val (.ref o0), .val (.ref o1), .val (.int p2), .val (.long (1000 : Int64)), .second, .val (.int (f6 (1000 : Int64))), .val (.int r), .val (.int n), sb8] [(.int r), (.ref o0)])) rfl rfl (hb hby d4_178)
  have N47 := Fr.snoc X47 N44 gw_o0
  have K47 : Keep h0 h47 [o0] := K31.wr W47 (Or.inl (List.mem_of_getElem? (i := 0) rfl))
  have Z47 : n0 ≤ h47.size := Nat.le_trans Z31 (Keep.of_wr W47).1
  have x48 := x32.wr W47
  have x49 := x33.other W47 (Or.inr (slot_ne (Or.inr (hw _ (List.mem_of_getElem? (i := 32) rfl))) (Or.inr (hw _ (List.mem_of_getElem? (i := 48) rfl))) (by decide) (t := (.array (.object "com/example/stint/stint/store/Decision$Outcome"))) (t' := .int) (by decide) (by decide)))
  have x50 := x34.other W47 (Or.inr (slot_ne (Or.inr (hw _ (List.mem_of_getElem? (i := 34) rfl))) (Or.inr (hw _ (List.mem_of_getElem? (i := 48) rfl))) (by decide) (t := .boolean) (t' := .int) (by decide) (by decide)))
  have x51 := x35.other W47 (Or.inr (slot_ne (Or.inr (hw _ (List.mem_of_getElem? (i := 41) rfl))) (Or.inr (hw _ (List.mem_of_getElem? (i := 48) rfl))) (by decide) (t := .long) (t' := .int) (by decide) (by decide)))
  have x52 := x36.same W47
  have x53 := x37.other W47 ne_o1_o0
  have x54 := x38.other W47 (Or.inl ne_ob_o0)
  have pre55 : ∀ t, Steps p.tables e below (T47.setTop (mkF m 181 #[.val (.ref o0), .val (.ref o1), .val (.int p2), .val (.long (1000 : Int64)), .second, .val (.int (f6 (1000 : Int64))), .val (.int r), .val (.int n), sb8] [])) t → Steps p.tables e below (s₁.setTop (entryFrame m #[(.ref o0), (.ref o1), (.int p2)] 9)) t := fun t k => pre46 t (st47 _ k)
  obtain ⟨fs, hr, hrun, hended, hW, hsame⟩ := X47.leave (v := none) (fun _ => rfl)
  refine ⟨_, _, ?_, hrun, hended, _, _, rfl, ?_, ⟨_, rfl⟩, hW, hsame.mono (by decide) (by decide)⟩
  · exact pre55 _ (X47.returnOut hx Bd.returns (hb hby d4_181) hr)
  · show Q4 Z o0 o1 p2 ka n r ob h0 n0 _ T47.heap _
    rw [e47]
    exact ⟨rfl, N47, K47, x48, x49, x50, x51, x52⟩
theorem d1_0 : decode prog_43_method_3_code 0 = .ok (.iload_n 0, 1) := by decide +kernel
theorem d1_1 : decode prog_43_method_3_code 1 = .ok (.anewarray 21, 3) := by decide +kernel
theorem d1_4 : decode prog_43_method_3_code 4 = .ok (.astore_n 2, 1) := by decide +kernel
theorem d1_5 : decode prog_43_method_3_code 5 = .ok (.aload_n 2, 1) := by decide +kernel
theorem d1_6 : decode prog_43_method_3_code 6 = .ok (.iload_n 1, 1) := by decide +kernel
theorem d1_7 : decode prog_43_method_3_code 7 = .ok (.new 21, 3) := by decide +kernel
theorem d1_10 : decode prog_43_method_3_code 10 = .ok (.dup, 1) := by decide +kernel
theorem d1_11 : decode prog_43_method_3_code 11 = .ok (.lconst 0, 1) := by decide +kernel
theorem d1_12 : decode prog_43_method_3_code 12 = .ok (.ldc2_w 44, 3) := by decide +kernel
theorem d1_15 : decode prog_43_method_3_code 15 = .ok (.lconst 0, 1) := by decide +kernel
theorem d1_16 : decode prog_43_method_3_code 16 = .ok (.lconst 0, 1) := by decide +kernel
theorem d1_17 : decode prog_43_method_3_code 17 = .ok (.invokespecial 46, 3) := by decide +kernel
theorem d1_20 : decode prog_43_method_3_code 20 = .ok (.aastore, 1) := by decide +kernel
theorem d1_21 : decode prog_43_method_3_code 21 = .ok (.new 2, 3) := by decide +kernel
theorem d1_24 : decode prog_43_method_3_code 24 = .ok (.dup, 1) := by decide +kernel
theorem d1_25 : decode prog_43_method_3_code 25 = .ok (.aload_n 2, 1) := by decide +kernel
theorem d1_26 : decode prog_43_method_3_code 26 = .ok (.iconst 1, 1) := by decide +kernel
theorem d1_27 : decode prog_43_method_3_code 27 = .ok (.invokespecial 1, 3) := by decide +kernel
theorem d1_30 : decode prog_43_method_3_code 30 = .ok (.areturn, 1) := by decide +kernel
theorem pn_1 : plainName "com/example/stint/stint/store/Decision" = true := by first | (simp [plainName, overriddenIn]; done) | decide +kernel
theorem pd__JJJJ_V : parseMethodDescriptor "(JJJJ)V" = some ⟨[.long, .long, .long, .long], none⟩ := by decide +kernel
theorem pd___Lcom_example_stint_stint_store_Decision_Outcome_Z_V : parseMethodDescriptor "([Lcom/example/stint/stint/store/Decision$Outcome;Z)V" = some ⟨[(.array (.object "com/example/stint/stint/store/Decision$Outcome")), .boolean], none⟩ := by decide +kernel
theorem ef_1 (m : MethodId) (x0 : Int32) (x1 : Int32) : entryFrame m #[(.int x0), (.int x1)] 3 = mkF m 0 #[.val (.int x0), .val (.int x1), .unset] [] := by first | (simp [entryFrame, mkF, argsToLocals, Value.category]; done) | rfl
def Q1 (Z : State) (p0 : Int32) (p1 : Int32) (h0 : Heap) (n0 : Nat) (v : Option Value) (h : Heap) (L : List Loc) : Prop := ∃ (b1 : Addr) (b7 : Addr) (b21 : Addr) (k_b1 : ClassId), v = (some (.ref b21)) ∧ Fr n0 L ∧ Keep h0 h [] ∧ h0.size ≤ b1 ∧ h0.size ≤ b7 ∧ h0.size ≤ b21 ∧ Exa Z h b21 "com/example/stint/stint/store/Decision" ∧ Fld Z h b21 "com/example/stint/stint/store/Decision" "outcomes" "[Lcom/example/stint/stint/store/Decision$Outcome;" (.ref b1) ∧ Fld Z h b21 "com/example/stint/stint/store/Decision" "unavailable" "Z" (.int (nar .boolean (1 : Int32))) ∧ Fld Z h b21 "com/example/stint/stint/store/Decision" "waitMillis" "J" (.long (1000 : Int64)) ∧ Fld Z h b21 "com/example/stint/stint/store/Decision" "reporting" "I" (.int p1) ∧ Arh Z h b1 k_b1 (.object "com/example/stint/stint/store/Decision$Outcome") p0 [(p1, (.ref b7))] [] .null ∧ Fld Z h b7 "com/example/stint/stint/store/Decision$Outcome" "waitMillis" "J" (.long (1000 : Int64))
set_option maxRecDepth 65536 in
set_option maxHeartbeats 40000000 in
theorem rm1 (l : Launch) (Z : State) (a0 : Array Value) (hw : ∀ d ∈ tables_1, d.before a0 Z = true) (ws : List Jvm.Cond) (p0 : Int32) (p1 : Int32) (h0 : Heap) (n0 : Nat) (Z0 : n0 ≤ h0.size) (hn0 : ¬ p0 < 0) (hcap : p0.toNatClampNeg ≤ 16) (hp0 : ¬ p1 < 0) (hp1 : p1 < p0) (hn : p0.toInt ≤ 16) (hr0 : 0 ≤ p1.toInt) (hr1 : p1.toInt < p0.toInt) :
    MetFree l (⟨"com/example/stint/stint/store/Decision", "unavailable", "(II)Lcom/example/stint/stint/store/Decision;"⟩ : MethodName) (head1 (Jvm.Cond.code (⟨"com/example/stint/stint/store/Decision", "unavailable", "(II)Lcom/example/stint/stint/store/Decision;"⟩ : MethodName) prog_43_method_3_code 3 (some (.object "com/example/stint/stint/store/Decision")) :: ws) ({ frames := 2, cells := 3, slots := 24, locals := 36 } : Room)) (fun a U => a = #[(.int p0), (.int p1)] ∧ Z.Warmed39 U.vm ∧ U.heap = h0) (fun _ _ _ _ _ => True) (fun _ U o U' => ∃ v L, o = .returned v ∧ Q1 Z p0 p1 h0 n0 v U'.heap L ∧ FrameEnd U o U' L ({ frames := 2, cells := 3, slots := 24, locals := 36 } : Room).cells ({ frames := 2, cells := 3, slots := 24, locals := 36 } : Room).slots) := by
  refine MetFree.of_bodySF (plainFor_of_name pn_1) hisR ?_
  intro p e s m args below meth c s₁ Bd hml0 hP hK
  obtain ⟨rfl, hZ, hh⟩ := hP
  have hx := Bd.exec
  have hby := Bd.bytes
  have hml : c.maxLocals = 3 := hml0
  have hown : s.vm.findClass "com/example/stint/stint/store/Decision" = some m.cls := findClass_of_methodNamed Bd.named
  have hnm := (name_of_methodNamed Bd.named Bd.method).1
  have X0 : Stand p l e ({ frames := 2, cells := 3, slots := 24, locals := 36 } : Room) s m #[(.int p0), (.int p1)] below meth c s₁ [] 0 0 := Stand.of_body Bd
  have e0 : s₁.heap = h0 := by rw [← hh, Bd.state]; rfl
  have N0 := Fr.nil n0
  have K0 : Keep h0 h0 [] := Keep.refl _ _
  have pre0 : ∀ t, Steps p.tables e below (s₁.setTop (mkF m 0 #[.val (.int p0), .val (.int p1), .unset] [])) t → Steps p.tables e below (s₁.setTop (entryFrame m #[(.int p0), (.int p1)] 3)) t := fun t k => castTop (ef_1 m p0 p1) k
  have pre1 : ∀ t, Steps p.tables e below (s₁.setTop (mkF m 1 #[.val (.int p0), .val (.int p1), .unset] [(.int p0)])) t → Steps p.tables e below (s₁.setTop (entryFrame m #[(.int p0), (.int p1)] 3)) t := fun t k => pre0 t (by
    show Steps p.tables e below (s₁.setTop (mkF m 0 #[.val (.int p0), .val (.int p1), .unset] [])) _
    refine XS.iloadN X0.here hx rfl (hb hby d1_0) rfl ?_
    exact k)
  obtain ⟨T2, h2, k2, X2, e2, E2, A2, O2, st2⟩ := newR X0 hx hZ hown (hw _ (List.mem_of_getElem? (i := 5) rfl)) (hw _ (List.mem_of_getElem? (i := 6) rfl)) e0 (g := (mkF m 1 #[.val (.int p0), .val (.int p1), .unset] [(.int p0)])) rfl (hb hby d1_1) rfl hn0 (cap := 16) hcap (by decide) (by decide) (by decide)
  obtain ⟨b1, g2⟩ : ∃ z, z = h0.size := ⟨_, rfl⟩
  rw [← g2] at A2 st2
  have gg2 : n0 ≤ b1 := Nat.le_trans Z0 (Nat.le_of_eq g2.symm)
  have sz2 : h0.size ≤ b1 := Nat.le_trans K0.1 (Nat.le_of_eq g2.symm)
  have K2 : Keep h0 h2 [] := K0.ext E2
  have Z2 : n0 ≤ h2.size := Nat.le_trans Z0 E2.1
  have V2 : Arh Z h2 b1 k2 (.object "com/example/stint/stint/store/Decision$Outcome") p0 [] [] .null := (Arv.new A2 hn0).arh
  have pre3 : ∀ t, Steps p.tables e below (T2.setTop (mkF m 4 #[.val (.int p0), .val (.int p1), .unset] [(.ref b1)])) t → Steps p.tables e below (s₁.setTop (entryFrame m #[(.int p0), (.int p1)] 3)) t := fun t k => pre1 t (st2 _ k)
  have pre4 : ∀ t, Steps p.tables e below (T2.setTop (mkF m 7 #[.val (.int p0), .val (.int p1), .val (.ref b1)] [(.int p1), (.ref b1)])) t → Steps p.tables e below (s₁.setTop (entryFrame m #[(.int p0), (.int p1)] 3)) t := fun t k => pre3 t (by
    show Steps p.tables e below (T2.setTop (mkF m 4 #[.val (.int p0), .val (.int p1), .unset] [(.ref b1)])) _
    refine XS.astoreN X2.here hx rfl (hb hby d1_4) rfl rfl (l' := #[.val (.int p0), .val (.int p1), .val (.ref b1)]) rfl ?_
    show Steps p.tables e below (T2.setTop (mkF m 5 #[.val (.int p0), .val (.int p1), .val (.ref b1)] [])) _
    refine XS.aloadN X2.here hx rfl (hb hby d1_5) rfl rfl ?_
    show Steps p.tables e below (T2.setTop (mkF m 6 #[.val (.int p0), .val (.int p1), .val (.ref b1)] [(.ref b1)])) _
    refine XS.iloadN X2.here hx rfl (hb hby d1_6) rfl ?_
    exact k)
  obtain ⟨T5, h5, X5, e5, E5, A5, D5, -, st5⟩ := newO X2 hx hZ hown (hw _ (List.mem_of_getElem? (i := 5) rfl)) (hw _ (List.mem_of_getElem? (i := 7) rfl)) (hw _ (List.mem_of_getElem? (i := 8) rfl)) e2 (g := (mkF m 7 #[.val (.int p0), .val (.int p1), .val (.ref b1)] [(.int p1), (.ref b1)])) rfl (hb hby d1_7) (by decide) (by decide)
  obtain ⟨b7, g5⟩ : ∃ z, z = h2.size := ⟨_, rfl⟩
  rw [← g5] at A5 D5 st5
  have gg5 : n0 ≤ b7 := Nat.le_trans Z2 (Nat.le_of_eq g5.symm)
  have sz5 : h0.size ≤ b7 := Nat.le_trans K2.1 (Nat.le_of_eq g5.symm)
  have K5 : Keep h0 h5 [] := K2.ext E5
  have Z5 : n0 ≤ h5.size := Nat.le_trans Z2 E5.1
  have ne5_b1 : b1 ≠ b7 := Nat.ne_of_lt (Nat.lt_of_lt_of_le V2.lt (Nat.le_of_eq g5.symm))
  have x6 := V2.ext E5
  have Fn5_limit : Fld Z h5 b7 "com/example/stint/stint/store/Decision$Outcome" "limit" "J" (.long (0 : Int64)) := D5 (Or.inr (hw _ (List.mem_of_getElem? (i := 17) rfl))) (ty := .long) (by decide)
  have Fn5_waitMillis : Fld Z h5 b7 "com/example/stint/stint/store/Decision$Outcome" "waitMillis" "J" (.long (0 : Int64)) := D5 (Or.inr (hw _ (List.mem_of_getElem? (i := 19) rfl))) (ty := .long) (by decide)
  have Fn5_remaining : Fld Z h5 b7 "com/example/stint/stint/store/Decision$Outcome" "remaining" "J" (.long (0 : Int64)) := D5 (Or.inr (hw _ (List.mem_of_getElem? (i := 21) rfl))) (ty := .long) (by decide)
  have Fn5_resetMillis : Fld Z h5 b7 "com/example/stint/stint/store/Decision$Outcome" "resetMillis" "J" (.long (0 : Int64)) := D5 (Or.inr (hw _ (List.mem_of_getElem? (i := 23) rfl))) (ty := .long) (by decide)
  have pre7 : ∀ t, Steps p.tables e below (T5.setTop (mkF m 10 #[.val (.int p0), .val (.int p1), .val (.ref b1)] [(.ref b7), (.int p1), (.ref b1)])) t → Steps p.tables e below (s₁.setTop (entryFrame m #[(.int p0), (.int p1)] 3)) t := fun t k => pre4 t (st5 _ k)
  have pre8 : ∀ t, Steps p.tables e below (T5.setTop (mkF m 17 #[.val (.int p0), .val (.int p1), .val (.ref b1)] [(.long (0 : Int64)), (.long (0 : Int64)), (.long (1000 : Int64)), (.long (0 : Int64)), (.ref b7), (.ref b7), (.int p1), (.ref b1)])) t → Steps p.tables e below (s₁.setTop (entryFrame m #[(.int p0), (.int p1)] 3)) t := fun t k => pre7 t (by
    show Steps p.tables e below (T5.setTop (mkF m 10 #[.val (.int p0), .val (.int p1), .val (.ref b1)] [(.ref b7), (.int p1), (.ref b1)])) _
    refine XS.dup X5.here hx rfl (hb hby d1_10) rfl rfl ?_
    show Steps p.tables e below (T5.setTop (mkF m 11 #[.val (.int p0), .val (.int p1), .val (.ref b1)] [(.ref b7), (.ref b7), (.int p1), (.ref b1)])) _
    refine XS.lconst X5.here hx rfl (hb hby d1_11) ?_
    show Steps p.tables e below (T5.setTop (mkF m 12 #[.val (.int p0), .val (.int p1), .val (.ref b1)] [(.long (0 : Int64)), (.ref b7), (.ref b7), (.int p1), (.ref b1)])) _
    refine X5.ldc2Long hx hown (mvT hZ (hw _ (List.mem_of_getElem? (i := 9) rfl))) (g := (mkF m 12 #[.val (.int p0), .val (.int p1), .val (.ref b1)] [(.long (0 : Int64)), (.ref b7), (.ref b7), (.int p1), (.ref b1)])) rfl (hb hby d1_12) _ ?_
    show Steps p.tables e below (T5.setTop (mkF m 15 #[.val (.int p0), .val (.int p1), .val (.ref b1)] [(.long (1000 : Int64)), (.long (0 : Int64)), (.ref b7), (.ref b7), (.int p1), (.ref b1)])) _
    refine XS.lconst X5.here hx rfl (hb hby d1_15) ?_
    show Steps p.tables e below (T5.setTop (mkF m 16 #[.val (.int p0), .val (.int p1), .val (.ref b1)] [(.long (0 : Int64)), (.long (1000 : Int64)), (.long (0 : Int64)), (.ref b7), (.ref b7), (.int p1), (.ref b1)])) _
    refine XS.lconst X5.here hx rfl (hb hby d1_16) ?_
    exact k)
  obtain ⟨_, _, ⟨T9, L9, k9, n9⟩, -, X9, ⟨Lc9, hQ9, l9, y9, z9⟩, st9⟩ := X5.specialBack hx (y := (⟨"com/example/stint/stint/store/Decision$Outcome", "<init>", "(JJJJ)V"⟩ : MethodName)) rfl hown (mvT hZ (hw _ (List.mem_of_getElem? (i := 10) rfl))) (mvT hZ (hw _ (List.mem_of_getElem? (i := 11) rfl))) (mvT hZ (hw _ (List.mem_of_getElem? (i := 12) rfl))) (by decide) (backOf (W := 3) (rm2 l Z a0 hw [] b7 (0 : Int64) (1000 : Int64) (0 : Int64) (0 : Int64) h5 n0 Z5 A5 Fn5_limit Fn5_waitMillis Fn5_remaining Fn5_resetMillis gg5) hZ (hw _ (List.mem_of_getElem? (i := 12) rfl)) (hw _ (List.mem_of_getElem? (i := 8) rfl)) (by decide) (by decide)) (g := (mkF m 17 #[.val (.int p0), .val (.int p1), .val (.ref b1)] [(.long (0 : Int64)), (.long (0 : Int64)), (.long (1000 : Int64)), (.long (0 : Int64)), (.ref b7), (.ref b7), (.int p1), (.ref b1)])) rfl (by rw [hml]; rfl) (Steps.refl _) (a := b7) (argsL := [(.long (0 : Int64)), (.long (1000 : Int64)), (.long (0 : Int64)), (.long (0 : Int64))]) (rest := [(.ref b7), (.int p1), (.ref b1)]) (lenOf pd__JJJJ_V rfl) rfl (by show 2 * 0 + _ ≤ _; exact Nat.le_of_eq rfl) (hb hby d1_17) (fun _ _ => ⟨rfl, e5, (by decide : 2 + 0 ≤ _), (by decide : 20 + 0 ≤ _)⟩)
  dsimp only [Pt.U, Pt.locs, Pt.cells, Pt.slots] at X9 l9 y9 z9 st9 hQ9
  subst l9 y9 z9
  obtain ⟨rfl, Nq9, Kq9, o9_0, o9_1⟩ := hQ9
  have N9 := Fr.app N0 Nq9
  have K9 : Keep h0 T9.heap [] := K5.trans Kq9 (allS (Or.inr sz5) all0)
  have Z9 : n0 ≤ T9.heap.size := Nat.le_trans Z5 Kq9.1
  have x10 := x6.keep Kq9 (ninS ne5_b1 nin0)
  have x11 := A5.keep Kq9
  have pre12 : ∀ t, Steps p.tables e below (T9.setTop (mkF m 20 #[.val (.int p0), .val (.int p1), .val (.ref b1)] [(.ref b7), (.int p1), (.ref b1)])) t → Steps p.tables e below (s₁.setTop (entryFrame m #[(.int p0), (.int p1)] 3)) t := fun t k => pre8 t (st9.trans k)
  obtain ⟨cl13, Ar13, q13, Sz13, Mn13, Hs13, Gs13⟩ := id x10
  have hin13 : ¬ (p1 < 0 ∨ cl13.slots.size ≤ (p1).toNatClampNeg) := inb_of Sz13 ⟨hp0, hp1⟩
  obtain ⟨T13, h13, X13, e13, W13, st13⟩ := stR X9 hx hZ rfl Ar13 (j := p1) hin13 rfl (Sto.ofV Ar13 q13 O2 (Ins.self o9_0)) (g := (mkF m 20 #[.val (.int p0), .val (.int p1), .val (.ref b1)] [(.ref b7), (.int p1), (.ref b1)])) rfl rfl (hb hby d1_20)
  have V13 : Arh Z h13 b1 k2 (.object "com/example/stint/stint/store/Decision$Outcome") p0 [(p1, (.ref b7))] [] .null := Arh.push Ar13 q13 Sz13 Mn13 Hs13 Gs13 rfl W13 hin13
  have N13 := Fr.snoc X13 N9 gg2
  have K13 : Keep h0 h13 [] := K9.wr W13 (Or.inr sz2)
  have Z13 : n0 ≤ h13.size := Nat.le_trans Z9 (Keep.of_wr W13).1
  have x14 := o9_0.wr W13
  have x15 := o9_1.other W13 (Or.inl (Ne.symm ne5_b1))
  have pre16 : ∀ t, Steps p.tables e below (T13.setTop (mkF m 21 #[.val (.int p0), .val (.int p1), .val (.ref b1)] [])) t → Steps p.tables e below (s₁.setTop (entryFrame m #[(.int p0), (.int p1)] 3)) t := fun t k => pre12 t (st13 _ k)
  obtain ⟨T17, h17, X17, e17, E17, A17, D17, -, st17⟩ := newO X13 hx hZ hown (hw _ (List.mem_of_getElem? (i := 25) rfl)) (hw _ (List.mem_of_getElem? (i := 26) rfl)) (hw _ (List.mem_of_getElem? (i := 3) rfl)) e13 (g := (mkF m 21 #[.val (.int p0), .val (.int p1), .val (.ref b1)] [])) rfl (hb hby d1_21) (by decide) (by decide)
  obtain ⟨b21, g17⟩ : ∃ z, z = h13.size := ⟨_, rfl⟩
  rw [← g17] at A17 D17 st17
  have gg17 : n0 ≤ b21 := Nat.le_trans Z13 (Nat.le_of_eq g17.symm)
  have sz17 : h0.size ≤ b21 := Nat.le_trans K13.1 (Nat.le_of_eq g17.symm)
  have K17 : Keep h0 h17 [] := K13.ext E17
  have Z17 : n0 ≤ h17.size := Nat.le_trans Z13 E17.1
  have ne17_b7 : b7 ≠ b21 := Nat.ne_of_lt (Nat.lt_of_lt_of_le x14.lt (Nat.le_of_eq g17.symm))
  have ne17_b1 : b1 ≠ b21 := Nat.ne_of_lt (Nat.lt_of_lt_of_le V13.lt (Nat.le_of_eq g17.symm))
  have x18 := x14.ext E17
  have x19 := x15.ext E17
  have x20 := V13.ext E17
  have Fn17_outcomes : Fld Z h17 b21 "com/example/stint/stint/store/Decision" "outcomes" "[Lcom/example/stint/stint/store/Decision$Outcome;" .null := D17 (Or.inr (hw _ (List.mem_of_getElem? (i := 32) rfl))) (ty := (.array (.object "com/example/stint/stint/store/Decision$Outcome"))) (by decide)
  have Fn17_unavailable : Fld Z h17 b21 "com/example/stint/stint/store/Decision" "unavailable" "Z" (.int (0 : Int32)) := D17 (Or.inr (hw _ (List.mem_of_getElem? (i := 34) rfl))) (ty := .boolean) (by decide)
  have Fn17_waitMillis : Fld Z h17 b21 "com/example/stint/stint/store/Decision" "waitMillis" "J" (.long (0 : Int64)) := D17 (Or.inr (hw _ (List.mem_of_getElem? (i := 41) rfl))) (ty := .long) (by decide)
  have Fn17_reporting : Fld Z h17 b21 "com/example/stint/stint/store/Decision" "reporting" "I" (.int (0 : Int32)) := D17 (Or.inr (hw _ (List.mem_of_getElem? (i := 48) rfl))) (ty := .int) (by decide)
  have pre21 : ∀ t, Steps p.tables e below (T17.setTop (mkF m 24 #[.val (.int p0), .val (.int p1), .val (.ref b1)] [(.ref b21)])) t → Steps p.tables e below (s₁.setTop (entryFrame m #[(.int p0), (.int p1)] 3)) t := fun t k => pre16 t (st17 _ k)
  have pre22 : ∀ t, Steps p.tables e below (T17.setTop (mkF m 27 #[.val (.int p0), .val (.int p1), .val (.ref b1)] [(.int (1 : Int32)), (.ref b1), (.ref b21), (.ref b21)])) t → Steps p.tables e below (s₁.setTop (entryFrame m #[(.int p0), (.int p1)] 3)) t := fun t k => pre21 t (by
    show Steps p.tables e below (T17.setTop (mkF m 24 #[.val (.int p0), .val (.int p1), .val (.ref b1)] [(.ref b21)])) _
    refine XS.dup X17.here hx rfl (hb hby d1_24) rfl rfl ?_
    show Steps p.tables e below (T17.setTop (mkF m 25 #[.val (.int p0), .val (.int p1), .val (.ref b1)] [(.ref b21), (.ref b21)])) _
    refine XS.aloadN X17.here hx rfl (hb hby d1_25) rfl rfl ?_
    show Steps p.tables e below (T17.setTop (mkF m 26 #[.val (.int p0), .val (.int p1), .val (.ref b1)] [(.ref b1), (.ref b21), (.ref b21)])) _
    refine XS.iconst X17.here hx rfl (hb hby d1_26) ?_
    exact k)
  obtain ⟨_, _, ⟨T23, L23, k23, n23⟩, -, X23, ⟨Lc23, hQ23, l23, y23, z23⟩, st23⟩ := X17.specialBack hx (y := (⟨"com/example/stint/stint/store/Decision", "<init>", "([Lcom/example/stint/stint/store/Decision$Outcome;Z)V"⟩ : MethodName)) rfl hown (mvT hZ (hw _ (List.mem_of_getElem? (i := 27) rfl))) (mvT hZ (hw _ (List.mem_of_getElem? (i := 28) rfl))) (mvT hZ (hw _ (List.mem_of_getElem? (i := 29) rfl))) (by decide) (backOf (W := 1) (rm4 l Z a0 hw [] b21 b1 (1 : Int32) _ p0 p1 b7 h17 n0 Z17 A17 Fn17_outcomes Fn17_unavailable Fn17_waitMillis Fn17_reporting x20 x19 gg17 ne17_b1 ne17_b7 hn hr0 hr1) hZ (hw _ (List.mem_of_getElem? (i := 29) rfl)) (hw _ (List.mem_of_getElem? (i := 3) rfl)) (by decide) (by decide)) (g := (mkF m 27 #[.val (.int p0), .val (.int p1), .val (.ref b1)] [(.int (1 : Int32)), (.ref b1), (.ref b21), (.ref b21)])) rfl (by rw [hml]; rfl) (Steps.refl _) (a := b21) (argsL := [(.ref b1), (.int (1 : Int32))]) (rest := [(.ref b21)]) (lenOf pd___Lcom_example_stint_stint_store_Decision_Outcome_Z_V rfl) rfl (by show 2 * 0 + _ ≤ _; exact Nat.le_of_eq rfl) (hb hby d1_27) (fun _ _ => ⟨rfl, e17, (by decide : 3 + 0 ≤ _), (by decide : 24 + 0 ≤ _)⟩)
  dsimp only [Pt.U, Pt.locs, Pt.cells, Pt.slots] at X23 l23 y23 z23 st23 hQ23
  subst l23 y23 z23
  obtain ⟨rfl, Nq23, Kq23, o23_0, o23_1, o23_2, o23_3, o23_4⟩ := hQ23
  have N23 := Fr.app N13 Nq23
  have K23 : Keep h0 T23.heap [] := K17.trans Kq23 (allS (Or.inr sz17) all0)
  have Z23 : n0 ≤ T23.heap.size := Nat.le_trans Z17 Kq23.1
  have x24 := x18.keep Kq23
  have x25 := x19.keep Kq23 (ninS ne17_b7 nin0)
  have x26 := x20.keep Kq23 (ninS ne17_b1 nin0)
  have x27 := A17.keep Kq23
  have pre28 : ∀ t, Steps p.tables e below (T23.setTop (mkF m 30 #[.val (.int p0), .val (.int p1), .val (.ref b1)] [(.ref b21)])) t → Steps p.tables e below (s₁.setTop (entryFrame m #[(.int p0), (.int p1)] 3)) t := fun t k => pre22 t (st23.trans k)
  obtain ⟨fs, hr, hrun, hended, hW, hsame⟩ := X23.leave (v := some (.ref b21)) (fun h => by rw [Bd.returns] at h; cases h)
  refine ⟨_, _, ?_, hrun, hended, _, _, rfl, ?_, ⟨_, rfl⟩, hW, hsame.mono (by decide) (by decide)⟩
  · refine pre28 _ ?_
    jvm_step X23.here [X23.here.top, hx, (hb hby d1_30), X23.method', Bd.returns, Value.isRef, FieldType.isReference]
    first | (intro acts; rw [hr _ acts rfl rfl rfl]) | rw [hr _ _ rfl rfl rfl]
    exact Steps.refl _
  · show Q1 Z p0 p1 h0 n0 _ T23.heap _
    skip
    exact ⟨b1, b7, b21, _, rfl, N23, K23, sz2, sz5, sz17, o23_0, o23_1, o23_2, o23_3, o23_4, x26, x25⟩
def own_ru (a x : Int32) : Int32 := (x &&& (2147483647 : Int32)) - (x &&& (2147483647 : Int32)) / ((1 : Int32) + (a &&& (15 : Int32))) * ((1 : Int32) + (a &&& (15 : Int32)))
theorem own_rv (a : Int32) : ((1 : Int32) + (a &&& (15 : Int32))).toInt = 1 + a.toInt % 16 := by
  have h : (a &&& (15 : Int32)).toInt = a.toInt % 16 := c_mask a 15 4 (by decide) (by decide)
  have b := c_iadd 1 (a &&& (15 : Int32))
  have r := rng32 ((1 : Int32) + (a &&& (15 : Int32)))
  rw [show (1 : Int32).toInt = 1 from rfl] at b
  omega
theorem own_rules (a : Int32) : ((1 : Int32) + (a &&& (15 : Int32))) ≠ 0 ∧ ¬ ((1 : Int32) + (a &&& (15 : Int32))) < 0 ∧ ((1 : Int32) + (a &&& (15 : Int32))).toNatClampNeg ≤ 16 ∧ ((1 : Int32) + (a &&& (15 : Int32))).toInt ≤ 16 := by
  have h := own_rv a
  refine ⟨fun q => ?_, ?_, ?_, by omega⟩
  · rw [q] at h
    have : (0 : Int32).toInt = 0 := rfl
    omega
  · rw [Int32.lt_iff_toInt_lt, h, show (0 : Int32).toInt = 0 from rfl]; omega
  · simp only [Int32.toNatClampNeg, h]; omega
theorem own_rem (a x : Int32) : ¬ own_ru a x < 0 ∧ own_ru a x < ((1 : Int32) + (a &&& (15 : Int32))) ∧ 0 ≤ (own_ru a x).toInt ∧ (own_ru a x).toInt < ((1 : Int32) + (a &&& (15 : Int32))).toInt := by
  have h := own_rv a
  have m : (x &&& (2147483647 : Int32)).toInt = x.toInt % 2147483648 := c_mask x 2147483647 31 (by decide) (by decide)
  have e : own_ru a x = (x &&& (2147483647 : Int32)) % ((1 : Int32) + (a &&& (15 : Int32))) := by
    unfold own_ru
    exact irem_eq_mod _ _
  have b := (c_iremV (x &&& (2147483647 : Int32)) ((1 : Int32) + (a &&& (15 : Int32)))).1 (by omega) (by omega)
  rw [← e] at b
  rw [Int32.lt_iff_toInt_lt, Int32.lt_iff_toInt_lt, show (0 : Int32).toInt = 0 from rfl]
  omega
theorem own_law_y' : True := trivial
theorem pn_0 : plainName "com/example/stint/stint/store/DecisionUnavailablePinLaw" = true := by first | (simp [plainName, overriddenIn]; done) | decide +kernel
theorem pd__II_Lcom_example_stint_stint_store_Decision_ : parseMethodDescriptor "(II)Lcom/example/stint/stint/store/Decision;" = some ⟨[.int, .int], some (.object "com/example/stint/stint/store/Decision")⟩ := by decide +kernel
theorem pd___J : parseMethodDescriptor "()J" = some ⟨[], some .long⟩ := by decide +kernel
theorem pd___I : parseMethodDescriptor "()I" = some ⟨[], some .int⟩ := by decide +kernel
theorem pd__I_Z : parseMethodDescriptor "(I)Z" = some ⟨[.int], some .boolean⟩ := by decide +kernel
theorem ef_0 (m : MethodId) (x0 : Int32) (x1 : Int32) (x2 : Int32) : entryFrame m #[(.int x0), (.int x1), (.int x2)] maxLocals = mkF m 0 #[.val (.int x0), .val (.int x1), .val (.int x2), .unset, .unset, .unset, .unset, .unset] [] := by first | (simp [entryFrame, mkF, argsToLocals, Value.category, maxLocals]; done) | rfl
def v0_y_6 (p0 : Int32) : Int32 := ((1 : Int32) + (p0 &&& (15 : Int32)))
def v0_y_13 (p0 : Int32) (p1 : Int32) : Int32 := ((p1 &&& (2147483647 : Int32)) - (p1 &&& (2147483647 : Int32)) / (v0_y_6 p0) * (v0_y_6 p0))
def v0_y_21 (p0 : Int32) (p2 : Int32) : Int32 := ((p2 &&& (2147483647 : Int32)) - (p2 &&& (2147483647 : Int32)) / (v0_y_6 p0) * (v0_y_6 p0))
def v0_y_36 : Int32 := (f7 (nar .boolean (1 : Int32)))
def f0_y : Int32 := (1 : Int32)
set_option maxRecDepth 65536 in
set_option maxHeartbeats 40000000 in
theorem rm0_y (l : Launch) (Z : State) (a0 : Array Value) (hw : ∀ d ∈ tables_1, d.before a0 Z = true) (ws : List Jvm.Cond) (p0 : Int32) (p1 : Int32) (p2 : Int32) (h0 : Heap) (n0 : Nat) (Z0 : n0 ≤ h0.size) (hk : own_ru p0 p2 = own_ru p0 p1) :
    MetFree l x (head1 (Jvm.Cond.code x code maxLocals ret :: ws) room_1) (fun a U => a = #[(.int p0), (.int p1), (.int p2)] ∧ Z.Warmed39 U.vm ∧ U.heap = h0) (fun _ _ _ _ _ => True) (fun _ U o U' => ∃ v L, o = .returned v ∧ QL (some (.int (f0_y))) n0 v U'.heap L ∧ FrameEnd U o U' L room_1.cells room_1.slots) := by
  refine MetFree.of_bodySF (plainFor_of_name pn_0) hisR ?_
  intro p e s m args below meth c s₁ Bd hml0 hP hK
  obtain ⟨rfl, hZ, hh⟩ := hP
  have hx := Bd.exec
  have hby := Bd.bytes
  have hml : c.maxLocals = 8 := hml0
  have hown : s.vm.findClass "com/example/stint/stint/store/DecisionUnavailablePinLaw" = some m.cls := findClass_of_methodNamed Bd.named
  have hnm := (name_of_methodNamed Bd.named Bd.method).1
  have X0 : Stand p l e room_1 s m #[(.int p0), (.int p1), (.int p2)] below meth c s₁ [] 0 0 := Stand.of_body Bd
  have e0 : s₁.heap = h0 := by rw [← hh, Bd.state]; rfl
  have N0 := Fr.nil n0
  have K0 : Keep h0 h0 [] := Keep.refl _ _
  have pre0 : ∀ t, Steps p.tables e below (s₁.setTop (mkF m 0 #[.val (.int p0), .val (.int p1), .val (.int p2), .unset, .unset, .unset, .unset, .unset] [])) t → Steps p.tables e below (s₁.setTop (entryFrame m #[(.int p0), (.int p1), (.int p2)] maxLocals)) t := fun t k => castTop (ef_0 m p0 p1 p2) k
  have pre1 : ∀ t, Steps p.tables e below (s₁.setTop (mkF m 26 #[.val (.int p0), .val (.int p1), .val (.int p2), .val (.int (v0_y_6 p0)), .val (.int (v0_y_13 p0 p1)), .val (.int (v0_y_21 p0 p2)), .unset, .unset] [(.int (v0_y_13 p0 p1)), (.int (v0_y_6 p0))])) t → Steps p.tables e below (s₁.setTop (entryFrame m #[(.int p0), (.int p1), (.int p2)] maxLocals)) t := fun t k => pre0 t (by
    show Steps p.tables e below (s₁.setTop (mkF m 0 #[.val (.int p0), .val (.int p1), .val (.int p2), .unset, .unset, .unset, .unset, .unset] [])) _
    refine XS.iconst X0.here hx rfl (hb hby at_0) ?_
    show Steps p.tables e below (s₁.setTop (mkF m 1 #[.val (.int p0), .val (.int p1), .val (.int p2), .unset, .unset, .unset, .unset, .unset] [(.int (1 : Int32))])) _
    refine XS.iloadN X0.here hx rfl (hb hby at_1) rfl ?_
    show Steps p.tables e below (s₁.setTop (mkF m 2 #[.val (.int p0), .val (.int p1), .val (.int p2), .unset, .unset, .unset, .unset, .unset] [(.int p0), (.int (1 : Int32))])) _
    refine XS.bipush X0.here hx rfl (hb hby at_2) ?_
    show Steps p.tables e below (s₁.setTop (mkF m 4 #[.val (.int p0), .val (.int p1), .val (.int p2), .unset, .unset, .unset, .unset, .unset] [(.int (15 : Int32)), (.int p0), (.int (1 : Int32))])) _
    refine XS.iand X0.here hx rfl (hb hby at_4) rfl ?_
    show Steps p.tables e below (s₁.setTop (mkF m 5 #[.val (.int p0), .val (.int p1), .val (.int p2), .unset, .unset, .unset, .unset, .unset] [(.int (p0 &&& (15 : Int32))), (.int (1 : Int32))])) _
    refine XS.iadd X0.here hx rfl (hb hby at_5) rfl ?_
    show Steps p.tables e below (s₁.setTop (mkF m 6 #[.val (.int p0), .val (.int p1), .val (.int p2), .unset, .unset, .unset, .unset, .unset] [(.int ((1 : Int32) + (p0 &&& (15 : Int32))))])) _
    refine XS.istoreN X0.here hx rfl (hb hby at_6) rfl (l' := #[.val (.int p0), .val (.int p1), .val (.int p2), .val (.int (v0_y_6 p0)), .unset, .unset, .unset, .unset]) rfl ?_
    show Steps p.tables e below (s₁.setTop (mkF m 7 #[.val (.int p0), .val (.int p1), .val (.int p2), .val (.int (v0_y_6 p0)), .unset, .unset, .unset, .unset] [])) _
    refine XS.iloadN X0.here hx rfl (hb hby at_7) rfl ?_
    show Steps p.tables e below (s₁.setTop (mkF m 8 #[.val (.int p0), .val (.int p1), .val (.int p2), .val (.int (v0_y_6 p0)), .unset, .unset, .unset, .unset] [(.int p1)])) _
    refine X0.ldcInt hx hown (mvT hZ (hw _ (List.mem_of_getElem? (i := 0) rfl))) (g := (mkF m 8 #[.val (.int p0), .val (.int p1), .val (.int p2), .val (.int (v0_y_6 p0)), .unset, .unset, .unset, .unset] [(.int p1)])) rfl (hb hby at_8) _ ?_
    show Steps p.tables e below (s₁.setTop (mkF m 10 #[.val (.int p0), .val (.int p1), .val (.int p2), .val (.int (v0_y_6 p0)), .unset, .unset, .unset, .unset] [(.int (2147483647 : Int32)), (.int p1)])) _
    refine XS.iand X0.here hx rfl (hb hby at_10) rfl ?_
    show Steps p.tables e below (s₁.setTop (mkF m 11 #[.val (.int p0), .val (.int p1), .val (.int p2), .val (.int (v0_y_6 p0)), .unset, .unset, .unset, .unset] [(.int (p1 &&& (2147483647 : Int32)))])) _
    refine XS.iloadN X0.here hx rfl (hb hby at_11) rfl ?_
    show Steps p.tables e below (s₁.setTop (mkF m 12 #[.val (.int p0), .val (.int p1), .val (.int p2), .val (.int (v0_y_6 p0)), .unset, .unset, .unset, .unset] [(.int (v0_y_6 p0)), (.int (p1 &&& (2147483647 : Int32)))])) _
    refine XS.irem X0.here hx rfl (hb hby at_12) rfl (own_rules p0).1 ?_
    show Steps p.tables e below (s₁.setTop (mkF m 13 #[.val (.int p0), .val (.int p1), .val (.int p2), .val (.int (v0_y_6 p0)), .unset, .unset, .unset, .unset] [(.int ((p1 &&& (2147483647 : Int32)) - (p1 &&& (2147483647 : Int32)) / (v0_y_6 p0) * (v0_y_6 p0)))])) _
    refine XS.istore X0.here hx rfl (hb hby at_13) rfl (l' := #[.val (.int p0), .val (.int p1), .val (.int p2), .val (.int (v0_y_6 p0)), .val (.int (v0_y_13 p0 p1)), .unset, .unset, .unset]) rfl ?_
    show Steps p.tables e below (s₁.setTop (mkF m 15 #[.val (.int p0), .val (.int p1), .val (.int p2), .val (.int (v0_y_6 p0)), .val (.int (v0_y_13 p0 p1)), .unset, .unset, .unset] [])) _
    refine XS.iloadN X0.here hx rfl (hb hby at_15) rfl ?_
    show Steps p.tables e below (s₁.setTop (mkF m 16 #[.val (.int p0), .val (.int p1), .val (.int p2), .val (.int (v0_y_6 p0)), .val (.int (v0_y_13 p0 p1)), .unset, .unset, .unset] [(.int p2)])) _
    refine X0.ldcInt hx hown (mvT hZ (hw _ (List.mem_of_getElem? (i := 0) rfl))) (g := (mkF m 16 #[.val (.int p0), .val (.int p1), .val (.int p2), .val (.int (v0_y_6 p0)), .val (.int (v0_y_13 p0 p1)), .unset, .unset, .unset] [(.int p2)])) rfl (hb hby at_16) _ ?_
    show Steps p.tables e below (s₁.setTop (mkF m 18 #[.val (.int p0), .val (.int p1), .val (.int p2), .val (.int (v0_y_6 p0)), .val (.int (v0_y_13 p0 p1)), .unset, .unset, .unset] [(.int (2147483647 : Int32)), (.int p2)])) _
    refine XS.iand X0.here hx rfl (hb hby at_18) rfl ?_
    show Steps p.tables e below (s₁.setTop (mkF m 19 #[.val (.int p0), .val (.int p1), .val (.int p2), .val (.int (v0_y_6 p0)), .val (.int (v0_y_13 p0 p1)), .unset, .unset, .unset] [(.int (p2 &&& (2147483647 : Int32)))])) _
    refine XS.iloadN X0.here hx rfl (hb hby at_19) rfl ?_
    show Steps p.tables e below (s₁.setTop (mkF m 20 #[.val (.int p0), .val (.int p1), .val (.int p2), .val (.int (v0_y_6 p0)), .val (.int (v0_y_13 p0 p1)), .unset, .unset, .unset] [(.int (v0_y_6 p0)), (.int (p2 &&& (2147483647 : Int32)))])) _
    refine XS.irem X0.here hx rfl (hb hby at_20) rfl (own_rules p0).1 ?_
    show Steps p.tables e below (s₁.setTop (mkF m 21 #[.val (.int p0), .val (.int p1), .val (.int p2), .val (.int (v0_y_6 p0)), .val (.int (v0_y_13 p0 p1)), .unset, .unset, .unset] [(.int ((p2 &&& (2147483647 : Int32)) - (p2 &&& (2147483647 : Int32)) / (v0_y_6 p0) * (v0_y_6 p0)))])) _
    refine XS.istore X0.here hx rfl (hb hby at_21) rfl (l' := #[.val (.int p0), .val (.int p1), .val (.int p2), .val (.int (v0_y_6 p0)), .val (.int (v0_y_13 p0 p1)), .val (.int (v0_y_21 p0 p2)), .unset, .unset]) rfl ?_
    show Steps p.tables e below (s₁.setTop (mkF m 23 #[.val (.int p0), .val (.int p1), .val (.int p2), .val (.int (v0_y_6 p0)), .val (.int (v0_y_13 p0 p1)), .val (.int (v0_y_21 p0 p2)), .unset, .unset] [])) _
    refine XS.iloadN X0.here hx rfl (hb hby at_23) rfl ?_
    show Steps p.tables e below (s₁.setTop (mkF m 24 #[.val (.int p0), .val (.int p1), .val (.int p2), .val (.int (v0_y_6 p0)), .val (.int (v0_y_13 p0 p1)), .val (.int (v0_y_21 p0 p2)), .unset, .unset] [(.int (v0_y_6 p0))])) _
    refine XS.iload X0.here hx rfl (hb hby at_24) rfl ?_
    exact k)
  obtain ⟨_, _, ⟨T2, L2, k2, n2⟩, -, X2, ⟨Lc2, hQ2, l2, y2, z2⟩, st2⟩ := Jvm.LawKit.callS X0 hx (y := (⟨"com/example/stint/stint/store/Decision", "unavailable", "(II)Lcom/example/stint/stint/store/Decision;"⟩ : MethodName)) hown (mvT hZ (hw _ (List.mem_of_getElem? (i := 1) rfl))) (mvT hZ (hw _ (List.mem_of_getElem? (i := 2) rfl))) (mvT hZ (hw _ (List.mem_of_getElem? (i := 3) rfl))) (mvT hZ (hw _ (List.mem_of_getElem? (i := 4) rfl))) (by decide) (backOf (W := 0) (rm1 l Z a0 hw [] (v0_y_6 p0) (v0_y_13 p0 p1) h0 n0 Z0 (own_rules p0).2.1 (own_rules p0).2.2.1 (own_rem p0 p1).1 (own_rem p0 p1).2.1 (own_rules p0).2.2.2 (own_rem p0 p1).2.2.1 (own_rem p0 p1).2.2.2) hZ (hw _ (List.mem_of_getElem? (i := 4) rfl)) (hw _ (List.mem_of_getElem? (i := 3) rfl)) (by decide) (by decide)) (g := (mkF m 26 #[.val (.int p0), .val (.int p1), .val (.int p2), .val (.int (v0_y_6 p0)), .val (.int (v0_y_13 p0 p1)), .val (.int (v0_y_21 p0 p2)), .unset, .unset] [(.int (v0_y_13 p0 p1)), (.int (v0_y_6 p0))])) rfl (by rw [hml]; rfl) (argsL := [(.int (v0_y_6 p0)), (.int (v0_y_13 p0 p1))]) (rest := []) (lenOf pd__II_Lcom_example_stint_stint_store_Decision_ rfl) rfl (by show 2 * 0 + _ ≤ _; exact Nat.le_of_eq rfl) (hb hby at_26) (fun _ _ => ⟨rfl, e0, (by decide : 0 + 3 ≤ _), (by decide : 0 + 24 ≤ _)⟩)
  dsimp only [Pt.U, Pt.locs, Pt.cells, Pt.slots] at X2 l2 y2 z2 st2 hQ2
  subst l2 y2 z2
  obtain ⟨b26_0, b26_1, b26_2, k_b1_2, rfl, Nq2, Kq2, gz2_b26_0, gz2_b26_1, gz2_b26_2, o2_0, o2_1, o2_2, o2_3, o2_4, o2_5, o2_6⟩ := hQ2
  have N2 := Fr.app N0 Nq2
  have K2 : Keep h0 T2.heap [] := K0.trans Kq2 all0
  have Z2 : n0 ≤ T2.heap.size := Nat.le_trans Z0 Kq2.1
  have gg2_b26_0 : n0 ≤ b26_0 := Nat.le_trans Z0 gz2_b26_0
  have sz2_b26_0 : h0.size ≤ b26_0 := Nat.le_trans K0.1 gz2_b26_0
  have gg2_b26_1 : n0 ≤ b26_1 := Nat.le_trans Z0 gz2_b26_1
  have sz2_b26_1 : h0.size ≤ b26_1 := Nat.le_trans K0.1 gz2_b26_1
  have gg2_b26_2 : n0 ≤ b26_2 := Nat.le_trans Z0 gz2_b26_2
  have sz2_b26_2 : h0.size ≤ b26_2 := Nat.le_trans K0.1 gz2_b26_2
  have pre3 : ∀ t, Steps p.tables e below (T2.setTop (mkF m 29 #[.val (.int p0), .val (.int p1), .val (.int p2), .val (.int (v0_y_6 p0)), .val (.int (v0_y_13 p0 p1)), .val (.int (v0_y_21 p0 p2)), .unset, .unset] [(.ref b26_2)])) t → Steps p.tables e below (s₁.setTop (entryFrame m #[(.int p0), (.int p1), (.int p2)] maxLocals)) t := fun t k => pre1 t (st2 _ k)
  have pre4 : ∀ t, Steps p.tables e below (T2.setTop (mkF m 33 #[.val (.int p0), .val (.int p1), .val (.int p2), .val (.int (v0_y_6 p0)), .val (.int (v0_y_13 p0 p1)), .val (.int (v0_y_21 p0 p2)), .val (.ref b26_2), .unset] [(.ref b26_2)])) t → Steps p.tables e below (s₁.setTop (entryFrame m #[(.int p0), (.int p1), (.int p2)] maxLocals)) t := fun t k => pre3 t (by
    show Steps p.tables e below (T2.setTop (mkF m 29 #[.val (.int p0), .val (.int p1), .val (.int p2), .val (.int (v0_y_6 p0)), .val (.int (v0_y_13 p0 p1)), .val (.int (v0_y_21 p0 p2)), .unset, .unset] [(.ref b26_2)])) _
    refine XS.astore X2.here hx rfl (hb hby at_29) rfl rfl (l' := #[.val (.int p0), .val (.int p1), .val (.int p2), .val (.int (v0_y_6 p0)), .val (.int (v0_y_13 p0 p1)), .val (.int (v0_y_21 p0 p2)), .val (.ref b26_2), .unset]) rfl ?_
    show Steps p.tables e below (T2.setTop (mkF m 31 #[.val (.int p0), .val (.int p1), .val (.int p2), .val (.int (v0_y_6 p0)), .val (.int (v0_y_13 p0 p1)), .val (.int (v0_y_21 p0 p2)), .val (.ref b26_2), .unset] [])) _
    refine XS.aload X2.here hx rfl (hb hby at_31) rfl rfl ?_
    exact k)
  obtain ⟨cq5, kq5, q5a, q5b, q5c⟩ := isOf hZ rfl o2_0
  obtain ⟨_, _, ⟨T5, L5, k5, n5⟩, -, X5, ⟨Lc5, hQ5, l5, y5, z5⟩, st5⟩ := X2.virtualBack hx (y := (⟨"com/example/stint/stint/store/Decision", "unavailable", "()Z"⟩ : MethodName)) (z := (⟨"com/example/stint/stint/store/Decision", "unavailable", "()Z"⟩ : MethodName)) hown (mvT hZ (hw _ (List.mem_of_getElem? (i := 49) rfl))) (mvT hZ (hw _ (List.mem_of_getElem? (i := 50) rfl))) (notFace_of_selects (args := #[]) (mvT hZ (hw _ (List.mem_of_getElem? (i := 52) rfl)))) (mvT hZ (hw _ (List.mem_of_getElem? (i := 52) rfl))) (mvT hZ (hw _ (List.mem_of_getElem? (i := 51) rfl))) (by decide) (backOf (W := 0) (rm7 l Z a0 hw [] b26_2 (nar .boolean (1 : Int32)) T2.heap n0 Z2 o2_2) hZ (hw _ (List.mem_of_getElem? (i := 53) rfl)) (hw _ (List.mem_of_getElem? (i := 3) rfl)) (by decide) (by decide)) q5a q5c (g := (mkF m 33 #[.val (.int p0), .val (.int p1), .val (.int p2), .val (.int (v0_y_6 p0)), .val (.int (v0_y_13 p0 p1)), .val (.int (v0_y_21 p0 p2)), .val (.ref b26_2), .unset] [(.ref b26_2)])) rfl (by rw [hml]; rfl) (Steps.refl _) (argsL := []) (rest := []) (lenOf pd___Z rfl) rfl (by show 2 * 0 + _ ≤ _; exact Nat.le_of_eq rfl) (hb hby at_33) (fun _ _ => ⟨rfl, rfl, (by decide : 3 + 0 ≤ _), (by decide : 24 + 0 ≤ _)⟩)
  dsimp only [Pt.U, Pt.locs, Pt.cells, Pt.slots] at X5 l5 y5 z5 st5 hQ5
  subst l5 y5 z5
  obtain ⟨rfl, Nq5, e5⟩ := hQ5
  have N5 := Fr.app N2 Nq5
  have pre6 : ∀ t, Steps p.tables e below (T5.setTop (mkF m 36 #[.val (.int p0), .val (.int p1), .val (.int p2), .val (.int (v0_y_6 p0)), .val (.int (v0_y_13 p0 p1)), .val (.int (v0_y_21 p0 p2)), .val (.ref b26_2), .unset] [(.int (f7 (nar .boolean (1 : Int32))))])) t → Steps p.tables e below (s₁.setTop (entryFrame m #[(.int p0), (.int p1), (.int p2)] maxLocals)) t := fun t k => pre4 t (st5.trans k)
  have pre7 : ∀ t, Steps p.tables e below (T5.setTop (mkF m 45 #[.val (.int p0), .val (.int p1), .val (.int p2), .val (.int (v0_y_6 p0)), .val (.int (v0_y_13 p0 p1)), .val (.int (v0_y_21 p0 p2)), .val (.ref b26_2), .val (.int (v0_y_36))] [(.ref b26_2)])) t → Steps p.tables e below (s₁.setTop (entryFrame m #[(.int p0), (.int p1), (.int p2)] maxLocals)) t := fun t k => pre6 t (by
    show Steps p.tables e below (T5.setTop (mkF m 36 #[.val (.int p0), .val (.int p1), .val (.int p2), .val (.int (v0_y_6 p0)), .val (.int (v0_y_13 p0 p1)), .val (.int (v0_y_21 p0 p2)), .val (.ref b26_2), .unset] [(.int (f7 (nar .boolean (1 : Int32))))])) _
    refine XS.istore X5.here hx rfl (hb hby at_36) rfl (l' := #[.val (.int p0), .val (.int p1), .val (.int p2), .val (.int (v0_y_6 p0)), .val (.int (v0_y_13 p0 p1)), .val (.int (v0_y_21 p0 p2)), .val (.ref b26_2), .val (.int (v0_y_36))]) rfl ?_
    show Steps p.tables e below (T5.setTop (mkF m 38 #[.val (.int p0), .val (.int p1), .val (.int p2), .val (.int (v0_y_6 p0)), .val (.int (v0_y_13 p0 p1)), .val (.int (v0_y_21 p0 p2)), .val (.ref b26_2), .val (.int (v0_y_36))] [])) _
    refine XS.iload X5.here hx rfl (hb hby at_38) rfl ?_
    show Steps p.tables e below (T5.setTop (mkF m 40 #[.val (.int p0), .val (.int p1), .val (.int p2), .val (.int (v0_y_6 p0)), .val (.int (v0_y_13 p0 p1)), .val (.int (v0_y_21 p0 p2)), .val (.ref b26_2), .val (.int (v0_y_36))] [(.int (v0_y_36))])) _
    refine XS.ifNo X5.here hx rfl (hb hby at_40) rfl ((if0 _ _).trans (feq (by decide)).1) ?_
    show Steps p.tables e below (T5.setTop (mkF m 43 #[.val (.int p0), .val (.int p1), .val (.int p2), .val (.int (v0_y_6 p0)), .val (.int (v0_y_13 p0 p1)), .val (.int (v0_y_21 p0 p2)), .val (.ref b26_2), .val (.int (v0_y_36))] [])) _
    refine XS.aload X5.here hx rfl (hb hby at_43) rfl rfl ?_
    exact k)
  obtain ⟨cq8, kq8, q8a, q8b, q8c⟩ := isOf hZ e5 o2_0
  obtain ⟨_, _, ⟨T8, L8, k8, n8⟩, -, X8, ⟨Lc8, hQ8, l8, y8, z8⟩, st8⟩ := X5.virtualBack hx (y := (⟨"com/example/stint/stint/store/Decision", "admitted", "()Z"⟩ : MethodName)) (z := (⟨"com/example/stint/stint/store/Decision", "admitted", "()Z"⟩ : MethodName)) hown (mvT hZ (hw _ (List.mem_of_getElem? (i := 54) rfl))) (mvT hZ (hw _ (List.mem_of_getElem? (i := 43) rfl))) (notFace_of_selects (args := #[]) (mvT hZ (hw _ (List.mem_of_getElem? (i := 45) rfl)))) (mvT hZ (hw _ (List.mem_of_getElem? (i := 45) rfl))) (mvT hZ (hw _ (List.mem_of_getElem? (i := 44) rfl))) (by decide) (backOf (W := 0) (rm6 l Z a0 hw [] b26_2 (1000 : Int64) T2.heap n0 Z2 o2_3) hZ (hw _ (List.mem_of_getElem? (i := 46) rfl)) (hw _ (List.mem_of_getElem? (i := 3) rfl)) (by decide) (by decide)) q8a q8c (g := (mkF m 45 #[.val (.int p0), .val (.int p1), .val (.int p2), .val (.int (v0_y_6 p0)), .val (.int (v0_y_13 p0 p1)), .val (.int (v0_y_21 p0 p2)), .val (.ref b26_2), .val (.int (v0_y_36))] [(.ref b26_2)])) rfl (by rw [hml]; rfl) (Steps.refl _) (argsL := []) (rest := []) (lenOf pd___Z rfl) rfl (by show 2 * 0 + _ ≤ _; exact Nat.le_of_eq rfl) (hb hby at_45) (fun _ _ => ⟨rfl, e5, (by decide : 3 + 0 ≤ _), (by decide : 24 + 0 ≤ _)⟩)
  dsimp only [Pt.U, Pt.locs, Pt.cells, Pt.slots] at X8 l8 y8 z8 st8 hQ8
  subst l8 y8 z8
  obtain ⟨rfl, Nq8, e8⟩ := hQ8
  have N8 := Fr.app N5 Nq8
  have pre9 : ∀ t, Steps p.tables e below (T8.setTop (mkF m 48 #[.val (.int p0), .val (.int p1), .val (.int p2), .val (.int (v0_y_6 p0)), .val (.int (v0_y_13 p0 p1)), .val (.int (v0_y_21 p0 p2)), .val (.ref b26_2), .val (.int (v0_y_36))] [(.int (f6 (1000 : Int64)))])) t → Steps p.tables e below (s₁.setTop (entryFrame m #[(.int p0), (.int p1), (.int p2)] maxLocals)) t := fun t k => pre7 t (st8.trans k)
  have pre10 : ∀ t, Steps p.tables e below (T8.setTop (mkF m 65 #[.val (.int p0), .val (.int p1), .val (.int p2), .val (.int (v0_y_6 p0)), .val (.int (v0_y_13 p0 p1)), .val (.int (v0_y_21 p0 p2)), .val (.ref b26_2), .val (.int (1 : Int32))] [(.ref b26_2)])) t → Steps p.tables e below (s₁.setTop (entryFrame m #[(.int p0), (.int p1), (.int p2)] maxLocals)) t := fun t k => pre9 t (by
    show Steps p.tables e below (T8.setTop (mkF m 48 #[.val (.int p0), .val (.int p1), .val (.int p2), .val (.int (v0_y_6 p0)), .val (.int (v0_y_13 p0 p1)), .val (.int (v0_y_21 p0 p2)), .val (.ref b26_2), .val (.int (v0_y_36))] [(.int (f6 (1000 : Int64)))])) _
    refine XS.ifNo X8.here hx rfl (hb hby at_48) rfl ((if0 _ _).trans (teq (by decide)).2) ?_
    show Steps p.tables e below (T8.setTop (mkF m 51 #[.val (.int p0), .val (.int p1), .val (.int p2), .val (.int (v0_y_6 p0)), .val (.int (v0_y_13 p0 p1)), .val (.int (v0_y_21 p0 p2)), .val (.ref b26_2), .val (.int (v0_y_36))] [])) _
    refine XS.iconst X8.here hx rfl (hb hby at_51) ?_
    show Steps p.tables e below (T8.setTop (mkF m 52 #[.val (.int p0), .val (.int p1), .val (.int p2), .val (.int (v0_y_6 p0)), .val (.int (v0_y_13 p0 p1)), .val (.int (v0_y_21 p0 p2)), .val (.ref b26_2), .val (.int (v0_y_36))] [(.int (1 : Int32))])) _
    refine XS.goto X8.here hx rfl (pc0 := 52) (pc' := 56) rfl (hb hby at_52) (by decide) (by decide) ?_
    show Steps p.tables e below (T8.setTop (mkF m 56 #[.val (.int p0), .val (.int p1), .val (.int p2), .val (.int (v0_y_6 p0)), .val (.int (v0_y_13 p0 p1)), .val (.int (v0_y_21 p0 p2)), .val (.ref b26_2), .val (.int (v0_y_36))] [(.int (1 : Int32))])) _
    refine XS.istore X8.here hx rfl (hb hby at_56) rfl (l' := #[.val (.int p0), .val (.int p1), .val (.int p2), .val (.int (v0_y_6 p0)), .val (.int (v0_y_13 p0 p1)), .val (.int (v0_y_21 p0 p2)), .val (.ref b26_2), .val (.int (1 : Int32))]) rfl ?_
    show Steps p.tables e below (T8.setTop (mkF m 58 #[.val (.int p0), .val (.int p1), .val (.int p2), .val (.int (v0_y_6 p0)), .val (.int (v0_y_13 p0 p1)), .val (.int (v0_y_21 p0 p2)), .val (.ref b26_2), .val (.int (1 : Int32))] [])) _
    refine XS.iload X8.here hx rfl (hb hby at_58) rfl ?_
    show Steps p.tables e below (T8.setTop (mkF m 60 #[.val (.int p0), .val (.int p1), .val (.int p2), .val (.int (v0_y_6 p0)), .val (.int (v0_y_13 p0 p1)), .val (.int (v0_y_21 p0 p2)), .val (.ref b26_2), .val (.int (1 : Int32))] [(.int (1 : Int32))])) _
    refine XS.ifNo X8.here hx rfl (hb hby at_60) rfl (by decide) ?_
    show Steps p.tables e below (T8.setTop (mkF m 63 #[.val (.int p0), .val (.int p1), .val (.int p2), .val (.int (v0_y_6 p0)), .val (.int (v0_y_13 p0 p1)), .val (.int (v0_y_21 p0 p2)), .val (.ref b26_2), .val (.int (1 : Int32))] [])) _
    refine XS.aload X8.here hx rfl (hb hby at_63) rfl rfl ?_
    exact k)
  obtain ⟨cq11, kq11, q11a, q11b, q11c⟩ := isOf hZ e8 o2_0
  obtain ⟨_, _, ⟨T11, L11, k11, n11⟩, -, X11, ⟨Lc11, hQ11, l11, y11, z11⟩, st11⟩ := X8.virtualBack hx (y := (⟨"com/example/stint/stint/store/Decision", "waitMillis", "()J"⟩ : MethodName)) (z := (⟨"com/example/stint/stint/store/Decision", "waitMillis", "()J"⟩ : MethodName)) hown (mvT hZ (hw _ (List.mem_of_getElem? (i := 55) rfl))) (mvT hZ (hw _ (List.mem_of_getElem? (i := 56) rfl))) (notFace_of_selects (args := #[]) (mvT hZ (hw _ (List.mem_of_getElem? (i := 58) rfl)))) (mvT hZ (hw _ (List.mem_of_getElem? (i := 58) rfl))) (mvT hZ (hw _ (List.mem_of_getElem? (i := 57) rfl))) (by decide) (backOf (W := 0) (rm8 l Z a0 hw [] b26_2 (1000 : Int64) T2.heap n0 Z2 o2_3) hZ (hw _ (List.mem_of_getElem? (i := 59) rfl)) (hw _ (List.mem_of_getElem? (i := 3) rfl)) (by decide) (by decide)) q11a q11c (g := (mkF m 65 #[.val (.int p0), .val (.int p1), .val (.int p2), .val (.int (v0_y_6 p0)), .val (.int (v0_y_13 p0 p1)), .val (.int (v0_y_21 p0 p2)), .val (.ref b26_2), .val (.int (1 : Int32))] [(.ref b26_2)])) rfl (by rw [hml]; rfl) (Steps.refl _) (argsL := []) (rest := []) (lenOf pd___J rfl) rfl (by show 2 * 0 + _ ≤ _; exact Nat.le_of_eq rfl) (hb hby at_65) (fun _ _ => ⟨rfl, e8, (by decide : 3 + 0 ≤ _), (by decide : 24 + 0 ≤ _)⟩)
  dsimp only [Pt.U, Pt.locs, Pt.cells, Pt.slots] at X11 l11 y11 z11 st11 hQ11
  subst l11 y11 z11
  obtain ⟨rfl, Nq11, e11⟩ := hQ11
  have N11 := Fr.app N8 Nq11
  have pre12 : ∀ t, Steps p.tables e below (T11.setTop (mkF m 68 #[.val (.int p0), .val (.int p1), .val (.int p2), .val (.int (v0_y_6 p0)), .val (.int (v0_y_13 p0 p1)), .val (.int (v0_y_21 p0 p2)), .val (.ref b26_2), .val (.int (1 : Int32))] [(.long (f8 (1000 : Int64)))])) t → Steps p.tables e below (s₁.setTop (entryFrame m #[(.int p0), (.int p1), (.int p2)] maxLocals)) t := fun t k => pre10 t (st11.trans k)
  have pre13 : ∀ t, Steps p.tables e below (T11.setTop (mkF m 89 #[.val (.int p0), .val (.int p1), .val (.int p2), .val (.int (v0_y_6 p0)), .val (.int (v0_y_13 p0 p1)), .val (.int (v0_y_21 p0 p2)), .val (.ref b26_2), .val (.int (1 : Int32))] [(.ref b26_2)])) t → Steps p.tables e below (s₁.setTop (entryFrame m #[(.int p0), (.int p1), (.int p2)] maxLocals)) t := fun t k => pre12 t (by
    show Steps p.tables e below (T11.setTop (mkF m 68 #[.val (.int p0), .val (.int p1), .val (.int p2), .val (.int (v0_y_6 p0)), .val (.int (v0_y_13 p0 p1)), .val (.int (v0_y_21 p0 p2)), .val (.ref b26_2), .val (.int (1 : Int32))] [(.long (f8 (1000 : Int64)))])) _
    refine X11.ldc2Long hx hown (mvT hZ (hw _ (List.mem_of_getElem? (i := 60) rfl))) (g := (mkF m 68 #[.val (.int p0), .val (.int p1), .val (.int p2), .val (.int (v0_y_6 p0)), .val (.int (v0_y_13 p0 p1)), .val (.int (v0_y_21 p0 p2)), .val (.ref b26_2), .val (.int (1 : Int32))] [(.long (f8 (1000 : Int64)))])) rfl (hb hby at_68) _ ?_
    show Steps p.tables e below (T11.setTop (mkF m 71 #[.val (.int p0), .val (.int p1), .val (.int p2), .val (.int (v0_y_6 p0)), .val (.int (v0_y_13 p0 p1)), .val (.int (v0_y_21 p0 p2)), .val (.ref b26_2), .val (.int (1 : Int32))] [(.long (1000 : Int64)), (.long (f8 (1000 : Int64)))])) _
    refine XS.lcmp X11.here hx rfl (hb hby at_71) rfl ?_
    show Steps p.tables e below (T11.setTop (mkF m 72 #[.val (.int p0), .val (.int p1), .val (.int p2), .val (.int (v0_y_6 p0)), .val (.int (v0_y_13 p0 p1)), .val (.int (v0_y_21 p0 p2)), .val (.ref b26_2), .val (.int (1 : Int32))] [(.int (lcmpW (f8 (1000 : Int64)) (1000 : Int64)))])) _
    refine XS.ifNo X11.here hx rfl (hb hby at_72) rfl ((if0 _ _).trans (teq ((lw_eq _ _).mpr (by decide))).2) ?_
    show Steps p.tables e below (T11.setTop (mkF m 75 #[.val (.int p0), .val (.int p1), .val (.int p2), .val (.int (v0_y_6 p0)), .val (.int (v0_y_13 p0 p1)), .val (.int (v0_y_21 p0 p2)), .val (.ref b26_2), .val (.int (1 : Int32))] [])) _
    refine XS.iconst X11.here hx rfl (hb hby at_75) ?_
    show Steps p.tables e below (T11.setTop (mkF m 76 #[.val (.int p0), .val (.int p1), .val (.int p2), .val (.int (v0_y_6 p0)), .val (.int (v0_y_13 p0 p1)), .val (.int (v0_y_21 p0 p2)), .val (.ref b26_2), .val (.int (1 : Int32))] [(.int (1 : Int32))])) _
    refine XS.goto X11.here hx rfl (pc0 := 76) (pc' := 80) rfl (hb hby at_76) (by decide) (by decide) ?_
    show Steps p.tables e below (T11.setTop (mkF m 80 #[.val (.int p0), .val (.int p1), .val (.int p2), .val (.int (v0_y_6 p0)), .val (.int (v0_y_13 p0 p1)), .val (.int (v0_y_21 p0 p2)), .val (.ref b26_2), .val (.int (1 : Int32))] [(.int (1 : Int32))])) _
    refine XS.istore X11.here hx rfl (hb hby at_80) rfl (l' := #[.val (.int p0), .val (.int p1), .val (.int p2), .val (.int (v0_y_6 p0)), .val (.int (v0_y_13 p0 p1)), .val (.int (v0_y_21 p0 p2)), .val (.ref b26_2), .val (.int (1 : Int32))]) rfl ?_
    show Steps p.tables e below (T11.setTop (mkF m 82 #[.val (.int p0), .val (.int p1), .val (.int p2), .val (.int (v0_y_6 p0)), .val (.int (v0_y_13 p0 p1)), .val (.int (v0_y_21 p0 p2)), .val (.ref b26_2), .val (.int (1 : Int32))] [])) _
    refine XS.iload X11.here hx rfl (hb hby at_82) rfl ?_
    show Steps p.tables e below (T11.setTop (mkF m 84 #[.val (.int p0), .val (.int p1), .val (.int p2), .val (.int (v0_y_6 p0)), .val (.int (v0_y_13 p0 p1)), .val (.int (v0_y_21 p0 p2)), .val (.ref b26_2), .val (.int (1 : Int32))] [(.int (1 : Int32))])) _
    refine XS.ifNo X11.here hx rfl (hb hby at_84) rfl (by decide) ?_
    show Steps p.tables e below (T11.setTop (mkF m 87 #[.val (.int p0), .val (.int p1), .val (.int p2), .val (.int (v0_y_6 p0)), .val (.int (v0_y_13 p0 p1)), .val (.int (v0_y_21 p0 p2)), .val (.ref b26_2), .val (.int (1 : Int32))] [])) _
    refine XS.aload X11.here hx rfl (hb hby at_87) rfl rfl ?_
    exact k)
  obtain ⟨cq14, kq14, q14a, q14b, q14c⟩ := isOf hZ e11 o2_0
  obtain ⟨_, _, ⟨T14, L14, k14, n14⟩, -, X14, ⟨Lc14, hQ14, l14, y14, z14⟩, st14⟩ := X11.virtualBack hx (y := (⟨"com/example/stint/stint/store/Decision", "retryAfterSeconds", "()J"⟩ : MethodName)) (z := (⟨"com/example/stint/stint/store/Decision", "retryAfterSeconds", "()J"⟩ : MethodName)) hown (mvT hZ (hw _ (List.mem_of_getElem? (i := 61) rfl))) (mvT hZ (hw _ (List.mem_of_getElem? (i := 62) rfl))) (notFace_of_selects (args := #[]) (mvT hZ (hw _ (List.mem_of_getElem? (i := 64) rfl)))) (mvT hZ (hw _ (List.mem_of_getElem? (i := 64) rfl))) (mvT hZ (hw _ (List.mem_of_getElem? (i := 63) rfl))) (by decide) (backOf (W := 0) (rm9 l Z a0 hw [] b26_2 (1000 : Int64) T2.heap n0 Z2 o2_3) hZ (hw _ (List.mem_of_getElem? (i := 65) rfl)) (hw _ (List.mem_of_getElem? (i := 3) rfl)) (by decide) (by decide)) q14a q14c (g := (mkF m 89 #[.val (.int p0), .val (.int p1), .val (.int p2), .val (.int (v0_y_6 p0)), .val (.int (v0_y_13 p0 p1)), .val (.int (v0_y_21 p0 p2)), .val (.ref b26_2), .val (.int (1 : Int32))] [(.ref b26_2)])) rfl (by rw [hml]; rfl) (Steps.refl _) (argsL := []) (rest := []) (lenOf pd___J rfl) rfl (by show 2 * 0 + _ ≤ _; exact Nat.le_of_eq rfl) (hb hby at_89) (fun _ _ => ⟨rfl, e11, (by decide : 3 + 0 ≤ _), (by decide : 24 + 0 ≤ _)⟩)
  dsimp only [Pt.U, Pt.locs, Pt.cells, Pt.slots] at X14 l14 y14 z14 st14 hQ14
  subst l14 y14 z14
  obtain ⟨rfl, Nq14, e14⟩ := hQ14
  have N14 := Fr.app N11 Nq14
  have pre15 : ∀ t, Steps p.tables e below (T14.setTop (mkF m 92 #[.val (.int p0), .val (.int p1), .val (.int p2), .val (.int (v0_y_6 p0)), .val (.int (v0_y_13 p0 p1)), .val (.int (v0_y_21 p0 p2)), .val (.ref b26_2), .val (.int (1 : Int32))] [(.long (f9 (1000 : Int64)))])) t → Steps p.tables e below (s₁.setTop (entryFrame m #[(.int p0), (.int p1), (.int p2)] maxLocals)) t := fun t k => pre13 t (st14.trans k)
  have pre16 : ∀ t, Steps p.tables e below (T14.setTop (mkF m 111 #[.val (.int p0), .val (.int p1), .val (.int p2), .val (.int (v0_y_6 p0)), .val (.int (v0_y_13 p0 p1)), .val (.int (v0_y_21 p0 p2)), .val (.ref b26_2), .val (.int (1 : Int32))] [(.ref b26_2)])) t → Steps p.tables e below (s₁.setTop (entryFrame m #[(.int p0), (.int p1), (.int p2)] maxLocals)) t := fun t k => pre15 t (by
    show Steps p.tables e below (T14.setTop (mkF m 92 #[.val (.int p0), .val (.int p1), .val (.int p2), .val (.int (v0_y_6 p0)), .val (.int (v0_y_13 p0 p1)), .val (.int (v0_y_21 p0 p2)), .val (.ref b26_2), .val (.int (1 : Int32))] [(.long (f9 (1000 : Int64)))])) _
    refine XS.lconst X14.here hx rfl (hb hby at_92) ?_
    show Steps p.tables e below (T14.setTop (mkF m 93 #[.val (.int p0), .val (.int p1), .val (.int p2), .val (.int (v0_y_6 p0)), .val (.int (v0_y_13 p0 p1)), .val (.int (v0_y_21 p0 p2)), .val (.ref b26_2), .val (.int (1 : Int32))] [(.long (1 : Int64)), (.long (f9 (1000 : Int64)))])) _
    refine XS.lcmp X14.here hx rfl (hb hby at_93) rfl ?_
    show Steps p.tables e below (T14.setTop (mkF m 94 #[.val (.int p0), .val (.int p1), .val (.int p2), .val (.int (v0_y_6 p0)), .val (.int (v0_y_13 p0 p1)), .val (.int (v0_y_21 p0 p2)), .val (.ref b26_2), .val (.int (1 : Int32))] [(.int (lcmpW (f9 (1000 : Int64)) (1 : Int64)))])) _
    refine XS.ifNo X14.here hx rfl (hb hby at_94) rfl ((if0 _ _).trans (teq ((lw_eq _ _).mpr (by decide))).2) ?_
    show Steps p.tables e below (T14.setTop (mkF m 97 #[.val (.int p0), .val (.int p1), .val (.int p2), .val (.int (v0_y_6 p0)), .val (.int (v0_y_13 p0 p1)), .val (.int (v0_y_21 p0 p2)), .val (.ref b26_2), .val (.int (1 : Int32))] [])) _
    refine XS.iconst X14.here hx rfl (hb hby at_97) ?_
    show Steps p.tables e below (T14.setTop (mkF m 98 #[.val (.int p0), .val (.int p1), .val (.int p2), .val (.int (v0_y_6 p0)), .val (.int (v0_y_13 p0 p1)), .val (.int (v0_y_21 p0 p2)), .val (.ref b26_2), .val (.int (1 : Int32))] [(.int (1 : Int32))])) _
    refine XS.goto X14.here hx rfl (pc0 := 98) (pc' := 102) rfl (hb hby at_98) (by decide) (by decide) ?_
    show Steps p.tables e below (T14.setTop (mkF m 102 #[.val (.int p0), .val (.int p1), .val (.int p2), .val (.int (v0_y_6 p0)), .val (.int (v0_y_13 p0 p1)), .val (.int (v0_y_21 p0 p2)), .val (.ref b26_2), .val (.int (1 : Int32))] [(.int (1 : Int32))])) _
    refine XS.istore X14.here hx rfl (hb hby at_102) rfl (l' := #[.val (.int p0), .val (.int p1), .val (.int p2), .val (.int (v0_y_6 p0)), .val (.int (v0_y_13 p0 p1)), .val (.int (v0_y_21 p0 p2)), .val (.ref b26_2), .val (.int (1 : Int32))]) rfl ?_
    show Steps p.tables e below (T14.setTop (mkF m 104 #[.val (.int p0), .val (.int p1), .val (.int p2), .val (.int (v0_y_6 p0)), .val (.int (v0_y_13 p0 p1)), .val (.int (v0_y_21 p0 p2)), .val (.ref b26_2), .val (.int (1 : Int32))] [])) _
    refine XS.iload X14.here hx rfl (hb hby at_104) rfl ?_
    show Steps p.tables e below (T14.setTop (mkF m 106 #[.val (.int p0), .val (.int p1), .val (.int p2), .val (.int (v0_y_6 p0)), .val (.int (v0_y_13 p0 p1)), .val (.int (v0_y_21 p0 p2)), .val (.ref b26_2), .val (.int (1 : Int32))] [(.int (1 : Int32))])) _
    refine XS.ifNo X14.here hx rfl (hb hby at_106) rfl (by decide) ?_
    show Steps p.tables e below (T14.setTop (mkF m 109 #[.val (.int p0), .val (.int p1), .val (.int p2), .val (.int (v0_y_6 p0)), .val (.int (v0_y_13 p0 p1)), .val (.int (v0_y_21 p0 p2)), .val (.ref b26_2), .val (.int (1 : Int32))] [])) _
    refine XS.aload X14.here hx rfl (hb hby at_109) rfl rfl ?_
    exact k)
  obtain ⟨cq17, kq17, q17a, q17b, q17c⟩ := isOf hZ e14 o2_0
  obtain ⟨_, _, ⟨T17, L17, k17, n17⟩, -, X17, ⟨Lc17, hQ17, l17, y17, z17⟩, st17⟩ := X14.virtualBack hx (y := (⟨"com/example/stint/stint/store/Decision", "reportingRule", "()I"⟩ : MethodName)) (z := (⟨"com/example/stint/stint/store/Decision", "reportingRule", "()I"⟩ : MethodName)) hown (mvT hZ (hw _ (List.mem_of_getElem? (i := 75) rfl))) (mvT hZ (hw _ (List.mem_of_getElem? (i := 76) rfl))) (notFace_of_selects (args := #[]) (mvT hZ (hw _ (List.mem_of_getElem? (i := 78) rfl)))) (mvT hZ (hw _ (List.mem_of_getElem? (i := 78) rfl))) (mvT hZ (hw _ (List.mem_of_getElem? (i := 77) rfl))) (by decide) (backOf (W := 0) (rm13 l Z a0 hw [] b26_2 (v0_y_13 p0 p1) T2.heap n0 Z2 o2_4) hZ (hw _ (List.mem_of_getElem? (i := 79) rfl)) (hw _ (List.mem_of_getElem? (i := 3) rfl)) (by decide) (by decide)) q17a q17c (g := (mkF m 111 #[.val (.int p0), .val (.int p1), .val (.int p2), .val (.int (v0_y_6 p0)), .val (.int (v0_y_13 p0 p1)), .val (.int (v0_y_21 p0 p2)), .val (.ref b26_2), .val (.int (1 : Int32))] [(.ref b26_2)])) rfl (by rw [hml]; rfl) (Steps.refl _) (argsL := []) (rest := []) (lenOf pd___I rfl) rfl (by show 2 * 0 + _ ≤ _; exact Nat.le_of_eq rfl) (hb hby at_111) (fun _ _ => ⟨rfl, e14, (by decide : 3 + 0 ≤ _), (by decide : 24 + 0 ≤ _)⟩)
  dsimp only [Pt.U, Pt.locs, Pt.cells, Pt.slots] at X17 l17 y17 z17 st17 hQ17
  subst l17 y17 z17
  obtain ⟨rfl, Nq17, e17⟩ := hQ17
  have N17 := Fr.app N14 Nq17
  have pre18 : ∀ t, Steps p.tables e below (T17.setTop (mkF m 114 #[.val (.int p0), .val (.int p1), .val (.int p2), .val (.int (v0_y_6 p0)), .val (.int (v0_y_13 p0 p1)), .val (.int (v0_y_21 p0 p2)), .val (.ref b26_2), .val (.int (1 : Int32))] [(.int (f13 (v0_y_13 p0 p1)))])) t → Steps p.tables e below (s₁.setTop (entryFrame m #[(.int p0), (.int p1), (.int p2)] maxLocals)) t := fun t k => pre16 t (st17.trans k)
  have pre19 : ∀ t, Steps p.tables e below (T17.setTop (mkF m 135 #[.val (.int p0), .val (.int p1), .val (.int p2), .val (.int (v0_y_6 p0)), .val (.int (v0_y_13 p0 p1)), .val (.int (v0_y_21 p0 p2)), .val (.ref b26_2), .val (.int (1 : Int32))] [(.int (v0_y_13 p0 p1)), (.ref b26_2)])) t → Steps p.tables e below (s₁.setTop (entryFrame m #[(.int p0), (.int p1), (.int p2)] maxLocals)) t := fun t k => pre18 t (by
    show Steps p.tables e below (T17.setTop (mkF m 114 #[.val (.int p0), .val (.int p1), .val (.int p2), .val (.int (v0_y_6 p0)), .val (.int (v0_y_13 p0 p1)), .val (.int (v0_y_21 p0 p2)), .val (.ref b26_2), .val (.int (1 : Int32))] [(.int (f13 (v0_y_13 p0 p1)))])) _
    refine XS.iload X17.here hx rfl (hb hby at_114) rfl ?_
    show Steps p.tables e below (T17.setTop (mkF m 116 #[.val (.int p0), .val (.int p1), .val (.int p2), .val (.int (v0_y_6 p0)), .val (.int (v0_y_13 p0 p1)), .val (.int (v0_y_21 p0 p2)), .val (.ref b26_2), .val (.int (1 : Int32))] [(.int (v0_y_13 p0 p1)), (.int (f13 (v0_y_13 p0 p1)))])) _
    refine XS.icmpNo X17.here hx rfl (hb hby at_116) rfl (teq rfl).2 ?_
    show Steps p.tables e below (T17.setTop (mkF m 119 #[.val (.int p0), .val (.int p1), .val (.int p2), .val (.int (v0_y_6 p0)), .val (.int (v0_y_13 p0 p1)), .val (.int (v0_y_21 p0 p2)), .val (.ref b26_2), .val (.int (1 : Int32))] [])) _
    refine XS.iconst X17.here hx rfl (hb hby at_119) ?_
    show Steps p.tables e below (T17.setTop (mkF m 120 #[.val (.int p0), .val (.int p1), .val (.int p2), .val (.int (v0_y_6 p0)), .val (.int (v0_y_13 p0 p1)), .val (.int (v0_y_21 p0 p2)), .val (.ref b26_2), .val (.int (1 : Int32))] [(.int (1 : Int32))])) _
    refine XS.goto X17.here hx rfl (pc0 := 120) (pc' := 124) rfl (hb hby at_120) (by decide) (by decide) ?_
    show Steps p.tables e below (T17.setTop (mkF m 124 #[.val (.int p0), .val (.int p1), .val (.int p2), .val (.int (v0_y_6 p0)), .val (.int (v0_y_13 p0 p1)), .val (.int (v0_y_21 p0 p2)), .val (.ref b26_2), .val (.int (1 : Int32))] [(.int (1 : Int32))])) _
    refine XS.istore X17.here hx rfl (hb hby at_124) rfl (l' := #[.val (.int p0), .val (.int p1), .val (.int p2), .val (.int (v0_y_6 p0)), .val (.int (v0_y_13 p0 p1)), .val (.int (v0_y_21 p0 p2)), .val (.ref b26_2), .val (.int (1 : Int32))]) rfl ?_
    show Steps p.tables e below (T17.setTop (mkF m 126 #[.val (.int p0), .val (.int p1), .val (.int p2), .val (.int (v0_y_6 p0)), .val (.int (v0_y_13 p0 p1)), .val (.int (v0_y_21 p0 p2)), .val (.ref b26_2), .val (.int (1 : Int32))] [])) _
    refine XS.iload X17.here hx rfl (hb hby at_126) rfl ?_
    show Steps p.tables e below (T17.setTop (mkF m 128 #[.val (.int p0), .val (.int p1), .val (.int p2), .val (.int (v0_y_6 p0)), .val (.int (v0_y_13 p0 p1)), .val (.int (v0_y_21 p0 p2)), .val (.ref b26_2), .val (.int (1 : Int32))] [(.int (1 : Int32))])) _
    refine XS.ifNo X17.here hx rfl (hb hby at_128) rfl (by decide) ?_
    show Steps p.tables e below (T17.setTop (mkF m 131 #[.val (.int p0), .val (.int p1), .val (.int p2), .val (.int (v0_y_6 p0)), .val (.int (v0_y_13 p0 p1)), .val (.int (v0_y_21 p0 p2)), .val (.ref b26_2), .val (.int (1 : Int32))] [])) _
    refine XS.aload X17.here hx rfl (hb hby at_131) rfl rfl ?_
    show Steps p.tables e below (T17.setTop (mkF m 133 #[.val (.int p0), .val (.int p1), .val (.int p2), .val (.int (v0_y_6 p0)), .val (.int (v0_y_13 p0 p1)), .val (.int (v0_y_21 p0 p2)), .val (.ref b26_2), .val (.int (1 : Int32))] [(.ref b26_2)])) _
    refine XS.iload X17.here hx rfl (hb hby at_133) rfl ?_
    exact k)
  obtain ⟨cq20, kq20, q20a, q20b, q20c⟩ := isOf hZ e17 o2_0
  obtain ⟨_, _, ⟨T20, L20, k20, n20⟩, -, X20, ⟨Lc20, hQ20, l20, y20, z20⟩, st20⟩ := X17.virtualBack hx (y := (⟨"com/example/stint/stint/store/Decision", "hasBudget", "(I)Z"⟩ : MethodName)) (z := (⟨"com/example/stint/stint/store/Decision", "hasBudget", "(I)Z"⟩ : MethodName)) hown (mvT hZ (hw _ (List.mem_of_getElem? (i := 80) rfl))) (mvT hZ (hw _ (List.mem_of_getElem? (i := 81) rfl))) (notFace_of_selects (args := #[]) (mvT hZ (hw _ (List.mem_of_getElem? (i := 83) rfl)))) (mvT hZ (hw _ (List.mem_of_getElem? (i := 83) rfl))) (mvT hZ (hw _ (List.mem_of_getElem? (i := 82) rfl))) (by decide) (backOf (W := 0) (rm14_y l Z a0 hw [] b26_2 (v0_y_13 p0 p1) b26_0 _ (v0_y_6 p0) (v0_y_13 p0 p1) b26_1 T2.heap n0 Z2 o2_1 o2_5 o2_6 (own_rem p0 p1).1 (own_rem p0 p1).2.1 rfl) hZ (hw _ (List.mem_of_getElem? (i := 84) rfl)) (hw _ (List.mem_of_getElem? (i := 3) rfl)) (by decide) (by decide)) q20a q20c (g := (mkF m 135 #[.val (.int p0), .val (.int p1), .val (.int p2), .val (.int (v0_y_6 p0)), .val (.int (v0_y_13 p0 p1)), .val (.int (v0_y_21 p0 p2)), .val (.ref b26_2), .val (.int (1 : Int32))] [(.int (v0_y_13 p0 p1)), (.ref b26_2)])) rfl (by rw [hml]; rfl) (Steps.refl _) (argsL := [(.int (v0_y_13 p0 p1))]) (rest := []) (lenOf pd__I_Z rfl) rfl (by show 2 * 0 + _ ≤ _; exact Nat.le_of_eq rfl) (hb hby at_135) (fun _ _ => ⟨rfl, e17, (by decide : 3 + 0 ≤ _), (by decide : 24 + 0 ≤ _)⟩)
  dsimp only [Pt.U, Pt.locs, Pt.cells, Pt.slots] at X20 l20 y20 z20 st20 hQ20
  subst l20 y20 z20
  obtain ⟨rfl, Nq20, e20⟩ := hQ20
  have N20 := Fr.app N17 Nq20
  have pre21 : ∀ t, Steps p.tables e below (T20.setTop (mkF m 138 #[.val (.int p0), .val (.int p1), .val (.int p2), .val (.int (v0_y_6 p0)), .val (.int (v0_y_13 p0 p1)), .val (.int (v0_y_21 p0 p2)), .val (.ref b26_2), .val (.int (1 : Int32))] [(.int (f14_y))])) t → Steps p.tables e below (s₁.setTop (entryFrame m #[(.int p0), (.int p1), (.int p2)] maxLocals)) t := fun t k => pre19 t (st20.trans k)
  have pre22 : ∀ t, Steps p.tables e below (T20.setTop (mkF m 157 #[.val (.int p0), .val (.int p1), .val (.int p2), .val (.int (v0_y_6 p0)), .val (.int (v0_y_13 p0 p1)), .val (.int (v0_y_21 p0 p2)), .val (.ref b26_2), .val (.int (1 : Int32))] [(.int (v0_y_21 p0 p2)), (.ref b26_2)])) t → Steps p.tables e below (s₁.setTop (entryFrame m #[(.int p0), (.int p1), (.int p2)] maxLocals)) t := fun t k => pre21 t (by
    show Steps p.tables e below (T20.setTop (mkF m 138 #[.val (.int p0), .val (.int p1), .val (.int p2), .val (.int (v0_y_6 p0)), .val (.int (v0_y_13 p0 p1)), .val (.int (v0_y_21 p0 p2)), .val (.ref b26_2), .val (.int (1 : Int32))] [(.int (f14_y))])) _
    refine XS.ifNo X20.here hx rfl (hb hby at_138) rfl ((if0 _ _).trans (teq (by decide)).2) ?_
    show Steps p.tables e below (T20.setTop (mkF m 141 #[.val (.int p0), .val (.int p1), .val (.int p2), .val (.int (v0_y_6 p0)), .val (.int (v0_y_13 p0 p1)), .val (.int (v0_y_21 p0 p2)), .val (.ref b26_2), .val (.int (1 : Int32))] [])) _
    refine XS.iconst X20.here hx rfl (hb hby at_141) ?_
    show Steps p.tables e below (T20.setTop (mkF m 142 #[.val (.int p0), .val (.int p1), .val (.int p2), .val (.int (v0_y_6 p0)), .val (.int (v0_y_13 p0 p1)), .val (.int (v0_y_21 p0 p2)), .val (.ref b26_2), .val (.int (1 : Int32))] [(.int (1 : Int32))])) _
    refine XS.goto X20.here hx rfl (pc0 := 142) (pc' := 146) rfl (hb hby at_142) (by decide) (by decide) ?_
    show Steps p.tables e below (T20.setTop (mkF m 146 #[.val (.int p0), .val (.int p1), .val (.int p2), .val (.int (v0_y_6 p0)), .val (.int (v0_y_13 p0 p1)), .val (.int (v0_y_21 p0 p2)), .val (.ref b26_2), .val (.int (1 : Int32))] [(.int (1 : Int32))])) _
    refine XS.istore X20.here hx rfl (hb hby at_146) rfl (l' := #[.val (.int p0), .val (.int p1), .val (.int p2), .val (.int (v0_y_6 p0)), .val (.int (v0_y_13 p0 p1)), .val (.int (v0_y_21 p0 p2)), .val (.ref b26_2), .val (.int (1 : Int32))]) rfl ?_
    show Steps p.tables e below (T20.setTop (mkF m 148 #[.val (.int p0), .val (.int p1), .val (.int p2), .val (.int (v0_y_6 p0)), .val (.int (v0_y_13 p0 p1)), .val (.int (v0_y_21 p0 p2)), .val (.ref b26_2), .val (.int (1 : Int32))] [])) _
    refine XS.iload X20.here hx rfl (hb hby at_148) rfl ?_
    show Steps p.tables e below (T20.setTop (mkF m 150 #[.val (.int p0), .val (.int p1), .val (.int p2), .val (.int (v0_y_6 p0)), .val (.int (v0_y_13 p0 p1)), .val (.int (v0_y_21 p0 p2)), .val (.ref b26_2), .val (.int (1 : Int32))] [(.int (1 : Int32))])) _
    refine XS.ifNo X20.here hx rfl (hb hby at_150) rfl (by decide) ?_
    show Steps p.tables e below (T20.setTop (mkF m 153 #[.val (.int p0), .val (.int p1), .val (.int p2), .val (.int (v0_y_6 p0)), .val (.int (v0_y_13 p0 p1)), .val (.int (v0_y_21 p0 p2)), .val (.ref b26_2), .val (.int (1 : Int32))] [])) _
    refine XS.aload X20.here hx rfl (hb hby at_153) rfl rfl ?_
    show Steps p.tables e below (T20.setTop (mkF m 155 #[.val (.int p0), .val (.int p1), .val (.int p2), .val (.int (v0_y_6 p0)), .val (.int (v0_y_13 p0 p1)), .val (.int (v0_y_21 p0 p2)), .val (.ref b26_2), .val (.int (1 : Int32))] [(.ref b26_2)])) _
    refine XS.iload X20.here hx rfl (hb hby at_155) rfl ?_
    exact k)
  obtain ⟨cq23, kq23, q23a, q23b, q23c⟩ := isOf hZ e20 o2_0
  obtain ⟨_, _, ⟨T23, L23, k23, n23⟩, -, X23, ⟨Lc23, hQ23, l23, y23, z23⟩, st23⟩ := X20.virtualBack hx (y := (⟨"com/example/stint/stint/store/Decision", "hasBudget", "(I)Z"⟩ : MethodName)) (z := (⟨"com/example/stint/stint/store/Decision", "hasBudget", "(I)Z"⟩ : MethodName)) hown (mvT hZ (hw _ (List.mem_of_getElem? (i := 80) rfl))) (mvT hZ (hw _ (List.mem_of_getElem? (i := 81) rfl))) (notFace_of_selects (args := #[]) (mvT hZ (hw _ (List.mem_of_getElem? (i := 83) rfl)))) (mvT hZ (hw _ (List.mem_of_getElem? (i := 83) rfl))) (mvT hZ (hw _ (List.mem_of_getElem? (i := 82) rfl))) (by decide) (backOf (W := 0) (rm14_y l Z a0 hw [] b26_2 (v0_y_21 p0 p2) b26_0 _ (v0_y_6 p0) (v0_y_13 p0 p1) b26_1 T2.heap n0 Z2 o2_1 o2_5 o2_6 (own_rem p0 p2).1 (own_rem p0 p2).2.1 hk) hZ (hw _ (List.mem_of_getElem? (i := 84) rfl)) (hw _ (List.mem_of_getElem? (i := 3) rfl)) (by decide) (by decide)) q23a q23c (g := (mkF m 157 #[.val (.int p0), .val (.int p1), .val (.int p2), .val (.int (v0_y_6 p0)), .val (.int (v0_y_13 p0 p1)), .val (.int (v0_y_21 p0 p2)), .val (.ref b26_2), .val (.int (1 : Int32))] [(.int (v0_y_21 p0 p2)), (.ref b26_2)])) rfl (by rw [hml]; rfl) (Steps.refl _) (argsL := [(.int (v0_y_21 p0 p2))]) (rest := []) (lenOf pd__I_Z rfl) rfl (by show 2 * 0 + _ ≤ _; exact Nat.le_of_eq rfl) (hb hby at_157) (fun _ _ => ⟨rfl, e20, (by decide : 3 + 0 ≤ _), (by decide : 24 + 0 ≤ _)⟩)
  dsimp only [Pt.U, Pt.locs, Pt.cells, Pt.slots] at X23 l23 y23 z23 st23 hQ23
  subst l23 y23 z23
  obtain ⟨rfl, Nq23, e23⟩ := hQ23
  have N23 := Fr.app N20 Nq23
  have pre24 : ∀ t, Steps p.tables e below (T23.setTop (mkF m 160 #[.val (.int p0), .val (.int p1), .val (.int p2), .val (.int (v0_y_6 p0)), .val (.int (v0_y_13 p0 p1)), .val (.int (v0_y_21 p0 p2)), .val (.ref b26_2), .val (.int (1 : Int32))] [(.int (f14_y))])) t → Steps p.tables e below (s₁.setTop (entryFrame m #[(.int p0), (.int p1), (.int p2)] maxLocals)) t := fun t k => pre22 t (st23.trans k)
  have pre25 : ∀ t, Steps p.tables e below (T23.setTop (mkF m 184 #[.val (.int p0), .val (.int p1), .val (.int p2), .val (.int (v0_y_6 p0)), .val (.int (v0_y_13 p0 p1)), .val (.int (v0_y_21 p0 p2)), .val (.ref b26_2), .val (.int (1 : Int32))] [(.int (1 : Int32))])) t → Steps p.tables e below (s₁.setTop (entryFrame m #[(.int p0), (.int p1), (.int p2)] maxLocals)) t := fun t k => pre24 t (by
    show Steps p.tables e below (T23.setTop (mkF m 160 #[.val (.int p0), .val (.int p1), .val (.int p2), .val (.int (v0_y_6 p0)), .val (.int (v0_y_13 p0 p1)), .val (.int (v0_y_21 p0 p2)), .val (.ref b26_2), .val (.int (1 : Int32))] [(.int (f14_y))])) _
    refine XS.iload X23.here hx rfl (hb hby at_160) rfl ?_
    show Steps p.tables e below (T23.setTop (mkF m 162 #[.val (.int p0), .val (.int p1), .val (.int p2), .val (.int (v0_y_6 p0)), .val (.int (v0_y_13 p0 p1)), .val (.int (v0_y_21 p0 p2)), .val (.ref b26_2), .val (.int (1 : Int32))] [(.int (v0_y_21 p0 p2)), (.int (f14_y))])) _
    refine XS.iload X23.here hx rfl (hb hby at_162) rfl ?_
    show Steps p.tables e below (T23.setTop (mkF m 164 #[.val (.int p0), .val (.int p1), .val (.int p2), .val (.int (v0_y_6 p0)), .val (.int (v0_y_13 p0 p1)), .val (.int (v0_y_21 p0 p2)), .val (.ref b26_2), .val (.int (1 : Int32))] [(.int (v0_y_13 p0 p1)), (.int (v0_y_21 p0 p2)), (.int (f14_y))])) _
    refine XS.icmpYes X23.here hx rfl (pc0 := 164) (pc' := 171) rfl (hb hby at_164) rfl (teq hk).1 (by decide) (by decide) ?_
    show Steps p.tables e below (T23.setTop (mkF m 171 #[.val (.int p0), .val (.int p1), .val (.int p2), .val (.int (v0_y_6 p0)), .val (.int (v0_y_13 p0 p1)), .val (.int (v0_y_21 p0 p2)), .val (.ref b26_2), .val (.int (1 : Int32))] [(.int (f14_y))])) _
    refine XS.iconst X23.here hx rfl (hb hby at_171) ?_
    show Steps p.tables e below (T23.setTop (mkF m 172 #[.val (.int p0), .val (.int p1), .val (.int p2), .val (.int (v0_y_6 p0)), .val (.int (v0_y_13 p0 p1)), .val (.int (v0_y_21 p0 p2)), .val (.ref b26_2), .val (.int (1 : Int32))] [(.int (0 : Int32)), (.int (f14_y))])) _
    refine XS.icmpNo X23.here hx rfl (hb hby at_172) rfl (teq (by decide)).2 ?_
    show Steps p.tables e below (T23.setTop (mkF m 175 #[.val (.int p0), .val (.int p1), .val (.int p2), .val (.int (v0_y_6 p0)), .val (.int (v0_y_13 p0 p1)), .val (.int (v0_y_21 p0 p2)), .val (.ref b26_2), .val (.int (1 : Int32))] [])) _
    refine XS.iconst X23.here hx rfl (hb hby at_175) ?_
    show Steps p.tables e below (T23.setTop (mkF m 176 #[.val (.int p0), .val (.int p1), .val (.int p2), .val (.int (v0_y_6 p0)), .val (.int (v0_y_13 p0 p1)), .val (.int (v0_y_21 p0 p2)), .val (.ref b26_2), .val (.int (1 : Int32))] [(.int (1 : Int32))])) _
    refine XS.goto X23.here hx rfl (pc0 := 176) (pc' := 180) rfl (hb hby at_176) (by decide) (by decide) ?_
    show Steps p.tables e below (T23.setTop (mkF m 180 #[.val (.int p0), .val (.int p1), .val (.int p2), .val (.int (v0_y_6 p0)), .val (.int (v0_y_13 p0 p1)), .val (.int (v0_y_21 p0 p2)), .val (.ref b26_2), .val (.int (1 : Int32))] [(.int (1 : Int32))])) _
    refine XS.istore X23.here hx rfl (hb hby at_180) rfl (l' := #[.val (.int p0), .val (.int p1), .val (.int p2), .val (.int (v0_y_6 p0)), .val (.int (v0_y_13 p0 p1)), .val (.int (v0_y_21 p0 p2)), .val (.ref b26_2), .val (.int (1 : Int32))]) rfl ?_
    show Steps p.tables e below (T23.setTop (mkF m 182 #[.val (.int p0), .val (.int p1), .val (.int p2), .val (.int (v0_y_6 p0)), .val (.int (v0_y_13 p0 p1)), .val (.int (v0_y_21 p0 p2)), .val (.ref b26_2), .val (.int (1 : Int32))] [])) _
    refine XS.iload X23.here hx rfl (hb hby at_182) rfl ?_
    exact k)
  obtain ⟨fs, hr, hrun, hended, hW, hsame⟩ := X23.leave (v := some (.int (1 : Int32))) (fun h => by rw [Bd.returns] at h; cases h)
  refine ⟨_, _, ?_, hrun, hended, _, _, rfl, ?_, ⟨_, rfl⟩, hW, hsame.mono (by decide) (by decide)⟩
  · exact pre25 _ (retN X23 hx (t := .boolean) Bd.returns (by simp) (hb hby at_184) hr)
  · exact ⟨by simp only [f0_y], N23, trivial⟩
def v0_n_6 (p0 : Int32) : Int32 := ((1 : Int32) + (p0 &&& (15 : Int32)))
def v0_n_13 (p0 : Int32) (p1 : Int32) : Int32 := ((p1 &&& (2147483647 : Int32)) - (p1 &&& (2147483647 : Int32)) / (v0_n_6 p0) * (v0_n_6 p0))
def v0_n_21 (p0 : Int32) (p2 : Int32) : Int32 := ((p2 &&& (2147483647 : Int32)) - (p2 &&& (2147483647 : Int32)) / (v0_n_6 p0) * (v0_n_6 p0))
def v0_n_36 : Int32 := (f7 (nar .boolean (1 : Int32)))
def f0_n : Int32 := (1 : Int32)
set_option maxRecDepth 65536 in
set_option maxHeartbeats 40000000 in
theorem rm0_n (l : Launch) (Z : State) (a0 : Array Value) (hw : ∀ d ∈ tables_1, d.before a0 Z = true) (ws : List Jvm.Cond) (p0 : Int32) (p1 : Int32) (p2 : Int32) (h0 : Heap) (n0 : Nat) (Z0 : n0 ≤ h0.size) (hk : ¬ (own_ru p0 p2 = own_ru p0 p1)) :
    MetFree l x (head1 (Jvm.Cond.code x code maxLocals ret :: ws) room_1) (fun a U => a = #[(.int p0), (.int p1), (.int p2)] ∧ Z.Warmed39 U.vm ∧ U.heap = h0) (fun _ _ _ _ _ => True) (fun _ U o U' => ∃ v L, o = .returned v ∧ QL (some (.int (f0_n))) n0 v U'.heap L ∧ FrameEnd U o U' L room_1.cells room_1.slots) := by
  refine MetFree.of_bodySF (plainFor_of_name pn_0) hisR ?_
  intro p e s m args below meth c s₁ Bd hml0 hP hK
  obtain ⟨rfl, hZ, hh⟩ := hP
  have hx := Bd.exec
  have hby := Bd.bytes
  have hml : c.maxLocals = 8 := hml0
  have hown : s.vm.findClass "com/example/stint/stint/store/DecisionUnavailablePinLaw" = some m.cls := findClass_of_methodNamed Bd.named
  have hnm := (name_of_methodNamed Bd.named Bd.method).1
  have X0 : Stand p l e room_1 s m #[(.int p0), (.int p1), (.int p2)] below meth c s₁ [] 0 0 := Stand.of_body Bd
  have e0 : s₁.heap = h0 := by rw [← hh, Bd.state]; rfl
  have N0 := Fr.nil n0
  have K0 : Keep h0 h0 [] := Keep.refl _ _
  have pre0 : ∀ t, Steps p.tables e below (s₁.setTop (mkF m 0 #[.val (.int p0), .val (.int p1), .val (.int p2), .unset, .unset, .unset, .unset, .unset] [])) t → Steps p.tables e below (s₁.setTop (entryFrame m #[(.int p0), (.int p1), (.int p2)] maxLocals)) t := fun t k => castTop (ef_0 m p0 p1 p2) k
  have pre1 : ∀ t, Steps p.tables e below (s₁.setTop (mkF m 26 #[.val (.int p0), .val (.int p1), .val (.int p2), .val (.int (v0_n_6 p0)), .val (.int (v0_n_13 p0 p1)), .val (.int (v0_n_21 p0 p2)), .unset, .unset] [(.int (v0_n_13 p0 p1)), (.int (v0_n_6 p0))])) t → Steps p.tables e below (s₁.setTop (entryFrame m #[(.int p0), (.int p1), (.int p2)] maxLocals)) t := fun t k => pre0 t (by
    show Steps p.tables e below (s₁.setTop (mkF m 0 #[.val (.int p0), .val (.int p1), .val (.int p2), .unset, .unset, .unset, .unset, .unset] [])) _
    refine XS.iconst X0.here hx rfl (hb hby at_0) ?_
    show Steps p.tables e below (s₁.setTop (mkF m 1 #[.val (.int p0), .val (.int p1), .val (.int p2), .unset, .unset, .unset, .unset, .unset] [(.int (1 : Int32))])) _
    refine XS.iloadN X0.here hx rfl (hb hby at_1) rfl ?_
    show Steps p.tables e below (s₁.setTop (mkF m 2 #[.val (.int p0), .val (.int p1), .val (.int p2), .unset, .unset, .unset, .unset, .unset] [(.int p0), (.int (1 : Int32))])) _
    refine XS.bipush X0.here hx rfl (hb hby at_2) ?_
    show Steps p.tables e below (s₁.setTop (mkF m 4 #[.val (.int p0), .val (.int p1), .val (.int p2), .unset, .unset, .unset, .unset, .unset] [(.int (15 : Int32)), (.int p0), (.int (1 : Int32))])) _
    refine XS.iand X0.here hx rfl (hb hby at_4) rfl ?_
    show Steps p.tables e below (s₁.setTop (mkF m 5 #[.val (.int p0), .val (.int p1), .val (.int p2), .unset, .unset, .unset, .unset, .unset] [(.int (p0 &&& (15 : Int32))), (.int (1 : Int32))])) _
    refine XS.iadd X0.here hx rfl (hb hby at_5) rfl ?_
    show Steps p.tables e below (s₁.setTop (mkF m 6 #[.val (.int p0), .val (.int p1), .val (.int p2), .unset, .unset, .unset, .unset, .unset] [(.int ((1 : Int32) + (p0 &&& (15 : Int32))))])) _
    refine XS.istoreN X0.here hx rfl (hb hby at_6) rfl (l' := #[.val (.int p0), .val (.int p1), .val (.int p2), .val (.int (v0_n_6 p0)), .unset, .unset, .unset, .unset]) rfl ?_
    show Steps p.tables e below (s₁.setTop (mkF m 7 #[.val (.int p0), .val (.int p1), .val (.int p2), .val (.int (v0_n_6 p0)), .unset, .unset, .unset, .unset] [])) _
    refine XS.iloadN X0.here hx rfl (hb hby at_7) rfl ?_
    show Steps p.tables e below (s₁.setTop (mkF m 8 #[.val (.int p0), .val (.int p1), .val (.int p2), .val (.int (v0_n_6 p0)), .unset, .unset, .unset, .unset] [(.int p1)])) _
    refine X0.ldcInt hx hown (mvT hZ (hw _ (List.mem_of_getElem? (i := 0) rfl))) (g := (mkF m 8 #[.val (.int p0), .val (.int p1), .val (.int p2), .val (.int (v0_n_6 p0)), .unset, .unset, .unset, .unset] [(.int p1)])) rfl (hb hby at_8) _ ?_
    show Steps p.tables e below (s₁.setTop (mkF m 10 #[.val (.int p0), .val (.int p1), .val (.int p2), .val (.int (v0_n_6 p0)), .unset, .unset, .unset, .unset] [(.int (2147483647 : Int32)), (.int p1)])) _
    refine XS.iand X0.here hx rfl (hb hby at_10) rfl ?_
    show Steps p.tables e below (s₁.setTop (mkF m 11 #[.val (.int p0), .val (.int p1), .val (.int p2), .val (.int (v0_n_6 p0)), .unset, .unset, .unset, .unset] [(.int (p1 &&& (2147483647 : Int32)))])) _
    refine XS.iloadN X0.here hx rfl (hb hby at_11) rfl ?_
    show Steps p.tables e below (s₁.setTop (mkF m 12 #[.val (.int p0), .val (.int p1), .val (.int p2), .val (.int (v0_n_6 p0)), .unset, .unset, .unset, .unset] [(.int (v0_n_6 p0)), (.int (p1 &&& (2147483647 : Int32)))])) _
    refine XS.irem X0.here hx rfl (hb hby at_12) rfl (own_rules p0).1 ?_
    show Steps p.tables e below (s₁.setTop (mkF m 13 #[.val (.int p0), .val (.int p1), .val (.int p2), .val (.int (v0_n_6 p0)), .unset, .unset, .unset, .unset] [(.int ((p1 &&& (2147483647 : Int32)) - (p1 &&& (2147483647 : Int32)) / (v0_n_6 p0) * (v0_n_6 p0)))])) _
    refine XS.istore X0.here hx rfl (hb hby at_13) rfl (l' := #[.val (.int p0), .val (.int p1), .val (.int p2), .val (.int (v0_n_6 p0)), .val (.int (v0_n_13 p0 p1)), .unset, .unset, .unset]) rfl ?_
    show Steps p.tables e below (s₁.setTop (mkF m 15 #[.val (.int p0), .val (.int p1), .val (.int p2), .val (.int (v0_n_6 p0)), .val (.int (v0_n_13 p0 p1)), .unset, .unset, .unset] [])) _
    refine XS.iloadN X0.here hx rfl (hb hby at_15) rfl ?_
    show Steps p.tables e below (s₁.setTop (mkF m 16 #[.val (.int p0), .val (.int p1), .val (.int p2), .val (.int (v0_n_6 p0)), .val (.int (v0_n_13 p0 p1)), .unset, .unset, .unset] [(.int p2)])) _
    refine X0.ldcInt hx hown (mvT hZ (hw _ (List.mem_of_getElem? (i := 0) rfl))) (g := (mkF m 16 #[.val (.int p0), .val (.int p1), .val (.int p2), .val (.int (v0_n_6 p0)), .val (.int (v0_n_13 p0 p1)), .unset, .unset, .unset] [(.int p2)])) rfl (hb hby at_16) _ ?_
    show Steps p.tables e below (s₁.setTop (mkF m 18 #[.val (.int p0), .val (.int p1), .val (.int p2), .val (.int (v0_n_6 p0)), .val (.int (v0_n_13 p0 p1)), .unset, .unset, .unset] [(.int (2147483647 : Int32)), (.int p2)])) _
    refine XS.iand X0.here hx rfl (hb hby at_18) rfl ?_
    show Steps p.tables e below (s₁.setTop (mkF m 19 #[.val (.int p0), .val (.int p1), .val (.int p2), .val (.int (v0_n_6 p0)), .val (.int (v0_n_13 p0 p1)), .unset, .unset, .unset] [(.int (p2 &&& (2147483647 : Int32)))])) _
    refine XS.iloadN X0.here hx rfl (hb hby at_19) rfl ?_
    show Steps p.tables e below (s₁.setTop (mkF m 20 #[.val (.int p0), .val (.int p1), .val (.int p2), .val (.int (v0_n_6 p0)), .val (.int (v0_n_13 p0 p1)), .unset, .unset, .unset] [(.int (v0_n_6 p0)), (.int (p2 &&& (2147483647 : Int32)))])) _
    refine XS.irem X0.here hx rfl (hb hby at_20) rfl (own_rules p0).1 ?_
    show Steps p.tables e below (s₁.setTop (mkF m 21 #[.val (.int p0), .val (.int p1), .val (.int p2), .val (.int (v0_n_6 p0)), .val (.int (v0_n_13 p0 p1)), .unset, .unset, .unset] [(.int ((p2 &&& (2147483647 : Int32)) - (p2 &&& (2147483647 : Int32)) / (v0_n_6 p0) * (v0_n_6 p0)))])) _
    refine XS.istore X0.here hx rfl (hb hby at_21) rfl (l' := #[.val (.int p0), .val (.int p1), .val (.int p2), .val (.int (v0_n_6 p0)), .val (.int (v0_n_13 p0 p1)), .val (.int (v0_n_21 p0 p2)), .unset, .unset]) rfl ?_
    show Steps p.tables e below (s₁.setTop (mkF m 23 #[.val (.int p0), .val (.int p1), .val (.int p2), .val (.int (v0_n_6 p0)), .val (.int (v0_n_13 p0 p1)), .val (.int (v0_n_21 p0 p2)), .unset, .unset] [])) _
    refine XS.iloadN X0.here hx rfl (hb hby at_23) rfl ?_
    show Steps p.tables e below (s₁.setTop (mkF m 24 #[.val (.int p0), .val (.int p1), .val (.int p2), .val (.int (v0_n_6 p0)), .val (.int (v0_n_13 p0 p1)), .val (.int (v0_n_21 p0 p2)), .unset, .unset] [(.int (v0_n_6 p0))])) _
    refine XS.iload X0.here hx rfl (hb hby at_24) rfl ?_
    exact k)
  obtain ⟨_, _, ⟨T2, L2, k2, n2⟩, -, X2, ⟨Lc2, hQ2, l2, y2, z2⟩, st2⟩ := Jvm.LawKit.callS X0 hx (y := (⟨"com/example/stint/stint/store/Decision", "unavailable", "(II)Lcom/example/stint/stint/store/Decision;"⟩ : MethodName)) hown (mvT hZ (hw _ (List.mem_of_getElem? (i := 1) rfl))) (mvT hZ (hw _ (List.mem_of_getElem? (i := 2) rfl))) (mvT hZ (hw _ (List.mem_of_getElem? (i := 3) rfl))) (mvT hZ (hw _ (List.mem_of_getElem? (i := 4) rfl))) (by decide) (backOf (W := 0) (rm1 l Z a0 hw [] (v0_n_6 p0) (v0_n_13 p0 p1) h0 n0 Z0 (own_rules p0).2.1 (own_rules p0).2.2.1 (own_rem p0 p1).1 (own_rem p0 p1).2.1 (own_rules p0).2.2.2 (own_rem p0 p1).2.2.1 (own_rem p0 p1).2.2.2) hZ (hw _ (List.mem_of_getElem? (i := 4) rfl)) (hw _ (List.mem_of_getElem? (i := 3) rfl)) (by decide) (by decide)) (g := (mkF m 26 #[.val (.int p0), .val (.int p1), .val (.int p2), .val (.int (v0_n_6 p0)), .val (.int (v0_n_13 p0 p1)), .val (.int (v0_n_21 p0 p2)), .unset, .unset] [(.int (v0_n_13 p0 p1)), (.int (v0_n_6 p0))])) rfl (by rw [hml]; rfl) (argsL := [(.int (v0_n_6 p0)), (.int (v0_n_13 p0 p1))]) (rest := []) (lenOf pd__II_Lcom_example_stint_stint_store_Decision_ rfl) rfl (by show 2 * 0 + _ ≤ _; exact Nat.le_of_eq rfl) (hb hby at_26) (fun _ _ => ⟨rfl, e0, (by decide : 0 + 3 ≤ _), (by decide : 0 + 24 ≤ _)⟩)
  dsimp only [Pt.U, Pt.locs, Pt.cells, Pt.slots] at X2 l2 y2 z2 st2 hQ2
  subst l2 y2 z2
  obtain ⟨b26_0, b26_1, b26_2, k_b1_2, rfl, Nq2, Kq2, gz2_b26_0, gz2_b26_1, gz2_b26_2, o2_0, o2_1, o2_2, o2_3, o2_4, o2_5, o2_6⟩ := hQ2
  have N2 := Fr.app N0 Nq2
  have K2 : Keep h0 T2.heap [] := K0.trans Kq2 all0
  have Z2 : n0 ≤ T2.heap.size := Nat.le_trans Z0 Kq2.1
  have gg2_b26_0 : n0 ≤ b26_0 := Nat.le_trans Z0 gz2_b26_0
  have sz2_b26_0 : h0.size ≤ b26_0 := Nat.le_trans K0.1 gz2_b26_0
  have gg2_b26_1 : n0 ≤ b26_1 := Nat.le_trans Z0 gz2_b26_1
  have sz2_b26_1 : h0.size ≤ b26_1 := Nat.le_trans K0.1 gz2_b26_1
  have gg2_b26_2 : n0 ≤ b26_2 := Nat.le_trans Z0 gz2_b26_2
  have sz2_b26_2 : h0.size ≤ b26_2 := Nat.le_trans K0.1 gz2_b26_2
  have pre3 : ∀ t, Steps p.tables e below (T2.setTop (mkF m 29 #[.val (.int p0), .val (.int p1), .val (.int p2), .val (.int (v0_n_6 p0)), .val (.int (v0_n_13 p0 p1)), .val (.int (v0_n_21 p0 p2)), .unset, .unset] [(.ref b26_2)])) t → Steps p.tables e below (s₁.setTop (entryFrame m #[(.int p0), (.int p1), (.int p2)] maxLocals)) t := fun t k => pre1 t (st2 _ k)
  have pre4 : ∀ t, Steps p.tables e below (T2.setTop (mkF m 33 #[.val (.int p0), .val (.int p1), .val (.int p2), .val (.int (v0_n_6 p0)), .val (.int (v0_n_13 p0 p1)), .val (.int (v0_n_21 p0 p2)), .val (.ref b26_2), .unset] [(.ref b26_2)])) t → Steps p.tables e below (s₁.setTop (entryFrame m #[(.int p0), (.int p1), (.int p2)] maxLocals)) t := fun t k => pre3 t (by
    show Steps p.tables e below (T2.setTop (mkF m 29 #[.val (.int p0), .val (.int p1), .val (.int p2), .val (.int (v0_n_6 p0)), .val (.int (v0_n_13 p0 p1)), .val (.int (v0_n_21 p0 p2)), .unset, .unset] [(.ref b26_2)])) _
    refine XS.astore X2.here hx rfl (hb hby at_29) rfl rfl (l' := #[.val (.int p0), .val (.int p1), .val (.int p2), .val (.int (v0_n_6 p0)), .val (.int (v0_n_13 p0 p1)), .val (.int (v0_n_21 p0 p2)), .val (.ref b26_2), .unset]) rfl ?_
    show Steps p.tables e below (T2.setTop (mkF m 31 #[.val (.int p0), .val (.int p1), .val (.int p2), .val (.int (v0_n_6 p0)), .val (.int (v0_n_13 p0 p1)), .val (.int (v0_n_21 p0 p2)), .val (.ref b26_2), .unset] [])) _
    refine XS.aload X2.here hx rfl (hb hby at_31) rfl rfl ?_
    exact k)
  obtain ⟨cq5, kq5, q5a, q5b, q5c⟩ := isOf hZ rfl o2_0
  obtain ⟨_, _, ⟨T5, L5, k5, n5⟩, -, X5, ⟨Lc5, hQ5, l5, y5, z5⟩, st5⟩ := X2.virtualBack hx (y := (⟨"com/example/stint/stint/store/Decision", "unavailable", "()Z"⟩ : MethodName)) (z := (⟨"com/example/stint/stint/store/Decision", "unavailable", "()Z"⟩ : MethodName)) hown (mvT hZ (hw _ (List.mem_of_getElem? (i := 49) rfl))) (mvT hZ (hw _ (List.mem_of_getElem? (i := 50) rfl))) (notFace_of_selects (args := #[]) (mvT hZ (hw _ (List.mem_of_getElem? (i := 52) rfl)))) (mvT hZ (hw _ (List.mem_of_getElem? (i := 52) rfl))) (mvT hZ (hw _ (List.mem_of_getElem? (i := 51) rfl))) (by decide) (backOf (W := 0) (rm7 l Z a0 hw [] b26_2 (nar .boolean (1 : Int32)) T2.heap n0 Z2 o2_2) hZ (hw _ (List.mem_of_getElem? (i := 53) rfl)) (hw _ (List.mem_of_getElem? (i := 3) rfl)) (by decide) (by decide)) q5a q5c (g := (mkF m 33 #[.val (.int p0), .val (.int p1), .val (.int p2), .val (.int (v0_n_6 p0)), .val (.int (v0_n_13 p0 p1)), .val (.int (v0_n_21 p0 p2)), .val (.ref b26_2), .unset] [(.ref b26_2)])) rfl (by rw [hml]; rfl) (Steps.refl _) (argsL := []) (rest := []) (lenOf pd___Z rfl) rfl (by show 2 * 0 + _ ≤ _; exact Nat.le_of_eq rfl) (hb hby at_33) (fun _ _ => ⟨rfl, rfl, (by decide : 3 + 0 ≤ _), (by decide : 24 + 0 ≤ _)⟩)
  dsimp only [Pt.U, Pt.locs, Pt.cells, Pt.slots] at X5 l5 y5 z5 st5 hQ5
  subst l5 y5 z5
  obtain ⟨rfl, Nq5, e5⟩ := hQ5
  have N5 := Fr.app N2 Nq5
  have pre6 : ∀ t, Steps p.tables e below (T5.setTop (mkF m 36 #[.val (.int p0), .val (.int p1), .val (.int p2), .val (.int (v0_n_6 p0)), .val (.int (v0_n_13 p0 p1)), .val (.int (v0_n_21 p0 p2)), .val (.ref b26_2), .unset] [(.int (f7 (nar .boolean (1 : Int32))))])) t → Steps p.tables e below (s₁.setTop (entryFrame m #[(.int p0), (.int p1), (.int p2)] maxLocals)) t := fun t k => pre4 t (st5.trans k)
  have pre7 : ∀ t, Steps p.tables e below (T5.setTop (mkF m 45 #[.val (.int p0), .val (.int p1), .val (.int p2), .val (.int (v0_n_6 p0)), .val (.int (v0_n_13 p0 p1)), .val (.int (v0_n_21 p0 p2)), .val (.ref b26_2), .val (.int (v0_n_36))] [(.ref b26_2)])) t → Steps p.tables e below (s₁.setTop (entryFrame m #[(.int p0), (.int p1), (.int p2)] maxLocals)) t := fun t k => pre6 t (by
    show Steps p.tables e below (T5.setTop (mkF m 36 #[.val (.int p0), .val (.int p1), .val (.int p2), .val (.int (v0_n_6 p0)), .val (.int (v0_n_13 p0 p1)), .val (.int (v0_n_21 p0 p2)), .val (.ref b26_2), .unset] [(.int (f7 (nar .boolean (1 : Int32))))])) _
    refine XS.istore X5.here hx rfl (hb hby at_36) rfl (l' := #[.val (.int p0), .val (.int p1), .val (.int p2), .val (.int (v0_n_6 p0)), .val (.int (v0_n_13 p0 p1)), .val (.int (v0_n_21 p0 p2)), .val (.ref b26_2), .val (.int (v0_n_36))]) rfl ?_
    show Steps p.tables e below (T5.setTop (mkF m 38 #[.val (.int p0), .val (.int p1), .val (.int p2), .val (.int (v0_n_6 p0)), .val (.int (v0_n_13 p0 p1)), .val (.int (v0_n_21 p0 p2)), .val (.ref b26_2), .val (.int (v0_n_36))] [])) _
    refine XS.iload X5.here hx rfl (hb hby at_38) rfl ?_
    show Steps p.tables e below (T5.setTop (mkF m 40 #[.val (.int p0), .val (.int p1), .val (.int p2), .val (.int (v0_n_6 p0)), .val (.int (v0_n_13 p0 p1)), .val (.int (v0_n_21 p0 p2)), .val (.ref b26_2), .val (.int (v0_n_36))] [(.int (v0_n_36))])) _
    refine XS.ifNo X5.here hx rfl (hb hby at_40) rfl ((if0 _ _).trans (feq (by decide)).1) ?_
    show Steps p.tables e below (T5.setTop (mkF m 43 #[.val (.int p0), .val (.int p1), .val (.int p2), .val (.int (v0_n_6 p0)), .val (.int (v0_n_13 p0 p1)), .val (.int (v0_n_21 p0 p2)), .val (.ref b26_2), .val (.int (v0_n_36))] [])) _
    refine XS.aload X5.here hx rfl (hb hby at_43) rfl rfl ?_
    exact k)
  obtain ⟨cq8, kq8, q8a, q8b, q8c⟩ := isOf hZ e5 o2_0
  obtain ⟨_, _, ⟨T8, L8, k8, n8⟩, -, X8, ⟨Lc8, hQ8, l8, y8, z8⟩, st8⟩ := X5.virtualBack hx (y := (⟨"com/example/stint/stint/store/Decision", "admitted", "()Z"⟩ : MethodName)) (z := (⟨"com/example/stint/stint/store/Decision", "admitted", "()Z"⟩ : MethodName)) hown (mvT hZ (hw _ (List.mem_of_getElem? (i := 54) rfl))) (mvT hZ (hw _ (List.mem_of_getElem? (i := 43) rfl))) (notFace_of_selects (args := #[]) (mvT hZ (hw _ (List.mem_of_getElem? (i := 45) rfl)))) (mvT hZ (hw _ (List.mem_of_getElem? (i := 45) rfl))) (mvT hZ (hw _ (List.mem_of_getElem? (i := 44) rfl))) (by decide) (backOf (W := 0) (rm6 l Z a0 hw [] b26_2 (1000 : Int64) T2.heap n0 Z2 o2_3) hZ (hw _ (List.mem_of_getElem? (i := 46) rfl)) (hw _ (List.mem_of_getElem? (i := 3) rfl)) (by decide) (by decide)) q8a q8c (g := (mkF m 45 #[.val (.int p0), .val (.int p1), .val (.int p2), .val (.int (v0_n_6 p0)), .val (.int (v0_n_13 p0 p1)), .val (.int (v0_n_21 p0 p2)), .val (.ref b26_2), .val (.int (v0_n_36))] [(.ref b26_2)])) rfl (by rw [hml]; rfl) (Steps.refl _) (argsL := []) (rest := []) (lenOf pd___Z rfl) rfl (by show 2 * 0 + _ ≤ _; exact Nat.le_of_eq rfl) (hb hby at_45) (fun _ _ => ⟨rfl, e5, (by decide : 3 + 0 ≤ _), (by decide : 24 + 0 ≤ _)⟩)
  dsimp only [Pt.U, Pt.locs, Pt.cells, Pt.slots] at X8 l8 y8 z8 st8 hQ8
  subst l8 y8 z8
  obtain ⟨rfl, Nq8, e8⟩ := hQ8
  have N8 := Fr.app N5 Nq8
  have pre9 : ∀ t, Steps p.tables e below (T8.setTop (mkF m 48 #[.val (.int p0), .val (.int p1), .val (.int p2), .val (.int (v0_n_6 p0)), .val (.int (v0_n_13 p0 p1)), .val (.int (v0_n_21 p0 p2)), .val (.ref b26_2), .val (.int (v0_n_36))] [(.int (f6 (1000 : Int64)))])) t → Steps p.tables e below (s₁.setTop (entryFrame m #[(.int p0), (.int p1), (.int p2)] maxLocals)) t := fun t k => pre7 t (st8.trans k)
  have pre10 : ∀ t, Steps p.tables e below (T8.setTop (mkF m 65 #[.val (.int p0), .val (.int p1), .val (.int p2), .val (.int (v0_n_6 p0)), .val (.int (v0_n_13 p0 p1)), .val (.int (v0_n_21 p0 p2)), .val (.ref b26_2), .val (.int (1 : Int32))] [(.ref b26_2)])) t → Steps p.tables e below (s₁.setTop (entryFrame m #[(.int p0), (.int p1), (.int p2)] maxLocals)) t := fun t k => pre9 t (by
    show Steps p.tables e below (T8.setTop (mkF m 48 #[.val (.int p0), .val (.int p1), .val (.int p2), .val (.int (v0_n_6 p0)), .val (.int (v0_n_13 p0 p1)), .val (.int (v0_n_21 p0 p2)), .val (.ref b26_2), .val (.int (v0_n_36))] [(.int (f6 (1000 : Int64)))])) _
    refine XS.ifNo X8.here hx rfl (hb hby at_48) rfl ((if0 _ _).trans (teq (by decide)).2) ?_
    show Steps p.tables e below (T8.setTop (mkF m 51 #[.val (.int p0), .val (.int p1), .val (.int p2), .val (.int (v0_n_6 p0)), .val (.int (v0_n_13 p0 p1)), .val (.int (v0_n_21 p0 p2)), .val (.ref b26_2), .val (.int (v0_n_36))] [])) _
    refine XS.iconst X8.here hx rfl (hb hby at_51) ?_
    show Steps p.tables e below (T8.setTop (mkF m 52 #[.val (.int p0), .val (.int p1), .val (.int p2), .val (.int (v0_n_6 p0)), .val (.int (v0_n_13 p0 p1)), .val (.int (v0_n_21 p0 p2)), .val (.ref b26_2), .val (.int (v0_n_36))] [(.int (1 : Int32))])) _
    refine XS.goto X8.here hx rfl (pc0 := 52) (pc' := 56) rfl (hb hby at_52) (by decide) (by decide) ?_
    show Steps p.tables e below (T8.setTop (mkF m 56 #[.val (.int p0), .val (.int p1), .val (.int p2), .val (.int (v0_n_6 p0)), .val (.int (v0_n_13 p0 p1)), .val (.int (v0_n_21 p0 p2)), .val (.ref b26_2), .val (.int (v0_n_36))] [(.int (1 : Int32))])) _
    refine XS.istore X8.here hx rfl (hb hby at_56) rfl (l' := #[.val (.int p0), .val (.int p1), .val (.int p2), .val (.int (v0_n_6 p0)), .val (.int (v0_n_13 p0 p1)), .val (.int (v0_n_21 p0 p2)), .val (.ref b26_2), .val (.int (1 : Int32))]) rfl ?_
    show Steps p.tables e below (T8.setTop (mkF m 58 #[.val (.int p0), .val (.int p1), .val (.int p2), .val (.int (v0_n_6 p0)), .val (.int (v0_n_13 p0 p1)), .val (.int (v0_n_21 p0 p2)), .val (.ref b26_2), .val (.int (1 : Int32))] [])) _
    refine XS.iload X8.here hx rfl (hb hby at_58) rfl ?_
    show Steps p.tables e below (T8.setTop (mkF m 60 #[.val (.int p0), .val (.int p1), .val (.int p2), .val (.int (v0_n_6 p0)), .val (.int (v0_n_13 p0 p1)), .val (.int (v0_n_21 p0 p2)), .val (.ref b26_2), .val (.int (1 : Int32))] [(.int (1 : Int32))])) _
    refine XS.ifNo X8.here hx rfl (hb hby at_60) rfl (by decide) ?_
    show Steps p.tables e below (T8.setTop (mkF m 63 #[.val (.int p0), .val (.int p1), .val (.int p2), .val (.int (v0_n_6 p0)), .val (.int (v0_n_13 p0 p1)), .val (.int (v0_n_21 p0 p2)), .val (.ref b26_2), .val (.int (1 : Int32))] [])) _
    refine XS.aload X8.here hx rfl (hb hby at_63) rfl rfl ?_
    exact k)
  obtain ⟨cq11, kq11, q11a, q11b, q11c⟩ := isOf hZ e8 o2_0
  obtain ⟨_, _, ⟨T11, L11, k11, n11⟩, -, X11, ⟨Lc11, hQ11, l11, y11, z11⟩, st11⟩ := X8.virtualBack hx (y := (⟨"com/example/stint/stint/store/Decision", "waitMillis", "()J"⟩ : MethodName)) (z := (⟨"com/example/stint/stint/store/Decision", "waitMillis", "()J"⟩ : MethodName)) hown (mvT hZ (hw _ (List.mem_of_getElem? (i := 55) rfl))) (mvT hZ (hw _ (List.mem_of_getElem? (i := 56) rfl))) (notFace_of_selects (args := #[]) (mvT hZ (hw _ (List.mem_of_getElem? (i := 58) rfl)))) (mvT hZ (hw _ (List.mem_of_getElem? (i := 58) rfl))) (mvT hZ (hw _ (List.mem_of_getElem? (i := 57) rfl))) (by decide) (backOf (W := 0) (rm8 l Z a0 hw [] b26_2 (1000 : Int64) T2.heap n0 Z2 o2_3) hZ (hw _ (List.mem_of_getElem? (i := 59) rfl)) (hw _ (List.mem_of_getElem? (i := 3) rfl)) (by decide) (by decide)) q11a q11c (g := (mkF m 65 #[.val (.int p0), .val (.int p1), .val (.int p2), .val (.int (v0_n_6 p0)), .val (.int (v0_n_13 p0 p1)), .val (.int (v0_n_21 p0 p2)), .val (.ref b26_2), .val (.int (1 : Int32))] [(.ref b26_2)])) rfl (by rw [hml]; rfl) (Steps.refl _) (argsL := []) (rest := []) (lenOf pd___J rfl) rfl (by show 2 * 0 + _ ≤ _; exact Nat.le_of_eq rfl) (hb hby at_65) (fun _ _ => ⟨rfl, e8, (by decide : 3 + 0 ≤ _), (by decide : 24 + 0 ≤ _)⟩)
  dsimp only [Pt.U, Pt.locs, Pt.cells, Pt.slots] at X11 l11 y11 z11 st11 hQ11
  subst l11 y11 z11
  obtain ⟨rfl, Nq11, e11⟩ := hQ11
  have N11 := Fr.app N8 Nq11
  have pre12 : ∀ t, Steps p.tables e below (T11.setTop (mkF m 68 #[.val (.int p0), .val (.int p1), .val (.int p2), .val (.int (v0_n_6 p0)), .val (.int (v0_n_13 p0 p1)), .val (.int (v0_n_21 p0 p2)), .val (.ref b26_2), .val (.int (1 : Int32))] [(.long (f8 (1000 : Int64)))])) t → Steps p.tables e below (s₁.setTop (entryFrame m #[(.int p0), (.int p1), (.int p2)] maxLocals)) t := fun t k => pre10 t (st11.trans k)
  have pre13 : ∀ t, Steps p.tables e below (T11.setTop (mkF m 89 #[.val (.int p0), .val (.int p1), .val (.int p2), .val (.int (v0_n_6 p0)), .val (.int (v0_n_13 p0 p1)), .val (.int (v0_n_21 p0 p2)), .val (.ref b26_2), .val (.int (1 : Int32))] [(.ref b26_2)])) t → Steps p.tables e below (s₁.setTop (entryFrame m #[(.int p0), (.int p1), (.int p2)] maxLocals)) t := fun t k => pre12 t (by
    show Steps p.tables e below (T11.setTop (mkF m 68 #[.val (.int p0), .val (.int p1), .val (.int p2), .val (.int (v0_n_6 p0)), .val (.int (v0_n_13 p0 p1)), .val (.int (v0_n_21 p0 p2)), .val (.ref b26_2), .val (.int (1 : Int32))] [(.long (f8 (1000 : Int64)))])) _
    refine X11.ldc2Long hx hown (mvT hZ (hw _ (List.mem_of_getElem? (i := 60) rfl))) (g := (mkF m 68 #[.val (.int p0), .val (.int p1), .val (.int p2), .val (.int (v0_n_6 p0)), .val (.int (v0_n_13 p0 p1)), .val (.int (v0_n_21 p0 p2)), .val (.ref b26_2), .val (.int (1 : Int32))] [(.long (f8 (1000 : Int64)))])) rfl (hb hby at_68) _ ?_
    show Steps p.tables e below (T11.setTop (mkF m 71 #[.val (.int p0), .val (.int p1), .val (.int p2), .val (.int (v0_n_6 p0)), .val (.int (v0_n_13 p0 p1)), .val (.int (v0_n_21 p0 p2)), .val (.ref b26_2), .val (.int (1 : Int32))] [(.long (1000 : Int64)), (.long (f8 (1000 : Int64)))])) _
    refine XS.lcmp X11.here hx rfl (hb hby at_71) rfl ?_
    show Steps p.tables e below (T11.setTop (mkF m 72 #[.val (.int p0), .val (.int p1), .val (.int p2), .val (.int (v0_n_6 p0)), .val (.int (v0_n_13 p0 p1)), .val (.int (v0_n_21 p0 p2)), .val (.ref b26_2), .val (.int (1 : Int32))] [(.int (lcmpW (f8 (1000 : Int64)) (1000 : Int64)))])) _
    refine XS.ifNo X11.here hx rfl (hb hby at_72) rfl ((if0 _ _).trans (teq ((lw_eq _ _).mpr (by decide))).2) ?_
    show Steps p.tables e below (T11.setTop (mkF m 75 #[.val (.int p0), .val (.int p1), .val (.int p2), .val (.int (v0_n_6 p0)), .val (.int (v0_n_13 p0 p1)), .val (.int (v0_n_21 p0 p2)), .val (.ref b26_2), .val (.int (1 : Int32))] [])) _
    refine XS.iconst X11.here hx rfl (hb hby at_75) ?_
    show Steps p.tables e below (T11.setTop (mkF m 76 #[.val (.int p0), .val (.int p1), .val (.int p2), .val (.int (v0_n_6 p0)), .val (.int (v0_n_13 p0 p1)), .val (.int (v0_n_21 p0 p2)), .val (.ref b26_2), .val (.int (1 : Int32))] [(.int (1 : Int32))])) _
    refine XS.goto X11.here hx rfl (pc0 := 76) (pc' := 80) rfl (hb hby at_76) (by decide) (by decide) ?_
    show Steps p.tables e below (T11.setTop (mkF m 80 #[.val (.int p0), .val (.int p1), .val (.int p2), .val (.int (v0_n_6 p0)), .val (.int (v0_n_13 p0 p1)), .val (.int (v0_n_21 p0 p2)), .val (.ref b26_2), .val (.int (1 : Int32))] [(.int (1 : Int32))])) _
    refine XS.istore X11.here hx rfl (hb hby at_80) rfl (l' := #[.val (.int p0), .val (.int p1), .val (.int p2), .val (.int (v0_n_6 p0)), .val (.int (v0_n_13 p0 p1)), .val (.int (v0_n_21 p0 p2)), .val (.ref b26_2), .val (.int (1 : Int32))]) rfl ?_
    show Steps p.tables e below (T11.setTop (mkF m 82 #[.val (.int p0), .val (.int p1), .val (.int p2), .val (.int (v0_n_6 p0)), .val (.int (v0_n_13 p0 p1)), .val (.int (v0_n_21 p0 p2)), .val (.ref b26_2), .val (.int (1 : Int32))] [])) _
    refine XS.iload X11.here hx rfl (hb hby at_82) rfl ?_
    show Steps p.tables e below (T11.setTop (mkF m 84 #[.val (.int p0), .val (.int p1), .val (.int p2), .val (.int (v0_n_6 p0)), .val (.int (v0_n_13 p0 p1)), .val (.int (v0_n_21 p0 p2)), .val (.ref b26_2), .val (.int (1 : Int32))] [(.int (1 : Int32))])) _
    refine XS.ifNo X11.here hx rfl (hb hby at_84) rfl (by decide) ?_
    show Steps p.tables e below (T11.setTop (mkF m 87 #[.val (.int p0), .val (.int p1), .val (.int p2), .val (.int (v0_n_6 p0)), .val (.int (v0_n_13 p0 p1)), .val (.int (v0_n_21 p0 p2)), .val (.ref b26_2), .val (.int (1 : Int32))] [])) _
    refine XS.aload X11.here hx rfl (hb hby at_87) rfl rfl ?_
    exact k)
  obtain ⟨cq14, kq14, q14a, q14b, q14c⟩ := isOf hZ e11 o2_0
  obtain ⟨_, _, ⟨T14, L14, k14, n14⟩, -, X14, ⟨Lc14, hQ14, l14, y14, z14⟩, st14⟩ := X11.virtualBack hx (y := (⟨"com/example/stint/stint/store/Decision", "retryAfterSeconds", "()J"⟩ : MethodName)) (z := (⟨"com/example/stint/stint/store/Decision", "retryAfterSeconds", "()J"⟩ : MethodName)) hown (mvT hZ (hw _ (List.mem_of_getElem? (i := 61) rfl))) (mvT hZ (hw _ (List.mem_of_getElem? (i := 62) rfl))) (notFace_of_selects (args := #[]) (mvT hZ (hw _ (List.mem_of_getElem? (i := 64) rfl)))) (mvT hZ (hw _ (List.mem_of_getElem? (i := 64) rfl))) (mvT hZ (hw _ (List.mem_of_getElem? (i := 63) rfl))) (by decide) (backOf (W := 0) (rm9 l Z a0 hw [] b26_2 (1000 : Int64) T2.heap n0 Z2 o2_3) hZ (hw _ (List.mem_of_getElem? (i := 65) rfl)) (hw _ (List.mem_of_getElem? (i := 3) rfl)) (by decide) (by decide)) q14a q14c (g := (mkF m 89 #[.val (.int p0), .val (.int p1), .val (.int p2), .val (.int (v0_n_6 p0)), .val (.int (v0_n_13 p0 p1)), .val (.int (v0_n_21 p0 p2)), .val (.ref b26_2), .val (.int (1 : Int32))] [(.ref b26_2)])) rfl (by rw [hml]; rfl) (Steps.refl _) (argsL := []) (rest := []) (lenOf pd___J rfl) rfl (by show 2 * 0 + _ ≤ _; exact Nat.le_of_eq rfl) (hb hby at_89) (fun _ _ => ⟨rfl, e11, (by decide : 3 + 0 ≤ _), (by decide : 24 + 0 ≤ _)⟩)
  dsimp only [Pt.U, Pt.locs, Pt.cells, Pt.slots] at X14 l14 y14 z14 st14 hQ14
  subst l14 y14 z14
  obtain ⟨rfl, Nq14, e14⟩ := hQ14
  have N14 := Fr.app N11 Nq14
  have pre15 : ∀ t, Steps p.tables e below (T14.setTop (mkF m 92 #[.val (.int p0), .val (.int p1), .val (.int p2), .val (.int (v0_n_6 p0)), .val (.int (v0_n_13 p0 p1)), .val (.int (v0_n_21 p0 p2)), .val (.ref b26_2), .val (.int (1 : Int32))] [(.long (f9 (1000 : Int64)))])) t → Steps p.tables e below (s₁.setTop (entryFrame m #[(.int p0), (.int p1), (.int p2)] maxLocals)) t := fun t k => pre13 t (st14.trans k)
  have pre16 : ∀ t, Steps p.tables e below (T14.setTop (mkF m 111 #[.val (.int p0), .val (.int p1), .val (.int p2), .val (.int (v0_n_6 p0)), .val (.int (v0_n_13 p0 p1)), .val (.int (v0_n_21 p0 p2)), .val (.ref b26_2), .val (.int (1 : Int32))] [(.ref b26_2)])) t → Steps p.tables e below (s₁.setTop (entryFrame m #[(.int p0), (.int p1), (.int p2)] maxLocals)) t := fun t k => pre15 t (by
    show Steps p.tables e below (T14.setTop (mkF m 92 #[.val (.int p0), .val (.int p1), .val (.int p2), .val (.int (v0_n_6 p0)), .val (.int (v0_n_13 p0 p1)), .val (.int (v0_n_21 p0 p2)), .val (.ref b26_2), .val (.int (1 : Int32))] [(.long (f9 (1000 : Int64)))])) _
    refine XS.lconst X14.here hx rfl (hb hby at_92) ?_
    show Steps p.tables e below (T14.setTop (mkF m 93 #[.val (.int p0), .val (.int p1), .val (.int p2), .val (.int (v0_n_6 p0)), .val (.int (v0_n_13 p0 p1)), .val (.int (v0_n_21 p0 p2)), .val (.ref b26_2), .val (.int (1 : Int32))] [(.long (1 : Int64)), (.long (f9 (1000 : Int64)))])) _
    refine XS.lcmp X14.here hx rfl (hb hby at_93) rfl ?_
    show Steps p.tables e below (T14.setTop (mkF m 94 #[.val (.int p0), .val (.int p1), .val (.int p2), .val (.int (v0_n_6 p0)), .val (.int (v0_n_13 p0 p1)), .val (.int (v0_n_21 p0 p2)), .val (.ref b26_2), .val (.int (1 : Int32))] [(.int (lcmpW (f9 (1000 : Int64)) (1 : Int64)))])) _
    refine XS.ifNo X14.here hx rfl (hb hby at_94) rfl ((if0 _ _).trans (teq ((lw_eq _ _).mpr (by decide))).2) ?_
    show Steps p.tables e below (T14.setTop (mkF m 97 #[.val (.int p0), .val (.int p1), .val (.int p2), .val (.int (v0_n_6 p0)), .val (.int (v0_n_13 p0 p1)), .val (.int (v0_n_21 p0 p2)), .val (.ref b26_2), .val (.int (1 : Int32))] [])) _
    refine XS.iconst X14.here hx rfl (hb hby at_97) ?_
    show Steps p.tables e below (T14.setTop (mkF m 98 #[.val (.int p0), .val (.int p1), .val (.int p2), .val (.int (v0_n_6 p0)), .val (.int (v0_n_13 p0 p1)), .val (.int (v0_n_21 p0 p2)), .val (.ref b26_2), .val (.int (1 : Int32))] [(.int (1 : Int32))])) _
    refine XS.goto X14.here hx rfl (pc0 := 98) (pc' := 102) rfl (hb hby at_98) (by decide) (by decide) ?_
    show Steps p.tables e below (T14.setTop (mkF m 102 #[.val (.int p0), .val (.int p1), .val (.int p2), .val (.int (v0_n_6 p0)), .val (.int (v0_n_13 p0 p1)), .val (.int (v0_n_21 p0 p2)), .val (.ref b26_2), .val (.int (1 : Int32))] [(.int (1 : Int32))])) _
    refine XS.istore X14.here hx rfl (hb hby at_102) rfl (l' := #[.val (.int p0), .val (.int p1), .val (.int p2), .val (.int (v0_n_6 p0)), .val (.int (v0_n_13 p0 p1)), .val (.int (v0_n_21 p0 p2)), .val (.ref b26_2), .val (.int (1 : Int32))]) rfl ?_
    show Steps p.tables e below (T14.setTop (mkF m 104 #[.val (.int p0), .val (.int p1), .val (.int p2), .val (.int (v0_n_6 p0)), .val (.int (v0_n_13 p0 p1)), .val (.int (v0_n_21 p0 p2)), .val (.ref b26_2), .val (.int (1 : Int32))] [])) _
    refine XS.iload X14.here hx rfl (hb hby at_104) rfl ?_
    show Steps p.tables e below (T14.setTop (mkF m 106 #[.val (.int p0), .val (.int p1), .val (.int p2), .val (.int (v0_n_6 p0)), .val (.int (v0_n_13 p0 p1)), .val (.int (v0_n_21 p0 p2)), .val (.ref b26_2), .val (.int (1 : Int32))] [(.int (1 : Int32))])) _
    refine XS.ifNo X14.here hx rfl (hb hby at_106) rfl (by decide) ?_
    show Steps p.tables e below (T14.setTop (mkF m 109 #[.val (.int p0), .val (.int p1), .val (.int p2), .val (.int (v0_n_6 p0)), .val (.int (v0_n_13 p0 p1)), .val (.int (v0_n_21 p0 p2)), .val (.ref b26_2), .val (.int (1 : Int32))] [])) _
    refine XS.aload X14.here hx rfl (hb hby at_109) rfl rfl ?_
    exact k)
  obtain ⟨cq17, kq17, q17a, q17b, q17c⟩ := isOf hZ e14 o2_0
  obtain ⟨_, _, ⟨T17, L17, k17, n17⟩, -, X17, ⟨Lc17, hQ17, l17, y17, z17⟩, st17⟩ := X14.virtualBack hx (y := (⟨"com/example/stint/stint/store/Decision", "reportingRule", "()I"⟩ : MethodName)) (z := (⟨"com/example/stint/stint/store/Decision", "reportingRule", "()I"⟩ : MethodName)) hown (mvT hZ (hw _ (List.mem_of_getElem? (i := 75) rfl))) (mvT hZ (hw _ (List.mem_of_getElem? (i := 76) rfl))) (notFace_of_selects (args := #[]) (mvT hZ (hw _ (List.mem_of_getElem? (i := 78) rfl)))) (mvT hZ (hw _ (List.mem_of_getElem? (i := 78) rfl))) (mvT hZ (hw _ (List.mem_of_getElem? (i := 77) rfl))) (by decide) (backOf (W := 0) (rm13 l Z a0 hw [] b26_2 (v0_n_13 p0 p1) T2.heap n0 Z2 o2_4) hZ (hw _ (List.mem_of_getElem? (i := 79) rfl)) (hw _ (List.mem_of_getElem? (i := 3) rfl)) (by decide) (by decide)) q17a q17c (g := (mkF m 111 #[.val (.int p0), .val (.int p1), .val (.int p2), .val (.int (v0_n_6 p0)), .val (.int (v0_n_13 p0 p1)), .val (.int (v0_n_21 p0 p2)), .val (.ref b26_2), .val (.int (1 : Int32))] [(.ref b26_2)])) rfl (by rw [hml]; rfl) (Steps.refl _) (argsL := []) (rest := []) (lenOf pd___I rfl) rfl (by show 2 * 0 + _ ≤ _; exact Nat.le_of_eq rfl) (hb hby at_111) (fun _ _ => ⟨rfl, e14, (by decide : 3 + 0 ≤ _), (by decide : 24 + 0 ≤ _)⟩)
  dsimp only [Pt.U, Pt.locs, Pt.cells, Pt.slots] at X17 l17 y17 z17 st17 hQ17
  subst l17 y17 z17
  obtain ⟨rfl, Nq17, e17⟩ := hQ17
  have N17 := Fr.app N14 Nq17
  have pre18 : ∀ t, Steps p.tables e below (T17.setTop (mkF m 114 #[.val (.int p0), .val (.int p1), .val (.int p2), .val (.int (v0_n_6 p0)), .val (.int (v0_n_13 p0 p1)), .val (.int (v0_n_21 p0 p2)), .val (.ref b26_2), .val (.int (1 : Int32))] [(.int (f13 (v0_n_13 p0 p1)))])) t → Steps p.tables e below (s₁.setTop (entryFrame m #[(.int p0), (.int p1), (.int p2)] maxLocals)) t := fun t k => pre16 t (st17.trans k)
  have pre19 : ∀ t, Steps p.tables e below (T17.setTop (mkF m 135 #[.val (.int p0), .val (.int p1), .val (.int p2), .val (.int (v0_n_6 p0)), .val (.int (v0_n_13 p0 p1)), .val (.int (v0_n_21 p0 p2)), .val (.ref b26_2), .val (.int (1 : Int32))] [(.int (v0_n_13 p0 p1)), (.ref b26_2)])) t → Steps p.tables e below (s₁.setTop (entryFrame m #[(.int p0), (.int p1), (.int p2)] maxLocals)) t := fun t k => pre18 t (by
    show Steps p.tables e below (T17.setTop (mkF m 114 #[.val (.int p0), .val (.int p1), .val (.int p2), .val (.int (v0_n_6 p0)), .val (.int (v0_n_13 p0 p1)), .val (.int (v0_n_21 p0 p2)), .val (.ref b26_2), .val (.int (1 : Int32))] [(.int (f13 (v0_n_13 p0 p1)))])) _
    refine XS.iload X17.here hx rfl (hb hby at_114) rfl ?_
    show Steps p.tables e below (T17.setTop (mkF m 116 #[.val (.int p0), .val (.int p1), .val (.int p2), .val (.int (v0_n_6 p0)), .val (.int (v0_n_13 p0 p1)), .val (.int (v0_n_21 p0 p2)), .val (.ref b26_2), .val (.int (1 : Int32))] [(.int (v0_n_13 p0 p1)), (.int (f13 (v0_n_13 p0 p1)))])) _
    refine XS.icmpNo X17.here hx rfl (hb hby at_116) rfl (teq rfl).2 ?_
    show Steps p.tables e below (T17.setTop (mkF m 119 #[.val (.int p0), .val (.int p1), .val (.int p2), .val (.int (v0_n_6 p0)), .val (.int (v0_n_13 p0 p1)), .val (.int (v0_n_21 p0 p2)), .val (.ref b26_2), .val (.int (1 : Int32))] [])) _
    refine XS.iconst X17.here hx rfl (hb hby at_119) ?_
    show Steps p.tables e below (T17.setTop (mkF m 120 #[.val (.int p0), .val (.int p1), .val (.int p2), .val (.int (v0_n_6 p0)), .val (.int (v0_n_13 p0 p1)), .val (.int (v0_n_21 p0 p2)), .val (.ref b26_2), .val (.int (1 : Int32))] [(.int (1 : Int32))])) _
    refine XS.goto X17.here hx rfl (pc0 := 120) (pc' := 124) rfl (hb hby at_120) (by decide) (by decide) ?_
    show Steps p.tables e below (T17.setTop (mkF m 124 #[.val (.int p0), .val (.int p1), .val (.int p2), .val (.int (v0_n_6 p0)), .val (.int (v0_n_13 p0 p1)), .val (.int (v0_n_21 p0 p2)), .val (.ref b26_2), .val (.int (1 : Int32))] [(.int (1 : Int32))])) _
    refine XS.istore X17.here hx rfl (hb hby at_124) rfl (l' := #[.val (.int p0), .val (.int p1), .val (.int p2), .val (.int (v0_n_6 p0)), .val (.int (v0_n_13 p0 p1)), .val (.int (v0_n_21 p0 p2)), .val (.ref b26_2), .val (.int (1 : Int32))]) rfl ?_
    show Steps p.tables e below (T17.setTop (mkF m 126 #[.val (.int p0), .val (.int p1), .val (.int p2), .val (.int (v0_n_6 p0)), .val (.int (v0_n_13 p0 p1)), .val (.int (v0_n_21 p0 p2)), .val (.ref b26_2), .val (.int (1 : Int32))] [])) _
    refine XS.iload X17.here hx rfl (hb hby at_126) rfl ?_
    show Steps p.tables e below (T17.setTop (mkF m 128 #[.val (.int p0), .val (.int p1), .val (.int p2), .val (.int (v0_n_6 p0)), .val (.int (v0_n_13 p0 p1)), .val (.int (v0_n_21 p0 p2)), .val (.ref b26_2), .val (.int (1 : Int32))] [(.int (1 : Int32))])) _
    refine XS.ifNo X17.here hx rfl (hb hby at_128) rfl (by decide) ?_
    show Steps p.tables e below (T17.setTop (mkF m 131 #[.val (.int p0), .val (.int p1), .val (.int p2), .val (.int (v0_n_6 p0)), .val (.int (v0_n_13 p0 p1)), .val (.int (v0_n_21 p0 p2)), .val (.ref b26_2), .val (.int (1 : Int32))] [])) _
    refine XS.aload X17.here hx rfl (hb hby at_131) rfl rfl ?_
    show Steps p.tables e below (T17.setTop (mkF m 133 #[.val (.int p0), .val (.int p1), .val (.int p2), .val (.int (v0_n_6 p0)), .val (.int (v0_n_13 p0 p1)), .val (.int (v0_n_21 p0 p2)), .val (.ref b26_2), .val (.int (1 : Int32))] [(.ref b26_2)])) _
    refine XS.iload X17.here hx rfl (hb hby at_133) rfl ?_
    exact k)
  obtain ⟨cq20, kq20, q20a, q20b, q20c⟩ := isOf hZ e17 o2_0
  obtain ⟨_, _, ⟨T20, L20, k20, n20⟩, -, X20, ⟨Lc20, hQ20, l20, y20, z20⟩, st20⟩ := X17.virtualBack hx (y := (⟨"com/example/stint/stint/store/Decision", "hasBudget", "(I)Z"⟩ : MethodName)) (z := (⟨"com/example/stint/stint/store/Decision", "hasBudget", "(I)Z"⟩ : MethodName)) hown (mvT hZ (hw _ (List.mem_of_getElem? (i := 80) rfl))) (mvT hZ (hw _ (List.mem_of_getElem? (i := 81) rfl))) (notFace_of_selects (args := #[]) (mvT hZ (hw _ (List.mem_of_getElem? (i := 83) rfl)))) (mvT hZ (hw _ (List.mem_of_getElem? (i := 83) rfl))) (mvT hZ (hw _ (List.mem_of_getElem? (i := 82) rfl))) (by decide) (backOf (W := 0) (rm14_y l Z a0 hw [] b26_2 (v0_n_13 p0 p1) b26_0 _ (v0_n_6 p0) (v0_n_13 p0 p1) b26_1 T2.heap n0 Z2 o2_1 o2_5 o2_6 (own_rem p0 p1).1 (own_rem p0 p1).2.1 rfl) hZ (hw _ (List.mem_of_getElem? (i := 84) rfl)) (hw _ (List.mem_of_getElem? (i := 3) rfl)) (by decide) (by decide)) q20a q20c (g := (mkF m 135 #[.val (.int p0), .val (.int p1), .val (.int p2), .val (.int (v0_n_6 p0)), .val (.int (v0_n_13 p0 p1)), .val (.int (v0_n_21 p0 p2)), .val (.ref b26_2), .val (.int (1 : Int32))] [(.int (v0_n_13 p0 p1)), (.ref b26_2)])) rfl (by rw [hml]; rfl) (Steps.refl _) (argsL := [(.int (v0_n_13 p0 p1))]) (rest := []) (lenOf pd__I_Z rfl) rfl (by show 2 * 0 + _ ≤ _; exact Nat.le_of_eq rfl) (hb hby at_135) (fun _ _ => ⟨rfl, e17, (by decide : 3 + 0 ≤ _), (by decide : 24 + 0 ≤ _)⟩)
  dsimp only [Pt.U, Pt.locs, Pt.cells, Pt.slots] at X20 l20 y20 z20 st20 hQ20
  subst l20 y20 z20
  obtain ⟨rfl, Nq20, e20⟩ := hQ20
  have N20 := Fr.app N17 Nq20
  have pre21 : ∀ t, Steps p.tables e below (T20.setTop (mkF m 138 #[.val (.int p0), .val (.int p1), .val (.int p2), .val (.int (v0_n_6 p0)), .val (.int (v0_n_13 p0 p1)), .val (.int (v0_n_21 p0 p2)), .val (.ref b26_2), .val (.int (1 : Int32))] [(.int (f14_y))])) t → Steps p.tables e below (s₁.setTop (entryFrame m #[(.int p0), (.int p1), (.int p2)] maxLocals)) t := fun t k => pre19 t (st20.trans k)
  have pre22 : ∀ t, Steps p.tables e below (T20.setTop (mkF m 157 #[.val (.int p0), .val (.int p1), .val (.int p2), .val (.int (v0_n_6 p0)), .val (.int (v0_n_13 p0 p1)), .val (.int (v0_n_21 p0 p2)), .val (.ref b26_2), .val (.int (1 : Int32))] [(.int (v0_n_21 p0 p2)), (.ref b26_2)])) t → Steps p.tables e below (s₁.setTop (entryFrame m #[(.int p0), (.int p1), (.int p2)] maxLocals)) t := fun t k => pre21 t (by
    show Steps p.tables e below (T20.setTop (mkF m 138 #[.val (.int p0), .val (.int p1), .val (.int p2), .val (.int (v0_n_6 p0)), .val (.int (v0_n_13 p0 p1)), .val (.int (v0_n_21 p0 p2)), .val (.ref b26_2), .val (.int (1 : Int32))] [(.int (f14_y))])) _
    refine XS.ifNo X20.here hx rfl (hb hby at_138) rfl ((if0 _ _).trans (teq (by decide)).2) ?_
    show Steps p.tables e below (T20.setTop (mkF m 141 #[.val (.int p0), .val (.int p1), .val (.int p2), .val (.int (v0_n_6 p0)), .val (.int (v0_n_13 p0 p1)), .val (.int (v0_n_21 p0 p2)), .val (.ref b26_2), .val (.int (1 : Int32))] [])) _
    refine XS.iconst X20.here hx rfl (hb hby at_141) ?_
    show Steps p.tables e below (T20.setTop (mkF m 142 #[.val (.int p0), .val (.int p1), .val (.int p2), .val (.int (v0_n_6 p0)), .val (.int (v0_n_13 p0 p1)), .val (.int (v0_n_21 p0 p2)), .val (.ref b26_2), .val (.int (1 : Int32))] [(.int (1 : Int32))])) _
    refine XS.goto X20.here hx rfl (pc0 := 142) (pc' := 146) rfl (hb hby at_142) (by decide) (by decide) ?_
    show Steps p.tables e below (T20.setTop (mkF m 146 #[.val (.int p0), .val (.int p1), .val (.int p2), .val (.int (v0_n_6 p0)), .val (.int (v0_n_13 p0 p1)), .val (.int (v0_n_21 p0 p2)), .val (.ref b26_2), .val (.int (1 : Int32))] [(.int (1 : Int32))])) _
    refine XS.istore X20.here hx rfl (hb hby at_146) rfl (l' := #[.val (.int p0), .val (.int p1), .val (.int p2), .val (.int (v0_n_6 p0)), .val (.int (v0_n_13 p0 p1)), .val (.int (v0_n_21 p0 p2)), .val (.ref b26_2), .val (.int (1 : Int32))]) rfl ?_
    show Steps p.tables e below (T20.setTop (mkF m 148 #[.val (.int p0), .val (.int p1), .val (.int p2), .val (.int (v0_n_6 p0)), .val (.int (v0_n_13 p0 p1)), .val (.int (v0_n_21 p0 p2)), .val (.ref b26_2), .val (.int (1 : Int32))] [])) _
    refine XS.iload X20.here hx rfl (hb hby at_148) rfl ?_
    show Steps p.tables e below (T20.setTop (mkF m 150 #[.val (.int p0), .val (.int p1), .val (.int p2), .val (.int (v0_n_6 p0)), .val (.int (v0_n_13 p0 p1)), .val (.int (v0_n_21 p0 p2)), .val (.ref b26_2), .val (.int (1 : Int32))] [(.int (1 : Int32))])) _
    refine XS.ifNo X20.here hx rfl (hb hby at_150) rfl (by decide) ?_
    show Steps p.tables e below (T20.setTop (mkF m 153 #[.val (.int p0), .val (.int p1), .val (.int p2), .val (.int (v0_n_6 p0)), .val (.int (v0_n_13 p0 p1)), .val (.int (v0_n_21 p0 p2)), .val (.ref b26_2), .val (.int (1 : Int32))] [])) _
    refine XS.aload X20.here hx rfl (hb hby at_153) rfl rfl ?_
    show Steps p.tables e below (T20.setTop (mkF m 155 #[.val (.int p0), .val (.int p1), .val (.int p2), .val (.int (v0_n_6 p0)), .val (.int (v0_n_13 p0 p1)), .val (.int (v0_n_21 p0 p2)), .val (.ref b26_2), .val (.int (1 : Int32))] [(.ref b26_2)])) _
    refine XS.iload X20.here hx rfl (hb hby at_155) rfl ?_
    exact k)
  obtain ⟨cq23, kq23, q23a, q23b, q23c⟩ := isOf hZ e20 o2_0
  obtain ⟨_, _, ⟨T23, L23, k23, n23⟩, -, X23, ⟨Lc23, hQ23, l23, y23, z23⟩, st23⟩ := X20.virtualBack hx (y := (⟨"com/example/stint/stint/store/Decision", "hasBudget", "(I)Z"⟩ : MethodName)) (z := (⟨"com/example/stint/stint/store/Decision", "hasBudget", "(I)Z"⟩ : MethodName)) hown (mvT hZ (hw _ (List.mem_of_getElem? (i := 80) rfl))) (mvT hZ (hw _ (List.mem_of_getElem? (i := 81) rfl))) (notFace_of_selects (args := #[]) (mvT hZ (hw _ (List.mem_of_getElem? (i := 83) rfl)))) (mvT hZ (hw _ (List.mem_of_getElem? (i := 83) rfl))) (mvT hZ (hw _ (List.mem_of_getElem? (i := 82) rfl))) (by decide) (backOf (W := 0) (rm14_n l Z a0 hw [] b26_2 (v0_n_21 p0 p2) b26_0 _ (v0_n_6 p0) (v0_n_13 p0 p1) b26_1 T2.heap n0 Z2 o2_1 o2_5 o2_6 (own_rem p0 p2).1 (own_rem p0 p2).2.1 hk) hZ (hw _ (List.mem_of_getElem? (i := 84) rfl)) (hw _ (List.mem_of_getElem? (i := 3) rfl)) (by decide) (by decide)) q23a q23c (g := (mkF m 157 #[.val (.int p0), .val (.int p1), .val (.int p2), .val (.int (v0_n_6 p0)), .val (.int (v0_n_13 p0 p1)), .val (.int (v0_n_21 p0 p2)), .val (.ref b26_2), .val (.int (1 : Int32))] [(.int (v0_n_21 p0 p2)), (.ref b26_2)])) rfl (by rw [hml]; rfl) (Steps.refl _) (argsL := [(.int (v0_n_21 p0 p2))]) (rest := []) (lenOf pd__I_Z rfl) rfl (by show 2 * 0 + _ ≤ _; exact Nat.le_of_eq rfl) (hb hby at_157) (fun _ _ => ⟨rfl, e20, (by decide : 3 + 0 ≤ _), (by decide : 24 + 0 ≤ _)⟩)
  dsimp only [Pt.U, Pt.locs, Pt.cells, Pt.slots] at X23 l23 y23 z23 st23 hQ23
  subst l23 y23 z23
  obtain ⟨rfl, Nq23, e23⟩ := hQ23
  have N23 := Fr.app N20 Nq23
  have pre24 : ∀ t, Steps p.tables e below (T23.setTop (mkF m 160 #[.val (.int p0), .val (.int p1), .val (.int p2), .val (.int (v0_n_6 p0)), .val (.int (v0_n_13 p0 p1)), .val (.int (v0_n_21 p0 p2)), .val (.ref b26_2), .val (.int (1 : Int32))] [(.int (f14_n))])) t → Steps p.tables e below (s₁.setTop (entryFrame m #[(.int p0), (.int p1), (.int p2)] maxLocals)) t := fun t k => pre22 t (st23.trans k)
  have pre25 : ∀ t, Steps p.tables e below (T23.setTop (mkF m 184 #[.val (.int p0), .val (.int p1), .val (.int p2), .val (.int (v0_n_6 p0)), .val (.int (v0_n_13 p0 p1)), .val (.int (v0_n_21 p0 p2)), .val (.ref b26_2), .val (.int (1 : Int32))] [(.int (1 : Int32))])) t → Steps p.tables e below (s₁.setTop (entryFrame m #[(.int p0), (.int p1), (.int p2)] maxLocals)) t := fun t k => pre24 t (by
    show Steps p.tables e below (T23.setTop (mkF m 160 #[.val (.int p0), .val (.int p1), .val (.int p2), .val (.int (v0_n_6 p0)), .val (.int (v0_n_13 p0 p1)), .val (.int (v0_n_21 p0 p2)), .val (.ref b26_2), .val (.int (1 : Int32))] [(.int (f14_n))])) _
    refine XS.iload X23.here hx rfl (hb hby at_160) rfl ?_
    show Steps p.tables e below (T23.setTop (mkF m 162 #[.val (.int p0), .val (.int p1), .val (.int p2), .val (.int (v0_n_6 p0)), .val (.int (v0_n_13 p0 p1)), .val (.int (v0_n_21 p0 p2)), .val (.ref b26_2), .val (.int (1 : Int32))] [(.int (v0_n_21 p0 p2)), (.int (f14_n))])) _
    refine XS.iload X23.here hx rfl (hb hby at_162) rfl ?_
    show Steps p.tables e below (T23.setTop (mkF m 164 #[.val (.int p0), .val (.int p1), .val (.int p2), .val (.int (v0_n_6 p0)), .val (.int (v0_n_13 p0 p1)), .val (.int (v0_n_21 p0 p2)), .val (.ref b26_2), .val (.int (1 : Int32))] [(.int (v0_n_13 p0 p1)), (.int (v0_n_21 p0 p2)), (.int (f14_n))])) _
    refine XS.icmpNo X23.here hx rfl (hb hby at_164) rfl (feq hk).1 ?_
    show Steps p.tables e below (T23.setTop (mkF m 167 #[.val (.int p0), .val (.int p1), .val (.int p2), .val (.int (v0_n_6 p0)), .val (.int (v0_n_13 p0 p1)), .val (.int (v0_n_21 p0 p2)), .val (.ref b26_2), .val (.int (1 : Int32))] [(.int (f14_n))])) _
    refine XS.iconst X23.here hx rfl (hb hby at_167) ?_
    show Steps p.tables e below (T23.setTop (mkF m 168 #[.val (.int p0), .val (.int p1), .val (.int p2), .val (.int (v0_n_6 p0)), .val (.int (v0_n_13 p0 p1)), .val (.int (v0_n_21 p0 p2)), .val (.ref b26_2), .val (.int (1 : Int32))] [(.int (1 : Int32)), (.int (f14_n))])) _
    refine XS.goto X23.here hx rfl (pc0 := 168) (pc' := 172) rfl (hb hby at_168) (by decide) (by decide) ?_
    show Steps p.tables e below (T23.setTop (mkF m 172 #[.val (.int p0), .val (.int p1), .val (.int p2), .val (.int (v0_n_6 p0)), .val (.int (v0_n_13 p0 p1)), .val (.int (v0_n_21 p0 p2)), .val (.ref b26_2), .val (.int (1 : Int32))] [(.int (1 : Int32)), (.int (f14_n))])) _
    refine XS.icmpNo X23.here hx rfl (hb hby at_172) rfl (teq (by decide)).2 ?_
    show Steps p.tables e below (T23.setTop (mkF m 175 #[.val (.int p0), .val (.int p1), .val (.int p2), .val (.int (v0_n_6 p0)), .val (.int (v0_n_13 p0 p1)), .val (.int (v0_n_21 p0 p2)), .val (.ref b26_2), .val (.int (1 : Int32))] [])) _
    refine XS.iconst X23.here hx rfl (hb hby at_175) ?_
    show Steps p.tables e below (T23.setTop (mkF m 176 #[.val (.int p0), .val (.int p1), .val (.int p2), .val (.int (v0_n_6 p0)), .val (.int (v0_n_13 p0 p1)), .val (.int (v0_n_21 p0 p2)), .val (.ref b26_2), .val (.int (1 : Int32))] [(.int (1 : Int32))])) _
    refine XS.goto X23.here hx rfl (pc0 := 176) (pc' := 180) rfl (hb hby at_176) (by decide) (by decide) ?_
    show Steps p.tables e below (T23.setTop (mkF m 180 #[.val (.int p0), .val (.int p1), .val (.int p2), .val (.int (v0_n_6 p0)), .val (.int (v0_n_13 p0 p1)), .val (.int (v0_n_21 p0 p2)), .val (.ref b26_2), .val (.int (1 : Int32))] [(.int (1 : Int32))])) _
    refine XS.istore X23.here hx rfl (hb hby at_180) rfl (l' := #[.val (.int p0), .val (.int p1), .val (.int p2), .val (.int (v0_n_6 p0)), .val (.int (v0_n_13 p0 p1)), .val (.int (v0_n_21 p0 p2)), .val (.ref b26_2), .val (.int (1 : Int32))]) rfl ?_
    show Steps p.tables e below (T23.setTop (mkF m 182 #[.val (.int p0), .val (.int p1), .val (.int p2), .val (.int (v0_n_6 p0)), .val (.int (v0_n_13 p0 p1)), .val (.int (v0_n_21 p0 p2)), .val (.ref b26_2), .val (.int (1 : Int32))] [])) _
    refine XS.iload X23.here hx rfl (hb hby at_182) rfl ?_
    exact k)
  obtain ⟨fs, hr, hrun, hended, hW, hsame⟩ := X23.leave (v := some (.int (1 : Int32))) (fun h => by rw [Bd.returns] at h; cases h)
  refine ⟨_, _, ?_, hrun, hended, _, _, rfl, ?_, ⟨_, rfl⟩, hW, hsame.mono (by decide) (by decide)⟩
  · exact pre25 _ (retN X23 hx (t := .boolean) Bd.returns (by simp) (hb hby at_184) hr)
  · exact ⟨by simp only [f0_n], N23, trivial⟩
set_option maxRecDepth 65536 in
theorem rm0 (l : Launch) (Z : State) (a0 : Array Value) (hw : ∀ d ∈ tables_1, d.before a0 Z = true) (ws : List Jvm.Cond) (p0 : Int32) (p1 : Int32) (p2 : Int32) (h0 : Heap) (n0 : Nat) (Z0 : n0 ≤ h0.size) :
    MetFree l x (head1 (Jvm.Cond.code x code maxLocals ret :: ws) room_1) (fun a U => a = #[(.int p0), (.int p1), (.int p2)] ∧ Z.Warmed39 U.vm ∧ U.heap = h0) (fun _ _ _ _ _ => True) (fun _ U o U' => ∃ v L, o = .returned v ∧ QL (some (.int (1 : Int32))) n0 v U'.heap L ∧ FrameEnd U o U' L room_1.cells room_1.slots) := by
  rcases Decidable.em (own_ru p0 p2 = own_ru p0 p1) with hk | hk
  · have q := rm0_y l Z a0 hw ws p0 p1 p2 h0 n0 Z0 hk
    rw [show f0_y = 1 from rfl] at q
    exact q
  · have q := rm0_n l Z a0 hw ws p0 p1 p2 h0 n0 Z0 hk
    rw [show f0_n = 1 from rfl] at q
    exact q
set_option maxRecDepth 65536 in
set_option maxHeartbeats 40000000 in
theorem comes_1 {Post : Tables → Env → Array Value → State → Outcome → State → Prop} (hpost : ∀ tb e args s v u, (limb_1_1.after args s (.returned v) u = true ∧ limb_1_2.after args s (.returned v) u = true ∧ True) → FrameEnd s (.returned v) u (Jvm.fieldLocs frame_1_writes args s ++ Jvm.arrayLocs frame_1_arrays args s ++ Jvm.staticLocs frame_1_statics s) 16 128 → Post tb e args s (.returned v) u) :
    ArmFor flags0 classFile x code maxLocals ret World_1 tables_1 room_1 Calls_1 rest_1 Pre_1 Post := by
  intro l hfl _ _ p e ha hc hk s m args below hf hA hF happ hP
  obtain ⟨hcalls, hrest, hpre⟩ := hP
  obtain ⟨-, -, -, hnamed, -, -, -, hat⟩ := (Spec.applies_iff hf).mp happ
  obtain ⟨hg, hn⟩ := and_e (Cond.before_iff.mp (show (Jvm.Cond.and given_1 narrow_1).before args s = true from hpre))
  obtain ⟨g1, g2⟩ := and_e hg
  obtain ⟨g3, g4⟩ := and_e g2
  obtain ⟨g5, g6⟩ := and_e g4
  obtain ⟨w0, w1, w2, rfl⟩ : ∃ w0 w1 w2 : Value, args = #[w0, w1, w2] := by
    have hs : args.size = 3 := by simpa [Cond.value, given_1] using g1
    obtain ⟨L⟩ := args
    match L, hs with
    | [w0, w1, w2], _ => exact ⟨w0, w1, w2, rfl⟩
  have hw := fun d (hd : d ∈ tables_1) => atoms_spec (ws := Jvm.Cond.code x code maxLocals ret :: tables_1) hat d (List.mem_cons_of_mem _ hd)
  obtain ⟨i0, ei0⟩ := is_v g3
  obtain rfl : w0 = (.int i0) := Option.some.inj ei0
  obtain ⟨i1, ei1⟩ := is_v g5
  obtain rfl : w1 = (.int i1) := Option.some.inj ei1
  obtain ⟨i2, ei2⟩ := is_v g6
  obtain rfl : w2 = (.int i2) := Option.some.inj ei2
  obtain ⟨n, o, h1, h2, h3, _, L, rfl, ⟨rfl, N, -⟩, hq⟩ := rm0 l s _ hw tables_1 i0 i1 i2 s.heap s.heap.size (Nat.le_refl _) p e ha hc hk s m _ below hf ((Spec.applies_iff_loose hf).mp happ).1 ⟨rfl, State.Warmed39.refl s, rfl⟩ trivial
  refine ⟨n, _, h1, h2, h3, hpost _ _ _ _ _ _ ⟨Cond.after_iff.mpr rfl, Cond.after_iff.mpr (eq_i res_at (Term.int_eval (1)) rfl), trivial⟩ ⟨hq.1, hq.2.1, (hq.2.2.sift fun y hy => Or.inr (N y hy)).mono (by decide) (by decide)⟩⟩
theorem main_1_1 : Claimed_1_1 := comes_1 fun _ _ _ _ _ _ h hF => ⟨h.1, hF⟩
theorem main_1_2 : Claimed_1_2 := comes_1 fun _ _ _ _ _ _ h hF => ⟨h.2.1, hF⟩
end Jvm.Pilot.@@N@@
namespace Jvm.Pilot.@@N@@
open Jvm Jvm.ClassFile Sem Op Lib Jvm.Free Jvm.Stand Jvm.Pilot.@@N@@.Jvm.D
/-! MADE BY PROGRAM (witnessworld.py) out of the Statement's table words and the real class files: 12 classes; the members and pool entries that the words name. The judged class is class 1, her method 1. -/
namespace start1
open Jvm.ClassFile
def u (s : String) : CpInfo := .utf8 (stringToUtf16 s)
/-- a pool by its gaps: so many unusable entries, then the entry; so many at the end -/
def gap : Nat → List CpInfo → List CpInfo
  | 0, r => r
  | n + 1, r => .unusable :: gap n r
def poolList (es : List (Nat × CpInfo)) (last : Nat) : List CpInfo := es.foldr (fun e r => gap e.1 (e.2 :: r)) (gap last [])
def pool (es : List (Nat × CpInfo)) (last : Nat) : Array CpInfo := ⟨poolList es last⟩
def fileOf (pool : Array CpInfo) (this : Nat) (attrs : Array Attribute := #[]) (ms : Array MethodInfo := #[]) (fl : Nat := 33) (sup : Nat := 0) (ifs : Array Nat := #[]) (fds : Array FieldInfo := #[]) : ClassFile where
  minorVersion := 0
  majorVersion := 65
  constantPool := pool
  accessFlags := fl
  thisClass := this
  superClass := sup
  interfaces := ifs
  fields := fds
  methods := ms
  attributes := attrs
def plain (name : String) (sup : Option ClassId) : Class where
  name := name
  kind := .ordinary
  loader := none
  accessFlags := 33
  super := sup
  interfaces := #[]
  cf := none
  fields := #[]
  methods := #[]
  instanceTypes := #[]
  staticTypes := #[]
  resolved := #[]
  callSites := []
  init := .initialized
  statics := none
  mirror := none

def pool0 : Array CpInfo := pool [(5, u "<init>"), (0, u "()V"), (1, .class_ 10), (1, u "java/lang/Object")] 113

def k0c0 : Code := { maxStack := 0, maxLocals := 1, code := object_method_1_code, exceptionTable := #[], attributes := #[] }
def k0m0 : Method := { name := "<init>", desc := "()V", sig := { parameters := [], returnType := none }, accessFlags := 1, code := some k0c0 }
/-- java/lang/Object -/
def k0 : Class := { plain "java/lang/Object" none with
  accessFlags := 33
  interfaces := #[]
  cf := some (fileOf pool0 8 #[] #[{ accessFlags := 1, nameIndex := 5, descriptorIndex := 6, attributes := #[] }] 33 0 #[] #[])
  fields := #[]
  methods := #[k0m0]
  instanceTypes := #[]
  staticTypes := #[]
  resolved := Array.replicate 124 none
  statics := none }

def pool1 : Array CpInfo := pool [(2, .class_ 4), (1, u "java/lang/Object"), (0, u "<init>"), (0, u "()V"), (0, .integer 2147483647), (0, .methodref 9 10), (0, .class_ 11), (0, .nameAndType 12 13), (0, u "com/example/stint/stint/store/Decision"), (0, u "unavailable"), (0, u "(II)Lcom/example/stint/stint/store/Decision;"), (0, .methodref 9 15), (0, .nameAndType 12 16), (0, u "()Z"), (0, .methodref 9 18), (0, .nameAndType 19 16), (0, u "admitted"), (0, .methodref 9 21), (0, .nameAndType 22 23), (0, u "waitMillis"), (0, u "()J"), (0, .long 1000), (1, .methodref 9 27), (0, .nameAndType 28 23), (0, u "retryAfterSeconds"), (0, .methodref 9 30), (0, .nameAndType 31 32), (0, u "reportingRule"), (0, u "()I"), (0, .methodref 9 34), (0, .nameAndType 35 36), (0, u "hasBudget"), (0, u "(I)Z"), (0, .class_ 38), (0, u "com/example/stint/stint/store/DecisionUnavailablePinLaw"), (2, u "law"), (0, u "(III)Z")] 3

def k1m0 : Method := { name := "<init>", desc := "()V", sig := { parameters := [], returnType := none }, accessFlags := 2, code := none }
def k1c1 : Code := { maxStack := 4, maxLocals := 8, code := code, exceptionTable := #[], attributes := #[] }
def k1m1 : Method := { name := "law", desc := "(III)Z", sig := { parameters := [.int, .int, .int], returnType := some .boolean }, accessFlags := 9, code := some k1c1 }
/-- com/example/stint/stint/store/DecisionUnavailablePinLaw -/
def k1 : Class := { plain "com/example/stint/stint/store/DecisionUnavailablePinLaw" (some 0) with
  accessFlags := 49
  interfaces := #[]
  cf := some (fileOf pool1 37 #[] #[{ accessFlags := 2, nameIndex := 5, descriptorIndex := 6, attributes := #[] }, { accessFlags := 9, nameIndex := 41, descriptorIndex := 42, attributes := #[] }] 49 2 #[] #[])
  fields := #[]
  methods := #[k1m0, k1m1]
  instanceTypes := #[]
  staticTypes := #[]
  resolved := Array.replicate 46 none
  statics := none }

def pool2 : Array CpInfo := pool [(1, .methodref 2 3), (0, .class_ 4), (0, .nameAndType 5 6), (0, u "com/example/stint/stint/store/Decision"), (0, u "<init>"), (0, u "([Lcom/example/stint/stint/store/Decision$Outcome;Z)V"), (0, .methodref 8 9), (0, .class_ 10), (0, .nameAndType 5 11), (0, u "java/lang/Object"), (0, u "()V"), (0, .fieldref 2 13), (0, .nameAndType 14 15), (0, u "outcomes"), (0, u "[Lcom/example/stint/stint/store/Decision$Outcome;"), (0, .fieldref 2 17), (0, .nameAndType 18 19), (0, u "unavailable"), (0, u "Z"), (0, .fieldref 21 22), (0, .class_ 23), (0, .nameAndType 24 25), (0, u "com/example/stint/stint/store/Decision$Outcome"), (0, u "waitMillis"), (0, u "J"), (0, .methodref 27 28), (0, .class_ 29), (0, .nameAndType 30 31), (0, u "java/lang/Math"), (0, u "max"), (0, u "(JJ)J"), (0, .fieldref 2 22), (0, .methodref 2 34), (0, .nameAndType 35 36), (0, u "admitted"), (0, u "()Z"), (0, .fieldref 21 38), (0, .nameAndType 39 25), (0, u "remaining"), (0, .fieldref 2 41), (0, .nameAndType 42 43), (0, u "reporting"), (0, u "I"), (0, .long 1000), (1, .methodref 21 47), (0, .nameAndType 5 48), (0, u "(JJJJ)V"), (0, .methodref 2 50), (0, .nameAndType 51 52), (0, u "secondsRoundedUp"), (0, u "(J)J"), (19, .methodref 27 73), (0, .nameAndType 74 75), (0, u "floorDiv"), (0, u "(JI)J"), (0, u "UNAVAILABLE_WAIT_MILLIS"), (6, u "(II)Lcom/example/stint/stint/store/Decision;"), (0, u "hasBudget"), (0, u "(I)Z"), (0, u "()J"), (0, u "retryAfterSeconds"), (0, u "reportingRule"), (0, u "()I")] 6

def k2c0 : Code := { maxStack := 4, maxLocals := 9, code := prog_43_method_2_code, exceptionTable := #[], attributes := #[] }
def k2m0 : Method := { name := "<init>", desc := "([Lcom/example/stint/stint/store/Decision$Outcome;Z)V", sig := { parameters := [(.array (.object "com/example/stint/stint/store/Decision$Outcome")), .boolean], returnType := none }, accessFlags := 2, code := some k2c0 }
def k2c1 : Code := { maxStack := 12, maxLocals := 3, code := prog_43_method_3_code, exceptionTable := #[], attributes := #[] }
def k2m1 : Method := { name := "unavailable", desc := "(II)Lcom/example/stint/stint/store/Decision;", sig := { parameters := [.int, .int], returnType := some (.object "com/example/stint/stint/store/Decision") }, accessFlags := 8, code := some k2c1 }
def k2c2 : Code := { maxStack := 4, maxLocals := 1, code := prog_43_method_4_code, exceptionTable := #[], attributes := #[] }
def k2m2 : Method := { name := "admitted", desc := "()Z", sig := { parameters := [], returnType := some .boolean }, accessFlags := 1, code := some k2c2 }
def k2c3 : Code := { maxStack := 1, maxLocals := 1, code := prog_43_method_5_code, exceptionTable := #[], attributes := #[] }
def k2m3 : Method := { name := "unavailable", desc := "()Z", sig := { parameters := [], returnType := some .boolean }, accessFlags := 1, code := some k2c3 }
def k2c4 : Code := { maxStack := 4, maxLocals := 2, code := prog_43_method_6_code, exceptionTable := #[], attributes := #[] }
def k2m4 : Method := { name := "hasBudget", desc := "(I)Z", sig := { parameters := [.int], returnType := some .boolean }, accessFlags := 1, code := some k2c4 }
def k2c5 : Code := { maxStack := 2, maxLocals := 1, code := prog_43_method_7_code, exceptionTable := #[], attributes := #[] }
def k2m5 : Method := { name := "waitMillis", desc := "()J", sig := { parameters := [], returnType := some .long }, accessFlags := 1, code := some k2c5 }
def k2c6 : Code := { maxStack := 2, maxLocals := 1, code := prog_43_method_8_code, exceptionTable := #[], attributes := #[] }
def k2m6 : Method := { name := "retryAfterSeconds", desc := "()J", sig := { parameters := [], returnType := some .long }, accessFlags := 1, code := some k2c6 }
def k2c7 : Code := { maxStack := 1, maxLocals := 1, code := prog_43_method_9_code, exceptionTable := #[], attributes := #[] }
def k2m7 : Method := { name := "reportingRule", desc := "()I", sig := { parameters := [], returnType := some .int }, accessFlags := 1, code := some k2c7 }
def k2c8 : Code := { maxStack := 3, maxLocals := 2, code := prog_43_method_14_code, exceptionTable := #[], attributes := #[] }
def k2m8 : Method := { name := "secondsRoundedUp", desc := "(J)J", sig := { parameters := [.long], returnType := some .long }, accessFlags := 10, code := some k2c8 }
/-- com/example/stint/stint/store/Decision -/
def k2 : Class := { plain "com/example/stint/stint/store/Decision" (some 0) with
  accessFlags := 49
  interfaces := #[]
  cf := some (fileOf pool2 2 #[.nestMembers #[21]] #[{ accessFlags := 2, nameIndex := 5, descriptorIndex := 6, attributes := #[] }, { accessFlags := 8, nameIndex := 18, descriptorIndex := 83, attributes := #[] }, { accessFlags := 1, nameIndex := 35, descriptorIndex := 36, attributes := #[] }, { accessFlags := 1, nameIndex := 18, descriptorIndex := 36, attributes := #[] }, { accessFlags := 1, nameIndex := 84, descriptorIndex := 85, attributes := #[] }, { accessFlags := 1, nameIndex := 24, descriptorIndex := 86, attributes := #[] }, { accessFlags := 1, nameIndex := 87, descriptorIndex := 86, attributes := #[] }, { accessFlags := 1, nameIndex := 88, descriptorIndex := 89, attributes := #[] }, { accessFlags := 10, nameIndex := 51, descriptorIndex := 52, attributes := #[] }] 49 8 #[] #[{ accessFlags := 26, nameIndex := 76, descriptorIndex := 25, attributes := #[] }, { accessFlags := 18, nameIndex := 14, descriptorIndex := 15, attributes := #[] }, { accessFlags := 18, nameIndex := 24, descriptorIndex := 25, attributes := #[] }, { accessFlags := 18, nameIndex := 42, descriptorIndex := 43, attributes := #[] }, { accessFlags := 18, nameIndex := 18, descriptorIndex := 19, attributes := #[] }])
  fields := #[{ name := "UNAVAILABLE_WAIT_MILLIS", type := .long, accessFlags := 26, slot := 0, constantValue := 0 }, { name := "outcomes", type := (.array (.object "com/example/stint/stint/store/Decision$Outcome")), accessFlags := 18, slot := 0, constantValue := 0 }, { name := "waitMillis", type := .long, accessFlags := 18, slot := 1, constantValue := 0 }, { name := "reporting", type := .int, accessFlags := 18, slot := 2, constantValue := 0 }, { name := "unavailable", type := .boolean, accessFlags := 18, slot := 3, constantValue := 0 }]
  methods := #[k2m0, k2m1, k2m2, k2m3, k2m4, k2m5, k2m6, k2m7, k2m8]
  instanceTypes := #[(.array (.object "com/example/stint/stint/store/Decision$Outcome")), .long, .int, .boolean]
  staticTypes := #[.long]
  resolved := ((Array.replicate 96 none).setIfInBounds 20 (some (.field 3 1))).setIfInBounds 37 (some (.field 3 2))
  statics := none }

def pool3 : Array CpInfo := pool [(1, .methodref 2 3), (0, .class_ 4), (0, .nameAndType 5 6), (0, u "java/lang/Object"), (0, u "<init>"), (0, u "()V"), (0, .fieldref 8 9), (0, .class_ 10), (0, .nameAndType 11 12), (0, u "com/example/stint/stint/store/Decision$Outcome"), (0, u "limit"), (0, u "J"), (0, .fieldref 8 14), (0, .nameAndType 15 12), (0, u "waitMillis"), (0, .fieldref 8 17), (0, .nameAndType 18 12), (0, u "remaining"), (0, .fieldref 8 20), (0, .nameAndType 21 12), (0, u "resetMillis"), (0, u "(JJJJ)V"), (5, .class_ 29), (0, u "com/example/stint/stint/store/Decision")] 2

def k3c0 : Code := { maxStack := 3, maxLocals := 9, code := prog_44_method_1_code, exceptionTable := #[], attributes := #[] }
def k3m0 : Method := { name := "<init>", desc := "(JJJJ)V", sig := { parameters := [.long, .long, .long, .long], returnType := none }, accessFlags := 0, code := some k3c0 }
/-- com/example/stint/stint/store/Decision$Outcome -/
def k3 : Class := { plain "com/example/stint/stint/store/Decision$Outcome" (some 0) with
  accessFlags := 48
  interfaces := #[]
  cf := some (fileOf pool3 8 #[.nestHost 28] #[{ accessFlags := 0, nameIndex := 5, descriptorIndex := 22, attributes := #[] }] 48 2 #[] #[{ accessFlags := 18, nameIndex := 11, descriptorIndex := 12, attributes := #[] }, { accessFlags := 18, nameIndex := 15, descriptorIndex := 12, attributes := #[] }, { accessFlags := 18, nameIndex := 18, descriptorIndex := 12, attributes := #[] }, { accessFlags := 18, nameIndex := 21, descriptorIndex := 12, attributes := #[] }])
  fields := #[{ name := "limit", type := .long, accessFlags := 18, slot := 0, constantValue := 0 }, { name := "waitMillis", type := .long, accessFlags := 18, slot := 1, constantValue := 0 }, { name := "remaining", type := .long, accessFlags := 18, slot := 2, constantValue := 0 }, { name := "resetMillis", type := .long, accessFlags := 18, slot := 3, constantValue := 0 }]
  methods := #[k3m0]
  instanceTypes := #[.long, .long, .long, .long]
  staticTypes := #[]
  resolved := Array.replicate 32 none
  statics := none }

def pool4 : Array CpInfo := pool [(1, .class_ 2), (0, u "java/lang/Math"), (1, .class_ 6), (1, u "java/lang/Object"), (0, u "<init>"), (0, u "()V"), (89, .class_ 100), (1, u "java/lang/Math$RandomNumberGeneratorHolder"), (20, u "(JJ)J"), (21, .methodref 1 144), (0, .nameAndType 145 121), (0, u "floorDiv"), (26, u "negativeZeroFloatBits"), (0, u "J"), (2, u "negativeZeroDoubleBits"), (21, u "max"), (46, u "$assertionsDisabled"), (0, u "Z"), (91, u "twoToTheDoubleScaleDown"), (0, u "D"), (4, u "twoToTheDoubleScaleUp"), (9, u "E"), (3, u "PI"), (2, u "TAU"), (2, u "DEGREES_TO_RADIANS"), (0, u "RADIANS_TO_DEGREES"), (29, u "(JI)J")] 64

def k4m0 : Method := { name := "<init>", desc := "()V", sig := { parameters := [], returnType := none }, accessFlags := 2, code := none }
def k4c1 : Code := { maxStack := 4, maxLocals := 3, code := jdk_29_method_48_code, exceptionTable := #[], attributes := #[] }
def k4m1 : Method := { name := "floorDiv", desc := "(JI)J", sig := { parameters := [.long, .int], returnType := some .long }, accessFlags := 9, code := some k4c1 }
def k4c2 : Code := { maxStack := 4, maxLocals := 6, code := jdk_29_method_49_code, exceptionTable := #[], attributes := #[] }
def k4m2 : Method := { name := "floorDiv", desc := "(JJ)J", sig := { parameters := [.long, .long], returnType := some .long }, accessFlags := 9, code := some k4c2 }
def k4c3 : Code := { maxStack := 4, maxLocals := 4, code := jdk_29_method_66_code, exceptionTable := #[], attributes := #[] }
def k4m3 : Method := { name := "max", desc := "(JJ)J", sig := { parameters := [.long, .long], returnType := some .long }, accessFlags := 9, code := some k4c3 }
/-- java/lang/Math -/
def k4 : Class := { plain "java/lang/Math" (some 0) with
  accessFlags := 49
  interfaces := #[]
  cf := some (fileOf pool4 1 #[.nestMembers #[98]] #[{ accessFlags := 2, nameIndex := 7, descriptorIndex := 8, attributes := #[] }, { accessFlags := 9, nameIndex := 145, descriptorIndex := 395, attributes := #[] }, { accessFlags := 9, nameIndex := 145, descriptorIndex := 121, attributes := #[] }, { accessFlags := 9, nameIndex := 198, descriptorIndex := 121, attributes := #[] }] 49 4 #[] #[{ accessFlags := 25, nameIndex := 354, descriptorIndex := 339, attributes := #[] }, { accessFlags := 25, nameIndex := 358, descriptorIndex := 339, attributes := #[] }, { accessFlags := 25, nameIndex := 361, descriptorIndex := 339, attributes := #[] }, { accessFlags := 26, nameIndex := 364, descriptorIndex := 339, attributes := #[] }, { accessFlags := 26, nameIndex := 365, descriptorIndex := 339, attributes := #[] }, { accessFlags := 26, nameIndex := 172, descriptorIndex := 173, attributes := #[] }, { accessFlags := 26, nameIndex := 176, descriptorIndex := 173, attributes := #[] }, { accessFlags := 8, nameIndex := 344, descriptorIndex := 339, attributes := #[] }, { accessFlags := 8, nameIndex := 338, descriptorIndex := 339, attributes := #[] }, { accessFlags := 4120, nameIndex := 245, descriptorIndex := 246, attributes := #[] }])
  fields := #[{ name := "E", type := .double, accessFlags := 25, slot := 0, constantValue := 0 }, { name := "PI", type := .double, accessFlags := 25, slot := 1, constantValue := 0 }, { name := "TAU", type := .double, accessFlags := 25, slot := 2, constantValue := 0 }, { name := "DEGREES_TO_RADIANS", type := .double, accessFlags := 26, slot := 3, constantValue := 0 }, { name := "RADIANS_TO_DEGREES", type := .double, accessFlags := 26, slot := 4, constantValue := 0 }, { name := "negativeZeroFloatBits", type := .long, accessFlags := 26, slot := 5, constantValue := 0 }, { name := "negativeZeroDoubleBits", type := .long, accessFlags := 26, slot := 6, constantValue := 0 }, { name := "twoToTheDoubleScaleUp", type := .double, accessFlags := 8, slot := 7, constantValue := 0 }, { name := "twoToTheDoubleScaleDown", type := .double, accessFlags := 8, slot := 8, constantValue := 0 }, { name := "$assertionsDisabled", type := .boolean, accessFlags := 4120, slot := 9, constantValue := 0 }]
  methods := #[k4m0, k4m1, k4m2, k4m3]
  instanceTypes := #[]
  staticTypes := #[.double, .double, .double, .double, .double, .long, .long, .double, .double, .boolean]
  resolved := Array.replicate 460 none
  statics := none }

def pool5 : Array CpInfo := pool [(1, u "java/lang/Cloneable"), (0, .class_ 1), (0, u "java/lang/Object"), (0, .class_ 3)] 3

/-- java/lang/Cloneable -/
def k5 : Class := { plain "java/lang/Cloneable" (some 0) with
  accessFlags := 1537
  interfaces := #[]
  cf := some (fileOf pool5 2 #[] #[] 1537 4 #[] #[])
  fields := #[]
  methods := #[]
  instanceTypes := #[]
  staticTypes := #[]
  resolved := Array.replicate 8 none
  statics := none }

def pool6 : Array CpInfo := pool [(1, u "java/io/Serializable"), (0, .class_ 1), (0, u "java/lang/Object"), (0, .class_ 3)] 3

/-- java/io/Serializable -/
def k6 : Class := { plain "java/io/Serializable" (some 0) with
  accessFlags := 1537
  interfaces := #[]
  cf := some (fileOf pool6 2 #[] #[] 1537 4 #[] #[])
  fields := #[]
  methods := #[]
  instanceTypes := #[]
  staticTypes := #[]
  resolved := Array.replicate 8 none
  statics := none }

/-- the primitive byte -/
def k7 : Class := { plain "byte" none with kind := .primitive 'B', accessFlags := 0x411 }
/-- [B -/
def k8 : Class := { plain "[B" (some 0) with kind := .array 7 .byte, interfaces := #[5, 6], accessFlags := 1041 }

/-- the primitive int -/
def k9 : Class := { plain "int" none with kind := .primitive 'I', accessFlags := 0x411 }
/-- [I -/
def k10 : Class := { plain "[I" (some 0) with kind := .array 9 .int, interfaces := #[5, 6], accessFlags := 1041 }

/-- [Lcom/example/stint/stint/store/Decision$Outcome; -/
def k11 : Class := { plain "[Lcom/example/stint/stint/store/Decision$Outcome;" (some 0) with kind := .array 3 (.object "com/example/stint/stint/store/Decision$Outcome"), interfaces := #[5, 6], accessFlags := 1041 }

def heap : Heap := #[]
def classes : Array Class := #[k0, k1, k2, k3, k4, k5, k6, k7, k8, k9, k10, k11]
def interned : List (Array UInt16 × Addr) := []
def slotsUsed : Nat := 0
def theMethod : MethodId := ⟨1, 1⟩
def args0 : Array Value := #[.int 3, .int 7, .int 9]
def aboutOver (below : List Frame) : State where
  vm := { classes := classes, interned := interned.toArray }
  heap := heap
  slotsUsed := slotsUsed
  threads := #[{ frames := .invoking theMethod args0 :: below }]
def below0 : List Frame := [.native { method := ⟨0, 0⟩, args := #[] }]
def about1 : State := aboutOver below0
def p0 : Program := .bare "" "" ""
def e0 : Env := launch0.env 0 0 0
theorem w_frames : about1.frames = Frame.invoking theMethod args0 :: below0 := rfl
set_option maxRecDepth 65536 in
theorem w_args : argsFit about1.vm theMethod args0 = true := by decide +kernel
set_option maxRecDepth 65536 in
theorem w_heap : heapFits about1 = true := by decide +kernel
set_option maxRecDepth 65536 in
theorem w_runnable : about1.curStatus? = some .runnable := by decide +kernel
set_option maxRecDepth 65536 in
theorem w_alone : about1.alone = true := by decide +kernel
set_option maxRecDepth 65536 in
theorem w_named : about1.methodNamed? x = some theMethod := by decide +kernel
set_option maxRecDepth 65536 in
theorem w_hears : about1.hears theMethod below0 = true := by decide +kernel
set_option maxRecDepth 65536 in
theorem w_ripe : about1.ripe theMethod args0 below0 = true := by decide +kernel
theorem w_running : about1.status = .running := rfl
set_option maxRecDepth 65536 in
theorem w_room : about1.hasRoom e0.platform room_1 = true :=
  launch0.hasRoom_least _ room_1 (by decide +kernel) (by decide +kernel) (by decide +kernel) (by decide +kernel) (by decide +kernel) (by decide +kernel)
theorem allAtoms_all (ts : List Jvm.Cond) (a : Array Jvm.Value) (st : Jvm.State) : (allAtoms ts).before a st = ts.all (fun c => c.before a st) := by
  induction ts with
  | nil => rfl
  | cons c t ih =>
    show (Jvm.Cond.and c (allAtoms t)).before a st = _
    rw [Jvm.Cond.before_and, ih, List.all_cons]
def words1 : List Jvm.Cond := Jvm.Cond.code x code maxLocals ret :: tables_1
/-- a 'code' word, met by the world's own term for the bytes: nothing is compared byte by byte -/
theorem code_word {y : MethodName} {bytes : ByteArray} {mx : Nat} {rt : Option FieldType} {a : Array Value} {s : State} {m : MethodId} {meth : Method} {c : Code} (h1 : s.methodNamed? y = some m) (h2 : s.vm.method? m = some meth) (h3 : meth.code = some c) (h4 : c.code = bytes)
    (h5 : (c.maxLocals == mx && c.exceptionTable.isEmpty && decide (c.maxStack ≤ mostOperands) && decide (meth.sig.returnType = rt) && !meth.locks && decide (parseMethodDescriptor y.desc = some meth.sig)) = true) : (Jvm.Cond.code y bytes mx rt).before a s = true := by
  simp only [Bool.and_eq_true, beq_iff_eq, Bool.not_eq_true', decide_eq_true_eq] at h5
  obtain ⟨⟨⟨⟨⟨g1, g2⟩, g3⟩, g4⟩, g5⟩, g6⟩ := h5
  simp [Cond.before, Cond.holds, Cond.value, h1, h2, h3, h4, g1, g2, g3, g4, g5, g6]
def isCode : Jvm.Cond → Bool
  | .code _ _ _ _ => true
  | _ => false
theorem all_split {L : List Jvm.Cond} {P : Jvm.Cond → Bool} (h1 : L.all (fun c => isCode c || P c) = true) (h2 : ∀ c ∈ L.filter isCode, P c = true) : L.all P = true := by
  refine List.all_eq_true.mpr fun c hc => ?_
  have h := List.all_eq_true.mp h1 c hc
  rcases Bool.eq_false_or_eq_true (isCode c) with hi | hi
  · exact h2 c (List.mem_filter.mpr ⟨hc, hi⟩)
  · simpa [hi] using h
set_option maxRecDepth 65536 in
theorem w_c0 : (Jvm.Cond.code x code maxLocals ret).before args0 about1 = true := code_word (m := ⟨1, 1⟩) (meth := k1m1) (c := k1c1) (by decide +kernel) rfl rfl rfl (by decide +kernel)
set_option maxRecDepth 65536 in
theorem w_c1 : (Jvm.Cond.code ({ cls := "com/example/stint/stint/store/Decision", name := "unavailable", desc := "(II)Lcom/example/stint/stint/store/Decision;" } : Jvm.MethodName) prog_43_method_3_code (3 : Nat) (Option.some (Jvm.ClassFile.FieldType.object "com/example/stint/stint/store/Decision"))).before args0 about1 = true := code_word (m := ⟨2, 1⟩) (meth := k2m1) (c := k2c1) (by decide +kernel) rfl rfl rfl (by decide +kernel)
set_option maxRecDepth 65536 in
theorem w_c2 : (Jvm.Cond.code ({ cls := "com/example/stint/stint/store/Decision$Outcome", name := "<init>", desc := "(JJJJ)V" } : Jvm.MethodName) prog_44_method_1_code (9 : Nat) (Option.none : Option Jvm.ClassFile.FieldType)).before args0 about1 = true := code_word (m := ⟨3, 0⟩) (meth := k3m0) (c := k3c0) (by decide +kernel) rfl rfl rfl (by decide +kernel)
set_option maxRecDepth 65536 in
theorem w_c3 : (Jvm.Cond.code ({ cls := "java/lang/Object", name := "<init>", desc := "()V" } : Jvm.MethodName) object_method_1_code (1 : Nat) (Option.none : Option Jvm.ClassFile.FieldType)).before args0 about1 = true := code_word (m := ⟨0, 0⟩) (meth := k0m0) (c := k0c0) (by decide +kernel) rfl rfl rfl (by decide +kernel)
set_option maxRecDepth 65536 in
theorem w_c4 : (Jvm.Cond.code ({ cls := "com/example/stint/stint/store/Decision", name := "<init>", desc := "([Lcom/example/stint/stint/store/Decision$Outcome;Z)V" } : Jvm.MethodName) prog_43_method_2_code (9 : Nat) (Option.none : Option Jvm.ClassFile.FieldType)).before args0 about1 = true := code_word (m := ⟨2, 0⟩) (meth := k2m0) (c := k2c0) (by decide +kernel) rfl rfl rfl (by decide +kernel)
set_option maxRecDepth 65536 in
theorem w_c5 : (Jvm.Cond.code ({ cls := "java/lang/Math", name := "max", desc := "(JJ)J" } : Jvm.MethodName) jdk_29_method_66_code (4 : Nat) (Option.some Jvm.ClassFile.FieldType.long)).before args0 about1 = true := code_word (m := ⟨4, 3⟩) (meth := k4m3) (c := k4c3) (by decide +kernel) rfl rfl rfl (by decide +kernel)
set_option maxRecDepth 65536 in
theorem w_c6 : (Jvm.Cond.code ({ cls := "com/example/stint/stint/store/Decision", name := "admitted", desc := "()Z" } : Jvm.MethodName) prog_43_method_4_code (1 : Nat) (Option.some Jvm.ClassFile.FieldType.boolean)).before args0 about1 = true := code_word (m := ⟨2, 2⟩) (meth := k2m2) (c := k2c2) (by decide +kernel) rfl rfl rfl (by decide +kernel)
set_option maxRecDepth 65536 in
theorem w_c7 : (Jvm.Cond.code ({ cls := "com/example/stint/stint/store/Decision", name := "unavailable", desc := "()Z" } : Jvm.MethodName) prog_43_method_5_code (1 : Nat) (Option.some Jvm.ClassFile.FieldType.boolean)).before args0 about1 = true := code_word (m := ⟨2, 3⟩) (meth := k2m3) (c := k2c3) (by decide +kernel) rfl rfl rfl (by decide +kernel)
set_option maxRecDepth 65536 in
theorem w_c8 : (Jvm.Cond.code ({ cls := "com/example/stint/stint/store/Decision", name := "waitMillis", desc := "()J" } : Jvm.MethodName) prog_43_method_7_code (1 : Nat) (Option.some Jvm.ClassFile.FieldType.long)).before args0 about1 = true := code_word (m := ⟨2, 5⟩) (meth := k2m5) (c := k2c5) (by decide +kernel) rfl rfl rfl (by decide +kernel)
set_option maxRecDepth 65536 in
theorem w_c9 : (Jvm.Cond.code ({ cls := "com/example/stint/stint/store/Decision", name := "retryAfterSeconds", desc := "()J" } : Jvm.MethodName) prog_43_method_8_code (1 : Nat) (Option.some Jvm.ClassFile.FieldType.long)).before args0 about1 = true := code_word (m := ⟨2, 6⟩) (meth := k2m6) (c := k2c6) (by decide +kernel) rfl rfl rfl (by decide +kernel)
set_option maxRecDepth 65536 in
theorem w_c10 : (Jvm.Cond.code ({ cls := "com/example/stint/stint/store/Decision", name := "secondsRoundedUp", desc := "(J)J" } : Jvm.MethodName) prog_43_method_14_code (2 : Nat) (Option.some Jvm.ClassFile.FieldType.long)).before args0 about1 = true := code_word (m := ⟨2, 8⟩) (meth := k2m8) (c := k2c8) (by decide +kernel) rfl rfl rfl (by decide +kernel)
set_option maxRecDepth 65536 in
theorem w_c11 : (Jvm.Cond.code ({ cls := "java/lang/Math", name := "floorDiv", desc := "(JI)J" } : Jvm.MethodName) jdk_29_method_48_code (3 : Nat) (Option.some Jvm.ClassFile.FieldType.long)).before args0 about1 = true := code_word (m := ⟨4, 1⟩) (meth := k4m1) (c := k4c1) (by decide +kernel) rfl rfl rfl (by decide +kernel)
set_option maxRecDepth 65536 in
theorem w_c12 : (Jvm.Cond.code ({ cls := "java/lang/Math", name := "floorDiv", desc := "(JJ)J" } : Jvm.MethodName) jdk_29_method_49_code (6 : Nat) (Option.some Jvm.ClassFile.FieldType.long)).before args0 about1 = true := code_word (m := ⟨4, 2⟩) (meth := k4m2) (c := k4c2) (by decide +kernel) rfl rfl rfl (by decide +kernel)
set_option maxRecDepth 65536 in
theorem w_c13 : (Jvm.Cond.code ({ cls := "com/example/stint/stint/store/Decision", name := "reportingRule", desc := "()I" } : Jvm.MethodName) prog_43_method_9_code (1 : Nat) (Option.some Jvm.ClassFile.FieldType.int)).before args0 about1 = true := code_word (m := ⟨2, 7⟩) (meth := k2m7) (c := k2c7) (by decide +kernel) rfl rfl rfl (by decide +kernel)
set_option maxRecDepth 65536 in
theorem w_c14 : (Jvm.Cond.code ({ cls := "com/example/stint/stint/store/Decision", name := "hasBudget", desc := "(I)Z" } : Jvm.MethodName) prog_43_method_6_code (2 : Nat) (Option.some Jvm.ClassFile.FieldType.boolean)).before args0 about1 = true := code_word (m := ⟨2, 4⟩) (meth := k2m4) (c := k2c4) (by decide +kernel) rfl rfl rfl (by decide +kernel)
def codes1 : List Jvm.Cond := [Jvm.Cond.code x code maxLocals ret, Jvm.Cond.code ({ cls := "com/example/stint/stint/store/Decision", name := "unavailable", desc := "(II)Lcom/example/stint/stint/store/Decision;" } : Jvm.MethodName) prog_43_method_3_code (3 : Nat) (Option.some (Jvm.ClassFile.FieldType.object "com/example/stint/stint/store/Decision")), Jvm.Cond.code ({ cls := "com/example/stint/stint/store/Decision$Outcome", name := "<init>", desc := "(JJJJ)V" } : Jvm.MethodName) prog_44_method_1_code (9 : Nat) (Option.none : Option Jvm.ClassFile.FieldType), Jvm.Cond.code ({ cls := "java/lang/Object", name := "<init>", desc := "()V" } : Jvm.MethodName) object_method_1_code (1 : Nat) (Option.none : Option Jvm.ClassFile.FieldType), Jvm.Cond.code ({ cls := "com/example/stint/stint/store/Decision", name := "<init>", desc := "([Lcom/example/stint/stint/store/Decision$Outcome;Z)V" } : Jvm.MethodName) prog_43_method_2_code (9 : Nat) (Option.none : Option Jvm.ClassFile.FieldType), Jvm.Cond.code ({ cls := "java/lang/Math", name := "max", desc := "(JJ)J" } : Jvm.MethodName) jdk_29_method_66_code (4 : Nat) (Option.some Jvm.ClassFile.FieldType.long), Jvm.Cond.code ({ cls := "com/example/stint/stint/store/Decision", name := "admitted", desc := "()Z" } : Jvm.MethodName) prog_43_method_4_code (1 : Nat) (Option.some Jvm.ClassFile.FieldType.boolean), Jvm.Cond.code ({ cls := "com/example/stint/stint/store/Decision", name := "unavailable", desc := "()Z" } : Jvm.MethodName) prog_43_method_5_code (1 : Nat) (Option.some Jvm.ClassFile.FieldType.boolean), Jvm.Cond.code ({ cls := "com/example/stint/stint/store/Decision", name := "waitMillis", desc := "()J" } : Jvm.MethodName) prog_43_method_7_code (1 : Nat) (Option.some Jvm.ClassFile.FieldType.long), Jvm.Cond.code ({ cls := "com/example/stint/stint/store/Decision", name := "retryAfterSeconds", desc := "()J" } : Jvm.MethodName) prog_43_method_8_code (1 : Nat) (Option.some Jvm.ClassFile.FieldType.long), Jvm.Cond.code ({ cls := "com/example/stint/stint/store/Decision", name := "secondsRoundedUp", desc := "(J)J" } : Jvm.MethodName) prog_43_method_14_code (2 : Nat) (Option.some Jvm.ClassFile.FieldType.long), Jvm.Cond.code ({ cls := "java/lang/Math", name := "floorDiv", desc := "(JI)J" } : Jvm.MethodName) jdk_29_method_48_code (3 : Nat) (Option.some Jvm.ClassFile.FieldType.long), Jvm.Cond.code ({ cls := "java/lang/Math", name := "floorDiv", desc := "(JJ)J" } : Jvm.MethodName) jdk_29_method_49_code (6 : Nat) (Option.some Jvm.ClassFile.FieldType.long), Jvm.Cond.code ({ cls := "com/example/stint/stint/store/Decision", name := "reportingRule", desc := "()I" } : Jvm.MethodName) prog_43_method_9_code (1 : Nat) (Option.some Jvm.ClassFile.FieldType.int), Jvm.Cond.code ({ cls := "com/example/stint/stint/store/Decision", name := "hasBudget", desc := "(I)Z" } : Jvm.MethodName) prog_43_method_6_code (2 : Nat) (Option.some Jvm.ClassFile.FieldType.boolean)]
set_option maxRecDepth 65536 in
theorem codes_eq : words1.filter isCode = codes1 := rfl
theorem w_codes : ∀ c ∈ words1.filter isCode, c.before args0 about1 = true := by
  rw [codes_eq]
  intro c hc
  simp only [codes1, List.mem_cons, List.not_mem_nil, or_false] at hc
  rcases hc with rfl | rfl | rfl | rfl | rfl | rfl | rfl | rfl | rfl | rfl | rfl | rfl | rfl | rfl | rfl
  · exact w_c0
  · exact w_c1
  · exact w_c2
  · exact w_c3
  · exact w_c4
  · exact w_c5
  · exact w_c6
  · exact w_c7
  · exact w_c8
  · exact w_c9
  · exact w_c10
  · exact w_c11
  · exact w_c12
  · exact w_c13
  · exact w_c14
set_option maxRecDepth 65536 in
theorem w_t1 : (words1.take 24).all (fun c => isCode c || c.before args0 about1) = true := by decide +kernel
set_option maxRecDepth 65536 in
theorem w_t2 : ((words1.drop 24).take 24).all (fun c => isCode c || c.before args0 about1) = true := by decide +kernel
set_option maxRecDepth 65536 in
theorem w_t3 : (((words1.drop 24).drop 24).take 24).all (fun c => isCode c || c.before args0 about1) = true := by decide +kernel
set_option maxRecDepth 65536 in
theorem w_t4 : (((words1.drop 24).drop 24).drop 24).all (fun c => isCode c || c.before args0 about1) = true := by decide +kernel
theorem w_tables : (allAtoms (Jvm.Cond.code x code maxLocals ret :: tables_1)).before args0 about1 = true := by
  rw [allAtoms_all]
  show words1.all (fun c => c.before args0 about1) = true
  refine all_split ?_ w_codes
  rw [← List.take_append_drop 24 words1, List.all_append, w_t1, ← List.take_append_drop 24 (words1.drop 24), List.all_append, w_t2, ← List.take_append_drop 24 ((words1.drop 24).drop 24), List.all_append, w_t3, w_t4]
  rfl
set_option maxRecDepth 65536 in
theorem w_case : (Jvm.Cond.and given_1 narrow_1).before args0 about1 = true := by decide +kernel
theorem w_applies : (headSpec (Jvm.Cond.code x code maxLocals ret :: tables_1) room_1).applies x e0.platform about1 = true :=
  (Spec.applies_iff w_frames).mpr ⟨w_running, w_runnable, w_alone, w_named, w_hears, w_ripe, w_room, w_tables⟩
theorem atStart : AtStart classFile x code maxLocals ret World_1 tables_1 room_1 Calls_1 rest_1 Pre_1 launch0 p0 e0 about1 theMethod args0 below0 :=
  ⟨lists_1, trivial, launch0.admits_env _ _ _, launch0.least_env, fairChoices_fair.cas, fairChoices_fair.clock, w_frames, w_args, w_heap, w_applies, trivial, trivial, w_case⟩
end start1
theorem witness_1 : WitnessClaimed_1 := ⟨start1.p0, start1.e0, start1.about1, start1.theMethod, start1.args0, start1.below0, start1.atStart⟩
end Jvm.Pilot.@@N@@
