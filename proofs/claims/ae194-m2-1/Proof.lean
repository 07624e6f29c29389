import JvmDerived
import JvmDerived.Pilot.@@N@@Statement
import JvmDerived.Pilot.@@N@@Code
set_option linter.unusedVariables false
set_option linter.unusedSimpArgs false
namespace Jvm.RoadKit
open Sem ClassFile Op Lib Jvm.Stand Jvm.Free Jvm.LawKit
section New
variable {p : Program} {l : Launch} {e : Env} {R : Room} {s : State} {m : MethodId} {args : Array Value} {below : List Frame} {meth : Method} {c : Code} {T : State} {locs : List Loc} {cells slots : Nat}
theorem retI (X : Stand p l e R s m args below meth c T locs cells slots) (hx : p.tables.exec = Jvm.exec) {pc : Nat} {Ls : Array Slot} {z : Int32} {rest : List Value} (hret : meth.sig.returnType = some .int) (hd : decode c.code pc = .ok (.ireturn, 1)) {fs : List Frame}
    (hl : ∀ (f : JFrame) (acts : List Action), f.method = m → f.locked = none → f.entered = [] → (doReturn e (T.setTop f) acts (some (.int z))).1 = T.setFrames fs) : Steps p.tables e below (T.setTop (mkF m pc Ls (.int z :: rest))) (T.setFrames fs) := by
  have hm' : T.vm.method? m = some meth := X.method'
  have hn : narrow .int (.int z) = .int z := rfl
  show Steps p.tables e below (T.setTop { method := m, pc := pc, locals := Ls, stack := _ :: rest, locked := none }) _
  jvm_step X.here [X.here.top, hx, hd, hm', hret, hn]
  first | (intro acts; rw [hl _ acts rfl rfl rfl]) | rw [hl _ _ rfl rfl rfl]
  exact Steps.refl _
end New
end Jvm.RoadKit
namespace Jvm.Pilot.@@N@@
open Jvm Jvm.ClassFile Sem Op Lib Jvm.Free Jvm.Stand Jvm.LawKit Jvm.RoadKit Bundle Jvm.Pilot.@@N@@.Jvm.D
def QP (w : Option Value) (h0 : Heap) (n0 : Nat) (v : Option Value) (h : Heap) (L : List Loc) : Prop := v = w ∧ Fr n0 L ∧ h = h0
def QL (w : Option Value) (n0 : Nat) (v : Option Value) (h : Heap) (L : List Loc) : Prop := v = w ∧ Fr n0 L ∧ True
theorem d1_0 : decode prog_154_method_1_code 0 = .ok (.aload_n 0, 1) := by decide +kernel
theorem d1_1 : decode prog_154_method_1_code 1 = .ok (.invokespecial 1, 3) := by decide +kernel
theorem d1_4 : decode prog_154_method_1_code 4 = .ok (.aload_n 0, 1) := by decide +kernel
theorem d1_5 : decode prog_154_method_1_code 5 = .ok (.lload_n 1, 1) := by decide +kernel
theorem d1_6 : decode prog_154_method_1_code 6 = .ok (.putfield 7, 3) := by decide +kernel
theorem d1_9 : decode prog_154_method_1_code 9 = .ok (.return_, 1) := by decide +kernel
theorem pn_1 : plainName "com/example/pedantic_conformance/pedanticconformance/rules/safetycenter/PairingBudget" = true := by first | (simp [plainName, overriddenIn]; done) | decide +kernel
theorem ef_1 (m : MethodId) (x0 : Addr) (x1 : Int64) : entryFrame m #[(.ref x0), (.long x1)] 3 = mkF m 0 #[.val (.ref x0), .val (.long x1), .second] [] := by first | (simp [entryFrame, mkF, argsToLocals, Value.category]; done) | rfl
def Q1 (Z : State) (o0 : Addr) (q1 : Int64) (h0 : Heap) (n0 : Nat) (v : Option Value) (h : Heap) (L : List Loc) : Prop := v = none ∧ Fr n0 L ∧ Keep h0 h [o0] ∧ Exa Z h o0 "com/example/pedantic_conformance/pedanticconformance/rules/safetycenter/PairingBudget" ∧ Fld Z h o0 "com/example/pedantic_conformance/pedanticconformance/rules/safetycenter/PairingBudget" "left" "J" (.long q1)
set_option maxRecDepth 65536 in
set_option maxHeartbeats 40000000 in
theorem rm1 (l : Launch) (Z : State) (a0 : Array Value) (hw : ∀ d ∈ tables_1, d.before a0 Z = true) (ws : List Jvm.Cond) (o0 : Addr) (q1 : Int64) (h0 : Heap) (n0 : Nat) (Z0 : n0 ≤ h0.size) (I0 : Exa Z h0 o0 "com/example/pedantic_conformance/pedanticconformance/rules/safetycenter/PairingBudget") (I1 : Fld Z h0 o0 "com/example/pedantic_conformance/pedanticconformance/rules/safetycenter/PairingBudget" "left" "J" (.long (0 : Int64))) (gw_o0 : n0 ≤ o0) :
    MetFree l (⟨"com/example/pedantic_conformance/pedanticconformance/rules/safetycenter/PairingBudget", "<init>", "(J)V"⟩ : MethodName) (head1 (Jvm.Cond.code (⟨"com/example/pedantic_conformance/pedanticconformance/rules/safetycenter/PairingBudget", "<init>", "(J)V"⟩ : MethodName) prog_154_method_1_code 3 none :: ws) ({ frames := 1, cells := 0, slots := 0, locals := 12 } : Room)) (fun a U => a = #[(.ref o0), (.long q1)] ∧ Z.Warmed39 U.vm ∧ U.heap = h0) (fun _ _ _ _ _ => True) (fun _ U o U' => ∃ v L, o = .returned v ∧ Q1 Z o0 q1 h0 n0 v U'.heap L ∧ FrameEnd U o U' L ({ frames := 1, cells := 0, slots := 0, locals := 12 } : Room).cells ({ frames := 1, cells := 0, slots := 0, locals := 12 } : Room).slots) := by
  refine MetFree.of_bodySF (plainFor_of_name pn_1) hisR ?_
  intro p e s m args below meth c s₁ Bd hml0 hP hK
  obtain ⟨rfl, hZ, hh⟩ := hP
  have hx := Bd.exec
  have hby := Bd.bytes
  have hml : c.maxLocals = 3 := hml0
  have hown : s.vm.findClass "com/example/pedantic_conformance/pedanticconformance/rules/safetycenter/PairingBudget" = some m.cls := findClass_of_methodNamed Bd.named
  have hnm := (name_of_methodNamed Bd.named Bd.method).1
  have X0 : Stand p l e ({ frames := 1, cells := 0, slots := 0, locals := 12 } : Room) s m #[(.ref o0), (.long q1)] below meth c s₁ [] 0 0 := Stand.of_body Bd
  have e0 : s₁.heap = h0 := by rw [← hh, Bd.state]; rfl
  have N0 := Fr.nil n0
  have K0 : Keep h0 h0 [o0] := Keep.refl _ _
  have pre0 : ∀ t, Steps p.tables e below (s₁.setTop (mkF m 0 #[.val (.ref o0), .val (.long q1), .second] [])) t → Steps p.tables e below (s₁.setTop (entryFrame m #[(.ref o0), (.long q1)] 3)) t := fun t k => castTop (ef_1 m o0 q1) k
  have pre1 : ∀ t, Steps p.tables e below (s₁.setTop (mkF m 1 #[.val (.ref o0), .val (.long q1), .second] [(.ref o0)])) t → Steps p.tables e below (s₁.setTop (entryFrame m #[(.ref o0), (.long q1)] 3)) t := fun t k => pre0 t (by
    show Steps p.tables e below (s₁.setTop (mkF m 0 #[.val (.ref o0), .val (.long q1), .second] [])) _
    refine XS.aloadN X0.here hx rfl (hb hby d1_0) rfl rfl ?_
    exact k)
  obtain ⟨T2, X2, e2, st2⟩ := initO X0 hx hZ hown (hw _ (List.mem_of_getElem? (i := 7) rfl)) (hw _ (List.mem_of_getElem? (i := 8) rfl)) (hw _ (List.mem_of_getElem? (i := 9) rfl)) e0 (g := (mkF m 1 #[.val (.ref o0), .val (.long q1), .second] [(.ref o0)])) rfl (by rw [hml]; rfl) rfl (hb hby d1_1) (by decide) (W := 0) (by show 2 * 0 + _ ≤ _; exact Nat.le_of_eq rfl) (by decide)
  have pre3 : ∀ t, Steps p.tables e below (T2.setTop (mkF m 4 #[.val (.ref o0), .val (.long q1), .second] [])) t → Steps p.tables e below (s₁.setTop (entryFrame m #[(.ref o0), (.long q1)] 3)) t := fun t k => pre1 t (st2 _ k)
  have pre4 : ∀ t, Steps p.tables e below (T2.setTop (mkF m 6 #[.val (.ref o0), .val (.long q1), .second] [(.long q1), (.ref o0)])) t → Steps p.tables e below (s₁.setTop (entryFrame m #[(.ref o0), (.long q1)] 3)) t := fun t k => pre3 t (by
    show Steps p.tables e below (T2.setTop (mkF m 4 #[.val (.ref o0), .val (.long q1), .second] [])) _
    refine XS.aloadN X2.here hx rfl (hb hby d1_4) rfl rfl ?_
    show Steps p.tables e below (T2.setTop (mkF m 5 #[.val (.ref o0), .val (.long q1), .second] [(.ref o0)])) _
    refine XS.lloadN X2.here hx rfl (hb hby d1_5) rfl ?_
    exact k)
  obtain ⟨T5, h5, X5, e5, W5, st5⟩ := putF X2 hx hZ hown (host := "") (Or.inl (hw _ (List.mem_of_getElem? (i := 10) rfl))) Via.refl e2 I1 I0 (Or.inl (hw _ (List.mem_of_getElem? (i := 11) rfl))) (hw _ (List.mem_of_getElem? (i := 2) rfl)) (ty := .long) (by decide) rfl rfl (g := (mkF m 6 #[.val (.ref o0), .val (.long q1), .second] [(.long q1), (.ref o0)])) rfl rfl (hb hby d1_6)
  have N5 := Fr.snoc X5 N0 gw_o0
  have K5 : Keep h0 h5 [o0] := K0.wr W5 (Or.inl (List.mem_of_getElem? (i := 0) rfl))
  have Z5 : n0 ≤ h5.size := Nat.le_trans Z0 (Keep.of_wr W5).1
  have x6 := I0.wr W5
  have x7 := I1.same W5
  have pre8 : ∀ t, Steps p.tables e below (T5.setTop (mkF m 9 #[.val (.ref o0), .val (.long q1), .second] [])) t → Steps p.tables e below (s₁.setTop (entryFrame m #[(.ref o0), (.long q1)] 3)) t := fun t k => pre4 t (st5 _ k)
  obtain ⟨fs, hr, hrun, hended, hW, hsame⟩ := X5.leave (v := none) (fun _ => rfl)
  refine ⟨_, _, ?_, hrun, hended, _, _, rfl, ?_, ⟨_, rfl⟩, hW, hsame.mono (by decide) (by decide)⟩
  · exact pre8 _ (X5.returnOut hx Bd.returns (hb hby d1_9) hr)
  · show Q1 Z o0 q1 h0 n0 _ T5.heap _
    rw [e5]
    exact ⟨rfl, N5, K5, x6, x7⟩
theorem d3_0 : decode prog_154_method_3_code 0 = .ok (.iload_n 1, 1) := by decide +kernel
theorem d3_1 : decode prog_154_method_3_code 1 = .ok (.i2l, 1) := by decide +kernel
theorem d3_2 : decode prog_154_method_3_code 2 = .ok (.aload_n 0, 1) := by decide +kernel
theorem d3_3 : decode prog_154_method_3_code 3 = .ok (.getfield 7, 3) := by decide +kernel
theorem d3_6 : decode prog_154_method_3_code 6 = .ok (.lcmp, 1) := by decide +kernel
theorem d3_7 : decode prog_154_method_3_code 7 = .ok (.ifCond .le 5, 3) := by decide +kernel
theorem d3_10 : decode prog_154_method_3_code 10 = .ok (.iconst 0, 1) := by decide +kernel
theorem d3_11 : decode prog_154_method_3_code 11 = .ok (.ireturn, 1) := by decide +kernel
theorem d3_12 : decode prog_154_method_3_code 12 = .ok (.aload_n 0, 1) := by decide +kernel
theorem d3_13 : decode prog_154_method_3_code 13 = .ok (.dup, 1) := by decide +kernel
theorem d3_14 : decode prog_154_method_3_code 14 = .ok (.getfield 7, 3) := by decide +kernel
theorem d3_17 : decode prog_154_method_3_code 17 = .ok (.iload_n 1, 1) := by decide +kernel
theorem d3_18 : decode prog_154_method_3_code 18 = .ok (.i2l, 1) := by decide +kernel
theorem d3_19 : decode prog_154_method_3_code 19 = .ok (.lsub, 1) := by decide +kernel
theorem d3_20 : decode prog_154_method_3_code 20 = .ok (.putfield 7, 3) := by decide +kernel
theorem d3_23 : decode prog_154_method_3_code 23 = .ok (.iconst 1, 1) := by decide +kernel
theorem d3_24 : decode prog_154_method_3_code 24 = .ok (.ireturn, 1) := by decide +kernel
theorem pn_3 : plainName "com/example/pedantic_conformance/pedanticconformance/rules/safetycenter/PairingBudget" = true := by first | (simp [plainName, overriddenIn]; done) | decide +kernel
theorem ef_3 (m : MethodId) (x0 : Addr) (x1 : Int32) : entryFrame m #[(.ref x0), (.int x1)] 2 = mkF m 0 #[.val (.ref x0), .val (.int x1)] [] := by first | (simp [entryFrame, mkF, argsToLocals, Value.category]; done) | rfl
def g3_o0_left (p1 : Int32) (w0 : Int64) : Int64 := (if w0 < (p1.toInt64) then w0 else (w0 - (p1.toInt64)))
def f3 (p1 : Int32) (w0 : Int64) : Int32 := (if w0 < (p1.toInt64) then (0 : Int32) else (1 : Int32))
def Q3 (Z : State) (o0 : Addr) (p1 : Int32) (w0 : Int64) (h0 : Heap) (n0 : Nat) (v : Option Value) (h : Heap) (L : List Loc) : Prop := v = (some (.int (f3 p1 w0))) ∧ Fr n0 L ∧ Keep h0 h [o0] ∧ Exa Z h o0 "com/example/pedantic_conformance/pedanticconformance/rules/safetycenter/PairingBudget" ∧ Fld Z h o0 "com/example/pedantic_conformance/pedanticconformance/rules/safetycenter/PairingBudget" "left" "J" (.long (g3_o0_left p1 w0))
set_option maxRecDepth 65536 in
set_option maxHeartbeats 40000000 in
theorem rm3 (l : Launch) (Z : State) (a0 : Array Value) (hw : ∀ d ∈ tables_1, d.before a0 Z = true) (ws : List Jvm.Cond) (o0 : Addr) (p1 : Int32) (w0 : Int64) (h0 : Heap) (n0 : Nat) (Z0 : n0 ≤ h0.size) (I0 : Exa Z h0 o0 "com/example/pedantic_conformance/pedanticconformance/rules/safetycenter/PairingBudget") (I1 : Fld Z h0 o0 "com/example/pedantic_conformance/pedanticconformance/rules/safetycenter/PairingBudget" "left" "J" (.long w0)) (gw_o0 : n0 ≤ o0) :
    MetFree l (⟨"com/example/pedantic_conformance/pedanticconformance/rules/safetycenter/PairingBudget", "spend", "(I)Z"⟩ : MethodName) (head1 (Jvm.Cond.code (⟨"com/example/pedantic_conformance/pedanticconformance/rules/safetycenter/PairingBudget", "spend", "(I)Z"⟩ : MethodName) prog_154_method_3_code 2 (some .boolean) :: ws) ({ frames := 0, cells := 0, slots := 0, locals := 0 } : Room)) (fun a U => a = #[(.ref o0), (.int p1)] ∧ Z.Warmed39 U.vm ∧ U.heap = h0) (fun _ _ _ _ _ => True) (fun _ U o U' => ∃ v L, o = .returned v ∧ Q3 Z o0 p1 w0 h0 n0 v U'.heap L ∧ FrameEnd U o U' L ({ frames := 0, cells := 0, slots := 0, locals := 0 } : Room).cells ({ frames := 0, cells := 0, slots := 0, locals := 0 } : Room).slots) := by
  refine MetFree.of_bodySF (plainFor_of_name pn_3) hisR ?_
  intro p e s m args below meth c s₁ Bd hml0 hP hK
  obtain ⟨rfl, hZ, hh⟩ := hP
  have hx := Bd.exec
  have hby := Bd.bytes
  have hml : c.maxLocals = 2 := hml0
  have hown : s.vm.findClass "com/example/pedantic_conformance/pedanticconformance/rules/safetycenter/PairingBudget" = some m.cls := findClass_of_methodNamed Bd.named
  have hnm := (name_of_methodNamed Bd.named Bd.method).1
  have X0 : Stand p l e ({ frames := 0, cells := 0, slots := 0, locals := 0 } : Room) s m #[(.ref o0), (.int p1)] below meth c s₁ [] 0 0 := Stand.of_body Bd
  have e0 : s₁.heap = h0 := by rw [← hh, Bd.state]; rfl
  have N0 := Fr.nil n0
  have K0 : Keep h0 h0 [o0] := Keep.refl _ _
  have pre0 : ∀ t, Steps p.tables e below (s₁.setTop (mkF m 0 #[.val (.ref o0), .val (.int p1)] [])) t → Steps p.tables e below (s₁.setTop (entryFrame m #[(.ref o0), (.int p1)] 2)) t := fun t k => castTop (ef_3 m o0 p1) k
  have pre2 : ∀ t, Steps p.tables e below (s₁.setTop (mkF m 3 #[.val (.ref o0), .val (.int p1)] [(.ref o0), (.long (p1.toInt64))])) t → Steps p.tables e below (s₁.setTop (entryFrame m #[(.ref o0), (.int p1)] 2)) t := fun t k => pre0 t (by
    show Steps p.tables e below (s₁.setTop (mkF m 0 #[.val (.ref o0), .val (.int p1)] [])) _
    refine XS.iloadN X0.here hx rfl (hb hby d3_0) rfl ?_
    show Steps p.tables e below (s₁.setTop (mkF m 1 #[.val (.ref o0), .val (.int p1)] [(.int p1)])) _
    refine XS.i2l X0.here hx rfl (hb hby d3_1) rfl ?_
    show Steps p.tables e below (s₁.setTop (mkF m 2 #[.val (.ref o0), .val (.int p1)] [(.long (p1.toInt64))])) _
    refine XS.aloadN X0.here hx rfl (hb hby d3_2) rfl rfl ?_
    exact k)
  obtain ⟨T3, X3, e3, st3⟩ := getF X0 hx hZ hown (host := "") (Or.inl (hw _ (List.mem_of_getElem? (i := 10) rfl))) Via.refl e0 I1 (g := (mkF m 3 #[.val (.ref o0), .val (.int p1)] [(.ref o0), (.long (p1.toInt64))])) rfl rfl (hb hby d3_3)
  have pre4 : ∀ t, Steps p.tables e below (T3.setTop (mkF m 6 #[.val (.ref o0), .val (.int p1)] [(.long w0), (.long (p1.toInt64))])) t → Steps p.tables e below (s₁.setTop (entryFrame m #[(.ref o0), (.int p1)] 2)) t := fun t k => pre2 t (st3 _ k)
  have pre5 : ∀ t, Steps p.tables e below (T3.setTop (mkF m 7 #[.val (.ref o0), .val (.int p1)] [(.int (lcmpW (p1.toInt64) w0))])) t → Steps p.tables e below (s₁.setTop (entryFrame m #[(.ref o0), (.int p1)] 2)) t := fun t k => pre4 t (by
    show Steps p.tables e below (T3.setTop (mkF m 6 #[.val (.ref o0), .val (.int p1)] [(.long w0), (.long (p1.toInt64))])) _
    refine XS.lcmp X3.here hx rfl (hb hby d3_6) rfl ?_
    exact k)
  by_cases hc7_1 : w0 < (p1.toInt64)
  · have pre6 : ∀ t, Steps p.tables e below (T3.setTop (mkF m 11 #[.val (.ref o0), .val (.int p1)] [(.int (0 : Int32))])) t → Steps p.tables e below (s₁.setTop (entryFrame m #[(.ref o0), (.int p1)] 2)) t := fun t k => pre5 t (by
      show Steps p.tables e below (T3.setTop (mkF m 7 #[.val (.ref o0), .val (.int p1)] [(.int (lcmpW (p1.toInt64) w0))])) _
      refine XS.ifNo X3.here hx rfl (hb hby d3_7) rfl ((if0 _ _).trans (tlt ((lw_gt _ _).mpr hc7_1)).2.2.2) ?_
      show Steps p.tables e below (T3.setTop (mkF m 10 #[.val (.ref o0), .val (.int p1)] [])) _
      refine XS.iconst X3.here hx rfl (hb hby d3_10) ?_
      exact k)
    obtain ⟨fs, hr, hrun, hended, hW, hsame⟩ := X3.leave (v := some (.int (0 : Int32))) (fun h => by rw [Bd.returns] at h; cases h)
    refine ⟨_, _, ?_, hrun, hended, _, _, rfl, ?_, ⟨_, rfl⟩, hW, hsame.mono (by decide) (by decide)⟩
    · exact pre6 _ (retN X3 hx (t := .boolean) Bd.returns (by simp) (hb hby d3_11) hr)
    · show Q3 Z o0 p1 w0 h0 n0 _ T3.heap _
      rw [e3]
      exact ⟨by simp only [f3, if_pos hc7_1], N0, K0, I0, by rw [show (g3_o0_left p1 w0) = w0 from by simp only [g3_o0_left, if_pos hc7_1]]; exact I1⟩
  · have pre7 : ∀ t, Steps p.tables e below (T3.setTop (mkF m 14 #[.val (.ref o0), .val (.int p1)] [(.ref o0), (.ref o0)])) t → Steps p.tables e below (s₁.setTop (entryFrame m #[(.ref o0), (.int p1)] 2)) t := fun t k => pre5 t (by
      show Steps p.tables e below (T3.setTop (mkF m 7 #[.val (.ref o0), .val (.int p1)] [(.int (lcmpW (p1.toInt64) w0))])) _
      refine XS.ifYes X3.here hx rfl (pc0 := 7) (pc' := 12) rfl (hb hby d3_7) rfl ((if0 _ _).trans (flt (fun q => hc7_1 ((lw_gt _ _).mp q))).2.2.2) (by decide) (by decide) ?_
      show Steps p.tables e below (T3.setTop (mkF m 12 #[.val (.ref o0), .val (.int p1)] [])) _
      refine XS.aloadN X3.here hx rfl (hb hby d3_12) rfl rfl ?_
      show Steps p.tables e below (T3.setTop (mkF m 13 #[.val (.ref o0), .val (.int p1)] [(.ref o0)])) _
      refine XS.dup X3.here hx rfl (hb hby d3_13) rfl rfl ?_
      exact k)
    obtain ⟨T8, X8, e8, st8⟩ := getF X3 hx hZ hown (host := "") (Or.inl (hw _ (List.mem_of_getElem? (i := 10) rfl))) Via.refl e3 I1 (g := (mkF m 14 #[.val (.ref o0), .val (.int p1)] [(.ref o0), (.ref o0)])) rfl rfl (hb hby d3_14)
    have pre9 : ∀ t, Steps p.tables e below (T8.setTop (mkF m 17 #[.val (.ref o0), .val (.int p1)] [(.long w0), (.ref o0)])) t → Steps p.tables e below (s₁.setTop (entryFrame m #[(.ref o0), (.int p1)] 2)) t := fun t k => pre7 t (st8 _ k)
    have pre10 : ∀ t, Steps p.tables e below (T8.setTop (mkF m 20 #[.val (.ref o0), .val (.int p1)] [(.long (w0 - (p1.toInt64))), (.ref o0)])) t → Steps p.tables e below (s₁.setTop (entryFrame m #[(.ref o0), (.int p1)] 2)) t := fun t k => pre9 t (by
      show Steps p.tables e below (T8.setTop (mkF m 17 #[.val (.ref o0), .val (.int p1)] [(.long w0), (.ref o0)])) _
      refine XS.iloadN X8.here hx rfl (hb hby d3_17) rfl ?_
      show Steps p.tables e below (T8.setTop (mkF m 18 #[.val (.ref o0), .val (.int p1)] [(.int p1), (.long w0), (.ref o0)])) _
      refine XS.i2l X8.here hx rfl (hb hby d3_18) rfl ?_
      show Steps p.tables e below (T8.setTop (mkF m 19 #[.val (.ref o0), .val (.int p1)] [(.long (p1.toInt64)), (.long w0), (.ref o0)])) _
      refine XS.lsub X8.here hx rfl (hb hby d3_19) rfl ?_
      exact k)
    obtain ⟨T11, h11, X11, e11, W11, st11⟩ := putF X8 hx hZ hown (host := "") (Or.inl (hw _ (List.mem_of_getElem? (i := 10) rfl))) Via.refl e8 I1 I0 (Or.inl (hw _ (List.mem_of_getElem? (i := 11) rfl))) (hw _ (List.mem_of_getElem? (i := 2) rfl)) (ty := .long) (by decide) rfl rfl (g := (mkF m 20 #[.val (.ref o0), .val (.int p1)] [(.long (w0 - (p1.toInt64))), (.ref o0)])) rfl rfl (hb hby d3_20)
    have N11 := Fr.snoc X11 N0 gw_o0
    have K11 : Keep h0 h11 [o0] := K0.wr W11 (Or.inl (List.mem_of_getElem? (i := 0) rfl))
    have Z11 : n0 ≤ h11.size := Nat.le_trans Z0 (Keep.of_wr W11).1
    have x12 := I0.wr W11
    have x13 := I1.same W11
    have pre14 : ∀ t, Steps p.tables e below (T11.setTop (mkF m 23 #[.val (.ref o0), .val (.int p1)] [])) t → Steps p.tables e below (s₁.setTop (entryFrame m #[(.ref o0), (.int p1)] 2)) t := fun t k => pre10 t (st11 _ k)
    have pre15 : ∀ t, Steps p.tables e below (T11.setTop (mkF m 24 #[.val (.ref o0), .val (.int p1)] [(.int (1 : Int32))])) t → Steps p.tables e below (s₁.setTop (entryFrame m #[(.ref o0), (.int p1)] 2)) t := fun t k => pre14 t (by
      show Steps p.tables e below (T11.setTop (mkF m 23 #[.val (.ref o0), .val (.int p1)] [])) _
      refine XS.iconst X11.here hx rfl (hb hby d3_23) ?_
      exact k)
    obtain ⟨fs, hr, hrun, hended, hW, hsame⟩ := X11.leave (v := some (.int (1 : Int32))) (fun h => by rw [Bd.returns] at h; cases h)
    refine ⟨_, _, ?_, hrun, hended, _, _, rfl, ?_, ⟨_, rfl⟩, hW, hsame.mono (by decide) (by decide)⟩
    · exact pre15 _ (retN X11 hx (t := .boolean) Bd.returns (by simp) (hb hby d3_24) hr)
    · show Q3 Z o0 p1 w0 h0 n0 _ T11.heap _
      rw [e11]
      exact ⟨by simp only [f3, if_neg hc7_1], N11, K11, x12, by rw [show (g3_o0_left p1 w0) = (w0 - (p1.toInt64)) from by simp only [g3_o0_left, if_neg hc7_1]]; exact x13⟩
theorem pn_0 : plainName "com/example/pedantic_conformance/pedanticconformance/rules/safetycenter/PairingBudgetSpendPinLaw" = true := by first | (simp [plainName, overriddenIn]; done) | decide +kernel
theorem pd__J_V : parseMethodDescriptor "(J)V" = some ⟨[.long], none⟩ := by decide +kernel
theorem pd__I_Z : parseMethodDescriptor "(I)Z" = some ⟨[.int], some .boolean⟩ := by decide +kernel
theorem ef_0 (m : MethodId) (x0 : Int64) (x1 : Int32) (x2 : Int32) (x3 : Int32) (x4 : Int32) : entryFrame m #[(.long x0), (.int x1), (.int x2), (.int x3), (.int x4)] maxLocals = mkF m 0 #[.val (.long x0), .second, .val (.int x1), .val (.int x2), .val (.int x3), .val (.int x4), .unset, .unset, .unset, .unset, .unset, .unset, .unset, .unset, .unset, .unset, .unset, .unset, .unset, .unset, .unset, .unset, .unset, .unset, .unset] [] := by first | (simp [entryFrame, mkF, argsToLocals, Value.category, maxLocals]; done) | rfl
def v0_4 (p1 : Int32) : Int32 := (p1 &&& (2147483647 : Int32))
def v0_10 (p2 : Int32) : Int32 := (p2 &&& (2147483647 : Int32))
def v0_17 (p3 : Int32) : Int32 := (p3 &&& (2147483647 : Int32))
def v0_28 (p4 : Int32) : Int64 := (((((p4.toUInt32 >>> ((2 : Int32) &&& 31).toUInt32).toInt32) - ((p4.toUInt32 >>> ((2 : Int32) &&& 31).toUInt32).toInt32) / (3 : Int32) * (3 : Int32)).toInt64) - (1 : Int64))
def v0_34 (p4 : Int32) : Int32 := (p4 &&& (3 : Int32))
def v0_99 (p1 : Int32) (p2 : Int32) (p3 : Int32) (p4 : Int32) : Int64 := (((((v0_4 p1).toInt64) + ((v0_10 p2).toInt64)) + ((v0_17 p3).toInt64)) + (v0_28 p4))
def v0_80 (p1 : Int32) (p2 : Int32) (p4 : Int32) : Int64 := ((((v0_4 p1).toInt64) + ((v0_10 p2).toInt64)) + (v0_28 p4))
def v0_59 (p1 : Int32) (p4 : Int32) : Int64 := (((v0_4 p1).toInt64) + (v0_28 p4))
def v0_101_l12 (q0 : Int64) (p1 : Int32) (p2 : Int32) (p3 : Int32) (p4 : Int32) : Int64 := (if (v0_34 p4) = (0 : Int32) then q0 else (if (v0_34 p4) = (1 : Int32) then (v0_59 p1 p4) else (if (v0_34 p4) = (2 : Int32) then (v0_80 p1 p2 p4) else (v0_99 p1 p2 p3 p4))))
def v0_119 (q0 : Int64) (p1 : Int32) (p2 : Int32) (p3 : Int32) (p4 : Int32) : Int32 := (f3 (v0_4 p1) (v0_101_l12 q0 p1 p2 p3 p4))
def v0_128 (q0 : Int64) (p1 : Int32) (p2 : Int32) (p3 : Int32) (p4 : Int32) : Int32 := (f3 (v0_10 p2) (g3_o0_left (v0_4 p1) (v0_101_l12 q0 p1 p2 p3 p4)))
def v0_137 (q0 : Int64) (p1 : Int32) (p2 : Int32) (p3 : Int32) (p4 : Int32) : Int32 := (f3 (v0_17 p3) (g3_o0_left (v0_10 p2) (g3_o0_left (v0_4 p1) (v0_101_l12 q0 p1 p2 p3 p4))))
def v0_153_s0 (q0 : Int64) (p1 : Int32) (p2 : Int32) (p3 : Int32) (p4 : Int32) : Int32 := (if (v0_101_l12 q0 p1 p2 p3 p4) < ((v0_4 p1).toInt64) then (0 : Int32) else (1 : Int32))
def v0_170 (q0 : Int64) (p1 : Int32) (p2 : Int32) (p3 : Int32) (p4 : Int32) : Int64 := ((v0_101_l12 q0 p1 p2 p3 p4) - ((v0_4 p1).toInt64))
def v0_172_l19 (q0 : Int64) (p1 : Int32) (p2 : Int32) (p3 : Int32) (p4 : Int32) : Int64 := (if (v0_153_s0 q0 p1 p2 p3 p4) = (0 : Int32) then (v0_101_l12 q0 p1 p2 p3 p4) else (v0_170 q0 p1 p2 p3 p4))
def v0_186_s0 (q0 : Int64) (p1 : Int32) (p2 : Int32) (p3 : Int32) (p4 : Int32) : Int32 := (if (v0_172_l19 q0 p1 p2 p3 p4) < ((v0_10 p2).toInt64) then (0 : Int32) else (1 : Int32))
def v0_203 (q0 : Int64) (p1 : Int32) (p2 : Int32) (p3 : Int32) (p4 : Int32) : Int64 := ((v0_172_l19 q0 p1 p2 p3 p4) - ((v0_10 p2).toInt64))
def v0_205_l22 (q0 : Int64) (p1 : Int32) (p2 : Int32) (p3 : Int32) (p4 : Int32) : Int64 := (if (v0_186_s0 q0 p1 p2 p3 p4) = (0 : Int32) then (v0_172_l19 q0 p1 p2 p3 p4) else (v0_203 q0 p1 p2 p3 p4))
def v0_219_s0 (q0 : Int64) (p1 : Int32) (p2 : Int32) (p3 : Int32) (p4 : Int32) : Int32 := (if (v0_205_l22 q0 p1 p2 p3 p4) < ((v0_17 p3).toInt64) then (0 : Int32) else (1 : Int32))
def f0 (q0 : Int64) (p1 : Int32) (p2 : Int32) (p3 : Int32) (p4 : Int32) : Int32 := (if (v0_119 q0 p1 p2 p3 p4) = (v0_153_s0 q0 p1 p2 p3 p4) then (if (v0_128 q0 p1 p2 p3 p4) = (v0_186_s0 q0 p1 p2 p3 p4) then (if (v0_137 q0 p1 p2 p3 p4) = (v0_219_s0 q0 p1 p2 p3 p4) then (1 : Int32) else (0 : Int32)) else (0 : Int32)) else (0 : Int32))
set_option maxRecDepth 65536 in
set_option maxHeartbeats 40000000 in
theorem rm0 (l : Launch) (Z : State) (a0 : Array Value) (hw : ∀ d ∈ tables_1, d.before a0 Z = true) (ws : List Jvm.Cond) (q0 : Int64) (p1 : Int32) (p2 : Int32) (p3 : Int32) (p4 : Int32) (h0 : Heap) (n0 : Nat) (Z0 : n0 ≤ h0.size) :
    MetFree l x (head1 (Jvm.Cond.code x code maxLocals ret :: ws) room_1) (fun a U => a = #[(.long q0), (.int p1), (.int p2), (.int p3), (.int p4)] ∧ Z.Warmed39 U.vm ∧ U.heap = h0) (fun _ _ _ _ _ => True) (fun _ U o U' => ∃ v L, o = .returned v ∧ QL (some (.int (f0 q0 p1 p2 p3 p4))) n0 v U'.heap L ∧ FrameEnd U o U' L room_1.cells room_1.slots) := by
  refine MetFree.of_bodySF (plainFor_of_name pn_0) hisR ?_
  intro p e s m args below meth c s₁ Bd hml0 hP hK
  obtain ⟨rfl, hZ, hh⟩ := hP
  have hx := Bd.exec
  have hby := Bd.bytes
  have hml : c.maxLocals = 25 := hml0
  have hown : s.vm.findClass "com/example/pedantic_conformance/pedanticconformance/rules/safetycenter/PairingBudgetSpendPinLaw" = some m.cls := findClass_of_methodNamed Bd.named
  have hnm := (name_of_methodNamed Bd.named Bd.method).1
  have X0 : Stand p l e room_1 s m #[(.long q0), (.int p1), (.int p2), (.int p3), (.int p4)] below meth c s₁ [] 0 0 := Stand.of_body Bd
  have e0 : s₁.heap = h0 := by rw [← hh, Bd.state]; rfl
  have N0 := Fr.nil n0
  have K0 : Keep h0 h0 [] := Keep.refl _ _
  have pre0 : ∀ t, Steps p.tables e below (s₁.setTop (mkF m 0 #[.val (.long q0), .second, .val (.int p1), .val (.int p2), .val (.int p3), .val (.int p4), .unset, .unset, .unset, .unset, .unset, .unset, .unset, .unset, .unset, .unset, .unset, .unset, .unset, .unset, .unset, .unset, .unset, .unset, .unset] [])) t → Steps p.tables e below (s₁.setTop (entryFrame m #[(.long q0), (.int p1), (.int p2), (.int p3), (.int p4)] maxLocals)) t := fun t k => castTop (ef_0 m q0 p1 p2 p3 p4) k
  have pre12 : ∀ t, Steps p.tables e below (s₁.setTop (mkF m 38 #[.val (.long q0), .second, .val (.int p1), .val (.int p2), .val (.int p3), .val (.int p4), .val (.int (v0_4 p1)), .val (.int (v0_10 p2)), .val (.int (v0_17 p3)), .val (.long (v0_28 p4)), .second, .val (.int (v0_34 p4)), .unset, .unset, .unset, .unset, .unset, .unset, .unset, .unset, .unset, .unset, .unset, .unset, .unset] [(.int (v0_34 p4))])) t → Steps p.tables e below (s₁.setTop (entryFrame m #[(.long q0), (.int p1), (.int p2), (.int p3), (.int p4)] maxLocals)) t := fun t k => pre0 t (by
    show Steps p.tables e below (s₁.setTop (mkF m 0 #[.val (.long q0), .second, .val (.int p1), .val (.int p2), .val (.int p3), .val (.int p4), .unset, .unset, .unset, .unset, .unset, .unset, .unset, .unset, .unset, .unset, .unset, .unset, .unset, .unset, .unset, .unset, .unset, .unset, .unset] [])) _
    refine XS.iloadN X0.here hx rfl (hb hby at_0) rfl ?_
    show Steps p.tables e below (s₁.setTop (mkF m 1 #[.val (.long q0), .second, .val (.int p1), .val (.int p2), .val (.int p3), .val (.int p4), .unset, .unset, .unset, .unset, .unset, .unset, .unset, .unset, .unset, .unset, .unset, .unset, .unset, .unset, .unset, .unset, .unset, .unset, .unset] [(.int p1)])) _
    refine X0.ldcInt hx hown (mvT hZ (hw _ (List.mem_of_getElem? (i := 0) rfl))) (g := (mkF m 1 #[.val (.long q0), .second, .val (.int p1), .val (.int p2), .val (.int p3), .val (.int p4), .unset, .unset, .unset, .unset, .unset, .unset, .unset, .unset, .unset, .unset, .unset, .unset, .unset, .unset, .unset, .unset, .unset, .unset, .unset] [(.int p1)])) rfl (hb hby at_1) _ ?_
    show Steps p.tables e below (s₁.setTop (mkF m 3 #[.val (.long q0), .second, .val (.int p1), .val (.int p2), .val (.int p3), .val (.int p4), .unset, .unset, .unset, .unset, .unset, .unset, .unset, .unset, .unset, .unset, .unset, .unset, .unset, .unset, .unset, .unset, .unset, .unset, .unset] [(.int (2147483647 : Int32)), (.int p1)])) _
    refine XS.iand X0.here hx rfl (hb hby at_3) rfl ?_
    show Steps p.tables e below (s₁.setTop (mkF m 4 #[.val (.long q0), .second, .val (.int p1), .val (.int p2), .val (.int p3), .val (.int p4), .unset, .unset, .unset, .unset, .unset, .unset, .unset, .unset, .unset, .unset, .unset, .unset, .unset, .unset, .unset, .unset, .unset, .unset, .unset] [(.int (p1 &&& (2147483647 : Int32)))])) _
    refine XS.istore X0.here hx rfl (hb hby at_4) rfl (l' := #[.val (.long q0), .second, .val (.int p1), .val (.int p2), .val (.int p3), .val (.int p4), .val (.int (v0_4 p1)), .unset, .unset, .unset, .unset, .unset, .unset, .unset, .unset, .unset, .unset, .unset, .unset, .unset, .unset, .unset, .unset, .unset, .unset]) rfl ?_
    show Steps p.tables e below (s₁.setTop (mkF m 6 #[.val (.long q0), .second, .val (.int p1), .val (.int p2), .val (.int p3), .val (.int p4), .val (.int (v0_4 p1)), .unset, .unset, .unset, .unset, .unset, .unset, .unset, .unset, .unset, .unset, .unset, .unset, .unset, .unset, .unset, .unset, .unset, .unset] [])) _
    refine XS.iloadN X0.here hx rfl (hb hby at_6) rfl ?_
    show Steps p.tables e below (s₁.setTop (mkF m 7 #[.val (.long q0), .second, .val (.int p1), .val (.int p2), .val (.int p3), .val (.int p4), .val (.int (v0_4 p1)), .unset, .unset, .unset, .unset, .unset, .unset, .unset, .unset, .unset, .unset, .unset, .unset, .unset, .unset, .unset, .unset, .unset, .unset] [(.int p2)])) _
    refine X0.ldcInt hx hown (mvT hZ (hw _ (List.mem_of_getElem? (i := 0) rfl))) (g := (mkF m 7 #[.val (.long q0), .second, .val (.int p1), .val (.int p2), .val (.int p3), .val (.int p4), .val (.int (v0_4 p1)), .unset, .unset, .unset, .unset, .unset, .unset, .unset, .unset, .unset, .unset, .unset, .unset, .unset, .unset, .unset, .unset, .unset, .unset] [(.int p2)])) rfl (hb hby at_7) _ ?_
    show Steps p.tables e below (s₁.setTop (mkF m 9 #[.val (.long q0), .second, .val (.int p1), .val (.int p2), .val (.int p3), .val (.int p4), .val (.int (v0_4 p1)), .unset, .unset, .unset, .unset, .unset, .unset, .unset, .unset, .unset, .unset, .unset, .unset, .unset, .unset, .unset, .unset, .unset, .unset] [(.int (2147483647 : Int32)), (.int p2)])) _
    refine XS.iand X0.here hx rfl (hb hby at_9) rfl ?_
    show Steps p.tables e below (s₁.setTop (mkF m 10 #[.val (.long q0), .second, .val (.int p1), .val (.int p2), .val (.int p3), .val (.int p4), .val (.int (v0_4 p1)), .unset, .unset, .unset, .unset, .unset, .unset, .unset, .unset, .unset, .unset, .unset, .unset, .unset, .unset, .unset, .unset, .unset, .unset] [(.int (p2 &&& (2147483647 : Int32)))])) _
    refine XS.istore X0.here hx rfl (hb hby at_10) rfl (l' := #[.val (.long q0), .second, .val (.int p1), .val (.int p2), .val (.int p3), .val (.int p4), .val (.int (v0_4 p1)), .val (.int (v0_10 p2)), .unset, .unset, .unset, .unset, .unset, .unset, .unset, .unset, .unset, .unset, .unset, .unset, .unset, .unset, .unset, .unset, .unset]) rfl ?_
    show Steps p.tables e below (s₁.setTop (mkF m 12 #[.val (.long q0), .second, .val (.int p1), .val (.int p2), .val (.int p3), .val (.int p4), .val (.int (v0_4 p1)), .val (.int (v0_10 p2)), .unset, .unset, .unset, .unset, .unset, .unset, .unset, .unset, .unset, .unset, .unset, .unset, .unset, .unset, .unset, .unset, .unset] [])) _
    refine XS.iload X0.here hx rfl (hb hby at_12) rfl ?_
    show Steps p.tables e below (s₁.setTop (mkF m 14 #[.val (.long q0), .second, .val (.int p1), .val (.int p2), .val (.int p3), .val (.int p4), .val (.int (v0_4 p1)), .val (.int (v0_10 p2)), .unset, .unset, .unset, .unset, .unset, .unset, .unset, .unset, .unset, .unset, .unset, .unset, .unset, .unset, .unset, .unset, .unset] [(.int p3)])) _
    refine X0.ldcInt hx hown (mvT hZ (hw _ (List.mem_of_getElem? (i := 0) rfl))) (g := (mkF m 14 #[.val (.long q0), .second, .val (.int p1), .val (.int p2), .val (.int p3), .val (.int p4), .val (.int (v0_4 p1)), .val (.int (v0_10 p2)), .unset, .unset, .unset, .unset, .unset, .unset, .unset, .unset, .unset, .unset, .unset, .unset, .unset, .unset, .unset, .unset, .unset] [(.int p3)])) rfl (hb hby at_14) _ ?_
    show Steps p.tables e below (s₁.setTop (mkF m 16 #[.val (.long q0), .second, .val (.int p1), .val (.int p2), .val (.int p3), .val (.int p4), .val (.int (v0_4 p1)), .val (.int (v0_10 p2)), .unset, .unset, .unset, .unset, .unset, .unset, .unset, .unset, .unset, .unset, .unset, .unset, .unset, .unset, .unset, .unset, .unset] [(.int (2147483647 : Int32)), (.int p3)])) _
    refine XS.iand X0.here hx rfl (hb hby at_16) rfl ?_
    show Steps p.tables e below (s₁.setTop (mkF m 17 #[.val (.long q0), .second, .val (.int p1), .val (.int p2), .val (.int p3), .val (.int p4), .val (.int (v0_4 p1)), .val (.int (v0_10 p2)), .unset, .unset, .unset, .unset, .unset, .unset, .unset, .unset, .unset, .unset, .unset, .unset, .unset, .unset, .unset, .unset, .unset] [(.int (p3 &&& (2147483647 : Int32)))])) _
    refine XS.istore X0.here hx rfl (hb hby at_17) rfl (l' := #[.val (.long q0), .second, .val (.int p1), .val (.int p2), .val (.int p3), .val (.int p4), .val (.int (v0_4 p1)), .val (.int (v0_10 p2)), .val (.int (v0_17 p3)), .unset, .unset, .unset, .unset, .unset, .unset, .unset, .unset, .unset, .unset, .unset, .unset, .unset, .unset, .unset, .unset]) rfl ?_
    show Steps p.tables e below (s₁.setTop (mkF m 19 #[.val (.long q0), .second, .val (.int p1), .val (.int p2), .val (.int p3), .val (.int p4), .val (.int (v0_4 p1)), .val (.int (v0_10 p2)), .val (.int (v0_17 p3)), .unset, .unset, .unset, .unset, .unset, .unset, .unset, .unset, .unset, .unset, .unset, .unset, .unset, .unset, .unset, .unset] [])) _
    refine XS.iload X0.here hx rfl (hb hby at_19) rfl ?_
    show Steps p.tables e below (s₁.setTop (mkF m 21 #[.val (.long q0), .second, .val (.int p1), .val (.int p2), .val (.int p3), .val (.int p4), .val (.int (v0_4 p1)), .val (.int (v0_10 p2)), .val (.int (v0_17 p3)), .unset, .unset, .unset, .unset, .unset, .unset, .unset, .unset, .unset, .unset, .unset, .unset, .unset, .unset, .unset, .unset] [(.int p4)])) _
    refine XS.iconst X0.here hx rfl (hb hby at_21) ?_
    show Steps p.tables e below (s₁.setTop (mkF m 22 #[.val (.long q0), .second, .val (.int p1), .val (.int p2), .val (.int p3), .val (.int p4), .val (.int (v0_4 p1)), .val (.int (v0_10 p2)), .val (.int (v0_17 p3)), .unset, .unset, .unset, .unset, .unset, .unset, .unset, .unset, .unset, .unset, .unset, .unset, .unset, .unset, .unset, .unset] [(.int (2 : Int32)), (.int p4)])) _
    refine XS.iushr X0.here hx rfl (hb hby at_22) rfl ?_
    show Steps p.tables e below (s₁.setTop (mkF m 23 #[.val (.long q0), .second, .val (.int p1), .val (.int p2), .val (.int p3), .val (.int p4), .val (.int (v0_4 p1)), .val (.int (v0_10 p2)), .val (.int (v0_17 p3)), .unset, .unset, .unset, .unset, .unset, .unset, .unset, .unset, .unset, .unset, .unset, .unset, .unset, .unset, .unset, .unset] [(.int ((p4.toUInt32 >>> ((2 : Int32) &&& 31).toUInt32).toInt32))])) _
    refine XS.iconst X0.here hx rfl (hb hby at_23) ?_
    show Steps p.tables e below (s₁.setTop (mkF m 24 #[.val (.long q0), .second, .val (.int p1), .val (.int p2), .val (.int p3), .val (.int p4), .val (.int (v0_4 p1)), .val (.int (v0_10 p2)), .val (.int (v0_17 p3)), .unset, .unset, .unset, .unset, .unset, .unset, .unset, .unset, .unset, .unset, .unset, .unset, .unset, .unset, .unset, .unset] [(.int (3 : Int32)), (.int ((p4.toUInt32 >>> ((2 : Int32) &&& 31).toUInt32).toInt32))])) _
    refine XS.irem X0.here hx rfl (hb hby at_24) rfl (by decide) ?_
    show Steps p.tables e below (s₁.setTop (mkF m 25 #[.val (.long q0), .second, .val (.int p1), .val (.int p2), .val (.int p3), .val (.int p4), .val (.int (v0_4 p1)), .val (.int (v0_10 p2)), .val (.int (v0_17 p3)), .unset, .unset, .unset, .unset, .unset, .unset, .unset, .unset, .unset, .unset, .unset, .unset, .unset, .unset, .unset, .unset] [(.int (((p4.toUInt32 >>> ((2 : Int32) &&& 31).toUInt32).toInt32) - ((p4.toUInt32 >>> ((2 : Int32) &&& 31).toUInt32).toInt32) / (3 : Int32) * (3 : Int32)))])) _
    refine XS.i2l X0.here hx rfl (hb hby at_25) rfl ?_
    show Steps p.tables e below (s₁.setTop (mkF m 26 #[.val (.long q0), .second, .val (.int p1), .val (.int p2), .val (.int p3), .val (.int p4), .val (.int (v0_4 p1)), .val (.int (v0_10 p2)), .val (.int (v0_17 p3)), .unset, .unset, .unset, .unset, .unset, .unset, .unset, .unset, .unset, .unset, .unset, .unset, .unset, .unset, .unset, .unset] [(.long ((((p4.toUInt32 >>> ((2 : Int32) &&& 31).toUInt32).toInt32) - ((p4.toUInt32 >>> ((2 : Int32) &&& 31).toUInt32).toInt32) / (3 : Int32) * (3 : Int32)).toInt64))])) _
    refine XS.lconst X0.here hx rfl (hb hby at_26) ?_
    show Steps p.tables e below (s₁.setTop (mkF m 27 #[.val (.long q0), .second, .val (.int p1), .val (.int p2), .val (.int p3), .val (.int p4), .val (.int (v0_4 p1)), .val (.int (v0_10 p2)), .val (.int (v0_17 p3)), .unset, .unset, .unset, .unset, .unset, .unset, .unset, .unset, .unset, .unset, .unset, .unset, .unset, .unset, .unset, .unset] [(.long (1 : Int64)), (.long ((((p4.toUInt32 >>> ((2 : Int32) &&& 31).toUInt32).toInt32) - ((p4.toUInt32 >>> ((2 : Int32) &&& 31).toUInt32).toInt32) / (3 : Int32) * (3 : Int32)).toInt64))])) _
    refine XS.lsub X0.here hx rfl (hb hby at_27) rfl ?_
    show Steps p.tables e below (s₁.setTop (mkF m 28 #[.val (.long q0), .second, .val (.int p1), .val (.int p2), .val (.int p3), .val (.int p4), .val (.int (v0_4 p1)), .val (.int (v0_10 p2)), .val (.int (v0_17 p3)), .unset, .unset, .unset, .unset, .unset, .unset, .unset, .unset, .unset, .unset, .unset, .unset, .unset, .unset, .unset, .unset] [(.long (((((p4.toUInt32 >>> ((2 : Int32) &&& 31).toUInt32).toInt32) - ((p4.toUInt32 >>> ((2 : Int32) &&& 31).toUInt32).toInt32) / (3 : Int32) * (3 : Int32)).toInt64) - (1 : Int64)))])) _
    refine XS.lstore X0.here hx rfl (hb hby at_28) rfl (l' := #[.val (.long q0), .second, .val (.int p1), .val (.int p2), .val (.int p3), .val (.int p4), .val (.int (v0_4 p1)), .val (.int (v0_10 p2)), .val (.int (v0_17 p3)), .val (.long (v0_28 p4)), .second, .unset, .unset, .unset, .unset, .unset, .unset, .unset, .unset, .unset, .unset, .unset, .unset, .unset, .unset]) rfl ?_
    show Steps p.tables e below (s₁.setTop (mkF m 30 #[.val (.long q0), .second, .val (.int p1), .val (.int p2), .val (.int p3), .val (.int p4), .val (.int (v0_4 p1)), .val (.int (v0_10 p2)), .val (.int (v0_17 p3)), .val (.long (v0_28 p4)), .second, .unset, .unset, .unset, .unset, .unset, .unset, .unset, .unset, .unset, .unset, .unset, .unset, .unset, .unset] [])) _
    refine XS.iload X0.here hx rfl (hb hby at_30) rfl ?_
    show Steps p.tables e below (s₁.setTop (mkF m 32 #[.val (.long q0), .second, .val (.int p1), .val (.int p2), .val (.int p3), .val (.int p4), .val (.int (v0_4 p1)), .val (.int (v0_10 p2)), .val (.int (v0_17 p3)), .val (.long (v0_28 p4)), .second, .unset, .unset, .unset, .unset, .unset, .unset, .unset, .unset, .unset, .unset, .unset, .unset, .unset, .unset] [(.int p4)])) _
    refine XS.iconst X0.here hx rfl (hb hby at_32) ?_
    show Steps p.tables e below (s₁.setTop (mkF m 33 #[.val (.long q0), .second, .val (.int p1), .val (.int p2), .val (.int p3), .val (.int p4), .val (.int (v0_4 p1)), .val (.int (v0_10 p2)), .val (.int (v0_17 p3)), .val (.long (v0_28 p4)), .second, .unset, .unset, .unset, .unset, .unset, .unset, .unset, .unset, .unset, .unset, .unset, .unset, .unset, .unset] [(.int (3 : Int32)), (.int p4)])) _
    refine XS.iand X0.here hx rfl (hb hby at_33) rfl ?_
    show Steps p.tables e below (s₁.setTop (mkF m 34 #[.val (.long q0), .second, .val (.int p1), .val (.int p2), .val (.int p3), .val (.int p4), .val (.int (v0_4 p1)), .val (.int (v0_10 p2)), .val (.int (v0_17 p3)), .val (.long (v0_28 p4)), .second, .unset, .unset, .unset, .unset, .unset, .unset, .unset, .unset, .unset, .unset, .unset, .unset, .unset, .unset] [(.int (p4 &&& (3 : Int32)))])) _
    refine XS.istore X0.here hx rfl (hb hby at_34) rfl (l' := #[.val (.long q0), .second, .val (.int p1), .val (.int p2), .val (.int p3), .val (.int p4), .val (.int (v0_4 p1)), .val (.int (v0_10 p2)), .val (.int (v0_17 p3)), .val (.long (v0_28 p4)), .second, .val (.int (v0_34 p4)), .unset, .unset, .unset, .unset, .unset, .unset, .unset, .unset, .unset, .unset, .unset, .unset, .unset]) rfl ?_
    show Steps p.tables e below (s₁.setTop (mkF m 36 #[.val (.long q0), .second, .val (.int p1), .val (.int p2), .val (.int p3), .val (.int p4), .val (.int (v0_4 p1)), .val (.int (v0_10 p2)), .val (.int (v0_17 p3)), .val (.long (v0_28 p4)), .second, .val (.int (v0_34 p4)), .unset, .unset, .unset, .unset, .unset, .unset, .unset, .unset, .unset, .unset, .unset, .unset, .unset] [])) _
    refine XS.iload X0.here hx rfl (hb hby at_36) rfl ?_
    exact k)
  obtain ⟨T13, L13, X13, e13, N13, pre13⟩ : ∃ (T' : State) (L' : List Loc), Stand p l e room_1 s m #[(.long q0), (.int p1), (.int p2), (.int p3), (.int p4)] below meth c T' L' 0 0 ∧ T'.heap = h0 ∧ Fr n0 L' ∧ ∀ t, Steps p.tables e below (T'.setTop (mkF m 101 #[.val (.long q0), .second, .val (.int p1), .val (.int p2), .val (.int p3), .val (.int p4), .val (.int (v0_4 p1)), .val (.int (v0_10 p2)), .val (.int (v0_17 p3)), .val (.long (v0_28 p4)), .second, .val (.int (v0_34 p4)), .val (.long (v0_101_l12 q0 p1 p2 p3 p4)), .second, .unset, .unset, .unset, .unset, .unset, .unset, .unset, .unset, .unset, .unset, .unset] [])) t → Steps p.tables e below (s₁.setTop (entryFrame m #[(.long q0), (.int p1), (.int p2), (.int p3), (.int p4)] maxLocals)) t := by
    by_cases hc38_1 : (v0_34 p4) = (0 : Int32)
    · have pre14 : ∀ t, Steps p.tables e below (s₁.setTop (mkF m 101 #[.val (.long q0), .second, .val (.int p1), .val (.int p2), .val (.int p3), .val (.int p4), .val (.int (v0_4 p1)), .val (.int (v0_10 p2)), .val (.int (v0_17 p3)), .val (.long (v0_28 p4)), .second, .val (.int (v0_34 p4)), .val (.long q0), .second, .unset, .unset, .unset, .unset, .unset, .unset, .unset, .unset, .unset, .unset, .unset] [])) t → Steps p.tables e below (s₁.setTop (entryFrame m #[(.long q0), (.int p1), (.int p2), (.int p3), (.int p4)] maxLocals)) t := fun t k => pre12 t (by
        show Steps p.tables e below (s₁.setTop (mkF m 38 #[.val (.long q0), .second, .val (.int p1), .val (.int p2), .val (.int p3), .val (.int p4), .val (.int (v0_4 p1)), .val (.int (v0_10 p2)), .val (.int (v0_17 p3)), .val (.long (v0_28 p4)), .second, .val (.int (v0_34 p4)), .unset, .unset, .unset, .unset, .unset, .unset, .unset, .unset, .unset, .unset, .unset, .unset, .unset] [(.int (v0_34 p4))])) _
        refine XS.ifNo X0.here hx rfl (hb hby at_38) rfl ((if0 _ _).trans (teq hc38_1).2) ?_
        show Steps p.tables e below (s₁.setTop (mkF m 41 #[.val (.long q0), .second, .val (.int p1), .val (.int p2), .val (.int p3), .val (.int p4), .val (.int (v0_4 p1)), .val (.int (v0_10 p2)), .val (.int (v0_17 p3)), .val (.long (v0_28 p4)), .second, .val (.int (v0_34 p4)), .unset, .unset, .unset, .unset, .unset, .unset, .unset, .unset, .unset, .unset, .unset, .unset, .unset] [])) _
        refine XS.lloadN X0.here hx rfl (hb hby at_41) rfl ?_
        show Steps p.tables e below (s₁.setTop (mkF m 42 #[.val (.long q0), .second, .val (.int p1), .val (.int p2), .val (.int p3), .val (.int p4), .val (.int (v0_4 p1)), .val (.int (v0_10 p2)), .val (.int (v0_17 p3)), .val (.long (v0_28 p4)), .second, .val (.int (v0_34 p4)), .unset, .unset, .unset, .unset, .unset, .unset, .unset, .unset, .unset, .unset, .unset, .unset, .unset] [(.long q0)])) _
        refine XS.lstore X0.here hx rfl (hb hby at_42) rfl (l' := #[.val (.long q0), .second, .val (.int p1), .val (.int p2), .val (.int p3), .val (.int p4), .val (.int (v0_4 p1)), .val (.int (v0_10 p2)), .val (.int (v0_17 p3)), .val (.long (v0_28 p4)), .second, .val (.int (v0_34 p4)), .val (.long q0), .second, .unset, .unset, .unset, .unset, .unset, .unset, .unset, .unset, .unset, .unset, .unset]) rfl ?_
        show Steps p.tables e below (s₁.setTop (mkF m 44 #[.val (.long q0), .second, .val (.int p1), .val (.int p2), .val (.int p3), .val (.int p4), .val (.int (v0_4 p1)), .val (.int (v0_10 p2)), .val (.int (v0_17 p3)), .val (.long (v0_28 p4)), .second, .val (.int (v0_34 p4)), .val (.long q0), .second, .unset, .unset, .unset, .unset, .unset, .unset, .unset, .unset, .unset, .unset, .unset] [])) _
        refine XS.goto X0.here hx rfl (pc0 := 44) (pc' := 101) rfl (hb hby at_44) (by decide) (by decide) ?_
        exact k)
      exact ⟨s₁, _, X0, e0, N0, fun t k => pre14 t (by simpa only [v0_101_l12, if_pos hc38_1] using k)⟩
    · have pre15 : ∀ t, Steps p.tables e below (s₁.setTop (mkF m 50 #[.val (.long q0), .second, .val (.int p1), .val (.int p2), .val (.int p3), .val (.int p4), .val (.int (v0_4 p1)), .val (.int (v0_10 p2)), .val (.int (v0_17 p3)), .val (.long (v0_28 p4)), .second, .val (.int (v0_34 p4)), .unset, .unset, .unset, .unset, .unset, .unset, .unset, .unset, .unset, .unset, .unset, .unset, .unset] [(.int (1 : Int32)), (.int (v0_34 p4))])) t → Steps p.tables e below (s₁.setTop (entryFrame m #[(.long q0), (.int p1), (.int p2), (.int p3), (.int p4)] maxLocals)) t := fun t k => pre12 t (by
        show Steps p.tables e below (s₁.setTop (mkF m 38 #[.val (.long q0), .second, .val (.int p1), .val (.int p2), .val (.int p3), .val (.int p4), .val (.int (v0_4 p1)), .val (.int (v0_10 p2)), .val (.int (v0_17 p3)), .val (.long (v0_28 p4)), .second, .val (.int (v0_34 p4)), .unset, .unset, .unset, .unset, .unset, .unset, .unset, .unset, .unset, .unset, .unset, .unset, .unset] [(.int (v0_34 p4))])) _
        refine XS.ifYes X0.here hx rfl (pc0 := 38) (pc' := 47) rfl (hb hby at_38) rfl ((if0 _ _).trans (feq hc38_1).2) (by decide) (by decide) ?_
        show Steps p.tables e below (s₁.setTop (mkF m 47 #[.val (.long q0), .second, .val (.int p1), .val (.int p2), .val (.int p3), .val (.int p4), .val (.int (v0_4 p1)), .val (.int (v0_10 p2)), .val (.int (v0_17 p3)), .val (.long (v0_28 p4)), .second, .val (.int (v0_34 p4)), .unset, .unset, .unset, .unset, .unset, .unset, .unset, .unset, .unset, .unset, .unset, .unset, .unset] [])) _
        refine XS.iload X0.here hx rfl (hb hby at_47) rfl ?_
        show Steps p.tables e below (s₁.setTop (mkF m 49 #[.val (.long q0), .second, .val (.int p1), .val (.int p2), .val (.int p3), .val (.int p4), .val (.int (v0_4 p1)), .val (.int (v0_10 p2)), .val (.int (v0_17 p3)), .val (.long (v0_28 p4)), .second, .val (.int (v0_34 p4)), .unset, .unset, .unset, .unset, .unset, .unset, .unset, .unset, .unset, .unset, .unset, .unset, .unset] [(.int (v0_34 p4))])) _
        refine XS.iconst X0.here hx rfl (hb hby at_49) ?_
        exact k)
      by_cases hc50_2 : (v0_34 p4) = (1 : Int32)
      · have pre16 : ∀ t, Steps p.tables e below (s₁.setTop (mkF m 101 #[.val (.long q0), .second, .val (.int p1), .val (.int p2), .val (.int p3), .val (.int p4), .val (.int (v0_4 p1)), .val (.int (v0_10 p2)), .val (.int (v0_17 p3)), .val (.long (v0_28 p4)), .second, .val (.int (v0_34 p4)), .val (.long (v0_59 p1 p4)), .second, .unset, .unset, .unset, .unset, .unset, .unset, .unset, .unset, .unset, .unset, .unset] [])) t → Steps p.tables e below (s₁.setTop (entryFrame m #[(.long q0), (.int p1), (.int p2), (.int p3), (.int p4)] maxLocals)) t := fun t k => pre15 t (by
          show Steps p.tables e below (s₁.setTop (mkF m 50 #[.val (.long q0), .second, .val (.int p1), .val (.int p2), .val (.int p3), .val (.int p4), .val (.int (v0_4 p1)), .val (.int (v0_10 p2)), .val (.int (v0_17 p3)), .val (.long (v0_28 p4)), .second, .val (.int (v0_34 p4)), .unset, .unset, .unset, .unset, .unset, .unset, .unset, .unset, .unset, .unset, .unset, .unset, .unset] [(.int (1 : Int32)), (.int (v0_34 p4))])) _
          refine XS.icmpNo X0.here hx rfl (hb hby at_50) rfl (teq hc50_2).2 ?_
          show Steps p.tables e below (s₁.setTop (mkF m 53 #[.val (.long q0), .second, .val (.int p1), .val (.int p2), .val (.int p3), .val (.int p4), .val (.int (v0_4 p1)), .val (.int (v0_10 p2)), .val (.int (v0_17 p3)), .val (.long (v0_28 p4)), .second, .val (.int (v0_34 p4)), .unset, .unset, .unset, .unset, .unset, .unset, .unset, .unset, .unset, .unset, .unset, .unset, .unset] [])) _
          refine XS.iload X0.here hx rfl (hb hby at_53) rfl ?_
          show Steps p.tables e below (s₁.setTop (mkF m 55 #[.val (.long q0), .second, .val (.int p1), .val (.int p2), .val (.int p3), .val (.int p4), .val (.int (v0_4 p1)), .val (.int (v0_10 p2)), .val (.int (v0_17 p3)), .val (.long (v0_28 p4)), .second, .val (.int (v0_34 p4)), .unset, .unset, .unset, .unset, .unset, .unset, .unset, .unset, .unset, .unset, .unset, .unset, .unset] [(.int (v0_4 p1))])) _
          refine XS.i2l X0.here hx rfl (hb hby at_55) rfl ?_
          show Steps p.tables e below (s₁.setTop (mkF m 56 #[.val (.long q0), .second, .val (.int p1), .val (.int p2), .val (.int p3), .val (.int p4), .val (.int (v0_4 p1)), .val (.int (v0_10 p2)), .val (.int (v0_17 p3)), .val (.long (v0_28 p4)), .second, .val (.int (v0_34 p4)), .unset, .unset, .unset, .unset, .unset, .unset, .unset, .unset, .unset, .unset, .unset, .unset, .unset] [(.long ((v0_4 p1).toInt64))])) _
          refine XS.lload X0.here hx rfl (hb hby at_56) rfl ?_
          show Steps p.tables e below (s₁.setTop (mkF m 58 #[.val (.long q0), .second, .val (.int p1), .val (.int p2), .val (.int p3), .val (.int p4), .val (.int (v0_4 p1)), .val (.int (v0_10 p2)), .val (.int (v0_17 p3)), .val (.long (v0_28 p4)), .second, .val (.int (v0_34 p4)), .unset, .unset, .unset, .unset, .unset, .unset, .unset, .unset, .unset, .unset, .unset, .unset, .unset] [(.long (v0_28 p4)), (.long ((v0_4 p1).toInt64))])) _
          refine XS.ladd X0.here hx rfl (hb hby at_58) rfl ?_
          show Steps p.tables e below (s₁.setTop (mkF m 59 #[.val (.long q0), .second, .val (.int p1), .val (.int p2), .val (.int p3), .val (.int p4), .val (.int (v0_4 p1)), .val (.int (v0_10 p2)), .val (.int (v0_17 p3)), .val (.long (v0_28 p4)), .second, .val (.int (v0_34 p4)), .unset, .unset, .unset, .unset, .unset, .unset, .unset, .unset, .unset, .unset, .unset, .unset, .unset] [(.long (((v0_4 p1).toInt64) + (v0_28 p4)))])) _
          refine XS.lstore X0.here hx rfl (hb hby at_59) rfl (l' := #[.val (.long q0), .second, .val (.int p1), .val (.int p2), .val (.int p3), .val (.int p4), .val (.int (v0_4 p1)), .val (.int (v0_10 p2)), .val (.int (v0_17 p3)), .val (.long (v0_28 p4)), .second, .val (.int (v0_34 p4)), .val (.long (v0_59 p1 p4)), .second, .unset, .unset, .unset, .unset, .unset, .unset, .unset, .unset, .unset, .unset, .unset]) rfl ?_
          show Steps p.tables e below (s₁.setTop (mkF m 61 #[.val (.long q0), .second, .val (.int p1), .val (.int p2), .val (.int p3), .val (.int p4), .val (.int (v0_4 p1)), .val (.int (v0_10 p2)), .val (.int (v0_17 p3)), .val (.long (v0_28 p4)), .second, .val (.int (v0_34 p4)), .val (.long (v0_59 p1 p4)), .second, .unset, .unset, .unset, .unset, .unset, .unset, .unset, .unset, .unset, .unset, .unset] [])) _
          refine XS.goto X0.here hx rfl (pc0 := 61) (pc' := 101) rfl (hb hby at_61) (by decide) (by decide) ?_
          exact k)
        exact ⟨s₁, _, X0, e0, N0, fun t k => pre16 t (by simpa only [v0_101_l12, if_neg hc38_1, if_pos hc50_2] using k)⟩
      · have pre17 : ∀ t, Steps p.tables e below (s₁.setTop (mkF m 67 #[.val (.long q0), .second, .val (.int p1), .val (.int p2), .val (.int p3), .val (.int p4), .val (.int (v0_4 p1)), .val (.int (v0_10 p2)), .val (.int (v0_17 p3)), .val (.long (v0_28 p4)), .second, .val (.int (v0_34 p4)), .unset, .unset, .unset, .unset, .unset, .unset, .unset, .unset, .unset, .unset, .unset, .unset, .unset] [(.int (2 : Int32)), (.int (v0_34 p4))])) t → Steps p.tables e below (s₁.setTop (entryFrame m #[(.long q0), (.int p1), (.int p2), (.int p3), (.int p4)] maxLocals)) t := fun t k => pre15 t (by
          show Steps p.tables e below (s₁.setTop (mkF m 50 #[.val (.long q0), .second, .val (.int p1), .val (.int p2), .val (.int p3), .val (.int p4), .val (.int (v0_4 p1)), .val (.int (v0_10 p2)), .val (.int (v0_17 p3)), .val (.long (v0_28 p4)), .second, .val (.int (v0_34 p4)), .unset, .unset, .unset, .unset, .unset, .unset, .unset, .unset, .unset, .unset, .unset, .unset, .unset] [(.int (1 : Int32)), (.int (v0_34 p4))])) _
          refine XS.icmpYes X0.here hx rfl (pc0 := 50) (pc' := 64) rfl (hb hby at_50) rfl (feq hc50_2).2 (by decide) (by decide) ?_
          show Steps p.tables e below (s₁.setTop (mkF m 64 #[.val (.long q0), .second, .val (.int p1), .val (.int p2), .val (.int p3), .val (.int p4), .val (.int (v0_4 p1)), .val (.int (v0_10 p2)), .val (.int (v0_17 p3)), .val (.long (v0_28 p4)), .second, .val (.int (v0_34 p4)), .unset, .unset, .unset, .unset, .unset, .unset, .unset, .unset, .unset, .unset, .unset, .unset, .unset] [])) _
          refine XS.iload X0.here hx rfl (hb hby at_64) rfl ?_
          show Steps p.tables e below (s₁.setTop (mkF m 66 #[.val (.long q0), .second, .val (.int p1), .val (.int p2), .val (.int p3), .val (.int p4), .val (.int (v0_4 p1)), .val (.int (v0_10 p2)), .val (.int (v0_17 p3)), .val (.long (v0_28 p4)), .second, .val (.int (v0_34 p4)), .unset, .unset, .unset, .unset, .unset, .unset, .unset, .unset, .unset, .unset, .unset, .unset, .unset] [(.int (v0_34 p4))])) _
          refine XS.iconst X0.here hx rfl (hb hby at_66) ?_
          exact k)
        by_cases hc67_3 : (v0_34 p4) = (2 : Int32)
        · have pre18 : ∀ t, Steps p.tables e below (s₁.setTop (mkF m 101 #[.val (.long q0), .second, .val (.int p1), .val (.int p2), .val (.int p3), .val (.int p4), .val (.int (v0_4 p1)), .val (.int (v0_10 p2)), .val (.int (v0_17 p3)), .val (.long (v0_28 p4)), .second, .val (.int (v0_34 p4)), .val (.long (v0_80 p1 p2 p4)), .second, .unset, .unset, .unset, .unset, .unset, .unset, .unset, .unset, .unset, .unset, .unset] [])) t → Steps p.tables e below (s₁.setTop (entryFrame m #[(.long q0), (.int p1), (.int p2), (.int p3), (.int p4)] maxLocals)) t := fun t k => pre17 t (by
            show Steps p.tables e below (s₁.setTop (mkF m 67 #[.val (.long q0), .second, .val (.int p1), .val (.int p2), .val (.int p3), .val (.int p4), .val (.int (v0_4 p1)), .val (.int (v0_10 p2)), .val (.int (v0_17 p3)), .val (.long (v0_28 p4)), .second, .val (.int (v0_34 p4)), .unset, .unset, .unset, .unset, .unset, .unset, .unset, .unset, .unset, .unset, .unset, .unset, .unset] [(.int (2 : Int32)), (.int (v0_34 p4))])) _
            refine XS.icmpNo X0.here hx rfl (hb hby at_67) rfl (teq hc67_3).2 ?_
            show Steps p.tables e below (s₁.setTop (mkF m 70 #[.val (.long q0), .second, .val (.int p1), .val (.int p2), .val (.int p3), .val (.int p4), .val (.int (v0_4 p1)), .val (.int (v0_10 p2)), .val (.int (v0_17 p3)), .val (.long (v0_28 p4)), .second, .val (.int (v0_34 p4)), .unset, .unset, .unset, .unset, .unset, .unset, .unset, .unset, .unset, .unset, .unset, .unset, .unset] [])) _
            refine XS.iload X0.here hx rfl (hb hby at_70) rfl ?_
            show Steps p.tables e below (s₁.setTop (mkF m 72 #[.val (.long q0), .second, .val (.int p1), .val (.int p2), .val (.int p3), .val (.int p4), .val (.int (v0_4 p1)), .val (.int (v0_10 p2)), .val (.int (v0_17 p3)), .val (.long (v0_28 p4)), .second, .val (.int (v0_34 p4)), .unset, .unset, .unset, .unset, .unset, .unset, .unset, .unset, .unset, .unset, .unset, .unset, .unset] [(.int (v0_4 p1))])) _
            refine XS.i2l X0.here hx rfl (hb hby at_72) rfl ?_
            show Steps p.tables e below (s₁.setTop (mkF m 73 #[.val (.long q0), .second, .val (.int p1), .val (.int p2), .val (.int p3), .val (.int p4), .val (.int (v0_4 p1)), .val (.int (v0_10 p2)), .val (.int (v0_17 p3)), .val (.long (v0_28 p4)), .second, .val (.int (v0_34 p4)), .unset, .unset, .unset, .unset, .unset, .unset, .unset, .unset, .unset, .unset, .unset, .unset, .unset] [(.long ((v0_4 p1).toInt64))])) _
            refine XS.iload X0.here hx rfl (hb hby at_73) rfl ?_
            show Steps p.tables e below (s₁.setTop (mkF m 75 #[.val (.long q0), .second, .val (.int p1), .val (.int p2), .val (.int p3), .val (.int p4), .val (.int (v0_4 p1)), .val (.int (v0_10 p2)), .val (.int (v0_17 p3)), .val (.long (v0_28 p4)), .second, .val (.int (v0_34 p4)), .unset, .unset, .unset, .unset, .unset, .unset, .unset, .unset, .unset, .unset, .unset, .unset, .unset] [(.int (v0_10 p2)), (.long ((v0_4 p1).toInt64))])) _
            refine XS.i2l X0.here hx rfl (hb hby at_75) rfl ?_
            show Steps p.tables e below (s₁.setTop (mkF m 76 #[.val (.long q0), .second, .val (.int p1), .val (.int p2), .val (.int p3), .val (.int p4), .val (.int (v0_4 p1)), .val (.int (v0_10 p2)), .val (.int (v0_17 p3)), .val (.long (v0_28 p4)), .second, .val (.int (v0_34 p4)), .unset, .unset, .unset, .unset, .unset, .unset, .unset, .unset, .unset, .unset, .unset, .unset, .unset] [(.long ((v0_10 p2).toInt64)), (.long ((v0_4 p1).toInt64))])) _
            refine XS.ladd X0.here hx rfl (hb hby at_76) rfl ?_
            show Steps p.tables e below (s₁.setTop (mkF m 77 #[.val (.long q0), .second, .val (.int p1), .val (.int p2), .val (.int p3), .val (.int p4), .val (.int (v0_4 p1)), .val (.int (v0_10 p2)), .val (.int (v0_17 p3)), .val (.long (v0_28 p4)), .second, .val (.int (v0_34 p4)), .unset, .unset, .unset, .unset, .unset, .unset, .unset, .unset, .unset, .unset, .unset, .unset, .unset] [(.long (((v0_4 p1).toInt64) + ((v0_10 p2).toInt64)))])) _
            refine XS.lload X0.here hx rfl (hb hby at_77) rfl ?_
            show Steps p.tables e below (s₁.setTop (mkF m 79 #[.val (.long q0), .second, .val (.int p1), .val (.int p2), .val (.int p3), .val (.int p4), .val (.int (v0_4 p1)), .val (.int (v0_10 p2)), .val (.int (v0_17 p3)), .val (.long (v0_28 p4)), .second, .val (.int (v0_34 p4)), .unset, .unset, .unset, .unset, .unset, .unset, .unset, .unset, .unset, .unset, .unset, .unset, .unset] [(.long (v0_28 p4)), (.long (((v0_4 p1).toInt64) + ((v0_10 p2).toInt64)))])) _
            refine XS.ladd X0.here hx rfl (hb hby at_79) rfl ?_
            show Steps p.tables e below (s₁.setTop (mkF m 80 #[.val (.long q0), .second, .val (.int p1), .val (.int p2), .val (.int p3), .val (.int p4), .val (.int (v0_4 p1)), .val (.int (v0_10 p2)), .val (.int (v0_17 p3)), .val (.long (v0_28 p4)), .second, .val (.int (v0_34 p4)), .unset, .unset, .unset, .unset, .unset, .unset, .unset, .unset, .unset, .unset, .unset, .unset, .unset] [(.long ((((v0_4 p1).toInt64) + ((v0_10 p2).toInt64)) + (v0_28 p4)))])) _
            refine XS.lstore X0.here hx rfl (hb hby at_80) rfl (l' := #[.val (.long q0), .second, .val (.int p1), .val (.int p2), .val (.int p3), .val (.int p4), .val (.int (v0_4 p1)), .val (.int (v0_10 p2)), .val (.int (v0_17 p3)), .val (.long (v0_28 p4)), .second, .val (.int (v0_34 p4)), .val (.long (v0_80 p1 p2 p4)), .second, .unset, .unset, .unset, .unset, .unset, .unset, .unset, .unset, .unset, .unset, .unset]) rfl ?_
            show Steps p.tables e below (s₁.setTop (mkF m 82 #[.val (.long q0), .second, .val (.int p1), .val (.int p2), .val (.int p3), .val (.int p4), .val (.int (v0_4 p1)), .val (.int (v0_10 p2)), .val (.int (v0_17 p3)), .val (.long (v0_28 p4)), .second, .val (.int (v0_34 p4)), .val (.long (v0_80 p1 p2 p4)), .second, .unset, .unset, .unset, .unset, .unset, .unset, .unset, .unset, .unset, .unset, .unset] [])) _
            refine XS.goto X0.here hx rfl (pc0 := 82) (pc' := 101) rfl (hb hby at_82) (by decide) (by decide) ?_
            exact k)
          exact ⟨s₁, _, X0, e0, N0, fun t k => pre18 t (by simpa only [v0_101_l12, if_neg hc38_1, if_neg hc50_2, if_pos hc67_3] using k)⟩
        · have pre19 : ∀ t, Steps p.tables e below (s₁.setTop (mkF m 101 #[.val (.long q0), .second, .val (.int p1), .val (.int p2), .val (.int p3), .val (.int p4), .val (.int (v0_4 p1)), .val (.int (v0_10 p2)), .val (.int (v0_17 p3)), .val (.long (v0_28 p4)), .second, .val (.int (v0_34 p4)), .val (.long (v0_99 p1 p2 p3 p4)), .second, .unset, .unset, .unset, .unset, .unset, .unset, .unset, .unset, .unset, .unset, .unset] [])) t → Steps p.tables e below (s₁.setTop (entryFrame m #[(.long q0), (.int p1), (.int p2), (.int p3), (.int p4)] maxLocals)) t := fun t k => pre17 t (by
            show Steps p.tables e below (s₁.setTop (mkF m 67 #[.val (.long q0), .second, .val (.int p1), .val (.int p2), .val (.int p3), .val (.int p4), .val (.int (v0_4 p1)), .val (.int (v0_10 p2)), .val (.int (v0_17 p3)), .val (.long (v0_28 p4)), .second, .val (.int (v0_34 p4)), .unset, .unset, .unset, .unset, .unset, .unset, .unset, .unset, .unset, .unset, .unset, .unset, .unset] [(.int (2 : Int32)), (.int (v0_34 p4))])) _
            refine XS.icmpYes X0.here hx rfl (pc0 := 67) (pc' := 85) rfl (hb hby at_67) rfl (feq hc67_3).2 (by decide) (by decide) ?_
            show Steps p.tables e below (s₁.setTop (mkF m 85 #[.val (.long q0), .second, .val (.int p1), .val (.int p2), .val (.int p3), .val (.int p4), .val (.int (v0_4 p1)), .val (.int (v0_10 p2)), .val (.int (v0_17 p3)), .val (.long (v0_28 p4)), .second, .val (.int (v0_34 p4)), .unset, .unset, .unset, .unset, .unset, .unset, .unset, .unset, .unset, .unset, .unset, .unset, .unset] [])) _
            refine XS.iload X0.here hx rfl (hb hby at_85) rfl ?_
            show Steps p.tables e below (s₁.setTop (mkF m 87 #[.val (.long q0), .second, .val (.int p1), .val (.int p2), .val (.int p3), .val (.int p4), .val (.int (v0_4 p1)), .val (.int (v0_10 p2)), .val (.int (v0_17 p3)), .val (.long (v0_28 p4)), .second, .val (.int (v0_34 p4)), .unset, .unset, .unset, .unset, .unset, .unset, .unset, .unset, .unset, .unset, .unset, .unset, .unset] [(.int (v0_4 p1))])) _
            refine XS.i2l X0.here hx rfl (hb hby at_87) rfl ?_
            show Steps p.tables e below (s₁.setTop (mkF m 88 #[.val (.long q0), .second, .val (.int p1), .val (.int p2), .val (.int p3), .val (.int p4), .val (.int (v0_4 p1)), .val (.int (v0_10 p2)), .val (.int (v0_17 p3)), .val (.long (v0_28 p4)), .second, .val (.int (v0_34 p4)), .unset, .unset, .unset, .unset, .unset, .unset, .unset, .unset, .unset, .unset, .unset, .unset, .unset] [(.long ((v0_4 p1).toInt64))])) _
            refine XS.iload X0.here hx rfl (hb hby at_88) rfl ?_
            show Steps p.tables e below (s₁.setTop (mkF m 90 #[.val (.long q0), .second, .val (.int p1), .val (.int p2), .val (.int p3), .val (.int p4), .val (.int (v0_4 p1)), .val (.int (v0_10 p2)), .val (.int (v0_17 p3)), .val (.long (v0_28 p4)), .second, .val (.int (v0_34 p4)), .unset, .unset, .unset, .unset, .unset, .unset, .unset, .unset, .unset, .unset, .unset, .unset, .unset] [(.int (v0_10 p2)), (.long ((v0_4 p1).toInt64))])) _
            refine XS.i2l X0.here hx rfl (hb hby at_90) rfl ?_
            show Steps p.tables e below (s₁.setTop (mkF m 91 #[.val (.long q0), .second, .val (.int p1), .val (.int p2), .val (.int p3), .val (.int p4), .val (.int (v0_4 p1)), .val (.int (v0_10 p2)), .val (.int (v0_17 p3)), .val (.long (v0_28 p4)), .second, .val (.int (v0_34 p4)), .unset, .unset, .unset, .unset, .unset, .unset, .unset, .unset, .unset, .unset, .unset, .unset, .unset] [(.long ((v0_10 p2).toInt64)), (.long ((v0_4 p1).toInt64))])) _
            refine XS.ladd X0.here hx rfl (hb hby at_91) rfl ?_
            show Steps p.tables e below (s₁.setTop (mkF m 92 #[.val (.long q0), .second, .val (.int p1), .val (.int p2), .val (.int p3), .val (.int p4), .val (.int (v0_4 p1)), .val (.int (v0_10 p2)), .val (.int (v0_17 p3)), .val (.long (v0_28 p4)), .second, .val (.int (v0_34 p4)), .unset, .unset, .unset, .unset, .unset, .unset, .unset, .unset, .unset, .unset, .unset, .unset, .unset] [(.long (((v0_4 p1).toInt64) + ((v0_10 p2).toInt64)))])) _
            refine XS.iload X0.here hx rfl (hb hby at_92) rfl ?_
            show Steps p.tables e below (s₁.setTop (mkF m 94 #[.val (.long q0), .second, .val (.int p1), .val (.int p2), .val (.int p3), .val (.int p4), .val (.int (v0_4 p1)), .val (.int (v0_10 p2)), .val (.int (v0_17 p3)), .val (.long (v0_28 p4)), .second, .val (.int (v0_34 p4)), .unset, .unset, .unset, .unset, .unset, .unset, .unset, .unset, .unset, .unset, .unset, .unset, .unset] [(.int (v0_17 p3)), (.long (((v0_4 p1).toInt64) + ((v0_10 p2).toInt64)))])) _
            refine XS.i2l X0.here hx rfl (hb hby at_94) rfl ?_
            show Steps p.tables e below (s₁.setTop (mkF m 95 #[.val (.long q0), .second, .val (.int p1), .val (.int p2), .val (.int p3), .val (.int p4), .val (.int (v0_4 p1)), .val (.int (v0_10 p2)), .val (.int (v0_17 p3)), .val (.long (v0_28 p4)), .second, .val (.int (v0_34 p4)), .unset, .unset, .unset, .unset, .unset, .unset, .unset, .unset, .unset, .unset, .unset, .unset, .unset] [(.long ((v0_17 p3).toInt64)), (.long (((v0_4 p1).toInt64) + ((v0_10 p2).toInt64)))])) _
            refine XS.ladd X0.here hx rfl (hb hby at_95) rfl ?_
            show Steps p.tables e below (s₁.setTop (mkF m 96 #[.val (.long q0), .second, .val (.int p1), .val (.int p2), .val (.int p3), .val (.int p4), .val (.int (v0_4 p1)), .val (.int (v0_10 p2)), .val (.int (v0_17 p3)), .val (.long (v0_28 p4)), .second, .val (.int (v0_34 p4)), .unset, .unset, .unset, .unset, .unset, .unset, .unset, .unset, .unset, .unset, .unset, .unset, .unset] [(.long ((((v0_4 p1).toInt64) + ((v0_10 p2).toInt64)) + ((v0_17 p3).toInt64)))])) _
            refine XS.lload X0.here hx rfl (hb hby at_96) rfl ?_
            show Steps p.tables e below (s₁.setTop (mkF m 98 #[.val (.long q0), .second, .val (.int p1), .val (.int p2), .val (.int p3), .val (.int p4), .val (.int (v0_4 p1)), .val (.int (v0_10 p2)), .val (.int (v0_17 p3)), .val (.long (v0_28 p4)), .second, .val (.int (v0_34 p4)), .unset, .unset, .unset, .unset, .unset, .unset, .unset, .unset, .unset, .unset, .unset, .unset, .unset] [(.long (v0_28 p4)), (.long ((((v0_4 p1).toInt64) + ((v0_10 p2).toInt64)) + ((v0_17 p3).toInt64)))])) _
            refine XS.ladd X0.here hx rfl (hb hby at_98) rfl ?_
            show Steps p.tables e below (s₁.setTop (mkF m 99 #[.val (.long q0), .second, .val (.int p1), .val (.int p2), .val (.int p3), .val (.int p4), .val (.int (v0_4 p1)), .val (.int (v0_10 p2)), .val (.int (v0_17 p3)), .val (.long (v0_28 p4)), .second, .val (.int (v0_34 p4)), .unset, .unset, .unset, .unset, .unset, .unset, .unset, .unset, .unset, .unset, .unset, .unset, .unset] [(.long (((((v0_4 p1).toInt64) + ((v0_10 p2).toInt64)) + ((v0_17 p3).toInt64)) + (v0_28 p4)))])) _
            refine XS.lstore X0.here hx rfl (hb hby at_99) rfl (l' := #[.val (.long q0), .second, .val (.int p1), .val (.int p2), .val (.int p3), .val (.int p4), .val (.int (v0_4 p1)), .val (.int (v0_10 p2)), .val (.int (v0_17 p3)), .val (.long (v0_28 p4)), .second, .val (.int (v0_34 p4)), .val (.long (v0_99 p1 p2 p3 p4)), .second, .unset, .unset, .unset, .unset, .unset, .unset, .unset, .unset, .unset, .unset, .unset]) rfl ?_
            exact k)
          exact ⟨s₁, _, X0, e0, N0, fun t k => pre19 t (by simpa only [v0_101_l12, if_neg hc38_1, if_neg hc50_2, if_neg hc67_3] using k)⟩
  obtain ⟨T20, h20, X20, e20, E20, A20, D20, -, st20⟩ := newO X13 hx hZ hown (hw _ (List.mem_of_getElem? (i := 1) rfl)) (hw _ (List.mem_of_getElem? (i := 2) rfl)) (hw _ (List.mem_of_getElem? (i := 3) rfl)) e13 (g := (mkF m 101 #[.val (.long q0), .second, .val (.int p1), .val (.int p2), .val (.int p3), .val (.int p4), .val (.int (v0_4 p1)), .val (.int (v0_10 p2)), .val (.int (v0_17 p3)), .val (.long (v0_28 p4)), .second, .val (.int (v0_34 p4)), .val (.long (v0_101_l12 q0 p1 p2 p3 p4)), .second, .unset, .unset, .unset, .unset, .unset, .unset, .unset, .unset, .unset, .unset, .unset] [])) rfl (hb hby at_101) (by decide) (by decide)
  obtain ⟨b101, g20⟩ : ∃ z, z = h0.size := ⟨_, rfl⟩
  rw [← g20] at A20 D20 st20
  have gg20 : n0 ≤ b101 := Nat.le_trans Z0 (Nat.le_of_eq g20.symm)
  have sz20 : h0.size ≤ b101 := Nat.le_trans K0.1 (Nat.le_of_eq g20.symm)
  have K20 : Keep h0 h20 [] := K0.ext E20
  have Z20 : n0 ≤ h20.size := Nat.le_trans Z0 E20.1
  have Fn20_left : Fld Z h20 b101 "com/example/pedantic_conformance/pedanticconformance/rules/safetycenter/PairingBudget" "left" "J" (.long (0 : Int64)) := D20 (Or.inl (hw _ (List.mem_of_getElem? (i := 11) rfl))) (ty := .long) (by decide)
  have pre21 : ∀ t, Steps p.tables e below (T20.setTop (mkF m 104 #[.val (.long q0), .second, .val (.int p1), .val (.int p2), .val (.int p3), .val (.int p4), .val (.int (v0_4 p1)), .val (.int (v0_10 p2)), .val (.int (v0_17 p3)), .val (.long (v0_28 p4)), .second, .val (.int (v0_34 p4)), .val (.long (v0_101_l12 q0 p1 p2 p3 p4)), .second, .unset, .unset, .unset, .unset, .unset, .unset, .unset, .unset, .unset, .unset, .unset] [(.ref b101)])) t → Steps p.tables e below (s₁.setTop (entryFrame m #[(.long q0), (.int p1), (.int p2), (.int p3), (.int p4)] maxLocals)) t := fun t k => pre13 t (st20 _ k)
  have pre22 : ∀ t, Steps p.tables e below (T20.setTop (mkF m 107 #[.val (.long q0), .second, .val (.int p1), .val (.int p2), .val (.int p3), .val (.int p4), .val (.int (v0_4 p1)), .val (.int (v0_10 p2)), .val (.int (v0_17 p3)), .val (.long (v0_28 p4)), .second, .val (.int (v0_34 p4)), .val (.long (v0_101_l12 q0 p1 p2 p3 p4)), .second, .unset, .unset, .unset, .unset, .unset, .unset, .unset, .unset, .unset, .unset, .unset] [(.long (v0_101_l12 q0 p1 p2 p3 p4)), (.ref b101), (.ref b101)])) t → Steps p.tables e below (s₁.setTop (entryFrame m #[(.long q0), (.int p1), (.int p2), (.int p3), (.int p4)] maxLocals)) t := fun t k => pre21 t (by
    show Steps p.tables e below (T20.setTop (mkF m 104 #[.val (.long q0), .second, .val (.int p1), .val (.int p2), .val (.int p3), .val (.int p4), .val (.int (v0_4 p1)), .val (.int (v0_10 p2)), .val (.int (v0_17 p3)), .val (.long (v0_28 p4)), .second, .val (.int (v0_34 p4)), .val (.long (v0_101_l12 q0 p1 p2 p3 p4)), .second, .unset, .unset, .unset, .unset, .unset, .unset, .unset, .unset, .unset, .unset, .unset] [(.ref b101)])) _
    refine XS.dup X20.here hx rfl (hb hby at_104) rfl rfl ?_
    show Steps p.tables e below (T20.setTop (mkF m 105 #[.val (.long q0), .second, .val (.int p1), .val (.int p2), .val (.int p3), .val (.int p4), .val (.int (v0_4 p1)), .val (.int (v0_10 p2)), .val (.int (v0_17 p3)), .val (.long (v0_28 p4)), .second, .val (.int (v0_34 p4)), .val (.long (v0_101_l12 q0 p1 p2 p3 p4)), .second, .unset, .unset, .unset, .unset, .unset, .unset, .unset, .unset, .unset, .unset, .unset] [(.ref b101), (.ref b101)])) _
    refine XS.lload X20.here hx rfl (hb hby at_105) rfl ?_
    exact k)
  obtain ⟨_, _, ⟨T23, L23, k23, n23⟩, -, X23, ⟨Lc23, hQ23, l23, y23, z23⟩, st23⟩ := X20.specialBack hx (y := (⟨"com/example/pedantic_conformance/pedanticconformance/rules/safetycenter/PairingBudget", "<init>", "(J)V"⟩ : MethodName)) rfl hown (mvT hZ (hw _ (List.mem_of_getElem? (i := 4) rfl))) (mvT hZ (hw _ (List.mem_of_getElem? (i := 5) rfl))) (mvT hZ (hw _ (List.mem_of_getElem? (i := 6) rfl))) (by decide) (backOf (W := 1) (rm1 l Z a0 hw [] b101 (v0_101_l12 q0 p1 p2 p3 p4) h20 n0 Z20 A20 Fn20_left gg20) hZ (hw _ (List.mem_of_getElem? (i := 6) rfl)) (hw _ (List.mem_of_getElem? (i := 3) rfl)) (by decide) (by decide)) (g := (mkF m 107 #[.val (.long q0), .second, .val (.int p1), .val (.int p2), .val (.int p3), .val (.int p4), .val (.int (v0_4 p1)), .val (.int (v0_10 p2)), .val (.int (v0_17 p3)), .val (.long (v0_28 p4)), .second, .val (.int (v0_34 p4)), .val (.long (v0_101_l12 q0 p1 p2 p3 p4)), .second, .unset, .unset, .unset, .unset, .unset, .unset, .unset, .unset, .unset, .unset, .unset] [(.long (v0_101_l12 q0 p1 p2 p3 p4)), (.ref b101), (.ref b101)])) rfl (by rw [hml]; rfl) (Steps.refl _) (a := b101) (argsL := [(.long (v0_101_l12 q0 p1 p2 p3 p4))]) (rest := [(.ref b101)]) (lenOf pd__J_V rfl) rfl (by show 2 * 0 + _ ≤ _; exact Nat.le_of_eq rfl) (hb hby at_107) (fun _ _ => ⟨rfl, e20, (by decide : 1 + 0 ≤ _), (by decide : 1 + 0 ≤ _)⟩)
  dsimp only [Pt.U, Pt.locs, Pt.cells, Pt.slots] at X23 l23 y23 z23 st23 hQ23
  subst l23 y23 z23
  obtain ⟨rfl, Nq23, Kq23, o23_0, o23_1⟩ := hQ23
  have N23 := Fr.app N13 Nq23
  have K23 : Keep h0 T23.heap [] := K20.trans Kq23 (allS (Or.inr sz20) all0)
  have Z23 : n0 ≤ T23.heap.size := Nat.le_trans Z20 Kq23.1
  have x24 := A20.keep Kq23
  have pre25 : ∀ t, Steps p.tables e below (T23.setTop (mkF m 110 #[.val (.long q0), .second, .val (.int p1), .val (.int p2), .val (.int p3), .val (.int p4), .val (.int (v0_4 p1)), .val (.int (v0_10 p2)), .val (.int (v0_17 p3)), .val (.long (v0_28 p4)), .second, .val (.int (v0_34 p4)), .val (.long (v0_101_l12 q0 p1 p2 p3 p4)), .second, .unset, .unset, .unset, .unset, .unset, .unset, .unset, .unset, .unset, .unset, .unset] [(.ref b101)])) t → Steps p.tables e below (s₁.setTop (entryFrame m #[(.long q0), (.int p1), (.int p2), (.int p3), (.int p4)] maxLocals)) t := fun t k => pre22 t (st23.trans k)
  have pre26 : ∀ t, Steps p.tables e below (T23.setTop (mkF m 116 #[.val (.long q0), .second, .val (.int p1), .val (.int p2), .val (.int p3), .val (.int p4), .val (.int (v0_4 p1)), .val (.int (v0_10 p2)), .val (.int (v0_17 p3)), .val (.long (v0_28 p4)), .second, .val (.int (v0_34 p4)), .val (.long (v0_101_l12 q0 p1 p2 p3 p4)), .second, .val (.ref b101), .unset, .unset, .unset, .unset, .unset, .unset, .unset, .unset, .unset, .unset] [(.int (v0_4 p1)), (.ref b101)])) t → Steps p.tables e below (s₁.setTop (entryFrame m #[(.long q0), (.int p1), (.int p2), (.int p3), (.int p4)] maxLocals)) t := fun t k => pre25 t (by
    show Steps p.tables e below (T23.setTop (mkF m 110 #[.val (.long q0), .second, .val (.int p1), .val (.int p2), .val (.int p3), .val (.int p4), .val (.int (v0_4 p1)), .val (.int (v0_10 p2)), .val (.int (v0_17 p3)), .val (.long (v0_28 p4)), .second, .val (.int (v0_34 p4)), .val (.long (v0_101_l12 q0 p1 p2 p3 p4)), .second, .unset, .unset, .unset, .unset, .unset, .unset, .unset, .unset, .unset, .unset, .unset] [(.ref b101)])) _
    refine XS.astore X23.here hx rfl (hb hby at_110) rfl rfl (l' := #[.val (.long q0), .second, .val (.int p1), .val (.int p2), .val (.int p3), .val (.int p4), .val (.int (v0_4 p1)), .val (.int (v0_10 p2)), .val (.int (v0_17 p3)), .val (.long (v0_28 p4)), .second, .val (.int (v0_34 p4)), .val (.long (v0_101_l12 q0 p1 p2 p3 p4)), .second, .val (.ref b101), .unset, .unset, .unset, .unset, .unset, .unset, .unset, .unset, .unset, .unset]) rfl ?_
    show Steps p.tables e below (T23.setTop (mkF m 112 #[.val (.long q0), .second, .val (.int p1), .val (.int p2), .val (.int p3), .val (.int p4), .val (.int (v0_4 p1)), .val (.int (v0_10 p2)), .val (.int (v0_17 p3)), .val (.long (v0_28 p4)), .second, .val (.int (v0_34 p4)), .val (.long (v0_101_l12 q0 p1 p2 p3 p4)), .second, .val (.ref b101), .unset, .unset, .unset, .unset, .unset, .unset, .unset, .unset, .unset, .unset] [])) _
    refine XS.aload X23.here hx rfl (hb hby at_112) rfl rfl ?_
    show Steps p.tables e below (T23.setTop (mkF m 114 #[.val (.long q0), .second, .val (.int p1), .val (.int p2), .val (.int p3), .val (.int p4), .val (.int (v0_4 p1)), .val (.int (v0_10 p2)), .val (.int (v0_17 p3)), .val (.long (v0_28 p4)), .second, .val (.int (v0_34 p4)), .val (.long (v0_101_l12 q0 p1 p2 p3 p4)), .second, .val (.ref b101), .unset, .unset, .unset, .unset, .unset, .unset, .unset, .unset, .unset, .unset] [(.ref b101)])) _
    refine XS.iload X23.here hx rfl (hb hby at_114) rfl ?_
    exact k)
  obtain ⟨cq27, kq27, q27a, q27b, q27c⟩ := isOf hZ rfl o23_0
  obtain ⟨_, _, ⟨T27, L27, k27, n27⟩, -, X27, ⟨Lc27, hQ27, l27, y27, z27⟩, st27⟩ := X23.virtualBack hx (y := (⟨"com/example/pedantic_conformance/pedanticconformance/rules/safetycenter/PairingBudget", "spend", "(I)Z"⟩ : MethodName)) (z := (⟨"com/example/pedantic_conformance/pedanticconformance/rules/safetycenter/PairingBudget", "spend", "(I)Z"⟩ : MethodName)) hown (mvT hZ (hw _ (List.mem_of_getElem? (i := 12) rfl))) (mvT hZ (hw _ (List.mem_of_getElem? (i := 13) rfl))) (notFace_of_selects (args := #[]) (mvT hZ (hw _ (List.mem_of_getElem? (i := 15) rfl)))) (mvT hZ (hw _ (List.mem_of_getElem? (i := 15) rfl))) (mvT hZ (hw _ (List.mem_of_getElem? (i := 14) rfl))) (by decide) (backOf (W := 0) (rm3 l Z a0 hw [] b101 (v0_4 p1) (v0_101_l12 q0 p1 p2 p3 p4) T23.heap n0 Z23 o23_0 o23_1 gg20) hZ (hw _ (List.mem_of_getElem? (i := 16) rfl)) (hw _ (List.mem_of_getElem? (i := 3) rfl)) (by decide) (by decide)) q27a q27c (g := (mkF m 116 #[.val (.long q0), .second, .val (.int p1), .val (.int p2), .val (.int p3), .val (.int p4), .val (.int (v0_4 p1)), .val (.int (v0_10 p2)), .val (.int (v0_17 p3)), .val (.long (v0_28 p4)), .second, .val (.int (v0_34 p4)), .val (.long (v0_101_l12 q0 p1 p2 p3 p4)), .second, .val (.ref b101), .unset, .unset, .unset, .unset, .unset, .unset, .unset, .unset, .unset, .unset] [(.int (v0_4 p1)), (.ref b101)])) rfl (by rw [hml]; rfl) (Steps.refl _) (argsL := [(.int (v0_4 p1))]) (rest := []) (lenOf pd__I_Z rfl) rfl (by show 2 * 0 + _ ≤ _; exact Nat.le_of_eq rfl) (hb hby at_116) (fun _ _ => ⟨rfl, rfl, (by decide : 1 + 0 ≤ _), (by decide : 1 + 0 ≤ _)⟩)
  dsimp only [Pt.U, Pt.locs, Pt.cells, Pt.slots] at X27 l27 y27 z27 st27 hQ27
  subst l27 y27 z27
  obtain ⟨rfl, Nq27, Kq27, o27_0, o27_1⟩ := hQ27
  have N27 := Fr.app N23 Nq27
  have K27 : Keep h0 T27.heap [] := K23.trans Kq27 (allS (Or.inr sz20) all0)
  have Z27 : n0 ≤ T27.heap.size := Nat.le_trans Z23 Kq27.1
  have x28 := o23_0.keep Kq27
  have pre29 : ∀ t, Steps p.tables e below (T27.setTop (mkF m 119 #[.val (.long q0), .second, .val (.int p1), .val (.int p2), .val (.int p3), .val (.int p4), .val (.int (v0_4 p1)), .val (.int (v0_10 p2)), .val (.int (v0_17 p3)), .val (.long (v0_28 p4)), .second, .val (.int (v0_34 p4)), .val (.long (v0_101_l12 q0 p1 p2 p3 p4)), .second, .val (.ref b101), .unset, .unset, .unset, .unset, .unset, .unset, .unset, .unset, .unset, .unset] [(.int (f3 (v0_4 p1) (v0_101_l12 q0 p1 p2 p3 p4)))])) t → Steps p.tables e below (s₁.setTop (entryFrame m #[(.long q0), (.int p1), (.int p2), (.int p3), (.int p4)] maxLocals)) t := fun t k => pre26 t (st27.trans k)
  have pre30 : ∀ t, Steps p.tables e below (T27.setTop (mkF m 125 #[.val (.long q0), .second, .val (.int p1), .val (.int p2), .val (.int p3), .val (.int p4), .val (.int (v0_4 p1)), .val (.int (v0_10 p2)), .val (.int (v0_17 p3)), .val (.long (v0_28 p4)), .second, .val (.int (v0_34 p4)), .val (.long (v0_101_l12 q0 p1 p2 p3 p4)), .second, .val (.ref b101), .val (.int (v0_119 q0 p1 p2 p3 p4)), .unset, .unset, .unset, .unset, .unset, .unset, .unset, .unset, .unset] [(.int (v0_10 p2)), (.ref b101)])) t → Steps p.tables e below (s₁.setTop (entryFrame m #[(.long q0), (.int p1), (.int p2), (.int p3), (.int p4)] maxLocals)) t := fun t k => pre29 t (by
    show Steps p.tables e below (T27.setTop (mkF m 119 #[.val (.long q0), .second, .val (.int p1), .val (.int p2), .val (.int p3), .val (.int p4), .val (.int (v0_4 p1)), .val (.int (v0_10 p2)), .val (.int (v0_17 p3)), .val (.long (v0_28 p4)), .second, .val (.int (v0_34 p4)), .val (.long (v0_101_l12 q0 p1 p2 p3 p4)), .second, .val (.ref b101), .unset, .unset, .unset, .unset, .unset, .unset, .unset, .unset, .unset, .unset] [(.int (f3 (v0_4 p1) (v0_101_l12 q0 p1 p2 p3 p4)))])) _
    refine XS.istore X27.here hx rfl (hb hby at_119) rfl (l' := #[.val (.long q0), .second, .val (.int p1), .val (.int p2), .val (.int p3), .val (.int p4), .val (.int (v0_4 p1)), .val (.int (v0_10 p2)), .val (.int (v0_17 p3)), .val (.long (v0_28 p4)), .second, .val (.int (v0_34 p4)), .val (.long (v0_101_l12 q0 p1 p2 p3 p4)), .second, .val (.ref b101), .val (.int (v0_119 q0 p1 p2 p3 p4)), .unset, .unset, .unset, .unset, .unset, .unset, .unset, .unset, .unset]) rfl ?_
    show Steps p.tables e below (T27.setTop (mkF m 121 #[.val (.long q0), .second, .val (.int p1), .val (.int p2), .val (.int p3), .val (.int p4), .val (.int (v0_4 p1)), .val (.int (v0_10 p2)), .val (.int (v0_17 p3)), .val (.long (v0_28 p4)), .second, .val (.int (v0_34 p4)), .val (.long (v0_101_l12 q0 p1 p2 p3 p4)), .second, .val (.ref b101), .val (.int (v0_119 q0 p1 p2 p3 p4)), .unset, .unset, .unset, .unset, .unset, .unset, .unset, .unset, .unset] [])) _
    refine XS.aload X27.here hx rfl (hb hby at_121) rfl rfl ?_
    show Steps p.tables e below (T27.setTop (mkF m 123 #[.val (.long q0), .second, .val (.int p1), .val (.int p2), .val (.int p3), .val (.int p4), .val (.int (v0_4 p1)), .val (.int (v0_10 p2)), .val (.int (v0_17 p3)), .val (.long (v0_28 p4)), .second, .val (.int (v0_34 p4)), .val (.long (v0_101_l12 q0 p1 p2 p3 p4)), .second, .val (.ref b101), .val (.int (v0_119 q0 p1 p2 p3 p4)), .unset, .unset, .unset, .unset, .unset, .unset, .unset, .unset, .unset] [(.ref b101)])) _
    refine XS.iload X27.here hx rfl (hb hby at_123) rfl ?_
    exact k)
  obtain ⟨cq31, kq31, q31a, q31b, q31c⟩ := isOf hZ rfl o27_0
  obtain ⟨_, _, ⟨T31, L31, k31, n31⟩, -, X31, ⟨Lc31, hQ31, l31, y31, z31⟩, st31⟩ := X27.virtualBack hx (y := (⟨"com/example/pedantic_conformance/pedanticconformance/rules/safetycenter/PairingBudget", "spend", "(I)Z"⟩ : MethodName)) (z := (⟨"com/example/pedantic_conformance/pedanticconformance/rules/safetycenter/PairingBudget", "spend", "(I)Z"⟩ : MethodName)) hown (mvT hZ (hw _ (List.mem_of_getElem? (i := 12) rfl))) (mvT hZ (hw _ (List.mem_of_getElem? (i := 13) rfl))) (notFace_of_selects (args := #[]) (mvT hZ (hw _ (List.mem_of_getElem? (i := 15) rfl)))) (mvT hZ (hw _ (List.mem_of_getElem? (i := 15) rfl))) (mvT hZ (hw _ (List.mem_of_getElem? (i := 14) rfl))) (by decide) (backOf (W := 0) (rm3 l Z a0 hw [] b101 (v0_10 p2) (g3_o0_left (v0_4 p1) (v0_101_l12 q0 p1 p2 p3 p4)) T27.heap n0 Z27 o27_0 o27_1 gg20) hZ (hw _ (List.mem_of_getElem? (i := 16) rfl)) (hw _ (List.mem_of_getElem? (i := 3) rfl)) (by decide) (by decide)) q31a q31c (g := (mkF m 125 #[.val (.long q0), .second, .val (.int p1), .val (.int p2), .val (.int p3), .val (.int p4), .val (.int (v0_4 p1)), .val (.int (v0_10 p2)), .val (.int (v0_17 p3)), .val (.long (v0_28 p4)), .second, .val (.int (v0_34 p4)), .val (.long (v0_101_l12 q0 p1 p2 p3 p4)), .second, .val (.ref b101), .val (.int (v0_119 q0 p1 p2 p3 p4)), .unset, .unset, .unset, .unset, .unset, .unset, .unset, .unset, .unset] [(.int (v0_10 p2)), (.ref b101)])) rfl (by rw [hml]; rfl) (Steps.refl _) (argsL := [(.int (v0_10 p2))]) (rest := []) (lenOf pd__I_Z rfl) rfl (by show 2 * 0 + _ ≤ _; exact Nat.le_of_eq rfl) (hb hby at_125) (fun _ _ => ⟨rfl, rfl, (by decide : 1 + 0 ≤ _), (by decide : 1 + 0 ≤ _)⟩)
  dsimp only [Pt.U, Pt.locs, Pt.cells, Pt.slots] at X31 l31 y31 z31 st31 hQ31
  subst l31 y31 z31
  obtain ⟨rfl, Nq31, Kq31, o31_0, o31_1⟩ := hQ31
  have N31 := Fr.app N27 Nq31
  have K31 : Keep h0 T31.heap [] := K27.trans Kq31 (allS (Or.inr sz20) all0)
  have Z31 : n0 ≤ T31.heap.size := Nat.le_trans Z27 Kq31.1
  have x32 := o27_0.keep Kq31
  have pre33 : ∀ t, Steps p.tables e below (T31.setTop (mkF m 128 #[.val (.long q0), .second, .val (.int p1), .val (.int p2), .val (.int p3), .val (.int p4), .val (.int (v0_4 p1)), .val (.int (v0_10 p2)), .val (.int (v0_17 p3)), .val (.long (v0_28 p4)), .second, .val (.int (v0_34 p4)), .val (.long (v0_101_l12 q0 p1 p2 p3 p4)), .second, .val (.ref b101), .val (.int (v0_119 q0 p1 p2 p3 p4)), .unset, .unset, .unset, .unset, .unset, .unset, .unset, .unset, .unset] [(.int (f3 (v0_10 p2) (g3_o0_left (v0_4 p1) (v0_101_l12 q0 p1 p2 p3 p4))))])) t → Steps p.tables e below (s₁.setTop (entryFrame m #[(.long q0), (.int p1), (.int p2), (.int p3), (.int p4)] maxLocals)) t := fun t k => pre30 t (st31.trans k)
  have pre34 : ∀ t, Steps p.tables e below (T31.setTop (mkF m 134 #[.val (.long q0), .second, .val (.int p1), .val (.int p2), .val (.int p3), .val (.int p4), .val (.int (v0_4 p1)), .val (.int (v0_10 p2)), .val (.int (v0_17 p3)), .val (.long (v0_28 p4)), .second, .val (.int (v0_34 p4)), .val (.long (v0_101_l12 q0 p1 p2 p3 p4)), .second, .val (.ref b101), .val (.int (v0_119 q0 p1 p2 p3 p4)), .val (.int (v0_128 q0 p1 p2 p3 p4)), .unset, .unset, .unset, .unset, .unset, .unset, .unset, .unset] [(.int (v0_17 p3)), (.ref b101)])) t → Steps p.tables e below (s₁.setTop (entryFrame m #[(.long q0), (.int p1), (.int p2), (.int p3), (.int p4)] maxLocals)) t := fun t k => pre33 t (by
    show Steps p.tables e below (T31.setTop (mkF m 128 #[.val (.long q0), .second, .val (.int p1), .val (.int p2), .val (.int p3), .val (.int p4), .val (.int (v0_4 p1)), .val (.int (v0_10 p2)), .val (.int (v0_17 p3)), .val (.long (v0_28 p4)), .second, .val (.int (v0_34 p4)), .val (.long (v0_101_l12 q0 p1 p2 p3 p4)), .second, .val (.ref b101), .val (.int (v0_119 q0 p1 p2 p3 p4)), .unset, .unset, .unset, .unset, .unset, .unset, .unset, .unset, .unset] [(.int (f3 (v0_10 p2) (g3_o0_left (v0_4 p1) (v0_101_l12 q0 p1 p2 p3 p4))))])) _
    refine XS.istore X31.here hx rfl (hb hby at_128) rfl (l' := #[.val (.long q0), .second, .val (.int p1), .val (.int p2), .val (.int p3), .val (.int p4), .val (.int (v0_4 p1)), .val (.int (v0_10 p2)), .val (.int (v0_17 p3)), .val (.long (v0_28 p4)), .second, .val (.int (v0_34 p4)), .val (.long (v0_101_l12 q0 p1 p2 p3 p4)), .second, .val (.ref b101), .val (.int (v0_119 q0 p1 p2 p3 p4)), .val (.int (v0_128 q0 p1 p2 p3 p4)), .unset, .unset, .unset, .unset, .unset, .unset, .unset, .unset]) rfl ?_
    show Steps p.tables e below (T31.setTop (mkF m 130 #[.val (.long q0), .second, .val (.int p1), .val (.int p2), .val (.int p3), .val (.int p4), .val (.int (v0_4 p1)), .val (.int (v0_10 p2)), .val (.int (v0_17 p3)), .val (.long (v0_28 p4)), .second, .val (.int (v0_34 p4)), .val (.long (v0_101_l12 q0 p1 p2 p3 p4)), .second, .val (.ref b101), .val (.int (v0_119 q0 p1 p2 p3 p4)), .val (.int (v0_128 q0 p1 p2 p3 p4)), .unset, .unset, .unset, .unset, .unset, .unset, .unset, .unset] [])) _
    refine XS.aload X31.here hx rfl (hb hby at_130) rfl rfl ?_
    show Steps p.tables e below (T31.setTop (mkF m 132 #[.val (.long q0), .second, .val (.int p1), .val (.int p2), .val (.int p3), .val (.int p4), .val (.int (v0_4 p1)), .val (.int (v0_10 p2)), .val (.int (v0_17 p3)), .val (.long (v0_28 p4)), .second, .val (.int (v0_34 p4)), .val (.long (v0_101_l12 q0 p1 p2 p3 p4)), .second, .val (.ref b101), .val (.int (v0_119 q0 p1 p2 p3 p4)), .val (.int (v0_128 q0 p1 p2 p3 p4)), .unset, .unset, .unset, .unset, .unset, .unset, .unset, .unset] [(.ref b101)])) _
    refine XS.iload X31.here hx rfl (hb hby at_132) rfl ?_
    exact k)
  obtain ⟨cq35, kq35, q35a, q35b, q35c⟩ := isOf hZ rfl o31_0
  obtain ⟨_, _, ⟨T35, L35, k35, n35⟩, -, X35, ⟨Lc35, hQ35, l35, y35, z35⟩, st35⟩ := X31.virtualBack hx (y := (⟨"com/example/pedantic_conformance/pedanticconformance/rules/safetycenter/PairingBudget", "spend", "(I)Z"⟩ : MethodName)) (z := (⟨"com/example/pedantic_conformance/pedanticconformance/rules/safetycenter/PairingBudget", "spend", "(I)Z"⟩ : MethodName)) hown (mvT hZ (hw _ (List.mem_of_getElem? (i := 12) rfl))) (mvT hZ (hw _ (List.mem_of_getElem? (i := 13) rfl))) (notFace_of_selects (args := #[]) (mvT hZ (hw _ (List.mem_of_getElem? (i := 15) rfl)))) (mvT hZ (hw _ (List.mem_of_getElem? (i := 15) rfl))) (mvT hZ (hw _ (List.mem_of_getElem? (i := 14) rfl))) (by decide) (backOf (W := 0) (rm3 l Z a0 hw [] b101 (v0_17 p3) (g3_o0_left (v0_10 p2) (g3_o0_left (v0_4 p1) (v0_101_l12 q0 p1 p2 p3 p4))) T31.heap n0 Z31 o31_0 o31_1 gg20) hZ (hw _ (List.mem_of_getElem? (i := 16) rfl)) (hw _ (List.mem_of_getElem? (i := 3) rfl)) (by decide) (by decide)) q35a q35c (g := (mkF m 134 #[.val (.long q0), .second, .val (.int p1), .val (.int p2), .val (.int p3), .val (.int p4), .val (.int (v0_4 p1)), .val (.int (v0_10 p2)), .val (.int (v0_17 p3)), .val (.long (v0_28 p4)), .second, .val (.int (v0_34 p4)), .val (.long (v0_101_l12 q0 p1 p2 p3 p4)), .second, .val (.ref b101), .val (.int (v0_119 q0 p1 p2 p3 p4)), .val (.int (v0_128 q0 p1 p2 p3 p4)), .unset, .unset, .unset, .unset, .unset, .unset, .unset, .unset] [(.int (v0_17 p3)), (.ref b101)])) rfl (by rw [hml]; rfl) (Steps.refl _) (argsL := [(.int (v0_17 p3))]) (rest := []) (lenOf pd__I_Z rfl) rfl (by show 2 * 0 + _ ≤ _; exact Nat.le_of_eq rfl) (hb hby at_134) (fun _ _ => ⟨rfl, rfl, (by decide : 1 + 0 ≤ _), (by decide : 1 + 0 ≤ _)⟩)
  dsimp only [Pt.U, Pt.locs, Pt.cells, Pt.slots] at X35 l35 y35 z35 st35 hQ35
  subst l35 y35 z35
  obtain ⟨rfl, Nq35, Kq35, o35_0, o35_1⟩ := hQ35
  have N35 := Fr.app N31 Nq35
  have K35 : Keep h0 T35.heap [] := K31.trans Kq35 (allS (Or.inr sz20) all0)
  have Z35 : n0 ≤ T35.heap.size := Nat.le_trans Z31 Kq35.1
  have x36 := o31_0.keep Kq35
  have pre37 : ∀ t, Steps p.tables e below (T35.setTop (mkF m 137 #[.val (.long q0), .second, .val (.int p1), .val (.int p2), .val (.int p3), .val (.int p4), .val (.int (v0_4 p1)), .val (.int (v0_10 p2)), .val (.int (v0_17 p3)), .val (.long (v0_28 p4)), .second, .val (.int (v0_34 p4)), .val (.long (v0_101_l12 q0 p1 p2 p3 p4)), .second, .val (.ref b101), .val (.int (v0_119 q0 p1 p2 p3 p4)), .val (.int (v0_128 q0 p1 p2 p3 p4)), .unset, .unset, .unset, .unset, .unset, .unset, .unset, .unset] [(.int (f3 (v0_17 p3) (g3_o0_left (v0_10 p2) (g3_o0_left (v0_4 p1) (v0_101_l12 q0 p1 p2 p3 p4)))))])) t → Steps p.tables e below (s₁.setTop (entryFrame m #[(.long q0), (.int p1), (.int p2), (.int p3), (.int p4)] maxLocals)) t := fun t k => pre34 t (st35.trans k)
  have pre38 : ∀ t, Steps p.tables e below (T35.setTop (mkF m 145 #[.val (.long q0), .second, .val (.int p1), .val (.int p2), .val (.int p3), .val (.int p4), .val (.int (v0_4 p1)), .val (.int (v0_10 p2)), .val (.int (v0_17 p3)), .val (.long (v0_28 p4)), .second, .val (.int (v0_34 p4)), .val (.long (v0_101_l12 q0 p1 p2 p3 p4)), .second, .val (.ref b101), .val (.int (v0_119 q0 p1 p2 p3 p4)), .val (.int (v0_128 q0 p1 p2 p3 p4)), .val (.int (v0_137 q0 p1 p2 p3 p4)), .unset, .unset, .unset, .unset, .unset, .unset, .unset] [(.int (lcmpW ((v0_4 p1).toInt64) (v0_101_l12 q0 p1 p2 p3 p4)))])) t → Steps p.tables e below (s₁.setTop (entryFrame m #[(.long q0), (.int p1), (.int p2), (.int p3), (.int p4)] maxLocals)) t := fun t k => pre37 t (by
    show Steps p.tables e below (T35.setTop (mkF m 137 #[.val (.long q0), .second, .val (.int p1), .val (.int p2), .val (.int p3), .val (.int p4), .val (.int (v0_4 p1)), .val (.int (v0_10 p2)), .val (.int (v0_17 p3)), .val (.long (v0_28 p4)), .second, .val (.int (v0_34 p4)), .val (.long (v0_101_l12 q0 p1 p2 p3 p4)), .second, .val (.ref b101), .val (.int (v0_119 q0 p1 p2 p3 p4)), .val (.int (v0_128 q0 p1 p2 p3 p4)), .unset, .unset, .unset, .unset, .unset, .unset, .unset, .unset] [(.int (f3 (v0_17 p3) (g3_o0_left (v0_10 p2) (g3_o0_left (v0_4 p1) (v0_101_l12 q0 p1 p2 p3 p4)))))])) _
    refine XS.istore X35.here hx rfl (hb hby at_137) rfl (l' := #[.val (.long q0), .second, .val (.int p1), .val (.int p2), .val (.int p3), .val (.int p4), .val (.int (v0_4 p1)), .val (.int (v0_10 p2)), .val (.int (v0_17 p3)), .val (.long (v0_28 p4)), .second, .val (.int (v0_34 p4)), .val (.long (v0_101_l12 q0 p1 p2 p3 p4)), .second, .val (.ref b101), .val (.int (v0_119 q0 p1 p2 p3 p4)), .val (.int (v0_128 q0 p1 p2 p3 p4)), .val (.int (v0_137 q0 p1 p2 p3 p4)), .unset, .unset, .unset, .unset, .unset, .unset, .unset]) rfl ?_
    show Steps p.tables e below (T35.setTop (mkF m 139 #[.val (.long q0), .second, .val (.int p1), .val (.int p2), .val (.int p3), .val (.int p4), .val (.int (v0_4 p1)), .val (.int (v0_10 p2)), .val (.int (v0_17 p3)), .val (.long (v0_28 p4)), .second, .val (.int (v0_34 p4)), .val (.long (v0_101_l12 q0 p1 p2 p3 p4)), .second, .val (.ref b101), .val (.int (v0_119 q0 p1 p2 p3 p4)), .val (.int (v0_128 q0 p1 p2 p3 p4)), .val (.int (v0_137 q0 p1 p2 p3 p4)), .unset, .unset, .unset, .unset, .unset, .unset, .unset] [])) _
    refine XS.iload X35.here hx rfl (hb hby at_139) rfl ?_
    show Steps p.tables e below (T35.setTop (mkF m 141 #[.val (.long q0), .second, .val (.int p1), .val (.int p2), .val (.int p3), .val (.int p4), .val (.int (v0_4 p1)), .val (.int (v0_10 p2)), .val (.int (v0_17 p3)), .val (.long (v0_28 p4)), .second, .val (.int (v0_34 p4)), .val (.long (v0_101_l12 q0 p1 p2 p3 p4)), .second, .val (.ref b101), .val (.int (v0_119 q0 p1 p2 p3 p4)), .val (.int (v0_128 q0 p1 p2 p3 p4)), .val (.int (v0_137 q0 p1 p2 p3 p4)), .unset, .unset, .unset, .unset, .unset, .unset, .unset] [(.int (v0_4 p1))])) _
    refine XS.i2l X35.here hx rfl (hb hby at_141) rfl ?_
    show Steps p.tables e below (T35.setTop (mkF m 142 #[.val (.long q0), .second, .val (.int p1), .val (.int p2), .val (.int p3), .val (.int p4), .val (.int (v0_4 p1)), .val (.int (v0_10 p2)), .val (.int (v0_17 p3)), .val (.long (v0_28 p4)), .second, .val (.int (v0_34 p4)), .val (.long (v0_101_l12 q0 p1 p2 p3 p4)), .second, .val (.ref b101), .val (.int (v0_119 q0 p1 p2 p3 p4)), .val (.int (v0_128 q0 p1 p2 p3 p4)), .val (.int (v0_137 q0 p1 p2 p3 p4)), .unset, .unset, .unset, .unset, .unset, .unset, .unset] [(.long ((v0_4 p1).toInt64))])) _
    refine XS.lload X35.here hx rfl (hb hby at_142) rfl ?_
    show Steps p.tables e below (T35.setTop (mkF m 144 #[.val (.long q0), .second, .val (.int p1), .val (.int p2), .val (.int p3), .val (.int p4), .val (.int (v0_4 p1)), .val (.int (v0_10 p2)), .val (.int (v0_17 p3)), .val (.long (v0_28 p4)), .second, .val (.int (v0_34 p4)), .val (.long (v0_101_l12 q0 p1 p2 p3 p4)), .second, .val (.ref b101), .val (.int (v0_119 q0 p1 p2 p3 p4)), .val (.int (v0_128 q0 p1 p2 p3 p4)), .val (.int (v0_137 q0 p1 p2 p3 p4)), .unset, .unset, .unset, .unset, .unset, .unset, .unset] [(.long (v0_101_l12 q0 p1 p2 p3 p4)), (.long ((v0_4 p1).toInt64))])) _
    refine XS.lcmp X35.here hx rfl (hb hby at_144) rfl ?_
    exact k)
  obtain ⟨T39, L39, X39, e39, N39, pre39⟩ : ∃ (T' : State) (L' : List Loc), Stand p l e room_1 s m #[(.long q0), (.int p1), (.int p2), (.int p3), (.int p4)] below meth c T' L' 1 1 ∧ T'.heap = T35.heap ∧ Fr n0 L' ∧ ∀ t, Steps p.tables e below (T'.setTop (mkF m 153 #[.val (.long q0), .second, .val (.int p1), .val (.int p2), .val (.int p3), .val (.int p4), .val (.int (v0_4 p1)), .val (.int (v0_10 p2)), .val (.int (v0_17 p3)), .val (.long (v0_28 p4)), .second, .val (.int (v0_34 p4)), .val (.long (v0_101_l12 q0 p1 p2 p3 p4)), .second, .val (.ref b101), .val (.int (v0_119 q0 p1 p2 p3 p4)), .val (.int (v0_128 q0 p1 p2 p3 p4)), .val (.int (v0_137 q0 p1 p2 p3 p4)), .unset, .unset, .unset, .unset, .unset, .unset, .unset] [(.int (v0_153_s0 q0 p1 p2 p3 p4))])) t → Steps p.tables e below (s₁.setTop (entryFrame m #[(.long q0), (.int p1), (.int p2), (.int p3), (.int p4)] maxLocals)) t := by
    by_cases hc145_4 : (v0_101_l12 q0 p1 p2 p3 p4) < ((v0_4 p1).toInt64)
    · have pre40 : ∀ t, Steps p.tables e below (T35.setTop (mkF m 153 #[.val (.long q0), .second, .val (.int p1), .val (.int p2), .val (.int p3), .val (.int p4), .val (.int (v0_4 p1)), .val (.int (v0_10 p2)), .val (.int (v0_17 p3)), .val (.long (v0_28 p4)), .second, .val (.int (v0_34 p4)), .val (.long (v0_101_l12 q0 p1 p2 p3 p4)), .second, .val (.ref b101), .val (.int (v0_119 q0 p1 p2 p3 p4)), .val (.int (v0_128 q0 p1 p2 p3 p4)), .val (.int (v0_137 q0 p1 p2 p3 p4)), .unset, .unset, .unset, .unset, .unset, .unset, .unset] [(.int (0 : Int32))])) t → Steps p.tables e below (s₁.setTop (entryFrame m #[(.long q0), (.int p1), (.int p2), (.int p3), (.int p4)] maxLocals)) t := fun t k => pre38 t (by
        show Steps p.tables e below (T35.setTop (mkF m 145 #[.val (.long q0), .second, .val (.int p1), .val (.int p2), .val (.int p3), .val (.int p4), .val (.int (v0_4 p1)), .val (.int (v0_10 p2)), .val (.int (v0_17 p3)), .val (.long (v0_28 p4)), .second, .val (.int (v0_34 p4)), .val (.long (v0_101_l12 q0 p1 p2 p3 p4)), .second, .val (.ref b101), .val (.int (v0_119 q0 p1 p2 p3 p4)), .val (.int (v0_128 q0 p1 p2 p3 p4)), .val (.int (v0_137 q0 p1 p2 p3 p4)), .unset, .unset, .unset, .unset, .unset, .unset, .unset] [(.int (lcmpW ((v0_4 p1).toInt64) (v0_101_l12 q0 p1 p2 p3 p4)))])) _
        refine XS.ifYes X35.here hx rfl (pc0 := 145) (pc' := 152) rfl (hb hby at_145) rfl ((if0 _ _).trans (tlt ((lw_gt _ _).mpr hc145_4)).2.2.1) (by decide) (by decide) ?_
        show Steps p.tables e below (T35.setTop (mkF m 152 #[.val (.long q0), .second, .val (.int p1), .val (.int p2), .val (.int p3), .val (.int p4), .val (.int (v0_4 p1)), .val (.int (v0_10 p2)), .val (.int (v0_17 p3)), .val (.long (v0_28 p4)), .second, .val (.int (v0_34 p4)), .val (.long (v0_101_l12 q0 p1 p2 p3 p4)), .second, .val (.ref b101), .val (.int (v0_119 q0 p1 p2 p3 p4)), .val (.int (v0_128 q0 p1 p2 p3 p4)), .val (.int (v0_137 q0 p1 p2 p3 p4)), .unset, .unset, .unset, .unset, .unset, .unset, .unset] [])) _
        refine XS.iconst X35.here hx rfl (hb hby at_152) ?_
        exact k)
      exact ⟨T35, _, X35, rfl, N35, fun t k => pre40 t (by simpa only [v0_153_s0, if_pos hc145_4] using k)⟩
    · have pre41 : ∀ t, Steps p.tables e below (T35.setTop (mkF m 153 #[.val (.long q0), .second, .val (.int p1), .val (.int p2), .val (.int p3), .val (.int p4), .val (.int (v0_4 p1)), .val (.int (v0_10 p2)), .val (.int (v0_17 p3)), .val (.long (v0_28 p4)), .second, .val (.int (v0_34 p4)), .val (.long (v0_101_l12 q0 p1 p2 p3 p4)), .second, .val (.ref b101), .val (.int (v0_119 q0 p1 p2 p3 p4)), .val (.int (v0_128 q0 p1 p2 p3 p4)), .val (.int (v0_137 q0 p1 p2 p3 p4)), .unset, .unset, .unset, .unset, .unset, .unset, .unset] [(.int (1 : Int32))])) t → Steps p.tables e below (s₁.setTop (entryFrame m #[(.long q0), (.int p1), (.int p2), (.int p3), (.int p4)] maxLocals)) t := fun t k => pre38 t (by
        show Steps p.tables e below (T35.setTop (mkF m 145 #[.val (.long q0), .second, .val (.int p1), .val (.int p2), .val (.int p3), .val (.int p4), .val (.int (v0_4 p1)), .val (.int (v0_10 p2)), .val (.int (v0_17 p3)), .val (.long (v0_28 p4)), .second, .val (.int (v0_34 p4)), .val (.long (v0_101_l12 q0 p1 p2 p3 p4)), .second, .val (.ref b101), .val (.int (v0_119 q0 p1 p2 p3 p4)), .val (.int (v0_128 q0 p1 p2 p3 p4)), .val (.int (v0_137 q0 p1 p2 p3 p4)), .unset, .unset, .unset, .unset, .unset, .unset, .unset] [(.int (lcmpW ((v0_4 p1).toInt64) (v0_101_l12 q0 p1 p2 p3 p4)))])) _
        refine XS.ifNo X35.here hx rfl (hb hby at_145) rfl ((if0 _ _).trans (flt (fun q => hc145_4 ((lw_gt _ _).mp q))).2.2.1) ?_
        show Steps p.tables e below (T35.setTop (mkF m 148 #[.val (.long q0), .second, .val (.int p1), .val (.int p2), .val (.int p3), .val (.int p4), .val (.int (v0_4 p1)), .val (.int (v0_10 p2)), .val (.int (v0_17 p3)), .val (.long (v0_28 p4)), .second, .val (.int (v0_34 p4)), .val (.long (v0_101_l12 q0 p1 p2 p3 p4)), .second, .val (.ref b101), .val (.int (v0_119 q0 p1 p2 p3 p4)), .val (.int (v0_128 q0 p1 p2 p3 p4)), .val (.int (v0_137 q0 p1 p2 p3 p4)), .unset, .unset, .unset, .unset, .unset, .unset, .unset] [])) _
        refine XS.iconst X35.here hx rfl (hb hby at_148) ?_
        show Steps p.tables e below (T35.setTop (mkF m 149 #[.val (.long q0), .second, .val (.int p1), .val (.int p2), .val (.int p3), .val (.int p4), .val (.int (v0_4 p1)), .val (.int (v0_10 p2)), .val (.int (v0_17 p3)), .val (.long (v0_28 p4)), .second, .val (.int (v0_34 p4)), .val (.long (v0_101_l12 q0 p1 p2 p3 p4)), .second, .val (.ref b101), .val (.int (v0_119 q0 p1 p2 p3 p4)), .val (.int (v0_128 q0 p1 p2 p3 p4)), .val (.int (v0_137 q0 p1 p2 p3 p4)), .unset, .unset, .unset, .unset, .unset, .unset, .unset] [(.int (1 : Int32))])) _
        refine XS.goto X35.here hx rfl (pc0 := 149) (pc' := 153) rfl (hb hby at_149) (by decide) (by decide) ?_
        exact k)
      exact ⟨T35, _, X35, rfl, N35, fun t k => pre41 t (by simpa only [v0_153_s0, if_neg hc145_4] using k)⟩
  have pre42 : ∀ t, Steps p.tables e below (T39.setTop (mkF m 161 #[.val (.long q0), .second, .val (.int p1), .val (.int p2), .val (.int p3), .val (.int p4), .val (.int (v0_4 p1)), .val (.int (v0_10 p2)), .val (.int (v0_17 p3)), .val (.long (v0_28 p4)), .second, .val (.int (v0_34 p4)), .val (.long (v0_101_l12 q0 p1 p2 p3 p4)), .second, .val (.ref b101), .val (.int (v0_119 q0 p1 p2 p3 p4)), .val (.int (v0_128 q0 p1 p2 p3 p4)), .val (.int (v0_137 q0 p1 p2 p3 p4)), .val (.int (v0_153_s0 q0 p1 p2 p3 p4)), .val (.long (v0_101_l12 q0 p1 p2 p3 p4)), .second, .unset, .unset, .unset, .unset] [(.int (v0_153_s0 q0 p1 p2 p3 p4))])) t → Steps p.tables e below (s₁.setTop (entryFrame m #[(.long q0), (.int p1), (.int p2), (.int p3), (.int p4)] maxLocals)) t := fun t k => pre39 t (by
    show Steps p.tables e below (T39.setTop (mkF m 153 #[.val (.long q0), .second, .val (.int p1), .val (.int p2), .val (.int p3), .val (.int p4), .val (.int (v0_4 p1)), .val (.int (v0_10 p2)), .val (.int (v0_17 p3)), .val (.long (v0_28 p4)), .second, .val (.int (v0_34 p4)), .val (.long (v0_101_l12 q0 p1 p2 p3 p4)), .second, .val (.ref b101), .val (.int (v0_119 q0 p1 p2 p3 p4)), .val (.int (v0_128 q0 p1 p2 p3 p4)), .val (.int (v0_137 q0 p1 p2 p3 p4)), .unset, .unset, .unset, .unset, .unset, .unset, .unset] [(.int (v0_153_s0 q0 p1 p2 p3 p4))])) _
    refine XS.istore X39.here hx rfl (hb hby at_153) rfl (l' := #[.val (.long q0), .second, .val (.int p1), .val (.int p2), .val (.int p3), .val (.int p4), .val (.int (v0_4 p1)), .val (.int (v0_10 p2)), .val (.int (v0_17 p3)), .val (.long (v0_28 p4)), .second, .val (.int (v0_34 p4)), .val (.long (v0_101_l12 q0 p1 p2 p3 p4)), .second, .val (.ref b101), .val (.int (v0_119 q0 p1 p2 p3 p4)), .val (.int (v0_128 q0 p1 p2 p3 p4)), .val (.int (v0_137 q0 p1 p2 p3 p4)), .val (.int (v0_153_s0 q0 p1 p2 p3 p4)), .unset, .unset, .unset, .unset, .unset, .unset]) rfl ?_
    show Steps p.tables e below (T39.setTop (mkF m 155 #[.val (.long q0), .second, .val (.int p1), .val (.int p2), .val (.int p3), .val (.int p4), .val (.int (v0_4 p1)), .val (.int (v0_10 p2)), .val (.int (v0_17 p3)), .val (.long (v0_28 p4)), .second, .val (.int (v0_34 p4)), .val (.long (v0_101_l12 q0 p1 p2 p3 p4)), .second, .val (.ref b101), .val (.int (v0_119 q0 p1 p2 p3 p4)), .val (.int (v0_128 q0 p1 p2 p3 p4)), .val (.int (v0_137 q0 p1 p2 p3 p4)), .val (.int (v0_153_s0 q0 p1 p2 p3 p4)), .unset, .unset, .unset, .unset, .unset, .unset] [])) _
    refine XS.lload X39.here hx rfl (hb hby at_155) rfl ?_
    show Steps p.tables e below (T39.setTop (mkF m 157 #[.val (.long q0), .second, .val (.int p1), .val (.int p2), .val (.int p3), .val (.int p4), .val (.int (v0_4 p1)), .val (.int (v0_10 p2)), .val (.int (v0_17 p3)), .val (.long (v0_28 p4)), .second, .val (.int (v0_34 p4)), .val (.long (v0_101_l12 q0 p1 p2 p3 p4)), .second, .val (.ref b101), .val (.int (v0_119 q0 p1 p2 p3 p4)), .val (.int (v0_128 q0 p1 p2 p3 p4)), .val (.int (v0_137 q0 p1 p2 p3 p4)), .val (.int (v0_153_s0 q0 p1 p2 p3 p4)), .unset, .unset, .unset, .unset, .unset, .unset] [(.long (v0_101_l12 q0 p1 p2 p3 p4))])) _
    refine XS.lstore X39.here hx rfl (hb hby at_157) rfl (l' := #[.val (.long q0), .second, .val (.int p1), .val (.int p2), .val (.int p3), .val (.int p4), .val (.int (v0_4 p1)), .val (.int (v0_10 p2)), .val (.int (v0_17 p3)), .val (.long (v0_28 p4)), .second, .val (.int (v0_34 p4)), .val (.long (v0_101_l12 q0 p1 p2 p3 p4)), .second, .val (.ref b101), .val (.int (v0_119 q0 p1 p2 p3 p4)), .val (.int (v0_128 q0 p1 p2 p3 p4)), .val (.int (v0_137 q0 p1 p2 p3 p4)), .val (.int (v0_153_s0 q0 p1 p2 p3 p4)), .val (.long (v0_101_l12 q0 p1 p2 p3 p4)), .second, .unset, .unset, .unset, .unset]) rfl ?_
    show Steps p.tables e below (T39.setTop (mkF m 159 #[.val (.long q0), .second, .val (.int p1), .val (.int p2), .val (.int p3), .val (.int p4), .val (.int (v0_4 p1)), .val (.int (v0_10 p2)), .val (.int (v0_17 p3)), .val (.long (v0_28 p4)), .second, .val (.int (v0_34 p4)), .val (.long (v0_101_l12 q0 p1 p2 p3 p4)), .second, .val (.ref b101), .val (.int (v0_119 q0 p1 p2 p3 p4)), .val (.int (v0_128 q0 p1 p2 p3 p4)), .val (.int (v0_137 q0 p1 p2 p3 p4)), .val (.int (v0_153_s0 q0 p1 p2 p3 p4)), .val (.long (v0_101_l12 q0 p1 p2 p3 p4)), .second, .unset, .unset, .unset, .unset] [])) _
    refine XS.iload X39.here hx rfl (hb hby at_159) rfl ?_
    exact k)
  obtain ⟨T43, L43, X43, e43, N43, pre43⟩ : ∃ (T' : State) (L' : List Loc), Stand p l e room_1 s m #[(.long q0), (.int p1), (.int p2), (.int p3), (.int p4)] below meth c T' L' 1 1 ∧ T'.heap = T35.heap ∧ Fr n0 L' ∧ ∀ t, Steps p.tables e below (T'.setTop (mkF m 172 #[.val (.long q0), .second, .val (.int p1), .val (.int p2), .val (.int p3), .val (.int p4), .val (.int (v0_4 p1)), .val (.int (v0_10 p2)), .val (.int (v0_17 p3)), .val (.long (v0_28 p4)), .second, .val (.int (v0_34 p4)), .val (.long (v0_101_l12 q0 p1 p2 p3 p4)), .second, .val (.ref b101), .val (.int (v0_119 q0 p1 p2 p3 p4)), .val (.int (v0_128 q0 p1 p2 p3 p4)), .val (.int (v0_137 q0 p1 p2 p3 p4)), .val (.int (v0_153_s0 q0 p1 p2 p3 p4)), .val (.long (v0_172_l19 q0 p1 p2 p3 p4)), .second, .unset, .unset, .unset, .unset] [])) t → Steps p.tables e below (s₁.setTop (entryFrame m #[(.long q0), (.int p1), (.int p2), (.int p3), (.int p4)] maxLocals)) t := by
    by_cases hc161_5 : (v0_153_s0 q0 p1 p2 p3 p4) = (0 : Int32)
    · have pre44 : ∀ t, Steps p.tables e below (T39.setTop (mkF m 172 #[.val (.long q0), .second, .val (.int p1), .val (.int p2), .val (.int p3), .val (.int p4), .val (.int (v0_4 p1)), .val (.int (v0_10 p2)), .val (.int (v0_17 p3)), .val (.long (v0_28 p4)), .second, .val (.int (v0_34 p4)), .val (.long (v0_101_l12 q0 p1 p2 p3 p4)), .second, .val (.ref b101), .val (.int (v0_119 q0 p1 p2 p3 p4)), .val (.int (v0_128 q0 p1 p2 p3 p4)), .val (.int (v0_137 q0 p1 p2 p3 p4)), .val (.int (v0_153_s0 q0 p1 p2 p3 p4)), .val (.long (v0_101_l12 q0 p1 p2 p3 p4)), .second, .unset, .unset, .unset, .unset] [])) t → Steps p.tables e below (s₁.setTop (entryFrame m #[(.long q0), (.int p1), (.int p2), (.int p3), (.int p4)] maxLocals)) t := fun t k => pre42 t (by
        show Steps p.tables e below (T39.setTop (mkF m 161 #[.val (.long q0), .second, .val (.int p1), .val (.int p2), .val (.int p3), .val (.int p4), .val (.int (v0_4 p1)), .val (.int (v0_10 p2)), .val (.int (v0_17 p3)), .val (.long (v0_28 p4)), .second, .val (.int (v0_34 p4)), .val (.long (v0_101_l12 q0 p1 p2 p3 p4)), .second, .val (.ref b101), .val (.int (v0_119 q0 p1 p2 p3 p4)), .val (.int (v0_128 q0 p1 p2 p3 p4)), .val (.int (v0_137 q0 p1 p2 p3 p4)), .val (.int (v0_153_s0 q0 p1 p2 p3 p4)), .val (.long (v0_101_l12 q0 p1 p2 p3 p4)), .second, .unset, .unset, .unset, .unset] [(.int (v0_153_s0 q0 p1 p2 p3 p4))])) _
        refine XS.ifYes X39.here hx rfl (pc0 := 161) (pc' := 172) rfl (hb hby at_161) rfl ((if0 _ _).trans (teq hc161_5).1) (by decide) (by decide) ?_
        exact k)
      exact ⟨T39, _, X39, e39, N39, fun t k => pre44 t (by simpa only [v0_172_l19, if_pos hc161_5] using k)⟩
    · have pre45 : ∀ t, Steps p.tables e below (T39.setTop (mkF m 172 #[.val (.long q0), .second, .val (.int p1), .val (.int p2), .val (.int p3), .val (.int p4), .val (.int (v0_4 p1)), .val (.int (v0_10 p2)), .val (.int (v0_17 p3)), .val (.long (v0_28 p4)), .second, .val (.int (v0_34 p4)), .val (.long (v0_101_l12 q0 p1 p2 p3 p4)), .second, .val (.ref b101), .val (.int (v0_119 q0 p1 p2 p3 p4)), .val (.int (v0_128 q0 p1 p2 p3 p4)), .val (.int (v0_137 q0 p1 p2 p3 p4)), .val (.int (v0_153_s0 q0 p1 p2 p3 p4)), .val (.long (v0_170 q0 p1 p2 p3 p4)), .second, .unset, .unset, .unset, .unset] [])) t → Steps p.tables e below (s₁.setTop (entryFrame m #[(.long q0), (.int p1), (.int p2), (.int p3), (.int p4)] maxLocals)) t := fun t k => pre42 t (by
        show Steps p.tables e below (T39.setTop (mkF m 161 #[.val (.long q0), .second, .val (.int p1), .val (.int p2), .val (.int p3), .val (.int p4), .val (.int (v0_4 p1)), .val (.int (v0_10 p2)), .val (.int (v0_17 p3)), .val (.long (v0_28 p4)), .second, .val (.int (v0_34 p4)), .val (.long (v0_101_l12 q0 p1 p2 p3 p4)), .second, .val (.ref b101), .val (.int (v0_119 q0 p1 p2 p3 p4)), .val (.int (v0_128 q0 p1 p2 p3 p4)), .val (.int (v0_137 q0 p1 p2 p3 p4)), .val (.int (v0_153_s0 q0 p1 p2 p3 p4)), .val (.long (v0_101_l12 q0 p1 p2 p3 p4)), .second, .unset, .unset, .unset, .unset] [(.int (v0_153_s0 q0 p1 p2 p3 p4))])) _
        refine XS.ifNo X39.here hx rfl (hb hby at_161) rfl ((if0 _ _).trans (feq hc161_5).1) ?_
        show Steps p.tables e below (T39.setTop (mkF m 164 #[.val (.long q0), .second, .val (.int p1), .val (.int p2), .val (.int p3), .val (.int p4), .val (.int (v0_4 p1)), .val (.int (v0_10 p2)), .val (.int (v0_17 p3)), .val (.long (v0_28 p4)), .second, .val (.int (v0_34 p4)), .val (.long (v0_101_l12 q0 p1 p2 p3 p4)), .second, .val (.ref b101), .val (.int (v0_119 q0 p1 p2 p3 p4)), .val (.int (v0_128 q0 p1 p2 p3 p4)), .val (.int (v0_137 q0 p1 p2 p3 p4)), .val (.int (v0_153_s0 q0 p1 p2 p3 p4)), .val (.long (v0_101_l12 q0 p1 p2 p3 p4)), .second, .unset, .unset, .unset, .unset] [])) _
        refine XS.lload X39.here hx rfl (hb hby at_164) rfl ?_
        show Steps p.tables e below (T39.setTop (mkF m 166 #[.val (.long q0), .second, .val (.int p1), .val (.int p2), .val (.int p3), .val (.int p4), .val (.int (v0_4 p1)), .val (.int (v0_10 p2)), .val (.int (v0_17 p3)), .val (.long (v0_28 p4)), .second, .val (.int (v0_34 p4)), .val (.long (v0_101_l12 q0 p1 p2 p3 p4)), .second, .val (.ref b101), .val (.int (v0_119 q0 p1 p2 p3 p4)), .val (.int (v0_128 q0 p1 p2 p3 p4)), .val (.int (v0_137 q0 p1 p2 p3 p4)), .val (.int (v0_153_s0 q0 p1 p2 p3 p4)), .val (.long (v0_101_l12 q0 p1 p2 p3 p4)), .second, .unset, .unset, .unset, .unset] [(.long (v0_101_l12 q0 p1 p2 p3 p4))])) _
        refine XS.iload X39.here hx rfl (hb hby at_166) rfl ?_
        show Steps p.tables e below (T39.setTop (mkF m 168 #[.val (.long q0), .second, .val (.int p1), .val (.int p2), .val (.int p3), .val (.int p4), .val (.int (v0_4 p1)), .val (.int (v0_10 p2)), .val (.int (v0_17 p3)), .val (.long (v0_28 p4)), .second, .val (.int (v0_34 p4)), .val (.long (v0_101_l12 q0 p1 p2 p3 p4)), .second, .val (.ref b101), .val (.int (v0_119 q0 p1 p2 p3 p4)), .val (.int (v0_128 q0 p1 p2 p3 p4)), .val (.int (v0_137 q0 p1 p2 p3 p4)), .val (.int (v0_153_s0 q0 p1 p2 p3 p4)), .val (.long (v0_101_l12 q0 p1 p2 p3 p4)), .second, .unset, .unset, .unset, .unset] [(.int (v0_4 p1)), (.long (v0_101_l12 q0 p1 p2 p3 p4))])) _
        refine XS.i2l X39.here hx rfl (hb hby at_168) rfl ?_
        show Steps p.tables e below (T39.setTop (mkF m 169 #[.val (.long q0), .second, .val (.int p1), .val (.int p2), .val (.int p3), .val (.int p4), .val (.int (v0_4 p1)), .val (.int (v0_10 p2)), .val (.int (v0_17 p3)), .val (.long (v0_28 p4)), .second, .val (.int (v0_34 p4)), .val (.long (v0_101_l12 q0 p1 p2 p3 p4)), .second, .val (.ref b101), .val (.int (v0_119 q0 p1 p2 p3 p4)), .val (.int (v0_128 q0 p1 p2 p3 p4)), .val (.int (v0_137 q0 p1 p2 p3 p4)), .val (.int (v0_153_s0 q0 p1 p2 p3 p4)), .val (.long (v0_101_l12 q0 p1 p2 p3 p4)), .second, .unset, .unset, .unset, .unset] [(.long ((v0_4 p1).toInt64)), (.long (v0_101_l12 q0 p1 p2 p3 p4))])) _
        refine XS.lsub X39.here hx rfl (hb hby at_169) rfl ?_
        show Steps p.tables e below (T39.setTop (mkF m 170 #[.val (.long q0), .second, .val (.int p1), .val (.int p2), .val (.int p3), .val (.int p4), .val (.int (v0_4 p1)), .val (.int (v0_10 p2)), .val (.int (v0_17 p3)), .val (.long (v0_28 p4)), .second, .val (.int (v0_34 p4)), .val (.long (v0_101_l12 q0 p1 p2 p3 p4)), .second, .val (.ref b101), .val (.int (v0_119 q0 p1 p2 p3 p4)), .val (.int (v0_128 q0 p1 p2 p3 p4)), .val (.int (v0_137 q0 p1 p2 p3 p4)), .val (.int (v0_153_s0 q0 p1 p2 p3 p4)), .val (.long (v0_101_l12 q0 p1 p2 p3 p4)), .second, .unset, .unset, .unset, .unset] [(.long ((v0_101_l12 q0 p1 p2 p3 p4) - ((v0_4 p1).toInt64)))])) _
        refine XS.lstore X39.here hx rfl (hb hby at_170) rfl (l' := #[.val (.long q0), .second, .val (.int p1), .val (.int p2), .val (.int p3), .val (.int p4), .val (.int (v0_4 p1)), .val (.int (v0_10 p2)), .val (.int (v0_17 p3)), .val (.long (v0_28 p4)), .second, .val (.int (v0_34 p4)), .val (.long (v0_101_l12 q0 p1 p2 p3 p4)), .second, .val (.ref b101), .val (.int (v0_119 q0 p1 p2 p3 p4)), .val (.int (v0_128 q0 p1 p2 p3 p4)), .val (.int (v0_137 q0 p1 p2 p3 p4)), .val (.int (v0_153_s0 q0 p1 p2 p3 p4)), .val (.long (v0_170 q0 p1 p2 p3 p4)), .second, .unset, .unset, .unset, .unset]) rfl ?_
        exact k)
      exact ⟨T39, _, X39, e39, N39, fun t k => pre45 t (by simpa only [v0_172_l19, if_neg hc161_5] using k)⟩
  have pre46 : ∀ t, Steps p.tables e below (T43.setTop (mkF m 178 #[.val (.long q0), .second, .val (.int p1), .val (.int p2), .val (.int p3), .val (.int p4), .val (.int (v0_4 p1)), .val (.int (v0_10 p2)), .val (.int (v0_17 p3)), .val (.long (v0_28 p4)), .second, .val (.int (v0_34 p4)), .val (.long (v0_101_l12 q0 p1 p2 p3 p4)), .second, .val (.ref b101), .val (.int (v0_119 q0 p1 p2 p3 p4)), .val (.int (v0_128 q0 p1 p2 p3 p4)), .val (.int (v0_137 q0 p1 p2 p3 p4)), .val (.int (v0_153_s0 q0 p1 p2 p3 p4)), .val (.long (v0_172_l19 q0 p1 p2 p3 p4)), .second, .unset, .unset, .unset, .unset] [(.int (lcmpW ((v0_10 p2).toInt64) (v0_172_l19 q0 p1 p2 p3 p4)))])) t → Steps p.tables e below (s₁.setTop (entryFrame m #[(.long q0), (.int p1), (.int p2), (.int p3), (.int p4)] maxLocals)) t := fun t k => pre43 t (by
    show Steps p.tables e below (T43.setTop (mkF m 172 #[.val (.long q0), .second, .val (.int p1), .val (.int p2), .val (.int p3), .val (.int p4), .val (.int (v0_4 p1)), .val (.int (v0_10 p2)), .val (.int (v0_17 p3)), .val (.long (v0_28 p4)), .second, .val (.int (v0_34 p4)), .val (.long (v0_101_l12 q0 p1 p2 p3 p4)), .second, .val (.ref b101), .val (.int (v0_119 q0 p1 p2 p3 p4)), .val (.int (v0_128 q0 p1 p2 p3 p4)), .val (.int (v0_137 q0 p1 p2 p3 p4)), .val (.int (v0_153_s0 q0 p1 p2 p3 p4)), .val (.long (v0_172_l19 q0 p1 p2 p3 p4)), .second, .unset, .unset, .unset, .unset] [])) _
    refine XS.iload X43.here hx rfl (hb hby at_172) rfl ?_
    show Steps p.tables e below (T43.setTop (mkF m 174 #[.val (.long q0), .second, .val (.int p1), .val (.int p2), .val (.int p3), .val (.int p4), .val (.int (v0_4 p1)), .val (.int (v0_10 p2)), .val (.int (v0_17 p3)), .val (.long (v0_28 p4)), .second, .val (.int (v0_34 p4)), .val (.long (v0_101_l12 q0 p1 p2 p3 p4)), .second, .val (.ref b101), .val (.int (v0_119 q0 p1 p2 p3 p4)), .val (.int (v0_128 q0 p1 p2 p3 p4)), .val (.int (v0_137 q0 p1 p2 p3 p4)), .val (.int (v0_153_s0 q0 p1 p2 p3 p4)), .val (.long (v0_172_l19 q0 p1 p2 p3 p4)), .second, .unset, .unset, .unset, .unset] [(.int (v0_10 p2))])) _
    refine XS.i2l X43.here hx rfl (hb hby at_174) rfl ?_
    show Steps p.tables e below (T43.setTop (mkF m 175 #[.val (.long q0), .second, .val (.int p1), .val (.int p2), .val (.int p3), .val (.int p4), .val (.int (v0_4 p1)), .val (.int (v0_10 p2)), .val (.int (v0_17 p3)), .val (.long (v0_28 p4)), .second, .val (.int (v0_34 p4)), .val (.long (v0_101_l12 q0 p1 p2 p3 p4)), .second, .val (.ref b101), .val (.int (v0_119 q0 p1 p2 p3 p4)), .val (.int (v0_128 q0 p1 p2 p3 p4)), .val (.int (v0_137 q0 p1 p2 p3 p4)), .val (.int (v0_153_s0 q0 p1 p2 p3 p4)), .val (.long (v0_172_l19 q0 p1 p2 p3 p4)), .second, .unset, .unset, .unset, .unset] [(.long ((v0_10 p2).toInt64))])) _
    refine XS.lload X43.here hx rfl (hb hby at_175) rfl ?_
    show Steps p.tables e below (T43.setTop (mkF m 177 #[.val (.long q0), .second, .val (.int p1), .val (.int p2), .val (.int p3), .val (.int p4), .val (.int (v0_4 p1)), .val (.int (v0_10 p2)), .val (.int (v0_17 p3)), .val (.long (v0_28 p4)), .second, .val (.int (v0_34 p4)), .val (.long (v0_101_l12 q0 p1 p2 p3 p4)), .second, .val (.ref b101), .val (.int (v0_119 q0 p1 p2 p3 p4)), .val (.int (v0_128 q0 p1 p2 p3 p4)), .val (.int (v0_137 q0 p1 p2 p3 p4)), .val (.int (v0_153_s0 q0 p1 p2 p3 p4)), .val (.long (v0_172_l19 q0 p1 p2 p3 p4)), .second, .unset, .unset, .unset, .unset] [(.long (v0_172_l19 q0 p1 p2 p3 p4)), (.long ((v0_10 p2).toInt64))])) _
    refine XS.lcmp X43.here hx rfl (hb hby at_177) rfl ?_
    exact k)
  obtain ⟨T47, L47, X47, e47, N47, pre47⟩ : ∃ (T' : State) (L' : List Loc), Stand p l e room_1 s m #[(.long q0), (.int p1), (.int p2), (.int p3), (.int p4)] below meth c T' L' 1 1 ∧ T'.heap = T35.heap ∧ Fr n0 L' ∧ ∀ t, Steps p.tables e below (T'.setTop (mkF m 186 #[.val (.long q0), .second, .val (.int p1), .val (.int p2), .val (.int p3), .val (.int p4), .val (.int (v0_4 p1)), .val (.int (v0_10 p2)), .val (.int (v0_17 p3)), .val (.long (v0_28 p4)), .second, .val (.int (v0_34 p4)), .val (.long (v0_101_l12 q0 p1 p2 p3 p4)), .second, .val (.ref b101), .val (.int (v0_119 q0 p1 p2 p3 p4)), .val (.int (v0_128 q0 p1 p2 p3 p4)), .val (.int (v0_137 q0 p1 p2 p3 p4)), .val (.int (v0_153_s0 q0 p1 p2 p3 p4)), .val (.long (v0_172_l19 q0 p1 p2 p3 p4)), .second, .unset, .unset, .unset, .unset] [(.int (v0_186_s0 q0 p1 p2 p3 p4))])) t → Steps p.tables e below (s₁.setTop (entryFrame m #[(.long q0), (.int p1), (.int p2), (.int p3), (.int p4)] maxLocals)) t := by
    by_cases hc178_6 : (v0_172_l19 q0 p1 p2 p3 p4) < ((v0_10 p2).toInt64)
    · have pre48 : ∀ t, Steps p.tables e below (T43.setTop (mkF m 186 #[.val (.long q0), .second, .val (.int p1), .val (.int p2), .val (.int p3), .val (.int p4), .val (.int (v0_4 p1)), .val (.int (v0_10 p2)), .val (.int (v0_17 p3)), .val (.long (v0_28 p4)), .second, .val (.int (v0_34 p4)), .val (.long (v0_101_l12 q0 p1 p2 p3 p4)), .second, .val (.ref b101), .val (.int (v0_119 q0 p1 p2 p3 p4)), .val (.int (v0_128 q0 p1 p2 p3 p4)), .val (.int (v0_137 q0 p1 p2 p3 p4)), .val (.int (v0_153_s0 q0 p1 p2 p3 p4)), .val (.long (v0_172_l19 q0 p1 p2 p3 p4)), .second, .unset, .unset, .unset, .unset] [(.int (0 : Int32))])) t → Steps p.tables e below (s₁.setTop (entryFrame m #[(.long q0), (.int p1), (.int p2), (.int p3), (.int p4)] maxLocals)) t := fun t k => pre46 t (by
        show Steps p.tables e below (T43.setTop (mkF m 178 #[.val (.long q0), .second, .val (.int p1), .val (.int p2), .val (.int p3), .val (.int p4), .val (.int (v0_4 p1)), .val (.int (v0_10 p2)), .val (.int (v0_17 p3)), .val (.long (v0_28 p4)), .second, .val (.int (v0_34 p4)), .val (.long (v0_101_l12 q0 p1 p2 p3 p4)), .second, .val (.ref b101), .val (.int (v0_119 q0 p1 p2 p3 p4)), .val (.int (v0_128 q0 p1 p2 p3 p4)), .val (.int (v0_137 q0 p1 p2 p3 p4)), .val (.int (v0_153_s0 q0 p1 p2 p3 p4)), .val (.long (v0_172_l19 q0 p1 p2 p3 p4)), .second, .unset, .unset, .unset, .unset] [(.int (lcmpW ((v0_10 p2).toInt64) (v0_172_l19 q0 p1 p2 p3 p4)))])) _
        refine XS.ifYes X43.here hx rfl (pc0 := 178) (pc' := 185) rfl (hb hby at_178) rfl ((if0 _ _).trans (tlt ((lw_gt _ _).mpr hc178_6)).2.2.1) (by decide) (by decide) ?_
        show Steps p.tables e below (T43.setTop (mkF m 185 #[.val (.long q0), .second, .val (.int p1), .val (.int p2), .val (.int p3), .val (.int p4), .val (.int (v0_4 p1)), .val (.int (v0_10 p2)), .val (.int (v0_17 p3)), .val (.long (v0_28 p4)), .second, .val (.int (v0_34 p4)), .val (.long (v0_101_l12 q0 p1 p2 p3 p4)), .second, .val (.ref b101), .val (.int (v0_119 q0 p1 p2 p3 p4)), .val (.int (v0_128 q0 p1 p2 p3 p4)), .val (.int (v0_137 q0 p1 p2 p3 p4)), .val (.int (v0_153_s0 q0 p1 p2 p3 p4)), .val (.long (v0_172_l19 q0 p1 p2 p3 p4)), .second, .unset, .unset, .unset, .unset] [])) _
        refine XS.iconst X43.here hx rfl (hb hby at_185) ?_
        exact k)
      exact ⟨T43, _, X43, e43, N43, fun t k => pre48 t (by simpa only [v0_186_s0, if_pos hc178_6] using k)⟩
    · have pre49 : ∀ t, Steps p.tables e below (T43.setTop (mkF m 186 #[.val (.long q0), .second, .val (.int p1), .val (.int p2), .val (.int p3), .val (.int p4), .val (.int (v0_4 p1)), .val (.int (v0_10 p2)), .val (.int (v0_17 p3)), .val (.long (v0_28 p4)), .second, .val (.int (v0_34 p4)), .val (.long (v0_101_l12 q0 p1 p2 p3 p4)), .second, .val (.ref b101), .val (.int (v0_119 q0 p1 p2 p3 p4)), .val (.int (v0_128 q0 p1 p2 p3 p4)), .val (.int (v0_137 q0 p1 p2 p3 p4)), .val (.int (v0_153_s0 q0 p1 p2 p3 p4)), .val (.long (v0_172_l19 q0 p1 p2 p3 p4)), .second, .unset, .unset, .unset, .unset] [(.int (1 : Int32))])) t → Steps p.tables e below (s₁.setTop (entryFrame m #[(.long q0), (.int p1), (.int p2), (.int p3), (.int p4)] maxLocals)) t := fun t k => pre46 t (by
        show Steps p.tables e below (T43.setTop (mkF m 178 #[.val (.long q0), .second, .val (.int p1), .val (.int p2), .val (.int p3), .val (.int p4), .val (.int (v0_4 p1)), .val (.int (v0_10 p2)), .val (.int (v0_17 p3)), .val (.long (v0_28 p4)), .second, .val (.int (v0_34 p4)), .val (.long (v0_101_l12 q0 p1 p2 p3 p4)), .second, .val (.ref b101), .val (.int (v0_119 q0 p1 p2 p3 p4)), .val (.int (v0_128 q0 p1 p2 p3 p4)), .val (.int (v0_137 q0 p1 p2 p3 p4)), .val (.int (v0_153_s0 q0 p1 p2 p3 p4)), .val (.long (v0_172_l19 q0 p1 p2 p3 p4)), .second, .unset, .unset, .unset, .unset] [(.int (lcmpW ((v0_10 p2).toInt64) (v0_172_l19 q0 p1 p2 p3 p4)))])) _
        refine XS.ifNo X43.here hx rfl (hb hby at_178) rfl ((if0 _ _).trans (flt (fun q => hc178_6 ((lw_gt _ _).mp q))).2.2.1) ?_
        show Steps p.tables e below (T43.setTop (mkF m 181 #[.val (.long q0), .second, .val (.int p1), .val (.int p2), .val (.int p3), .val (.int p4), .val (.int (v0_4 p1)), .val (.int (v0_10 p2)), .val (.int (v0_17 p3)), .val (.long (v0_28 p4)), .second, .val (.int (v0_34 p4)), .val (.long (v0_101_l12 q0 p1 p2 p3 p4)), .second, .val (.ref b101), .val (.int (v0_119 q0 p1 p2 p3 p4)), .val (.int (v0_128 q0 p1 p2 p3 p4)), .val (.int (v0_137 q0 p1 p2 p3 p4)), .val (.int (v0_153_s0 q0 p1 p2 p3 p4)), .val (.long (v0_172_l19 q0 p1 p2 p3 p4)), .second, .unset, .unset, .unset, .unset] [])) _
        refine XS.iconst X43.here hx rfl (hb hby at_181) ?_
        show Steps p.tables e below (T43.setTop (mkF m 182 #[.val (.long q0), .second, .val (.int p1), .val (.int p2), .val (.int p3), .val (.int p4), .val (.int (v0_4 p1)), .val (.int (v0_10 p2)), .val (.int (v0_17 p3)), .val (.long (v0_28 p4)), .second, .val (.int (v0_34 p4)), .val (.long (v0_101_l12 q0 p1 p2 p3 p4)), .second, .val (.ref b101), .val (.int (v0_119 q0 p1 p2 p3 p4)), .val (.int (v0_128 q0 p1 p2 p3 p4)), .val (.int (v0_137 q0 p1 p2 p3 p4)), .val (.int (v0_153_s0 q0 p1 p2 p3 p4)), .val (.long (v0_172_l19 q0 p1 p2 p3 p4)), .second, .unset, .unset, .unset, .unset] [(.int (1 : Int32))])) _
        refine XS.goto X43.here hx rfl (pc0 := 182) (pc' := 186) rfl (hb hby at_182) (by decide) (by decide) ?_
        exact k)
      exact ⟨T43, _, X43, e43, N43, fun t k => pre49 t (by simpa only [v0_186_s0, if_neg hc178_6] using k)⟩
  have pre50 : ∀ t, Steps p.tables e below (T47.setTop (mkF m 194 #[.val (.long q0), .second, .val (.int p1), .val (.int p2), .val (.int p3), .val (.int p4), .val (.int (v0_4 p1)), .val (.int (v0_10 p2)), .val (.int (v0_17 p3)), .val (.long (v0_28 p4)), .second, .val (.int (v0_34 p4)), .val (.long (v0_101_l12 q0 p1 p2 p3 p4)), .second, .val (.ref b101), .val (.int (v0_119 q0 p1 p2 p3 p4)), .val (.int (v0_128 q0 p1 p2 p3 p4)), .val (.int (v0_137 q0 p1 p2 p3 p4)), .val (.int (v0_153_s0 q0 p1 p2 p3 p4)), .val (.long (v0_172_l19 q0 p1 p2 p3 p4)), .second, .val (.int (v0_186_s0 q0 p1 p2 p3 p4)), .val (.long (v0_172_l19 q0 p1 p2 p3 p4)), .second, .unset] [(.int (v0_186_s0 q0 p1 p2 p3 p4))])) t → Steps p.tables e below (s₁.setTop (entryFrame m #[(.long q0), (.int p1), (.int p2), (.int p3), (.int p4)] maxLocals)) t := fun t k => pre47 t (by
    show Steps p.tables e below (T47.setTop (mkF m 186 #[.val (.long q0), .second, .val (.int p1), .val (.int p2), .val (.int p3), .val (.int p4), .val (.int (v0_4 p1)), .val (.int (v0_10 p2)), .val (.int (v0_17 p3)), .val (.long (v0_28 p4)), .second, .val (.int (v0_34 p4)), .val (.long (v0_101_l12 q0 p1 p2 p3 p4)), .second, .val (.ref b101), .val (.int (v0_119 q0 p1 p2 p3 p4)), .val (.int (v0_128 q0 p1 p2 p3 p4)), .val (.int (v0_137 q0 p1 p2 p3 p4)), .val (.int (v0_153_s0 q0 p1 p2 p3 p4)), .val (.long (v0_172_l19 q0 p1 p2 p3 p4)), .second, .unset, .unset, .unset, .unset] [(.int (v0_186_s0 q0 p1 p2 p3 p4))])) _
    refine XS.istore X47.here hx rfl (hb hby at_186) rfl (l' := #[.val (.long q0), .second, .val (.int p1), .val (.int p2), .val (.int p3), .val (.int p4), .val (.int (v0_4 p1)), .val (.int (v0_10 p2)), .val (.int (v0_17 p3)), .val (.long (v0_28 p4)), .second, .val (.int (v0_34 p4)), .val (.long (v0_101_l12 q0 p1 p2 p3 p4)), .second, .val (.ref b101), .val (.int (v0_119 q0 p1 p2 p3 p4)), .val (.int (v0_128 q0 p1 p2 p3 p4)), .val (.int (v0_137 q0 p1 p2 p3 p4)), .val (.int (v0_153_s0 q0 p1 p2 p3 p4)), .val (.long (v0_172_l19 q0 p1 p2 p3 p4)), .second, .val (.int (v0_186_s0 q0 p1 p2 p3 p4)), .unset, .unset, .unset]) rfl ?_
    show Steps p.tables e below (T47.setTop (mkF m 188 #[.val (.long q0), .second, .val (.int p1), .val (.int p2), .val (.int p3), .val (.int p4), .val (.int (v0_4 p1)), .val (.int (v0_10 p2)), .val (.int (v0_17 p3)), .val (.long (v0_28 p4)), .second, .val (.int (v0_34 p4)), .val (.long (v0_101_l12 q0 p1 p2 p3 p4)), .second, .val (.ref b101), .val (.int (v0_119 q0 p1 p2 p3 p4)), .val (.int (v0_128 q0 p1 p2 p3 p4)), .val (.int (v0_137 q0 p1 p2 p3 p4)), .val (.int (v0_153_s0 q0 p1 p2 p3 p4)), .val (.long (v0_172_l19 q0 p1 p2 p3 p4)), .second, .val (.int (v0_186_s0 q0 p1 p2 p3 p4)), .unset, .unset, .unset] [])) _
    refine XS.lload X47.here hx rfl (hb hby at_188) rfl ?_
    show Steps p.tables e below (T47.setTop (mkF m 190 #[.val (.long q0), .second, .val (.int p1), .val (.int p2), .val (.int p3), .val (.int p4), .val (.int (v0_4 p1)), .val (.int (v0_10 p2)), .val (.int (v0_17 p3)), .val (.long (v0_28 p4)), .second, .val (.int (v0_34 p4)), .val (.long (v0_101_l12 q0 p1 p2 p3 p4)), .second, .val (.ref b101), .val (.int (v0_119 q0 p1 p2 p3 p4)), .val (.int (v0_128 q0 p1 p2 p3 p4)), .val (.int (v0_137 q0 p1 p2 p3 p4)), .val (.int (v0_153_s0 q0 p1 p2 p3 p4)), .val (.long (v0_172_l19 q0 p1 p2 p3 p4)), .second, .val (.int (v0_186_s0 q0 p1 p2 p3 p4)), .unset, .unset, .unset] [(.long (v0_172_l19 q0 p1 p2 p3 p4))])) _
    refine XS.lstore X47.here hx rfl (hb hby at_190) rfl (l' := #[.val (.long q0), .second, .val (.int p1), .val (.int p2), .val (.int p3), .val (.int p4), .val (.int (v0_4 p1)), .val (.int (v0_10 p2)), .val (.int (v0_17 p3)), .val (.long (v0_28 p4)), .second, .val (.int (v0_34 p4)), .val (.long (v0_101_l12 q0 p1 p2 p3 p4)), .second, .val (.ref b101), .val (.int (v0_119 q0 p1 p2 p3 p4)), .val (.int (v0_128 q0 p1 p2 p3 p4)), .val (.int (v0_137 q0 p1 p2 p3 p4)), .val (.int (v0_153_s0 q0 p1 p2 p3 p4)), .val (.long (v0_172_l19 q0 p1 p2 p3 p4)), .second, .val (.int (v0_186_s0 q0 p1 p2 p3 p4)), .val (.long (v0_172_l19 q0 p1 p2 p3 p4)), .second, .unset]) rfl ?_
    show Steps p.tables e below (T47.setTop (mkF m 192 #[.val (.long q0), .second, .val (.int p1), .val (.int p2), .val (.int p3), .val (.int p4), .val (.int (v0_4 p1)), .val (.int (v0_10 p2)), .val (.int (v0_17 p3)), .val (.long (v0_28 p4)), .second, .val (.int (v0_34 p4)), .val (.long (v0_101_l12 q0 p1 p2 p3 p4)), .second, .val (.ref b101), .val (.int (v0_119 q0 p1 p2 p3 p4)), .val (.int (v0_128 q0 p1 p2 p3 p4)), .val (.int (v0_137 q0 p1 p2 p3 p4)), .val (.int (v0_153_s0 q0 p1 p2 p3 p4)), .val (.long (v0_172_l19 q0 p1 p2 p3 p4)), .second, .val (.int (v0_186_s0 q0 p1 p2 p3 p4)), .val (.long (v0_172_l19 q0 p1 p2 p3 p4)), .second, .unset] [])) _
    refine XS.iload X47.here hx rfl (hb hby at_192) rfl ?_
    exact k)
  obtain ⟨T51, L51, X51, e51, N51, pre51⟩ : ∃ (T' : State) (L' : List Loc), Stand p l e room_1 s m #[(.long q0), (.int p1), (.int p2), (.int p3), (.int p4)] below meth c T' L' 1 1 ∧ T'.heap = T35.heap ∧ Fr n0 L' ∧ ∀ t, Steps p.tables e below (T'.setTop (mkF m 205 #[.val (.long q0), .second, .val (.int p1), .val (.int p2), .val (.int p3), .val (.int p4), .val (.int (v0_4 p1)), .val (.int (v0_10 p2)), .val (.int (v0_17 p3)), .val (.long (v0_28 p4)), .second, .val (.int (v0_34 p4)), .val (.long (v0_101_l12 q0 p1 p2 p3 p4)), .second, .val (.ref b101), .val (.int (v0_119 q0 p1 p2 p3 p4)), .val (.int (v0_128 q0 p1 p2 p3 p4)), .val (.int (v0_137 q0 p1 p2 p3 p4)), .val (.int (v0_153_s0 q0 p1 p2 p3 p4)), .val (.long (v0_172_l19 q0 p1 p2 p3 p4)), .second, .val (.int (v0_186_s0 q0 p1 p2 p3 p4)), .val (.long (v0_205_l22 q0 p1 p2 p3 p4)), .second, .unset] [])) t → Steps p.tables e below (s₁.setTop (entryFrame m #[(.long q0), (.int p1), (.int p2), (.int p3), (.int p4)] maxLocals)) t := by
    by_cases hc194_7 : (v0_186_s0 q0 p1 p2 p3 p4) = (0 : Int32)
    · have pre52 : ∀ t, Steps p.tables e below (T47.setTop (mkF m 205 #[.val (.long q0), .second, .val (.int p1), .val (.int p2), .val (.int p3), .val (.int p4), .val (.int (v0_4 p1)), .val (.int (v0_10 p2)), .val (.int (v0_17 p3)), .val (.long (v0_28 p4)), .second, .val (.int (v0_34 p4)), .val (.long (v0_101_l12 q0 p1 p2 p3 p4)), .second, .val (.ref b101), .val (.int (v0_119 q0 p1 p2 p3 p4)), .val (.int (v0_128 q0 p1 p2 p3 p4)), .val (.int (v0_137 q0 p1 p2 p3 p4)), .val (.int (v0_153_s0 q0 p1 p2 p3 p4)), .val (.long (v0_172_l19 q0 p1 p2 p3 p4)), .second, .val (.int (v0_186_s0 q0 p1 p2 p3 p4)), .val (.long (v0_172_l19 q0 p1 p2 p3 p4)), .second, .unset] [])) t → Steps p.tables e below (s₁.setTop (entryFrame m #[(.long q0), (.int p1), (.int p2), (.int p3), (.int p4)] maxLocals)) t := fun t k => pre50 t (by
        show Steps p.tables e below (T47.setTop (mkF m 194 #[.val (.long q0), .second, .val (.int p1), .val (.int p2), .val (.int p3), .val (.int p4), .val (.int (v0_4 p1)), .val (.int (v0_10 p2)), .val (.int (v0_17 p3)), .val (.long (v0_28 p4)), .second, .val (.int (v0_34 p4)), .val (.long (v0_101_l12 q0 p1 p2 p3 p4)), .second, .val (.ref b101), .val (.int (v0_119 q0 p1 p2 p3 p4)), .val (.int (v0_128 q0 p1 p2 p3 p4)), .val (.int (v0_137 q0 p1 p2 p3 p4)), .val (.int (v0_153_s0 q0 p1 p2 p3 p4)), .val (.long (v0_172_l19 q0 p1 p2 p3 p4)), .second, .val (.int (v0_186_s0 q0 p1 p2 p3 p4)), .val (.long (v0_172_l19 q0 p1 p2 p3 p4)), .second, .unset] [(.int (v0_186_s0 q0 p1 p2 p3 p4))])) _
        refine XS.ifYes X47.here hx rfl (pc0 := 194) (pc' := 205) rfl (hb hby at_194) rfl ((if0 _ _).trans (teq hc194_7).1) (by decide) (by decide) ?_
        exact k)
      exact ⟨T47, _, X47, e47, N47, fun t k => pre52 t (by simpa only [v0_205_l22, if_pos hc194_7] using k)⟩
    · have pre53 : ∀ t, Steps p.tables e below (T47.setTop (mkF m 205 #[.val (.long q0), .second, .val (.int p1), .val (.int p2), .val (.int p3), .val (.int p4), .val (.int (v0_4 p1)), .val (.int (v0_10 p2)), .val (.int (v0_17 p3)), .val (.long (v0_28 p4)), .second, .val (.int (v0_34 p4)), .val (.long (v0_101_l12 q0 p1 p2 p3 p4)), .second, .val (.ref b101), .val (.int (v0_119 q0 p1 p2 p3 p4)), .val (.int (v0_128 q0 p1 p2 p3 p4)), .val (.int (v0_137 q0 p1 p2 p3 p4)), .val (.int (v0_153_s0 q0 p1 p2 p3 p4)), .val (.long (v0_172_l19 q0 p1 p2 p3 p4)), .second, .val (.int (v0_186_s0 q0 p1 p2 p3 p4)), .val (.long (v0_203 q0 p1 p2 p3 p4)), .second, .unset] [])) t → Steps p.tables e below (s₁.setTop (entryFrame m #[(.long q0), (.int p1), (.int p2), (.int p3), (.int p4)] maxLocals)) t := fun t k => pre50 t (by
        show Steps p.tables e below (T47.setTop (mkF m 194 #[.val (.long q0), .second, .val (.int p1), .val (.int p2), .val (.int p3), .val (.int p4), .val (.int (v0_4 p1)), .val (.int (v0_10 p2)), .val (.int (v0_17 p3)), .val (.long (v0_28 p4)), .second, .val (.int (v0_34 p4)), .val (.long (v0_101_l12 q0 p1 p2 p3 p4)), .second, .val (.ref b101), .val (.int (v0_119 q0 p1 p2 p3 p4)), .val (.int (v0_128 q0 p1 p2 p3 p4)), .val (.int (v0_137 q0 p1 p2 p3 p4)), .val (.int (v0_153_s0 q0 p1 p2 p3 p4)), .val (.long (v0_172_l19 q0 p1 p2 p3 p4)), .second, .val (.int (v0_186_s0 q0 p1 p2 p3 p4)), .val (.long (v0_172_l19 q0 p1 p2 p3 p4)), .second, .unset] [(.int (v0_186_s0 q0 p1 p2 p3 p4))])) _
        refine XS.ifNo X47.here hx rfl (hb hby at_194) rfl ((if0 _ _).trans (feq hc194_7).1) ?_
        show Steps p.tables e below (T47.setTop (mkF m 197 #[.val (.long q0), .second, .val (.int p1), .val (.int p2), .val (.int p3), .val (.int p4), .val (.int (v0_4 p1)), .val (.int (v0_10 p2)), .val (.int (v0_17 p3)), .val (.long (v0_28 p4)), .second, .val (.int (v0_34 p4)), .val (.long (v0_101_l12 q0 p1 p2 p3 p4)), .second, .val (.ref b101), .val (.int (v0_119 q0 p1 p2 p3 p4)), .val (.int (v0_128 q0 p1 p2 p3 p4)), .val (.int (v0_137 q0 p1 p2 p3 p4)), .val (.int (v0_153_s0 q0 p1 p2 p3 p4)), .val (.long (v0_172_l19 q0 p1 p2 p3 p4)), .second, .val (.int (v0_186_s0 q0 p1 p2 p3 p4)), .val (.long (v0_172_l19 q0 p1 p2 p3 p4)), .second, .unset] [])) _
        refine XS.lload X47.here hx rfl (hb hby at_197) rfl ?_
        show Steps p.tables e below (T47.setTop (mkF m 199 #[.val (.long q0), .second, .val (.int p1), .val (.int p2), .val (.int p3), .val (.int p4), .val (.int (v0_4 p1)), .val (.int (v0_10 p2)), .val (.int (v0_17 p3)), .val (.long (v0_28 p4)), .second, .val (.int (v0_34 p4)), .val (.long (v0_101_l12 q0 p1 p2 p3 p4)), .second, .val (.ref b101), .val (.int (v0_119 q0 p1 p2 p3 p4)), .val (.int (v0_128 q0 p1 p2 p3 p4)), .val (.int (v0_137 q0 p1 p2 p3 p4)), .val (.int (v0_153_s0 q0 p1 p2 p3 p4)), .val (.long (v0_172_l19 q0 p1 p2 p3 p4)), .second, .val (.int (v0_186_s0 q0 p1 p2 p3 p4)), .val (.long (v0_172_l19 q0 p1 p2 p3 p4)), .second, .unset] [(.long (v0_172_l19 q0 p1 p2 p3 p4))])) _
        refine XS.iload X47.here hx rfl (hb hby at_199) rfl ?_
        show Steps p.tables e below (T47.setTop (mkF m 201 #[.val (.long q0), .second, .val (.int p1), .val (.int p2), .val (.int p3), .val (.int p4), .val (.int (v0_4 p1)), .val (.int (v0_10 p2)), .val (.int (v0_17 p3)), .val (.long (v0_28 p4)), .second, .val (.int (v0_34 p4)), .val (.long (v0_101_l12 q0 p1 p2 p3 p4)), .second, .val (.ref b101), .val (.int (v0_119 q0 p1 p2 p3 p4)), .val (.int (v0_128 q0 p1 p2 p3 p4)), .val (.int (v0_137 q0 p1 p2 p3 p4)), .val (.int (v0_153_s0 q0 p1 p2 p3 p4)), .val (.long (v0_172_l19 q0 p1 p2 p3 p4)), .second, .val (.int (v0_186_s0 q0 p1 p2 p3 p4)), .val (.long (v0_172_l19 q0 p1 p2 p3 p4)), .second, .unset] [(.int (v0_10 p2)), (.long (v0_172_l19 q0 p1 p2 p3 p4))])) _
        refine XS.i2l X47.here hx rfl (hb hby at_201) rfl ?_
        show Steps p.tables e below (T47.setTop (mkF m 202 #[.val (.long q0), .second, .val (.int p1), .val (.int p2), .val (.int p3), .val (.int p4), .val (.int (v0_4 p1)), .val (.int (v0_10 p2)), .val (.int (v0_17 p3)), .val (.long (v0_28 p4)), .second, .val (.int (v0_34 p4)), .val (.long (v0_101_l12 q0 p1 p2 p3 p4)), .second, .val (.ref b101), .val (.int (v0_119 q0 p1 p2 p3 p4)), .val (.int (v0_128 q0 p1 p2 p3 p4)), .val (.int (v0_137 q0 p1 p2 p3 p4)), .val (.int (v0_153_s0 q0 p1 p2 p3 p4)), .val (.long (v0_172_l19 q0 p1 p2 p3 p4)), .second, .val (.int (v0_186_s0 q0 p1 p2 p3 p4)), .val (.long (v0_172_l19 q0 p1 p2 p3 p4)), .second, .unset] [(.long ((v0_10 p2).toInt64)), (.long (v0_172_l19 q0 p1 p2 p3 p4))])) _
        refine XS.lsub X47.here hx rfl (hb hby at_202) rfl ?_
        show Steps p.tables e below (T47.setTop (mkF m 203 #[.val (.long q0), .second, .val (.int p1), .val (.int p2), .val (.int p3), .val (.int p4), .val (.int (v0_4 p1)), .val (.int (v0_10 p2)), .val (.int (v0_17 p3)), .val (.long (v0_28 p4)), .second, .val (.int (v0_34 p4)), .val (.long (v0_101_l12 q0 p1 p2 p3 p4)), .second, .val (.ref b101), .val (.int (v0_119 q0 p1 p2 p3 p4)), .val (.int (v0_128 q0 p1 p2 p3 p4)), .val (.int (v0_137 q0 p1 p2 p3 p4)), .val (.int (v0_153_s0 q0 p1 p2 p3 p4)), .val (.long (v0_172_l19 q0 p1 p2 p3 p4)), .second, .val (.int (v0_186_s0 q0 p1 p2 p3 p4)), .val (.long (v0_172_l19 q0 p1 p2 p3 p4)), .second, .unset] [(.long ((v0_172_l19 q0 p1 p2 p3 p4) - ((v0_10 p2).toInt64)))])) _
        refine XS.lstore X47.here hx rfl (hb hby at_203) rfl (l' := #[.val (.long q0), .second, .val (.int p1), .val (.int p2), .val (.int p3), .val (.int p4), .val (.int (v0_4 p1)), .val (.int (v0_10 p2)), .val (.int (v0_17 p3)), .val (.long (v0_28 p4)), .second, .val (.int (v0_34 p4)), .val (.long (v0_101_l12 q0 p1 p2 p3 p4)), .second, .val (.ref b101), .val (.int (v0_119 q0 p1 p2 p3 p4)), .val (.int (v0_128 q0 p1 p2 p3 p4)), .val (.int (v0_137 q0 p1 p2 p3 p4)), .val (.int (v0_153_s0 q0 p1 p2 p3 p4)), .val (.long (v0_172_l19 q0 p1 p2 p3 p4)), .second, .val (.int (v0_186_s0 q0 p1 p2 p3 p4)), .val (.long (v0_203 q0 p1 p2 p3 p4)), .second, .unset]) rfl ?_
        exact k)
      exact ⟨T47, _, X47, e47, N47, fun t k => pre53 t (by simpa only [v0_205_l22, if_neg hc194_7] using k)⟩
  have pre54 : ∀ t, Steps p.tables e below (T51.setTop (mkF m 211 #[.val (.long q0), .second, .val (.int p1), .val (.int p2), .val (.int p3), .val (.int p4), .val (.int (v0_4 p1)), .val (.int (v0_10 p2)), .val (.int (v0_17 p3)), .val (.long (v0_28 p4)), .second, .val (.int (v0_34 p4)), .val (.long (v0_101_l12 q0 p1 p2 p3 p4)), .second, .val (.ref b101), .val (.int (v0_119 q0 p1 p2 p3 p4)), .val (.int (v0_128 q0 p1 p2 p3 p4)), .val (.int (v0_137 q0 p1 p2 p3 p4)), .val (.int (v0_153_s0 q0 p1 p2 p3 p4)), .val (.long (v0_172_l19 q0 p1 p2 p3 p4)), .second, .val (.int (v0_186_s0 q0 p1 p2 p3 p4)), .val (.long (v0_205_l22 q0 p1 p2 p3 p4)), .second, .unset] [(.int (lcmpW ((v0_17 p3).toInt64) (v0_205_l22 q0 p1 p2 p3 p4)))])) t → Steps p.tables e below (s₁.setTop (entryFrame m #[(.long q0), (.int p1), (.int p2), (.int p3), (.int p4)] maxLocals)) t := fun t k => pre51 t (by
    show Steps p.tables e below (T51.setTop (mkF m 205 #[.val (.long q0), .second, .val (.int p1), .val (.int p2), .val (.int p3), .val (.int p4), .val (.int (v0_4 p1)), .val (.int (v0_10 p2)), .val (.int (v0_17 p3)), .val (.long (v0_28 p4)), .second, .val (.int (v0_34 p4)), .val (.long (v0_101_l12 q0 p1 p2 p3 p4)), .second, .val (.ref b101), .val (.int (v0_119 q0 p1 p2 p3 p4)), .val (.int (v0_128 q0 p1 p2 p3 p4)), .val (.int (v0_137 q0 p1 p2 p3 p4)), .val (.int (v0_153_s0 q0 p1 p2 p3 p4)), .val (.long (v0_172_l19 q0 p1 p2 p3 p4)), .second, .val (.int (v0_186_s0 q0 p1 p2 p3 p4)), .val (.long (v0_205_l22 q0 p1 p2 p3 p4)), .second, .unset] [])) _
    refine XS.iload X51.here hx rfl (hb hby at_205) rfl ?_
    show Steps p.tables e below (T51.setTop (mkF m 207 #[.val (.long q0), .second, .val (.int p1), .val (.int p2), .val (.int p3), .val (.int p4), .val (.int (v0_4 p1)), .val (.int (v0_10 p2)), .val (.int (v0_17 p3)), .val (.long (v0_28 p4)), .second, .val (.int (v0_34 p4)), .val (.long (v0_101_l12 q0 p1 p2 p3 p4)), .second, .val (.ref b101), .val (.int (v0_119 q0 p1 p2 p3 p4)), .val (.int (v0_128 q0 p1 p2 p3 p4)), .val (.int (v0_137 q0 p1 p2 p3 p4)), .val (.int (v0_153_s0 q0 p1 p2 p3 p4)), .val (.long (v0_172_l19 q0 p1 p2 p3 p4)), .second, .val (.int (v0_186_s0 q0 p1 p2 p3 p4)), .val (.long (v0_205_l22 q0 p1 p2 p3 p4)), .second, .unset] [(.int (v0_17 p3))])) _
    refine XS.i2l X51.here hx rfl (hb hby at_207) rfl ?_
    show Steps p.tables e below (T51.setTop (mkF m 208 #[.val (.long q0), .second, .val (.int p1), .val (.int p2), .val (.int p3), .val (.int p4), .val (.int (v0_4 p1)), .val (.int (v0_10 p2)), .val (.int (v0_17 p3)), .val (.long (v0_28 p4)), .second, .val (.int (v0_34 p4)), .val (.long (v0_101_l12 q0 p1 p2 p3 p4)), .second, .val (.ref b101), .val (.int (v0_119 q0 p1 p2 p3 p4)), .val (.int (v0_128 q0 p1 p2 p3 p4)), .val (.int (v0_137 q0 p1 p2 p3 p4)), .val (.int (v0_153_s0 q0 p1 p2 p3 p4)), .val (.long (v0_172_l19 q0 p1 p2 p3 p4)), .second, .val (.int (v0_186_s0 q0 p1 p2 p3 p4)), .val (.long (v0_205_l22 q0 p1 p2 p3 p4)), .second, .unset] [(.long ((v0_17 p3).toInt64))])) _
    refine XS.lload X51.here hx rfl (hb hby at_208) rfl ?_
    show Steps p.tables e below (T51.setTop (mkF m 210 #[.val (.long q0), .second, .val (.int p1), .val (.int p2), .val (.int p3), .val (.int p4), .val (.int (v0_4 p1)), .val (.int (v0_10 p2)), .val (.int (v0_17 p3)), .val (.long (v0_28 p4)), .second, .val (.int (v0_34 p4)), .val (.long (v0_101_l12 q0 p1 p2 p3 p4)), .second, .val (.ref b101), .val (.int (v0_119 q0 p1 p2 p3 p4)), .val (.int (v0_128 q0 p1 p2 p3 p4)), .val (.int (v0_137 q0 p1 p2 p3 p4)), .val (.int (v0_153_s0 q0 p1 p2 p3 p4)), .val (.long (v0_172_l19 q0 p1 p2 p3 p4)), .second, .val (.int (v0_186_s0 q0 p1 p2 p3 p4)), .val (.long (v0_205_l22 q0 p1 p2 p3 p4)), .second, .unset] [(.long (v0_205_l22 q0 p1 p2 p3 p4)), (.long ((v0_17 p3).toInt64))])) _
    refine XS.lcmp X51.here hx rfl (hb hby at_210) rfl ?_
    exact k)
  obtain ⟨T55, L55, X55, e55, N55, pre55⟩ : ∃ (T' : State) (L' : List Loc), Stand p l e room_1 s m #[(.long q0), (.int p1), (.int p2), (.int p3), (.int p4)] below meth c T' L' 1 1 ∧ T'.heap = T35.heap ∧ Fr n0 L' ∧ ∀ t, Steps p.tables e below (T'.setTop (mkF m 219 #[.val (.long q0), .second, .val (.int p1), .val (.int p2), .val (.int p3), .val (.int p4), .val (.int (v0_4 p1)), .val (.int (v0_10 p2)), .val (.int (v0_17 p3)), .val (.long (v0_28 p4)), .second, .val (.int (v0_34 p4)), .val (.long (v0_101_l12 q0 p1 p2 p3 p4)), .second, .val (.ref b101), .val (.int (v0_119 q0 p1 p2 p3 p4)), .val (.int (v0_128 q0 p1 p2 p3 p4)), .val (.int (v0_137 q0 p1 p2 p3 p4)), .val (.int (v0_153_s0 q0 p1 p2 p3 p4)), .val (.long (v0_172_l19 q0 p1 p2 p3 p4)), .second, .val (.int (v0_186_s0 q0 p1 p2 p3 p4)), .val (.long (v0_205_l22 q0 p1 p2 p3 p4)), .second, .unset] [(.int (v0_219_s0 q0 p1 p2 p3 p4))])) t → Steps p.tables e below (s₁.setTop (entryFrame m #[(.long q0), (.int p1), (.int p2), (.int p3), (.int p4)] maxLocals)) t := by
    by_cases hc211_8 : (v0_205_l22 q0 p1 p2 p3 p4) < ((v0_17 p3).toInt64)
    · have pre56 : ∀ t, Steps p.tables e below (T51.setTop (mkF m 219 #[.val (.long q0), .second, .val (.int p1), .val (.int p2), .val (.int p3), .val (.int p4), .val (.int (v0_4 p1)), .val (.int (v0_10 p2)), .val (.int (v0_17 p3)), .val (.long (v0_28 p4)), .second, .val (.int (v0_34 p4)), .val (.long (v0_101_l12 q0 p1 p2 p3 p4)), .second, .val (.ref b101), .val (.int (v0_119 q0 p1 p2 p3 p4)), .val (.int (v0_128 q0 p1 p2 p3 p4)), .val (.int (v0_137 q0 p1 p2 p3 p4)), .val (.int (v0_153_s0 q0 p1 p2 p3 p4)), .val (.long (v0_172_l19 q0 p1 p2 p3 p4)), .second, .val (.int (v0_186_s0 q0 p1 p2 p3 p4)), .val (.long (v0_205_l22 q0 p1 p2 p3 p4)), .second, .unset] [(.int (0 : Int32))])) t → Steps p.tables e below (s₁.setTop (entryFrame m #[(.long q0), (.int p1), (.int p2), (.int p3), (.int p4)] maxLocals)) t := fun t k => pre54 t (by
        show Steps p.tables e below (T51.setTop (mkF m 211 #[.val (.long q0), .second, .val (.int p1), .val (.int p2), .val (.int p3), .val (.int p4), .val (.int (v0_4 p1)), .val (.int (v0_10 p2)), .val (.int (v0_17 p3)), .val (.long (v0_28 p4)), .second, .val (.int (v0_34 p4)), .val (.long (v0_101_l12 q0 p1 p2 p3 p4)), .second, .val (.ref b101), .val (.int (v0_119 q0 p1 p2 p3 p4)), .val (.int (v0_128 q0 p1 p2 p3 p4)), .val (.int (v0_137 q0 p1 p2 p3 p4)), .val (.int (v0_153_s0 q0 p1 p2 p3 p4)), .val (.long (v0_172_l19 q0 p1 p2 p3 p4)), .second, .val (.int (v0_186_s0 q0 p1 p2 p3 p4)), .val (.long (v0_205_l22 q0 p1 p2 p3 p4)), .second, .unset] [(.int (lcmpW ((v0_17 p3).toInt64) (v0_205_l22 q0 p1 p2 p3 p4)))])) _
        refine XS.ifYes X51.here hx rfl (pc0 := 211) (pc' := 218) rfl (hb hby at_211) rfl ((if0 _ _).trans (tlt ((lw_gt _ _).mpr hc211_8)).2.2.1) (by decide) (by decide) ?_
        show Steps p.tables e below (T51.setTop (mkF m 218 #[.val (.long q0), .second, .val (.int p1), .val (.int p2), .val (.int p3), .val (.int p4), .val (.int (v0_4 p1)), .val (.int (v0_10 p2)), .val (.int (v0_17 p3)), .val (.long (v0_28 p4)), .second, .val (.int (v0_34 p4)), .val (.long (v0_101_l12 q0 p1 p2 p3 p4)), .second, .val (.ref b101), .val (.int (v0_119 q0 p1 p2 p3 p4)), .val (.int (v0_128 q0 p1 p2 p3 p4)), .val (.int (v0_137 q0 p1 p2 p3 p4)), .val (.int (v0_153_s0 q0 p1 p2 p3 p4)), .val (.long (v0_172_l19 q0 p1 p2 p3 p4)), .second, .val (.int (v0_186_s0 q0 p1 p2 p3 p4)), .val (.long (v0_205_l22 q0 p1 p2 p3 p4)), .second, .unset] [])) _
        refine XS.iconst X51.here hx rfl (hb hby at_218) ?_
        exact k)
      exact ⟨T51, _, X51, e51, N51, fun t k => pre56 t (by simpa only [v0_219_s0, if_pos hc211_8] using k)⟩
    · have pre57 : ∀ t, Steps p.tables e below (T51.setTop (mkF m 219 #[.val (.long q0), .second, .val (.int p1), .val (.int p2), .val (.int p3), .val (.int p4), .val (.int (v0_4 p1)), .val (.int (v0_10 p2)), .val (.int (v0_17 p3)), .val (.long (v0_28 p4)), .second, .val (.int (v0_34 p4)), .val (.long (v0_101_l12 q0 p1 p2 p3 p4)), .second, .val (.ref b101), .val (.int (v0_119 q0 p1 p2 p3 p4)), .val (.int (v0_128 q0 p1 p2 p3 p4)), .val (.int (v0_137 q0 p1 p2 p3 p4)), .val (.int (v0_153_s0 q0 p1 p2 p3 p4)), .val (.long (v0_172_l19 q0 p1 p2 p3 p4)), .second, .val (.int (v0_186_s0 q0 p1 p2 p3 p4)), .val (.long (v0_205_l22 q0 p1 p2 p3 p4)), .second, .unset] [(.int (1 : Int32))])) t → Steps p.tables e below (s₁.setTop (entryFrame m #[(.long q0), (.int p1), (.int p2), (.int p3), (.int p4)] maxLocals)) t := fun t k => pre54 t (by
        show Steps p.tables e below (T51.setTop (mkF m 211 #[.val (.long q0), .second, .val (.int p1), .val (.int p2), .val (.int p3), .val (.int p4), .val (.int (v0_4 p1)), .val (.int (v0_10 p2)), .val (.int (v0_17 p3)), .val (.long (v0_28 p4)), .second, .val (.int (v0_34 p4)), .val (.long (v0_101_l12 q0 p1 p2 p3 p4)), .second, .val (.ref b101), .val (.int (v0_119 q0 p1 p2 p3 p4)), .val (.int (v0_128 q0 p1 p2 p3 p4)), .val (.int (v0_137 q0 p1 p2 p3 p4)), .val (.int (v0_153_s0 q0 p1 p2 p3 p4)), .val (.long (v0_172_l19 q0 p1 p2 p3 p4)), .second, .val (.int (v0_186_s0 q0 p1 p2 p3 p4)), .val (.long (v0_205_l22 q0 p1 p2 p3 p4)), .second, .unset] [(.int (lcmpW ((v0_17 p3).toInt64) (v0_205_l22 q0 p1 p2 p3 p4)))])) _
        refine XS.ifNo X51.here hx rfl (hb hby at_211) rfl ((if0 _ _).trans (flt (fun q => hc211_8 ((lw_gt _ _).mp q))).2.2.1) ?_
        show Steps p.tables e below (T51.setTop (mkF m 214 #[.val (.long q0), .second, .val (.int p1), .val (.int p2), .val (.int p3), .val (.int p4), .val (.int (v0_4 p1)), .val (.int (v0_10 p2)), .val (.int (v0_17 p3)), .val (.long (v0_28 p4)), .second, .val (.int (v0_34 p4)), .val (.long (v0_101_l12 q0 p1 p2 p3 p4)), .second, .val (.ref b101), .val (.int (v0_119 q0 p1 p2 p3 p4)), .val (.int (v0_128 q0 p1 p2 p3 p4)), .val (.int (v0_137 q0 p1 p2 p3 p4)), .val (.int (v0_153_s0 q0 p1 p2 p3 p4)), .val (.long (v0_172_l19 q0 p1 p2 p3 p4)), .second, .val (.int (v0_186_s0 q0 p1 p2 p3 p4)), .val (.long (v0_205_l22 q0 p1 p2 p3 p4)), .second, .unset] [])) _
        refine XS.iconst X51.here hx rfl (hb hby at_214) ?_
        show Steps p.tables e below (T51.setTop (mkF m 215 #[.val (.long q0), .second, .val (.int p1), .val (.int p2), .val (.int p3), .val (.int p4), .val (.int (v0_4 p1)), .val (.int (v0_10 p2)), .val (.int (v0_17 p3)), .val (.long (v0_28 p4)), .second, .val (.int (v0_34 p4)), .val (.long (v0_101_l12 q0 p1 p2 p3 p4)), .second, .val (.ref b101), .val (.int (v0_119 q0 p1 p2 p3 p4)), .val (.int (v0_128 q0 p1 p2 p3 p4)), .val (.int (v0_137 q0 p1 p2 p3 p4)), .val (.int (v0_153_s0 q0 p1 p2 p3 p4)), .val (.long (v0_172_l19 q0 p1 p2 p3 p4)), .second, .val (.int (v0_186_s0 q0 p1 p2 p3 p4)), .val (.long (v0_205_l22 q0 p1 p2 p3 p4)), .second, .unset] [(.int (1 : Int32))])) _
        refine XS.goto X51.here hx rfl (pc0 := 215) (pc' := 219) rfl (hb hby at_215) (by decide) (by decide) ?_
        exact k)
      exact ⟨T51, _, X51, e51, N51, fun t k => pre57 t (by simpa only [v0_219_s0, if_neg hc211_8] using k)⟩
  have pre58 : ∀ t, Steps p.tables e below (T55.setTop (mkF m 225 #[.val (.long q0), .second, .val (.int p1), .val (.int p2), .val (.int p3), .val (.int p4), .val (.int (v0_4 p1)), .val (.int (v0_10 p2)), .val (.int (v0_17 p3)), .val (.long (v0_28 p4)), .second, .val (.int (v0_34 p4)), .val (.long (v0_101_l12 q0 p1 p2 p3 p4)), .second, .val (.ref b101), .val (.int (v0_119 q0 p1 p2 p3 p4)), .val (.int (v0_128 q0 p1 p2 p3 p4)), .val (.int (v0_137 q0 p1 p2 p3 p4)), .val (.int (v0_153_s0 q0 p1 p2 p3 p4)), .val (.long (v0_172_l19 q0 p1 p2 p3 p4)), .second, .val (.int (v0_186_s0 q0 p1 p2 p3 p4)), .val (.long (v0_205_l22 q0 p1 p2 p3 p4)), .second, .val (.int (v0_219_s0 q0 p1 p2 p3 p4))] [(.int (v0_153_s0 q0 p1 p2 p3 p4)), (.int (v0_119 q0 p1 p2 p3 p4))])) t → Steps p.tables e below (s₁.setTop (entryFrame m #[(.long q0), (.int p1), (.int p2), (.int p3), (.int p4)] maxLocals)) t := fun t k => pre55 t (by
    show Steps p.tables e below (T55.setTop (mkF m 219 #[.val (.long q0), .second, .val (.int p1), .val (.int p2), .val (.int p3), .val (.int p4), .val (.int (v0_4 p1)), .val (.int (v0_10 p2)), .val (.int (v0_17 p3)), .val (.long (v0_28 p4)), .second, .val (.int (v0_34 p4)), .val (.long (v0_101_l12 q0 p1 p2 p3 p4)), .second, .val (.ref b101), .val (.int (v0_119 q0 p1 p2 p3 p4)), .val (.int (v0_128 q0 p1 p2 p3 p4)), .val (.int (v0_137 q0 p1 p2 p3 p4)), .val (.int (v0_153_s0 q0 p1 p2 p3 p4)), .val (.long (v0_172_l19 q0 p1 p2 p3 p4)), .second, .val (.int (v0_186_s0 q0 p1 p2 p3 p4)), .val (.long (v0_205_l22 q0 p1 p2 p3 p4)), .second, .unset] [(.int (v0_219_s0 q0 p1 p2 p3 p4))])) _
    refine XS.istore X55.here hx rfl (hb hby at_219) rfl (l' := #[.val (.long q0), .second, .val (.int p1), .val (.int p2), .val (.int p3), .val (.int p4), .val (.int (v0_4 p1)), .val (.int (v0_10 p2)), .val (.int (v0_17 p3)), .val (.long (v0_28 p4)), .second, .val (.int (v0_34 p4)), .val (.long (v0_101_l12 q0 p1 p2 p3 p4)), .second, .val (.ref b101), .val (.int (v0_119 q0 p1 p2 p3 p4)), .val (.int (v0_128 q0 p1 p2 p3 p4)), .val (.int (v0_137 q0 p1 p2 p3 p4)), .val (.int (v0_153_s0 q0 p1 p2 p3 p4)), .val (.long (v0_172_l19 q0 p1 p2 p3 p4)), .second, .val (.int (v0_186_s0 q0 p1 p2 p3 p4)), .val (.long (v0_205_l22 q0 p1 p2 p3 p4)), .second, .val (.int (v0_219_s0 q0 p1 p2 p3 p4))]) rfl ?_
    show Steps p.tables e below (T55.setTop (mkF m 221 #[.val (.long q0), .second, .val (.int p1), .val (.int p2), .val (.int p3), .val (.int p4), .val (.int (v0_4 p1)), .val (.int (v0_10 p2)), .val (.int (v0_17 p3)), .val (.long (v0_28 p4)), .second, .val (.int (v0_34 p4)), .val (.long (v0_101_l12 q0 p1 p2 p3 p4)), .second, .val (.ref b101), .val (.int (v0_119 q0 p1 p2 p3 p4)), .val (.int (v0_128 q0 p1 p2 p3 p4)), .val (.int (v0_137 q0 p1 p2 p3 p4)), .val (.int (v0_153_s0 q0 p1 p2 p3 p4)), .val (.long (v0_172_l19 q0 p1 p2 p3 p4)), .second, .val (.int (v0_186_s0 q0 p1 p2 p3 p4)), .val (.long (v0_205_l22 q0 p1 p2 p3 p4)), .second, .val (.int (v0_219_s0 q0 p1 p2 p3 p4))] [])) _
    refine XS.iload X55.here hx rfl (hb hby at_221) rfl ?_
    show Steps p.tables e below (T55.setTop (mkF m 223 #[.val (.long q0), .second, .val (.int p1), .val (.int p2), .val (.int p3), .val (.int p4), .val (.int (v0_4 p1)), .val (.int (v0_10 p2)), .val (.int (v0_17 p3)), .val (.long (v0_28 p4)), .second, .val (.int (v0_34 p4)), .val (.long (v0_101_l12 q0 p1 p2 p3 p4)), .second, .val (.ref b101), .val (.int (v0_119 q0 p1 p2 p3 p4)), .val (.int (v0_128 q0 p1 p2 p3 p4)), .val (.int (v0_137 q0 p1 p2 p3 p4)), .val (.int (v0_153_s0 q0 p1 p2 p3 p4)), .val (.long (v0_172_l19 q0 p1 p2 p3 p4)), .second, .val (.int (v0_186_s0 q0 p1 p2 p3 p4)), .val (.long (v0_205_l22 q0 p1 p2 p3 p4)), .second, .val (.int (v0_219_s0 q0 p1 p2 p3 p4))] [(.int (v0_119 q0 p1 p2 p3 p4))])) _
    refine XS.iload X55.here hx rfl (hb hby at_223) rfl ?_
    exact k)
  by_cases hc225_9 : (v0_119 q0 p1 p2 p3 p4) = (v0_153_s0 q0 p1 p2 p3 p4)
  · have pre59 : ∀ t, Steps p.tables e below (T55.setTop (mkF m 232 #[.val (.long q0), .second, .val (.int p1), .val (.int p2), .val (.int p3), .val (.int p4), .val (.int (v0_4 p1)), .val (.int (v0_10 p2)), .val (.int (v0_17 p3)), .val (.long (v0_28 p4)), .second, .val (.int (v0_34 p4)), .val (.long (v0_101_l12 q0 p1 p2 p3 p4)), .second, .val (.ref b101), .val (.int (v0_119 q0 p1 p2 p3 p4)), .val (.int (v0_128 q0 p1 p2 p3 p4)), .val (.int (v0_137 q0 p1 p2 p3 p4)), .val (.int (v0_153_s0 q0 p1 p2 p3 p4)), .val (.long (v0_172_l19 q0 p1 p2 p3 p4)), .second, .val (.int (v0_186_s0 q0 p1 p2 p3 p4)), .val (.long (v0_205_l22 q0 p1 p2 p3 p4)), .second, .val (.int (v0_219_s0 q0 p1 p2 p3 p4))] [(.int (v0_186_s0 q0 p1 p2 p3 p4)), (.int (v0_128 q0 p1 p2 p3 p4))])) t → Steps p.tables e below (s₁.setTop (entryFrame m #[(.long q0), (.int p1), (.int p2), (.int p3), (.int p4)] maxLocals)) t := fun t k => pre58 t (by
      show Steps p.tables e below (T55.setTop (mkF m 225 #[.val (.long q0), .second, .val (.int p1), .val (.int p2), .val (.int p3), .val (.int p4), .val (.int (v0_4 p1)), .val (.int (v0_10 p2)), .val (.int (v0_17 p3)), .val (.long (v0_28 p4)), .second, .val (.int (v0_34 p4)), .val (.long (v0_101_l12 q0 p1 p2 p3 p4)), .second, .val (.ref b101), .val (.int (v0_119 q0 p1 p2 p3 p4)), .val (.int (v0_128 q0 p1 p2 p3 p4)), .val (.int (v0_137 q0 p1 p2 p3 p4)), .val (.int (v0_153_s0 q0 p1 p2 p3 p4)), .val (.long (v0_172_l19 q0 p1 p2 p3 p4)), .second, .val (.int (v0_186_s0 q0 p1 p2 p3 p4)), .val (.long (v0_205_l22 q0 p1 p2 p3 p4)), .second, .val (.int (v0_219_s0 q0 p1 p2 p3 p4))] [(.int (v0_153_s0 q0 p1 p2 p3 p4)), (.int (v0_119 q0 p1 p2 p3 p4))])) _
      refine XS.icmpNo X55.here hx rfl (hb hby at_225) rfl (teq hc225_9).2 ?_
      show Steps p.tables e below (T55.setTop (mkF m 228 #[.val (.long q0), .second, .val (.int p1), .val (.int p2), .val (.int p3), .val (.int p4), .val (.int (v0_4 p1)), .val (.int (v0_10 p2)), .val (.int (v0_17 p3)), .val (.long (v0_28 p4)), .second, .val (.int (v0_34 p4)), .val (.long (v0_101_l12 q0 p1 p2 p3 p4)), .second, .val (.ref b101), .val (.int (v0_119 q0 p1 p2 p3 p4)), .val (.int (v0_128 q0 p1 p2 p3 p4)), .val (.int (v0_137 q0 p1 p2 p3 p4)), .val (.int (v0_153_s0 q0 p1 p2 p3 p4)), .val (.long (v0_172_l19 q0 p1 p2 p3 p4)), .second, .val (.int (v0_186_s0 q0 p1 p2 p3 p4)), .val (.long (v0_205_l22 q0 p1 p2 p3 p4)), .second, .val (.int (v0_219_s0 q0 p1 p2 p3 p4))] [])) _
      refine XS.iload X55.here hx rfl (hb hby at_228) rfl ?_
      show Steps p.tables e below (T55.setTop (mkF m 230 #[.val (.long q0), .second, .val (.int p1), .val (.int p2), .val (.int p3), .val (.int p4), .val (.int (v0_4 p1)), .val (.int (v0_10 p2)), .val (.int (v0_17 p3)), .val (.long (v0_28 p4)), .second, .val (.int (v0_34 p4)), .val (.long (v0_101_l12 q0 p1 p2 p3 p4)), .second, .val (.ref b101), .val (.int (v0_119 q0 p1 p2 p3 p4)), .val (.int (v0_128 q0 p1 p2 p3 p4)), .val (.int (v0_137 q0 p1 p2 p3 p4)), .val (.int (v0_153_s0 q0 p1 p2 p3 p4)), .val (.long (v0_172_l19 q0 p1 p2 p3 p4)), .second, .val (.int (v0_186_s0 q0 p1 p2 p3 p4)), .val (.long (v0_205_l22 q0 p1 p2 p3 p4)), .second, .val (.int (v0_219_s0 q0 p1 p2 p3 p4))] [(.int (v0_128 q0 p1 p2 p3 p4))])) _
      refine XS.iload X55.here hx rfl (hb hby at_230) rfl ?_
      exact k)
    by_cases hc232_10 : (v0_128 q0 p1 p2 p3 p4) = (v0_186_s0 q0 p1 p2 p3 p4)
    · have pre60 : ∀ t, Steps p.tables e below (T55.setTop (mkF m 239 #[.val (.long q0), .second, .val (.int p1), .val (.int p2), .val (.int p3), .val (.int p4), .val (.int (v0_4 p1)), .val (.int (v0_10 p2)), .val (.int (v0_17 p3)), .val (.long (v0_28 p4)), .second, .val (.int (v0_34 p4)), .val (.long (v0_101_l12 q0 p1 p2 p3 p4)), .second, .val (.ref b101), .val (.int (v0_119 q0 p1 p2 p3 p4)), .val (.int (v0_128 q0 p1 p2 p3 p4)), .val (.int (v0_137 q0 p1 p2 p3 p4)), .val (.int (v0_153_s0 q0 p1 p2 p3 p4)), .val (.long (v0_172_l19 q0 p1 p2 p3 p4)), .second, .val (.int (v0_186_s0 q0 p1 p2 p3 p4)), .val (.long (v0_205_l22 q0 p1 p2 p3 p4)), .second, .val (.int (v0_219_s0 q0 p1 p2 p3 p4))] [(.int (v0_219_s0 q0 p1 p2 p3 p4)), (.int (v0_137 q0 p1 p2 p3 p4))])) t → Steps p.tables e below (s₁.setTop (entryFrame m #[(.long q0), (.int p1), (.int p2), (.int p3), (.int p4)] maxLocals)) t := fun t k => pre59 t (by
        show Steps p.tables e below (T55.setTop (mkF m 232 #[.val (.long q0), .second, .val (.int p1), .val (.int p2), .val (.int p3), .val (.int p4), .val (.int (v0_4 p1)), .val (.int (v0_10 p2)), .val (.int (v0_17 p3)), .val (.long (v0_28 p4)), .second, .val (.int (v0_34 p4)), .val (.long (v0_101_l12 q0 p1 p2 p3 p4)), .second, .val (.ref b101), .val (.int (v0_119 q0 p1 p2 p3 p4)), .val (.int (v0_128 q0 p1 p2 p3 p4)), .val (.int (v0_137 q0 p1 p2 p3 p4)), .val (.int (v0_153_s0 q0 p1 p2 p3 p4)), .val (.long (v0_172_l19 q0 p1 p2 p3 p4)), .second, .val (.int (v0_186_s0 q0 p1 p2 p3 p4)), .val (.long (v0_205_l22 q0 p1 p2 p3 p4)), .second, .val (.int (v0_219_s0 q0 p1 p2 p3 p4))] [(.int (v0_186_s0 q0 p1 p2 p3 p4)), (.int (v0_128 q0 p1 p2 p3 p4))])) _
        refine XS.icmpNo X55.here hx rfl (hb hby at_232) rfl (teq hc232_10).2 ?_
        show Steps p.tables e below (T55.setTop (mkF m 235 #[.val (.long q0), .second, .val (.int p1), .val (.int p2), .val (.int p3), .val (.int p4), .val (.int (v0_4 p1)), .val (.int (v0_10 p2)), .val (.int (v0_17 p3)), .val (.long (v0_28 p4)), .second, .val (.int (v0_34 p4)), .val (.long (v0_101_l12 q0 p1 p2 p3 p4)), .second, .val (.ref b101), .val (.int (v0_119 q0 p1 p2 p3 p4)), .val (.int (v0_128 q0 p1 p2 p3 p4)), .val (.int (v0_137 q0 p1 p2 p3 p4)), .val (.int (v0_153_s0 q0 p1 p2 p3 p4)), .val (.long (v0_172_l19 q0 p1 p2 p3 p4)), .second, .val (.int (v0_186_s0 q0 p1 p2 p3 p4)), .val (.long (v0_205_l22 q0 p1 p2 p3 p4)), .second, .val (.int (v0_219_s0 q0 p1 p2 p3 p4))] [])) _
        refine XS.iload X55.here hx rfl (hb hby at_235) rfl ?_
        show Steps p.tables e below (T55.setTop (mkF m 237 #[.val (.long q0), .second, .val (.int p1), .val (.int p2), .val (.int p3), .val (.int p4), .val (.int (v0_4 p1)), .val (.int (v0_10 p2)), .val (.int (v0_17 p3)), .val (.long (v0_28 p4)), .second, .val (.int (v0_34 p4)), .val (.long (v0_101_l12 q0 p1 p2 p3 p4)), .second, .val (.ref b101), .val (.int (v0_119 q0 p1 p2 p3 p4)), .val (.int (v0_128 q0 p1 p2 p3 p4)), .val (.int (v0_137 q0 p1 p2 p3 p4)), .val (.int (v0_153_s0 q0 p1 p2 p3 p4)), .val (.long (v0_172_l19 q0 p1 p2 p3 p4)), .second, .val (.int (v0_186_s0 q0 p1 p2 p3 p4)), .val (.long (v0_205_l22 q0 p1 p2 p3 p4)), .second, .val (.int (v0_219_s0 q0 p1 p2 p3 p4))] [(.int (v0_137 q0 p1 p2 p3 p4))])) _
        refine XS.iload X55.here hx rfl (hb hby at_237) rfl ?_
        exact k)
      by_cases hc239_11 : (v0_137 q0 p1 p2 p3 p4) = (v0_219_s0 q0 p1 p2 p3 p4)
      · have pre61 : ∀ t, Steps p.tables e below (T55.setTop (mkF m 247 #[.val (.long q0), .second, .val (.int p1), .val (.int p2), .val (.int p3), .val (.int p4), .val (.int (v0_4 p1)), .val (.int (v0_10 p2)), .val (.int (v0_17 p3)), .val (.long (v0_28 p4)), .second, .val (.int (v0_34 p4)), .val (.long (v0_101_l12 q0 p1 p2 p3 p4)), .second, .val (.ref b101), .val (.int (v0_119 q0 p1 p2 p3 p4)), .val (.int (v0_128 q0 p1 p2 p3 p4)), .val (.int (v0_137 q0 p1 p2 p3 p4)), .val (.int (v0_153_s0 q0 p1 p2 p3 p4)), .val (.long (v0_172_l19 q0 p1 p2 p3 p4)), .second, .val (.int (v0_186_s0 q0 p1 p2 p3 p4)), .val (.long (v0_205_l22 q0 p1 p2 p3 p4)), .second, .val (.int (v0_219_s0 q0 p1 p2 p3 p4))] [(.int (1 : Int32))])) t → Steps p.tables e below (s₁.setTop (entryFrame m #[(.long q0), (.int p1), (.int p2), (.int p3), (.int p4)] maxLocals)) t := fun t k => pre60 t (by
          show Steps p.tables e below (T55.setTop (mkF m 239 #[.val (.long q0), .second, .val (.int p1), .val (.int p2), .val (.int p3), .val (.int p4), .val (.int (v0_4 p1)), .val (.int (v0_10 p2)), .val (.int (v0_17 p3)), .val (.long (v0_28 p4)), .second, .val (.int (v0_34 p4)), .val (.long (v0_101_l12 q0 p1 p2 p3 p4)), .second, .val (.ref b101), .val (.int (v0_119 q0 p1 p2 p3 p4)), .val (.int (v0_128 q0 p1 p2 p3 p4)), .val (.int (v0_137 q0 p1 p2 p3 p4)), .val (.int (v0_153_s0 q0 p1 p2 p3 p4)), .val (.long (v0_172_l19 q0 p1 p2 p3 p4)), .second, .val (.int (v0_186_s0 q0 p1 p2 p3 p4)), .val (.long (v0_205_l22 q0 p1 p2 p3 p4)), .second, .val (.int (v0_219_s0 q0 p1 p2 p3 p4))] [(.int (v0_219_s0 q0 p1 p2 p3 p4)), (.int (v0_137 q0 p1 p2 p3 p4))])) _
          refine XS.icmpNo X55.here hx rfl (hb hby at_239) rfl (teq hc239_11).2 ?_
          show Steps p.tables e below (T55.setTop (mkF m 242 #[.val (.long q0), .second, .val (.int p1), .val (.int p2), .val (.int p3), .val (.int p4), .val (.int (v0_4 p1)), .val (.int (v0_10 p2)), .val (.int (v0_17 p3)), .val (.long (v0_28 p4)), .second, .val (.int (v0_34 p4)), .val (.long (v0_101_l12 q0 p1 p2 p3 p4)), .second, .val (.ref b101), .val (.int (v0_119 q0 p1 p2 p3 p4)), .val (.int (v0_128 q0 p1 p2 p3 p4)), .val (.int (v0_137 q0 p1 p2 p3 p4)), .val (.int (v0_153_s0 q0 p1 p2 p3 p4)), .val (.long (v0_172_l19 q0 p1 p2 p3 p4)), .second, .val (.int (v0_186_s0 q0 p1 p2 p3 p4)), .val (.long (v0_205_l22 q0 p1 p2 p3 p4)), .second, .val (.int (v0_219_s0 q0 p1 p2 p3 p4))] [])) _
          refine XS.iconst X55.here hx rfl (hb hby at_242) ?_
          show Steps p.tables e below (T55.setTop (mkF m 243 #[.val (.long q0), .second, .val (.int p1), .val (.int p2), .val (.int p3), .val (.int p4), .val (.int (v0_4 p1)), .val (.int (v0_10 p2)), .val (.int (v0_17 p3)), .val (.long (v0_28 p4)), .second, .val (.int (v0_34 p4)), .val (.long (v0_101_l12 q0 p1 p2 p3 p4)), .second, .val (.ref b101), .val (.int (v0_119 q0 p1 p2 p3 p4)), .val (.int (v0_128 q0 p1 p2 p3 p4)), .val (.int (v0_137 q0 p1 p2 p3 p4)), .val (.int (v0_153_s0 q0 p1 p2 p3 p4)), .val (.long (v0_172_l19 q0 p1 p2 p3 p4)), .second, .val (.int (v0_186_s0 q0 p1 p2 p3 p4)), .val (.long (v0_205_l22 q0 p1 p2 p3 p4)), .second, .val (.int (v0_219_s0 q0 p1 p2 p3 p4))] [(.int (1 : Int32))])) _
          refine XS.goto X55.here hx rfl (pc0 := 243) (pc' := 247) rfl (hb hby at_243) (by decide) (by decide) ?_
          exact k)
        obtain ⟨fs, hr, hrun, hended, hW, hsame⟩ := X55.leave (v := some (.int (1 : Int32))) (fun h => by rw [Bd.returns] at h; cases h)
        refine ⟨_, _, ?_, hrun, hended, _, _, rfl, ?_, ⟨_, rfl⟩, hW, hsame.mono (by decide) (by decide)⟩
        · exact pre61 _ (retN X55 hx (t := .boolean) Bd.returns (by simp) (hb hby at_247) hr)
        · exact ⟨by simp only [f0, if_pos hc225_9, if_pos hc232_10, if_pos hc239_11], N55, trivial⟩
      · have pre62 : ∀ t, Steps p.tables e below (T55.setTop (mkF m 247 #[.val (.long q0), .second, .val (.int p1), .val (.int p2), .val (.int p3), .val (.int p4), .val (.int (v0_4 p1)), .val (.int (v0_10 p2)), .val (.int (v0_17 p3)), .val (.long (v0_28 p4)), .second, .val (.int (v0_34 p4)), .val (.long (v0_101_l12 q0 p1 p2 p3 p4)), .second, .val (.ref b101), .val (.int (v0_119 q0 p1 p2 p3 p4)), .val (.int (v0_128 q0 p1 p2 p3 p4)), .val (.int (v0_137 q0 p1 p2 p3 p4)), .val (.int (v0_153_s0 q0 p1 p2 p3 p4)), .val (.long (v0_172_l19 q0 p1 p2 p3 p4)), .second, .val (.int (v0_186_s0 q0 p1 p2 p3 p4)), .val (.long (v0_205_l22 q0 p1 p2 p3 p4)), .second, .val (.int (v0_219_s0 q0 p1 p2 p3 p4))] [(.int (0 : Int32))])) t → Steps p.tables e below (s₁.setTop (entryFrame m #[(.long q0), (.int p1), (.int p2), (.int p3), (.int p4)] maxLocals)) t := fun t k => pre60 t (by
          show Steps p.tables e below (T55.setTop (mkF m 239 #[.val (.long q0), .second, .val (.int p1), .val (.int p2), .val (.int p3), .val (.int p4), .val (.int (v0_4 p1)), .val (.int (v0_10 p2)), .val (.int (v0_17 p3)), .val (.long (v0_28 p4)), .second, .val (.int (v0_34 p4)), .val (.long (v0_101_l12 q0 p1 p2 p3 p4)), .second, .val (.ref b101), .val (.int (v0_119 q0 p1 p2 p3 p4)), .val (.int (v0_128 q0 p1 p2 p3 p4)), .val (.int (v0_137 q0 p1 p2 p3 p4)), .val (.int (v0_153_s0 q0 p1 p2 p3 p4)), .val (.long (v0_172_l19 q0 p1 p2 p3 p4)), .second, .val (.int (v0_186_s0 q0 p1 p2 p3 p4)), .val (.long (v0_205_l22 q0 p1 p2 p3 p4)), .second, .val (.int (v0_219_s0 q0 p1 p2 p3 p4))] [(.int (v0_219_s0 q0 p1 p2 p3 p4)), (.int (v0_137 q0 p1 p2 p3 p4))])) _
          refine XS.icmpYes X55.here hx rfl (pc0 := 239) (pc' := 246) rfl (hb hby at_239) rfl (feq hc239_11).2 (by decide) (by decide) ?_
          show Steps p.tables e below (T55.setTop (mkF m 246 #[.val (.long q0), .second, .val (.int p1), .val (.int p2), .val (.int p3), .val (.int p4), .val (.int (v0_4 p1)), .val (.int (v0_10 p2)), .val (.int (v0_17 p3)), .val (.long (v0_28 p4)), .second, .val (.int (v0_34 p4)), .val (.long (v0_101_l12 q0 p1 p2 p3 p4)), .second, .val (.ref b101), .val (.int (v0_119 q0 p1 p2 p3 p4)), .val (.int (v0_128 q0 p1 p2 p3 p4)), .val (.int (v0_137 q0 p1 p2 p3 p4)), .val (.int (v0_153_s0 q0 p1 p2 p3 p4)), .val (.long (v0_172_l19 q0 p1 p2 p3 p4)), .second, .val (.int (v0_186_s0 q0 p1 p2 p3 p4)), .val (.long (v0_205_l22 q0 p1 p2 p3 p4)), .second, .val (.int (v0_219_s0 q0 p1 p2 p3 p4))] [])) _
          refine XS.iconst X55.here hx rfl (hb hby at_246) ?_
          exact k)
        obtain ⟨fs, hr, hrun, hended, hW, hsame⟩ := X55.leave (v := some (.int (0 : Int32))) (fun h => by rw [Bd.returns] at h; cases h)
        refine ⟨_, _, ?_, hrun, hended, _, _, rfl, ?_, ⟨_, rfl⟩, hW, hsame.mono (by decide) (by decide)⟩
        · exact pre62 _ (retN X55 hx (t := .boolean) Bd.returns (by simp) (hb hby at_247) hr)
        · exact ⟨by simp only [f0, if_pos hc225_9, if_pos hc232_10, if_neg hc239_11], N55, trivial⟩
    · have pre63 : ∀ t, Steps p.tables e below (T55.setTop (mkF m 247 #[.val (.long q0), .second, .val (.int p1), .val (.int p2), .val (.int p3), .val (.int p4), .val (.int (v0_4 p1)), .val (.int (v0_10 p2)), .val (.int (v0_17 p3)), .val (.long (v0_28 p4)), .second, .val (.int (v0_34 p4)), .val (.long (v0_101_l12 q0 p1 p2 p3 p4)), .second, .val (.ref b101), .val (.int (v0_119 q0 p1 p2 p3 p4)), .val (.int (v0_128 q0 p1 p2 p3 p4)), .val (.int (v0_137 q0 p1 p2 p3 p4)), .val (.int (v0_153_s0 q0 p1 p2 p3 p4)), .val (.long (v0_172_l19 q0 p1 p2 p3 p4)), .second, .val (.int (v0_186_s0 q0 p1 p2 p3 p4)), .val (.long (v0_205_l22 q0 p1 p2 p3 p4)), .second, .val (.int (v0_219_s0 q0 p1 p2 p3 p4))] [(.int (0 : Int32))])) t → Steps p.tables e below (s₁.setTop (entryFrame m #[(.long q0), (.int p1), (.int p2), (.int p3), (.int p4)] maxLocals)) t := fun t k => pre59 t (by
        show Steps p.tables e below (T55.setTop (mkF m 232 #[.val (.long q0), .second, .val (.int p1), .val (.int p2), .val (.int p3), .val (.int p4), .val (.int (v0_4 p1)), .val (.int (v0_10 p2)), .val (.int (v0_17 p3)), .val (.long (v0_28 p4)), .second, .val (.int (v0_34 p4)), .val (.long (v0_101_l12 q0 p1 p2 p3 p4)), .second, .val (.ref b101), .val (.int (v0_119 q0 p1 p2 p3 p4)), .val (.int (v0_128 q0 p1 p2 p3 p4)), .val (.int (v0_137 q0 p1 p2 p3 p4)), .val (.int (v0_153_s0 q0 p1 p2 p3 p4)), .val (.long (v0_172_l19 q0 p1 p2 p3 p4)), .second, .val (.int (v0_186_s0 q0 p1 p2 p3 p4)), .val (.long (v0_205_l22 q0 p1 p2 p3 p4)), .second, .val (.int (v0_219_s0 q0 p1 p2 p3 p4))] [(.int (v0_186_s0 q0 p1 p2 p3 p4)), (.int (v0_128 q0 p1 p2 p3 p4))])) _
        refine XS.icmpYes X55.here hx rfl (pc0 := 232) (pc' := 246) rfl (hb hby at_232) rfl (feq hc232_10).2 (by decide) (by decide) ?_
        show Steps p.tables e below (T55.setTop (mkF m 246 #[.val (.long q0), .second, .val (.int p1), .val (.int p2), .val (.int p3), .val (.int p4), .val (.int (v0_4 p1)), .val (.int (v0_10 p2)), .val (.int (v0_17 p3)), .val (.long (v0_28 p4)), .second, .val (.int (v0_34 p4)), .val (.long (v0_101_l12 q0 p1 p2 p3 p4)), .second, .val (.ref b101), .val (.int (v0_119 q0 p1 p2 p3 p4)), .val (.int (v0_128 q0 p1 p2 p3 p4)), .val (.int (v0_137 q0 p1 p2 p3 p4)), .val (.int (v0_153_s0 q0 p1 p2 p3 p4)), .val (.long (v0_172_l19 q0 p1 p2 p3 p4)), .second, .val (.int (v0_186_s0 q0 p1 p2 p3 p4)), .val (.long (v0_205_l22 q0 p1 p2 p3 p4)), .second, .val (.int (v0_219_s0 q0 p1 p2 p3 p4))] [])) _
        refine XS.iconst X55.here hx rfl (hb hby at_246) ?_
        exact k)
      obtain ⟨fs, hr, hrun, hended, hW, hsame⟩ := X55.leave (v := some (.int (0 : Int32))) (fun h => by rw [Bd.returns] at h; cases h)
      refine ⟨_, _, ?_, hrun, hended, _, _, rfl, ?_, ⟨_, rfl⟩, hW, hsame.mono (by decide) (by decide)⟩
      · exact pre63 _ (retN X55 hx (t := .boolean) Bd.returns (by simp) (hb hby at_247) hr)
      · exact ⟨by simp only [f0, if_pos hc225_9, if_neg hc232_10], N55, trivial⟩
  · have pre64 : ∀ t, Steps p.tables e below (T55.setTop (mkF m 247 #[.val (.long q0), .second, .val (.int p1), .val (.int p2), .val (.int p3), .val (.int p4), .val (.int (v0_4 p1)), .val (.int (v0_10 p2)), .val (.int (v0_17 p3)), .val (.long (v0_28 p4)), .second, .val (.int (v0_34 p4)), .val (.long (v0_101_l12 q0 p1 p2 p3 p4)), .second, .val (.ref b101), .val (.int (v0_119 q0 p1 p2 p3 p4)), .val (.int (v0_128 q0 p1 p2 p3 p4)), .val (.int (v0_137 q0 p1 p2 p3 p4)), .val (.int (v0_153_s0 q0 p1 p2 p3 p4)), .val (.long (v0_172_l19 q0 p1 p2 p3 p4)), .second, .val (.int (v0_186_s0 q0 p1 p2 p3 p4)), .val (.long (v0_205_l22 q0 p1 p2 p3 p4)), .second, .val (.int (v0_219_s0 q0 p1 p2 p3 p4))] [(.int (0 : Int32))])) t → Steps p.tables e below (s₁.setTop (entryFrame m #[(.long q0), (.int p1), (.int p2), (.int p3), (.int p4)] maxLocals)) t := fun t k => pre58 t (by
      show Steps p.tables e below (T55.setTop (mkF m 225 #[.val (.long q0), .second, .val (.int p1), .val (.int p2), .val (.int p3), .val (.int p4), .val (.int (v0_4 p1)), .val (.int (v0_10 p2)), .val (.int (v0_17 p3)), .val (.long (v0_28 p4)), .second, .val (.int (v0_34 p4)), .val (.long (v0_101_l12 q0 p1 p2 p3 p4)), .second, .val (.ref b101), .val (.int (v0_119 q0 p1 p2 p3 p4)), .val (.int (v0_128 q0 p1 p2 p3 p4)), .val (.int (v0_137 q0 p1 p2 p3 p4)), .val (.int (v0_153_s0 q0 p1 p2 p3 p4)), .val (.long (v0_172_l19 q0 p1 p2 p3 p4)), .second, .val (.int (v0_186_s0 q0 p1 p2 p3 p4)), .val (.long (v0_205_l22 q0 p1 p2 p3 p4)), .second, .val (.int (v0_219_s0 q0 p1 p2 p3 p4))] [(.int (v0_153_s0 q0 p1 p2 p3 p4)), (.int (v0_119 q0 p1 p2 p3 p4))])) _
      refine XS.icmpYes X55.here hx rfl (pc0 := 225) (pc' := 246) rfl (hb hby at_225) rfl (feq hc225_9).2 (by decide) (by decide) ?_
      show Steps p.tables e below (T55.setTop (mkF m 246 #[.val (.long q0), .second, .val (.int p1), .val (.int p2), .val (.int p3), .val (.int p4), .val (.int (v0_4 p1)), .val (.int (v0_10 p2)), .val (.int (v0_17 p3)), .val (.long (v0_28 p4)), .second, .val (.int (v0_34 p4)), .val (.long (v0_101_l12 q0 p1 p2 p3 p4)), .second, .val (.ref b101), .val (.int (v0_119 q0 p1 p2 p3 p4)), .val (.int (v0_128 q0 p1 p2 p3 p4)), .val (.int (v0_137 q0 p1 p2 p3 p4)), .val (.int (v0_153_s0 q0 p1 p2 p3 p4)), .val (.long (v0_172_l19 q0 p1 p2 p3 p4)), .second, .val (.int (v0_186_s0 q0 p1 p2 p3 p4)), .val (.long (v0_205_l22 q0 p1 p2 p3 p4)), .second, .val (.int (v0_219_s0 q0 p1 p2 p3 p4))] [])) _
      refine XS.iconst X55.here hx rfl (hb hby at_246) ?_
      exact k)
    obtain ⟨fs, hr, hrun, hended, hW, hsame⟩ := X55.leave (v := some (.int (0 : Int32))) (fun h => by rw [Bd.returns] at h; cases h)
    refine ⟨_, _, ?_, hrun, hended, _, _, rfl, ?_, ⟨_, rfl⟩, hW, hsame.mono (by decide) (by decide)⟩
    · exact pre64 _ (retN X55 hx (t := .boolean) Bd.returns (by simp) (hb hby at_247) hr)
    · exact ⟨by simp only [f0, if_neg hc225_9], N55, trivial⟩
theorem own_g {P : Prop} [Decidable P] (x y : Int64) : (if (if P then (0 : Int32) else (1 : Int32)) = (0 : Int32) then x else y) = if P then x else y := by
  by_cases h : P
  · simp only [if_pos h, if_true]
  · rw [if_neg h, if_neg (by decide), if_neg h]
theorem own_law (i0 : Int64) (i1 i2 i3 i4 : Int32) : f0 i0 i1 i2 i3 i4 = 1 := by
  have e1 : v0_172_l19 i0 i1 i2 i3 i4 = g3_o0_left (v0_4 i1) (v0_101_l12 i0 i1 i2 i3 i4) := by
    unfold v0_172_l19 v0_153_s0 v0_170 g3_o0_left
    exact own_g _ _
  have e2 : v0_205_l22 i0 i1 i2 i3 i4 = g3_o0_left (v0_10 i2) (g3_o0_left (v0_4 i1) (v0_101_l12 i0 i1 i2 i3 i4)) := by
    rw [← e1]
    unfold v0_205_l22 v0_186_s0 v0_203 g3_o0_left
    exact own_g _ _
  have d1 : v0_119 i0 i1 i2 i3 i4 = v0_153_s0 i0 i1 i2 i3 i4 := rfl
  have d2 : v0_128 i0 i1 i2 i3 i4 = v0_186_s0 i0 i1 i2 i3 i4 := by
    unfold v0_128 v0_186_s0 f3
    rw [e1]
  have d3 : v0_137 i0 i1 i2 i3 i4 = v0_219_s0 i0 i1 i2 i3 i4 := by
    unfold v0_137 v0_219_s0 f3
    rw [e2]
  unfold f0
  rw [if_pos d1, if_pos d2, if_pos d3]
set_option maxRecDepth 65536 in
set_option maxHeartbeats 40000000 in
theorem comes_1 {Post : Tables → Env → Array Value → State → Outcome → State → Prop} (hpost : ∀ tb e args s v u, (limb_1_1.after args s (.returned v) u = true ∧ limb_1_2.after args s (.returned v) u = true ∧ True) → FrameEnd s (.returned v) u (Jvm.fieldLocs frame_1_writes args s ++ Jvm.arrayLocs frame_1_arrays args s ++ Jvm.staticLocs frame_1_statics s) 16 128 → Post tb e args s (.returned v) u) :
    ArmFor flags0 classFile x code maxLocals ret World_1 tables_1 room_1 Calls_1 rest_1 Pre_1 Post := by
  intro l hfl _ _ p e ha hc hk s m args below hf hA hF happ hP
  obtain ⟨hcalls, hrest, hpre⟩ := hP
  obtain ⟨-, -, -, hnamed, -, -, -, hat⟩ := (Spec.applies_iff hf).mp happ
  obtain ⟨hg, hn⟩ := and_e (Cond.before_iff.mp (show (Jvm.Cond.and given_1 narrow_1).before args s = true from hpre))
  obtain ⟨g1, g2⟩ := and_e hg
  obtain ⟨g3, g4⟩ := and_e g2
  obtain ⟨g5, g6⟩ := and_e g4
  obtain ⟨g7, g8⟩ := and_e g6
  obtain ⟨g9, g10⟩ := and_e g8
  obtain ⟨w0, w1, w2, w3, w4, rfl⟩ : ∃ w0 w1 w2 w3 w4 : Value, args = #[w0, w1, w2, w3, w4] := by
    have hs : args.size = 5 := by simpa [Cond.value, given_1] using g1
    obtain ⟨L⟩ := args
    match L, hs with
    | [w0, w1, w2, w3, w4], _ => exact ⟨w0, w1, w2, w3, w4, rfl⟩
  have hw := fun d (hd : d ∈ tables_1) => atoms_spec (ws := Jvm.Cond.code x code maxLocals ret :: tables_1) hat d (List.mem_cons_of_mem _ hd)
  obtain ⟨i0, ei0⟩ := isL_v g3
  obtain rfl : w0 = (.long i0) := Option.some.inj ei0
  obtain ⟨i1, ei1⟩ := is_v g5
  obtain rfl : w1 = (.int i1) := Option.some.inj ei1
  obtain ⟨i2, ei2⟩ := is_v g7
  obtain rfl : w2 = (.int i2) := Option.some.inj ei2
  obtain ⟨i3, ei3⟩ := is_v g9
  obtain rfl : w3 = (.int i3) := Option.some.inj ei3
  obtain ⟨i4, ei4⟩ := is_v g10
  obtain rfl : w4 = (.int i4) := Option.some.inj ei4
  obtain ⟨n, o, h1, h2, h3, _, L, rfl, ⟨rfl, N, -⟩, hq⟩ := rm0 l s _ hw tables_1 i0 i1 i2 i3 i4 s.heap s.heap.size (Nat.le_refl _) p e ha hc hk s m _ below hf ((Spec.applies_iff_loose hf).mp happ).1 ⟨rfl, State.Warmed39.refl s, rfl⟩ trivial
  rw [own_law i0 i1 i2 i3 i4] at h3 hq
  refine ⟨n, _, h1, h2, h3, hpost _ _ _ _ _ _ ⟨Cond.after_iff.mpr rfl, Cond.after_iff.mpr (eq_i res_at (Term.int_eval (1)) rfl), trivial⟩ ⟨hq.1, hq.2.1, (hq.2.2.sift fun y hy => Or.inr (N y hy)).mono (by decide) (by decide)⟩⟩
theorem main_1_1 : Claimed_1_1 := comes_1 fun _ _ _ _ _ _ h hF => ⟨h.1, hF⟩
theorem main_1_2 : Claimed_1_2 := comes_1 fun _ _ _ _ _ _ h hF => ⟨h.2.1, hF⟩
end Jvm.Pilot.@@N@@
namespace Jvm.Pilot.@@N@@
open Jvm Jvm.ClassFile Sem Op Lib Jvm.Free Jvm.Stand Jvm.Pilot.@@N@@.Jvm.D
/-! MADE BY PROGRAM (witnessworld.py) out of the Statement's table words and the real class files: 7 classes; the members and pool entries that the words name. The judged class is class 1, her method 1. -/
namespace start1
open Jvm.ClassFile
def u (s : String) : CpInfo := .utf8 (stringToUtf16 s)
/-- a pool by its gaps: so many unusable entries, then the entry; so many at the end -/
def gap : Nat → List CpInfo → List CpInfo
  | 0, r => r
  | n + 1, r => .unusable :: gap n r
def poolList (es : List (Nat × CpInfo)) (last : Nat) : List CpInfo := es.foldr (fun e r => gap e.1 (e.2 :: r)) (gap last [])
def pool (es : List (Nat × CpInfo)) (last : Nat) : Array CpInfo := ⟨poolList es last⟩
def fileOf (pool : Array CpInfo) (this : Nat) (attrs : Array Attribute := #[]) (ms : Array MethodInfo := #[]) (fl : Nat := 33) (sup : Nat := 0) (ifs : Array Nat := #[]) (fds : Array FieldInfo := #[]) : ClassFile where
  minorVersion := 0
  majorVersion := 65
  constantPool := pool
  accessFlags := fl
  thisClass := this
  superClass := sup
  interfaces := ifs
  fields := fds
  methods := ms
  attributes := attrs
def plain (name : String) (sup : Option ClassId) : Class where
  name := name
  kind := .ordinary
  loader := none
  accessFlags := 33
  super := sup
  interfaces := #[]
  cf := none
  fields := #[]
  methods := #[]
  instanceTypes := #[]
  staticTypes := #[]
  resolved := #[]
  callSites := []
  init := .initialized
  statics := none
  mirror := none

def pool0 : Array CpInfo := pool [(5, u "<init>"), (0, u "()V"), (1, .class_ 10), (1, u "java/lang/Object")] 113

def k0c0 : Code := { maxStack := 0, maxLocals := 1, code := object_method_1_code, exceptionTable := #[], attributes := #[] }
def k0m0 : Method := { name := "<init>", desc := "()V", sig := { parameters := [], returnType := none }, accessFlags := 1, code := some k0c0 }
/-- java/lang/Object -/
def k0 : Class := { plain "java/lang/Object" none with
  accessFlags := 33
  interfaces := #[]
  cf := some (fileOf pool0 8 #[] #[{ accessFlags := 1, nameIndex := 5, descriptorIndex := 6, attributes := #[] }] 33 0 #[] #[])
  fields := #[]
  methods := #[k0m0]
  instanceTypes := #[]
  staticTypes := #[]
  resolved := Array.replicate 124 none
  statics := none }

def pool1 : Array CpInfo := pool [(2, .class_ 4), (1, u "java/lang/Object"), (0, u "<init>"), (0, u "()V"), (0, .integer 2147483647), (0, .class_ 9), (0, u "com/example/pedantic_conformance/pedanticconformance/rules/safetycenter/PairingBudget"), (0, .methodref 8 11), (0, .nameAndType 5 12), (0, u "(J)V"), (0, .methodref 8 14), (0, .nameAndType 15 16), (0, u "spend"), (0, u "(I)Z"), (0, .class_ 18), (0, u "com/example/pedantic_conformance/pedanticconformance/rules/safetycenter/PairingBudgetSpendPinLaw"), (2, u "law"), (0, u "(JIIII)Z")] 3

def k1m0 : Method := { name := "<init>", desc := "()V", sig := { parameters := [], returnType := none }, accessFlags := 1, code := none }
def k1c1 : Code := { maxStack := 4, maxLocals := 25, code := code, exceptionTable := #[], attributes := #[] }
def k1m1 : Method := { name := "law", desc := "(JIIII)Z", sig := { parameters := [.long, .int, .int, .int, .int], returnType := some .boolean }, accessFlags := 9, code := some k1c1 }
/-- com/example/pedantic_conformance/pedanticconformance/rules/safetycenter/PairingBudgetSpendPinLaw -/
def k1 : Class := { plain "com/example/pedantic_conformance/pedanticconformance/rules/safetycenter/PairingBudgetSpendPinLaw" (some 0) with
  accessFlags := 49
  interfaces := #[]
  cf := some (fileOf pool1 17 #[] #[{ accessFlags := 1, nameIndex := 5, descriptorIndex := 6, attributes := #[] }, { accessFlags := 9, nameIndex := 21, descriptorIndex := 22, attributes := #[] }] 49 2 #[] #[])
  fields := #[]
  methods := #[k1m0, k1m1]
  instanceTypes := #[]
  staticTypes := #[]
  resolved := Array.replicate 26 none
  statics := none }

def pool2 : Array CpInfo := pool [(1, .methodref 2 3), (0, .class_ 4), (0, .nameAndType 5 6), (0, u "java/lang/Object"), (0, u "<init>"), (0, u "()V"), (0, .fieldref 8 9), (0, .class_ 10), (0, .nameAndType 11 12), (0, u "com/example/pedantic_conformance/pedanticconformance/rules/safetycenter/PairingBudget"), (0, u "left"), (0, u "J"), (43, u "(J)V"), (0, u "FIXED"), (1, u "PER_ELEMENT"), (5, u "spend"), (0, u "(I)Z")] 2

def k2c0 : Code := { maxStack := 3, maxLocals := 3, code := prog_154_method_1_code, exceptionTable := #[], attributes := #[] }
def k2m0 : Method := { name := "<init>", desc := "(J)V", sig := { parameters := [.long], returnType := none }, accessFlags := 0, code := some k2c0 }
def k2c1 : Code := { maxStack := 5, maxLocals := 2, code := prog_154_method_3_code, exceptionTable := #[], attributes := #[] }
def k2m1 : Method := { name := "spend", desc := "(I)Z", sig := { parameters := [.int], returnType := some .boolean }, accessFlags := 0, code := some k2c1 }
/-- com/example/pedantic_conformance/pedanticconformance/rules/safetycenter/PairingBudget -/
def k2 : Class := { plain "com/example/pedantic_conformance/pedanticconformance/rules/safetycenter/PairingBudget" (some 0) with
  accessFlags := 32
  interfaces := #[]
  cf := some (fileOf pool2 8 #[] #[{ accessFlags := 0, nameIndex := 5, descriptorIndex := 56, attributes := #[] }, { accessFlags := 0, nameIndex := 65, descriptorIndex := 66, attributes := #[] }] 32 2 #[] #[{ accessFlags := 26, nameIndex := 57, descriptorIndex := 12, attributes := #[] }, { accessFlags := 26, nameIndex := 59, descriptorIndex := 12, attributes := #[] }, { accessFlags := 2, nameIndex := 11, descriptorIndex := 12, attributes := #[] }])
  fields := #[{ name := "FIXED", type := .long, accessFlags := 26, slot := 0, constantValue := 0 }, { name := "PER_ELEMENT", type := .long, accessFlags := 26, slot := 1, constantValue := 0 }, { name := "left", type := .long, accessFlags := 2, slot := 0, constantValue := 0 }]
  methods := #[k2m0, k2m1]
  instanceTypes := #[.long]
  staticTypes := #[.long, .long]
  resolved := Array.replicate 69 none
  statics := none }

def pool3 : Array CpInfo := pool [(1, u "java/lang/Cloneable"), (0, .class_ 1), (0, u "java/lang/Object"), (0, .class_ 3)] 3

/-- java/lang/Cloneable -/
def k3 : Class := { plain "java/lang/Cloneable" (some 0) with
  accessFlags := 1537
  interfaces := #[]
  cf := some (fileOf pool3 2 #[] #[] 1537 4 #[] #[])
  fields := #[]
  methods := #[]
  instanceTypes := #[]
  staticTypes := #[]
  resolved := Array.replicate 8 none
  statics := none }

def pool4 : Array CpInfo := pool [(1, u "java/io/Serializable"), (0, .class_ 1), (0, u "java/lang/Object"), (0, .class_ 3)] 3

/-- java/io/Serializable -/
def k4 : Class := { plain "java/io/Serializable" (some 0) with
  accessFlags := 1537
  interfaces := #[]
  cf := some (fileOf pool4 2 #[] #[] 1537 4 #[] #[])
  fields := #[]
  methods := #[]
  instanceTypes := #[]
  staticTypes := #[]
  resolved := Array.replicate 8 none
  statics := none }

/-- the primitive byte -/
def k5 : Class := { plain "byte" none with kind := .primitive 'B', accessFlags := 0x411 }
/-- [B -/
def k6 : Class := { plain "[B" (some 0) with kind := .array 5 .byte, interfaces := #[3, 4], accessFlags := 1041 }

def heap : Heap := #[]
def classes : Array Class := #[k0, k1, k2, k3, k4, k5, k6]
def interned : List (Array UInt16 × Addr) := []
def slotsUsed : Nat := 0
def theMethod : MethodId := ⟨1, 1⟩
def args0 : Array Value := #[.long 5, .int 7, .int 9, .int 3, .int 2]
def aboutOver (below : List Frame) : State where
  vm := { classes := classes, interned := interned.toArray }
  heap := heap
  slotsUsed := slotsUsed
  threads := #[{ frames := .invoking theMethod args0 :: below }]
def below0 : List Frame := [.native { method := ⟨0, 0⟩, args := #[] }]
def about1 : State := aboutOver below0
def p0 : Program := .bare "" "" ""
def e0 : Env := launch0.env 0 0 0
theorem w_frames : about1.frames = Frame.invoking theMethod args0 :: below0 := rfl
set_option maxRecDepth 65536 in
theorem w_args : argsFit about1.vm theMethod args0 = true := by decide +kernel
set_option maxRecDepth 65536 in
theorem w_heap : heapFits about1 = true := by decide +kernel
set_option maxRecDepth 65536 in
theorem w_runnable : about1.curStatus? = some .runnable := by decide +kernel
set_option maxRecDepth 65536 in
theorem w_alone : about1.alone = true := by decide +kernel
set_option maxRecDepth 65536 in
theorem w_named : about1.methodNamed? x = some theMethod := by decide +kernel
set_option maxRecDepth 65536 in
theorem w_hears : about1.hears theMethod below0 = true := by decide +kernel
set_option maxRecDepth 65536 in
theorem w_ripe : about1.ripe theMethod args0 below0 = true := by decide +kernel
theorem w_running : about1.status = .running := rfl
set_option maxRecDepth 65536 in
theorem w_room : about1.hasRoom e0.platform room_1 = true :=
  launch0.hasRoom_least _ room_1 (by decide +kernel) (by decide +kernel) (by decide +kernel) (by decide +kernel) (by decide +kernel) (by decide +kernel)
theorem allAtoms_all (ts : List Jvm.Cond) (a : Array Jvm.Value) (st : Jvm.State) : (allAtoms ts).before a st = ts.all (fun c => c.before a st) := by
  induction ts with
  | nil => rfl
  | cons c t ih =>
    show (Jvm.Cond.and c (allAtoms t)).before a st = _
    rw [Jvm.Cond.before_and, ih, List.all_cons]
def words1 : List Jvm.Cond := Jvm.Cond.code x code maxLocals ret :: tables_1
/-- a 'code' word, met by the world's own term for the bytes: nothing is compared byte by byte -/
theorem code_word {y : MethodName} {bytes : ByteArray} {mx : Nat} {rt : Option FieldType} {a : Array Value} {s : State} {m : MethodId} {meth : Method} {c : Code} (h1 : s.methodNamed? y = some m) (h2 : s.vm.method? m = some meth) (h3 : meth.code = some c) (h4 : c.code = bytes)
    (h5 : (c.maxLocals == mx && c.exceptionTable.isEmpty && decide (c.maxStack ≤ mostOperands) && decide (meth.sig.returnType = rt) && !meth.locks && decide (parseMethodDescriptor y.desc = some meth.sig)) = true) : (Jvm.Cond.code y bytes mx rt).before a s = true := by
  simp only [Bool.and_eq_true, beq_iff_eq, Bool.not_eq_true', decide_eq_true_eq] at h5
  obtain ⟨⟨⟨⟨⟨g1, g2⟩, g3⟩, g4⟩, g5⟩, g6⟩ := h5
  simp [Cond.before, Cond.holds, Cond.value, h1, h2, h3, h4, g1, g2, g3, g4, g5, g6]
def isCode : Jvm.Cond → Bool
  | .code _ _ _ _ => true
  | _ => false
theorem all_split {L : List Jvm.Cond} {P : Jvm.Cond → Bool} (h1 : L.all (fun c => isCode c || P c) = true) (h2 : ∀ c ∈ L.filter isCode, P c = true) : L.all P = true := by
  refine List.all_eq_true.mpr fun c hc => ?_
  have h := List.all_eq_true.mp h1 c hc
  rcases Bool.eq_false_or_eq_true (isCode c) with hi | hi
  · exact h2 c (List.mem_filter.mpr ⟨hc, hi⟩)
  · simpa [hi] using h
set_option maxRecDepth 65536 in
theorem w_c0 : (Jvm.Cond.code x code maxLocals ret).before args0 about1 = true := code_word (m := ⟨1, 1⟩) (meth := k1m1) (c := k1c1) (by decide +kernel) rfl rfl rfl (by decide +kernel)
set_option maxRecDepth 65536 in
theorem w_c1 : (Jvm.Cond.code ({ cls := "com/example/pedantic_conformance/pedanticconformance/rules/safetycenter/PairingBudget", name := "<init>", desc := "(J)V" } : Jvm.MethodName) prog_154_method_1_code (3 : Nat) (Option.none : Option Jvm.ClassFile.FieldType)).before args0 about1 = true := code_word (m := ⟨2, 0⟩) (meth := k2m0) (c := k2c0) (by decide +kernel) rfl rfl rfl (by decide +kernel)
set_option maxRecDepth 65536 in
theorem w_c2 : (Jvm.Cond.code ({ cls := "java/lang/Object", name := "<init>", desc := "()V" } : Jvm.MethodName) object_method_1_code (1 : Nat) (Option.none : Option Jvm.ClassFile.FieldType)).before args0 about1 = true := code_word (m := ⟨0, 0⟩) (meth := k0m0) (c := k0c0) (by decide +kernel) rfl rfl rfl (by decide +kernel)
set_option maxRecDepth 65536 in
theorem w_c3 : (Jvm.Cond.code ({ cls := "com/example/pedantic_conformance/pedanticconformance/rules/safetycenter/PairingBudget", name := "spend", desc := "(I)Z" } : Jvm.MethodName) prog_154_method_3_code (2 : Nat) (Option.some Jvm.ClassFile.FieldType.boolean)).before args0 about1 = true := code_word (m := ⟨2, 1⟩) (meth := k2m1) (c := k2c1) (by decide +kernel) rfl rfl rfl (by decide +kernel)
def codes1 : List Jvm.Cond := [Jvm.Cond.code x code maxLocals ret, Jvm.Cond.code ({ cls := "com/example/pedantic_conformance/pedanticconformance/rules/safetycenter/PairingBudget", name := "<init>", desc := "(J)V" } : Jvm.MethodName) prog_154_method_1_code (3 : Nat) (Option.none : Option Jvm.ClassFile.FieldType), Jvm.Cond.code ({ cls := "java/lang/Object", name := "<init>", desc := "()V" } : Jvm.MethodName) object_method_1_code (1 : Nat) (Option.none : Option Jvm.ClassFile.FieldType), Jvm.Cond.code ({ cls := "com/example/pedantic_conformance/pedanticconformance/rules/safetycenter/PairingBudget", name := "spend", desc := "(I)Z" } : Jvm.MethodName) prog_154_method_3_code (2 : Nat) (Option.some Jvm.ClassFile.FieldType.boolean)]
set_option maxRecDepth 65536 in
theorem codes_eq : words1.filter isCode = codes1 := rfl
theorem w_codes : ∀ c ∈ words1.filter isCode, c.before args0 about1 = true := by
  rw [codes_eq]
  intro c hc
  simp only [codes1, List.mem_cons, List.not_mem_nil, or_false] at hc
  rcases hc with rfl | rfl | rfl | rfl
  · exact w_c0
  · exact w_c1
  · exact w_c2
  · exact w_c3
set_option maxRecDepth 65536 in
theorem w_t1 : words1.all (fun c => isCode c || c.before args0 about1) = true := by decide +kernel
theorem w_tables : (allAtoms (Jvm.Cond.code x code maxLocals ret :: tables_1)).before args0 about1 = true := by
  rw [allAtoms_all]
  show words1.all (fun c => c.before args0 about1) = true
  refine all_split ?_ w_codes
  rw [w_t1]
set_option maxRecDepth 65536 in
theorem w_case : (Jvm.Cond.and given_1 narrow_1).before args0 about1 = true := by decide +kernel
theorem w_applies : (headSpec (Jvm.Cond.code x code maxLocals ret :: tables_1) room_1).applies x e0.platform about1 = true :=
  (Spec.applies_iff w_frames).mpr ⟨w_running, w_runnable, w_alone, w_named, w_hears, w_ripe, w_room, w_tables⟩
theorem atStart : AtStart classFile x code maxLocals ret World_1 tables_1 room_1 Calls_1 rest_1 Pre_1 launch0 p0 e0 about1 theMethod args0 below0 :=
  ⟨lists_1, trivial, launch0.admits_env _ _ _, launch0.least_env, fairChoices_fair.cas, fairChoices_fair.clock, w_frames, w_args, w_heap, w_applies, trivial, trivial, w_case⟩
end start1
theorem witness_1 : WitnessClaimed_1 := ⟨start1.p0, start1.e0, start1.about1, start1.theMethod, start1.args0, start1.below0, start1.atStart⟩
end Jvm.Pilot.@@N@@
