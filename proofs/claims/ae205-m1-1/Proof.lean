import JvmDerived
import JvmDerived.Pilot.@@N@@Statement
import JvmDerived.Pilot.@@N@@Code
set_option linter.unusedVariables false
set_option linter.unusedSimpArgs false
namespace Jvm.RoadKit
open Sem ClassFile Op Lib Jvm.Stand Jvm.Free Jvm.LawKit
section New
variable {p : Program} {l : Launch} {e : Env} {R : Room} {s : State} {m : MethodId} {args : Array Value} {below : List Frame} {meth : Method} {c : Code} {T : State} {locs : List Loc} {cells slots : Nat}
theorem retI (X : Stand p l e R s m args below meth c T locs cells slots) (hx : p.tables.exec = Jvm.exec) {pc : Nat} {Ls : Array Slot} {z : Int32} {rest : List Value} (hret : meth.sig.returnType = some .int) (hd : decode c.code pc = .ok (.ireturn, 1)) {fs : List Frame}
    (hl : ∀ (f : JFrame) (acts : List Action), f.method = m → f.locked = none → f.entered = [] → (doReturn e (T.setTop f) acts (some (.int z))).1 = T.setFrames fs) : Steps p.tables e below (T.setTop (mkF m pc Ls (.int z :: rest))) (T.setFrames fs) := by
  have hm' : T.vm.method? m = some meth := X.method'
  have hn : narrow .int (.int z) = .int z := rfl
  show Steps p.tables e below (T.setTop { method := m, pc := pc, locals := Ls, stack := _ :: rest, locked := none }) _
  jvm_step X.here [X.here.top, hx, hd, hm', hret, hn]
  first | (intro acts; rw [hl _ acts rfl rfl rfl]) | rw [hl _ _ rfl rfl rfl]
  exact Steps.refl _
end New
end Jvm.RoadKit
namespace Jvm.Pilot.@@N@@
open Jvm Jvm.ClassFile Sem Op Lib Jvm.Free Jvm.Stand Jvm.LawKit Jvm.RoadKit Bundle Jvm.Pilot.@@N@@.Jvm.D
def QP (w : Option Value) (h0 : Heap) (n0 : Nat) (v : Option Value) (h : Heap) (L : List Loc) : Prop := v = w ∧ Fr n0 L ∧ h = h0
def QL (w : Option Value) (n0 : Nat) (v : Option Value) (h : Heap) (L : List Loc) : Prop := v = w ∧ Fr n0 L ∧ True
theorem own_plE {Z : State} {h : Heap} {a : Addr} {C : String} (E : Exa Z h a C) : ∃ c : Cell, h[a]? = some c ∧ c.vm.isStatics = false := by
  obtain ⟨c, k, h1, -, -, h4, -⟩ := E
  exact ⟨c, h1, h4⟩
theorem own_plV {Z : State} {h : Heap} {a : Addr} {k : ClassId} {ty : FieldType} {n : Int32} {vs : List Value} {d : Value} (F : Arv Z h a k ty n vs d) : ∃ c : Cell, h[a]? = some c ∧ c.vm.isStatics = false := by
  obtain ⟨c, A, -⟩ := F
  exact ⟨c, A.1, A.plain⟩
theorem own_staK {Z : State} {h h' : Heap} {C n d : String} {v : Value} {ws : List Addr} (F : Sta Z h C n d v) (K : Keep h h' ws) (q : ∀ x ∈ ws, ∃ c : Cell, h[x]? = some c ∧ c.vm.isStatics = false) : Sta Z h' C n d v := by
  obtain ⟨cf, i, k, f, st, cell, h1, h2, h3, h4, h5, h6, h7⟩ := F
  refine ⟨cf, i, k, f, st, cell, h1, h2, h3, h4, K.2.1 st cell h5 fun hm => ?_, h6, h7⟩
  obtain ⟨c, e1, e2⟩ := q st hm
  rw [h5] at e1
  cases e1
  rw [h6] at e2
  cases e2
theorem own_wS {a0 : Array Value} {Z : State} (hw : ∀ d ∈ tables_1, d.before a0 Z = true) : ∀ a ∈ Bundle.stringAtoms, a.before a0 Z = true := by
  intro a ha
  simp only [Bundle.stringAtoms, Bundle.sN, List.mem_cons, List.not_mem_nil, or_false] at ha
  rcases ha with rfl | rfl | rfl | rfl | rfl | rfl | rfl
  · exact hw _ (List.mem_of_getElem? (i := 16) rfl)
  · exact hw _ (List.mem_of_getElem? (i := 17) rfl)
  · exact hw _ (List.mem_of_getElem? (i := 1) rfl)
  · exact hw _ (List.mem_of_getElem? (i := 18) rfl)
  · exact hw _ (List.mem_of_getElem? (i := 19) rfl)
  · exact hw _ (List.mem_of_getElem? (i := 20) rfl)
  · exact hw _ (List.mem_of_getElem? (i := 21) rfl)
theorem d11_0 : decode jdk_43_method_3_code 0 = .ok (.iload_n 0, 1) := by decide +kernel
theorem d11_1 : decode jdk_43_method_3_code 1 = .ok (.sipush 255, 3) := by decide +kernel
theorem d11_4 : decode jdk_43_method_3_code 4 = .ok (.if_icmp .gt 7, 3) := by decide +kernel
theorem d11_7 : decode jdk_43_method_3_code 7 = .ok (.iconst 1, 1) := by decide +kernel
theorem d11_8 : decode jdk_43_method_3_code 8 = .ok (.goto 4, 3) := by decide +kernel
theorem d11_11 : decode jdk_43_method_3_code 11 = .ok (.iconst 0, 1) := by decide +kernel
theorem d11_12 : decode jdk_43_method_3_code 12 = .ok (.ireturn, 1) := by decide +kernel
theorem pn_11 : plainName "java/lang/StringLatin1" = true := by first | (simp [plainName, overriddenIn]; done) | decide +kernel
theorem ef_11 (m : MethodId) (x0 : Int32) : entryFrame m #[(.int x0)] 1 = mkF m 0 #[.val (.int x0)] [] := by first | (simp [entryFrame, mkF, argsToLocals, Value.category]; done) | rfl
def f11 (p0 : Int32) : Int32 := (if (255 : Int32) < p0 then (0 : Int32) else (1 : Int32))
set_option maxRecDepth 65536 in
set_option maxHeartbeats 40000000 in
theorem rm11 (l : Launch) (Z : State) (a0 : Array Value) (hw : ∀ d ∈ tables_1, d.before a0 Z = true) (ws : List Jvm.Cond) (p0 : Int32) (h0 : Heap) (n0 : Nat) (Z0 : n0 ≤ h0.size) :
    MetFree l (⟨"java/lang/StringLatin1", "canEncode", "(C)Z"⟩ : MethodName) (head1 (Jvm.Cond.code (⟨"java/lang/StringLatin1", "canEncode", "(C)Z"⟩ : MethodName) jdk_43_method_3_code 1 (some .boolean) :: ws) ({ frames := 0, cells := 0, slots := 0, locals := 0 } : Room)) (fun a U => a = #[(.int p0)] ∧ Z.Warmed39 U.vm ∧ U.heap = h0) (fun _ _ _ _ _ => True) (fun _ U o U' => ∃ v L, o = .returned v ∧ QP (some (.int (f11 p0))) h0 n0 v U'.heap L ∧ FrameEnd U o U' L ({ frames := 0, cells := 0, slots := 0, locals := 0 } : Room).cells ({ frames := 0, cells := 0, slots := 0, locals := 0 } : Room).slots) := by
  refine MetFree.of_bodySF (plainFor_of_name pn_11) hisR ?_
  intro p e s m args below meth c s₁ Bd hml0 hP hK
  obtain ⟨rfl, hZ, hh⟩ := hP
  have hx := Bd.exec
  have hby := Bd.bytes
  have hml : c.maxLocals = 1 := hml0
  have hown : s.vm.findClass "java/lang/StringLatin1" = some m.cls := findClass_of_methodNamed Bd.named
  have hnm := (name_of_methodNamed Bd.named Bd.method).1
  have X0 : Stand p l e ({ frames := 0, cells := 0, slots := 0, locals := 0 } : Room) s m #[(.int p0)] below meth c s₁ [] 0 0 := Stand.of_body Bd
  have e0 : s₁.heap = h0 := by rw [← hh, Bd.state]; rfl
  have N0 := Fr.nil n0
  have K0 : Keep h0 h0 [] := Keep.refl _ _
  have pre0 : ∀ t, Steps p.tables e below (s₁.setTop (mkF m 0 #[.val (.int p0)] [])) t → Steps p.tables e below (s₁.setTop (entryFrame m #[(.int p0)] 1)) t := fun t k => castTop (ef_11 m p0) k
  have pre2 : ∀ t, Steps p.tables e below (s₁.setTop (mkF m 4 #[.val (.int p0)] [(.int (255 : Int32)), (.int p0)])) t → Steps p.tables e below (s₁.setTop (entryFrame m #[(.int p0)] 1)) t := fun t k => pre0 t (by
    show Steps p.tables e below (s₁.setTop (mkF m 0 #[.val (.int p0)] [])) _
    refine XS.iloadN X0.here hx rfl (hb hby d11_0) rfl ?_
    show Steps p.tables e below (s₁.setTop (mkF m 1 #[.val (.int p0)] [(.int p0)])) _
    refine XS.sipush X0.here hx rfl (hb hby d11_1) ?_
    exact k)
  by_cases hc4_1 : (255 : Int32) < p0
  · have pre3 : ∀ t, Steps p.tables e below (s₁.setTop (mkF m 12 #[.val (.int p0)] [(.int (0 : Int32))])) t → Steps p.tables e below (s₁.setTop (entryFrame m #[(.int p0)] 1)) t := fun t k => pre2 t (by
      show Steps p.tables e below (s₁.setTop (mkF m 4 #[.val (.int p0)] [(.int (255 : Int32)), (.int p0)])) _
      refine XS.icmpYes X0.here hx rfl (pc0 := 4) (pc' := 11) rfl (hb hby d11_4) rfl (tlt hc4_1).2.2.1 (by decide) (by decide) ?_
      show Steps p.tables e below (s₁.setTop (mkF m 11 #[.val (.int p0)] [])) _
      refine XS.iconst X0.here hx rfl (hb hby d11_11) ?_
      exact k)
    obtain ⟨fs, hr, hrun, hended, hW, hsame⟩ := X0.leave (v := some (.int (0 : Int32))) (fun h => by rw [Bd.returns] at h; cases h)
    refine ⟨_, _, ?_, hrun, hended, _, _, rfl, ?_, ⟨_, rfl⟩, hW, hsame.mono (by decide) (by decide)⟩
    · exact pre3 _ (retN X0 hx (t := .boolean) Bd.returns (by simp) (hb hby d11_12) hr)
    · exact ⟨by simp only [f11, if_pos hc4_1], N0, e0⟩
  · have pre4 : ∀ t, Steps p.tables e below (s₁.setTop (mkF m 12 #[.val (.int p0)] [(.int (1 : Int32))])) t → Steps p.tables e below (s₁.setTop (entryFrame m #[(.int p0)] 1)) t := fun t k => pre2 t (by
      show Steps p.tables e below (s₁.setTop (mkF m 4 #[.val (.int p0)] [(.int (255 : Int32)), (.int p0)])) _
      refine XS.icmpNo X0.here hx rfl (hb hby d11_4) rfl (flt hc4_1).2.2.1 ?_
      show Steps p.tables e below (s₁.setTop (mkF m 7 #[.val (.int p0)] [])) _
      refine XS.iconst X0.here hx rfl (hb hby d11_7) ?_
      show Steps p.tables e below (s₁.setTop (mkF m 8 #[.val (.int p0)] [(.int (1 : Int32))])) _
      refine XS.goto X0.here hx rfl (pc0 := 8) (pc' := 12) rfl (hb hby d11_8) (by decide) (by decide) ?_
      exact k)
    obtain ⟨fs, hr, hrun, hended, hW, hsame⟩ := X0.leave (v := some (.int (1 : Int32))) (fun h => by rw [Bd.returns] at h; cases h)
    refine ⟨_, _, ?_, hrun, hended, _, _, rfl, ?_, ⟨_, rfl⟩, hW, hsame.mono (by decide) (by decide)⟩
    · exact pre4 _ (retN X0 hx (t := .boolean) Bd.returns (by simp) (hb hby d11_12) hr)
    · exact ⟨by simp only [f11, if_neg hc4_1], N0, e0⟩
theorem d12_0 : decode jdk_43_method_46_code 0 = .ok (.iconst 1, 1) := by decide +kernel
theorem d12_1 : decode jdk_43_method_46_code 1 = .ok (.newarray .byte, 2) := by decide +kernel
theorem d12_3 : decode jdk_43_method_46_code 3 = .ok (.dup, 1) := by decide +kernel
theorem d12_4 : decode jdk_43_method_46_code 4 = .ok (.iconst 0, 1) := by decide +kernel
theorem d12_5 : decode jdk_43_method_46_code 5 = .ok (.iload_n 0, 1) := by decide +kernel
theorem d12_6 : decode jdk_43_method_46_code 6 = .ok (.i2b, 1) := by decide +kernel
theorem d12_7 : decode jdk_43_method_46_code 7 = .ok (.bastore, 1) := by decide +kernel
theorem d12_8 : decode jdk_43_method_46_code 8 = .ok (.areturn, 1) := by decide +kernel
theorem pn_12 : plainName "java/lang/StringLatin1" = true := by first | (simp [plainName, overriddenIn]; done) | decide +kernel
theorem ef_12 (m : MethodId) (x0 : Int32) : entryFrame m #[(.int x0)] 1 = mkF m 0 #[.val (.int x0)] [] := by first | (simp [entryFrame, mkF, argsToLocals, Value.category]; done) | rfl
def Q12 (Z : State) (p0 : Int32) (h0 : Heap) (n0 : Nat) (v : Option Value) (h : Heap) (L : List Loc) : Prop := ∃ (b1 : Addr) (k_b1 : ClassId), v = (some (.ref b1)) ∧ Fr n0 L ∧ Keep h0 h [] ∧ h0.size ≤ b1 ∧ Arv Z h b1 k_b1 .byte (1 : Int32) [(.int ((p0.toInt8.toInt32).toInt8.toInt32))] (.int (0 : Int32))
set_option maxRecDepth 65536 in
set_option maxHeartbeats 40000000 in
theorem rm12 (l : Launch) (Z : State) (a0 : Array Value) (hw : ∀ d ∈ tables_1, d.before a0 Z = true) (ws : List Jvm.Cond) (p0 : Int32) (h0 : Heap) (n0 : Nat) (Z0 : n0 ≤ h0.size) :
    MetFree l (⟨"java/lang/StringLatin1", "toBytes", "(C)[B"⟩ : MethodName) (head1 (Jvm.Cond.code (⟨"java/lang/StringLatin1", "toBytes", "(C)[B"⟩ : MethodName) jdk_43_method_46_code 1 (some (.array .byte)) :: ws) ({ frames := 0, cells := 1, slots := 1, locals := 0 } : Room)) (fun a U => a = #[(.int p0)] ∧ Z.Warmed39 U.vm ∧ U.heap = h0) (fun _ _ _ _ _ => True) (fun _ U o U' => ∃ v L, o = .returned v ∧ Q12 Z p0 h0 n0 v U'.heap L ∧ FrameEnd U o U' L ({ frames := 0, cells := 1, slots := 1, locals := 0 } : Room).cells ({ frames := 0, cells := 1, slots := 1, locals := 0 } : Room).slots) := by
  refine MetFree.of_bodySF (plainFor_of_name pn_12) hisR ?_
  intro p e s m args below meth c s₁ Bd hml0 hP hK
  obtain ⟨rfl, hZ, hh⟩ := hP
  have hx := Bd.exec
  have hby := Bd.bytes
  have hml : c.maxLocals = 1 := hml0
  have hown : s.vm.findClass "java/lang/StringLatin1" = some m.cls := findClass_of_methodNamed Bd.named
  have hnm := (name_of_methodNamed Bd.named Bd.method).1
  have X0 : Stand p l e ({ frames := 0, cells := 1, slots := 1, locals := 0 } : Room) s m #[(.int p0)] below meth c s₁ [] 0 0 := Stand.of_body Bd
  have e0 : s₁.heap = h0 := by rw [← hh, Bd.state]; rfl
  have N0 := Fr.nil n0
  have K0 : Keep h0 h0 [] := Keep.refl _ _
  have pre0 : ∀ t, Steps p.tables e below (s₁.setTop (mkF m 0 #[.val (.int p0)] [])) t → Steps p.tables e below (s₁.setTop (entryFrame m #[(.int p0)] 1)) t := fun t k => castTop (ef_12 m p0) k
  have pre1 : ∀ t, Steps p.tables e below (s₁.setTop (mkF m 1 #[.val (.int p0)] [(.int (1 : Int32))])) t → Steps p.tables e below (s₁.setTop (entryFrame m #[(.int p0)] 1)) t := fun t k => pre0 t (by
    show Steps p.tables e below (s₁.setTop (mkF m 0 #[.val (.int p0)] [])) _
    refine XS.iconst X0.here hx rfl (hb hby d12_0) ?_
    exact k)
  obtain ⟨T2, h2, k2, X2, e2, E2, A2, st2⟩ := newP X0 hx hZ (hw _ (List.mem_of_getElem? (i := 1) rfl)) e0 (g := (mkF m 1 #[.val (.int p0)] [(.int (1 : Int32))])) rfl (hb hby d12_1) rfl (by decide) (cap := 1) (by decide) (by decide) (by decide) (by decide)
  obtain ⟨b1, g2⟩ : ∃ z, z = h0.size := ⟨_, rfl⟩
  rw [← g2] at A2 st2
  have gg2 : n0 ≤ b1 := Nat.le_trans Z0 (Nat.le_of_eq g2.symm)
  have sz2 : h0.size ≤ b1 := Nat.le_trans K0.1 (Nat.le_of_eq g2.symm)
  have K2 : Keep h0 h2 [] := K0.ext E2
  have Z2 : n0 ≤ h2.size := Nat.le_trans Z0 E2.1
  have V2 : Arv Z h2 b1 k2 .byte (1 : Int32) [(.int (0 : Int32))] (.int (0 : Int32)) := (Arv.new A2 (by decide)).pad (pad_rep [] (.int (0 : Int32)) 1)
  have pre3 : ∀ t, Steps p.tables e below (T2.setTop (mkF m 3 #[.val (.int p0)] [(.ref b1)])) t → Steps p.tables e below (s₁.setTop (entryFrame m #[(.int p0)] 1)) t := fun t k => pre1 t (st2 _ k)
  have pre4 : ∀ t, Steps p.tables e below (T2.setTop (mkF m 7 #[.val (.int p0)] [(.int (p0.toInt8.toInt32)), (.int (0 : Int32)), (.ref b1), (.ref b1)])) t → Steps p.tables e below (s₁.setTop (entryFrame m #[(.int p0)] 1)) t := fun t k => pre3 t (by
    show Steps p.tables e below (T2.setTop (mkF m 3 #[.val (.int p0)] [(.ref b1)])) _
    refine XS.dup X2.here hx rfl (hb hby d12_3) rfl rfl ?_
    show Steps p.tables e below (T2.setTop (mkF m 4 #[.val (.int p0)] [(.ref b1), (.ref b1)])) _
    refine XS.iconst X2.here hx rfl (hb hby d12_4) ?_
    show Steps p.tables e below (T2.setTop (mkF m 5 #[.val (.int p0)] [(.int (0 : Int32)), (.ref b1), (.ref b1)])) _
    refine XS.iloadN X2.here hx rfl (hb hby d12_5) rfl ?_
    show Steps p.tables e below (T2.setTop (mkF m 6 #[.val (.int p0)] [(.int p0), (.int (0 : Int32)), (.ref b1), (.ref b1)])) _
    refine XS.i2b X2.here hx rfl (hb hby d12_6) rfl ?_
    exact k)
  obtain ⟨cl5, Ar5, q5, Sz5, Mn5, Hs5, Gs5⟩ := id V2
  have hin5 : ¬ ((0 : Int32) < 0 ∨ cl5.slots.size ≤ ((0 : Int32)).toNatClampNeg) := inb_of Sz5 ⟨by decide, by decide⟩
  obtain ⟨T5, h5, X5, e5, W5, st5⟩ := stB X2 hx hZ e2 Ar5 (j := (0 : Int32)) hin5 (g := (mkF m 7 #[.val (.int p0)] [(.int (p0.toInt8.toInt32)), (.int (0 : Int32)), (.ref b1), (.ref b1)])) rfl rfl (hb hby d12_7)
  have V5 : Arv Z h5 b1 k2 .byte (1 : Int32) [(.int ((p0.toInt8.toInt32).toInt8.toInt32))] (.int (0 : Int32)) := Arv.set Ar5 q5 Sz5 Mn5 Hs5 Gs5 (fits_nar_byte _) W5 0 rfl (Nat.le_of_ble_eq_true rfl)
  have N5 := Fr.snoc X5 N0 gg2
  have K5 : Keep h0 h5 [] := K2.wr W5 (Or.inr sz2)
  have Z5 : n0 ≤ h5.size := Nat.le_trans Z2 (Keep.of_wr W5).1
  have pre6 : ∀ t, Steps p.tables e below (T5.setTop (mkF m 8 #[.val (.int p0)] [(.ref b1)])) t → Steps p.tables e below (s₁.setTop (entryFrame m #[(.int p0)] 1)) t := fun t k => pre4 t (st5 _ k)
  obtain ⟨fs, hr, hrun, hended, hW, hsame⟩ := X5.leave (v := some (.ref b1)) (fun h => by rw [Bd.returns] at h; cases h)
  refine ⟨_, _, ?_, hrun, hended, _, _, rfl, ?_, ⟨_, rfl⟩, hW, hsame.mono (by decide) (by decide)⟩
  · refine pre6 _ ?_
    jvm_step X5.here [X5.here.top, hx, (hb hby d12_8), X5.method', Bd.returns, Value.isRef, FieldType.isReference]
    first | (intro acts; rw [hr _ acts rfl rfl rfl]) | rw [hr _ _ rfl rfl rfl]
    exact Steps.refl _
  · show Q12 Z p0 h0 n0 _ T5.heap _
    rw [e5]
    exact ⟨b1, _, rfl, N5, K5, sz2, V5⟩
theorem d13_0 : decode jdk_42_method_151_code 0 = .ok (.aload_n 0, 1) := by decide +kernel
theorem d13_1 : decode jdk_42_method_151_code 1 = .ok (.invokespecial 1, 3) := by decide +kernel
theorem d13_4 : decode jdk_42_method_151_code 4 = .ok (.aload_n 0, 1) := by decide +kernel
theorem d13_5 : decode jdk_42_method_151_code 5 = .ok (.aload_n 1, 1) := by decide +kernel
theorem d13_6 : decode jdk_42_method_151_code 6 = .ok (.putfield 9, 3) := by decide +kernel
theorem d13_9 : decode jdk_42_method_151_code 9 = .ok (.aload_n 0, 1) := by decide +kernel
theorem d13_10 : decode jdk_42_method_151_code 10 = .ok (.iload_n 2, 1) := by decide +kernel
theorem d13_11 : decode jdk_42_method_151_code 11 = .ok (.putfield 15, 3) := by decide +kernel
theorem d13_14 : decode jdk_42_method_151_code 14 = .ok (.return_, 1) := by decide +kernel
theorem pn_13 : plainName "java/lang/String" = true := by first | (simp [plainName, overriddenIn]; done) | decide +kernel
theorem ef_13 (m : MethodId) (x0 : Addr) (x1 : Addr) (x2 : Int32) : entryFrame m #[(.ref x0), (.ref x1), (.int x2)] 3 = mkF m 0 #[.val (.ref x0), .val (.ref x1), .val (.int x2)] [] := by first | (simp [entryFrame, mkF, argsToLocals, Value.category]; done) | rfl
def Q13 (Z : State) (o0 : Addr) (o1 : Addr) (p2 : Int32) (h0 : Heap) (n0 : Nat) (v : Option Value) (h : Heap) (L : List Loc) : Prop := v = none ∧ Fr n0 L ∧ Keep h0 h [o0] ∧ Exa Z h o0 "java/lang/String" ∧ Fld Z h o0 "java/lang/String" "value" "[B" (.ref o1) ∧ Fld Z h o0 "java/lang/String" "coder" "B" (.int (nar .byte p2))
set_option maxRecDepth 65536 in
set_option maxHeartbeats 40000000 in
theorem rm13 (l : Launch) (Z : State) (a0 : Array Value) (hw : ∀ d ∈ tables_1, d.before a0 Z = true) (ws : List Jvm.Cond) (o0 : Addr) (o1 : Addr) (p2 : Int32) (h0 : Heap) (n0 : Nat) (Z0 : n0 ≤ h0.size) (I0 : Exa Z h0 o0 "java/lang/String") (I1 : Fld Z h0 o0 "java/lang/String" "value" "[B" .null) (I2 : Fld Z h0 o0 "java/lang/String" "coder" "B" (.int (0 : Int32))) (gw_o0 : n0 ≤ o0) :
    MetFree l (⟨"java/lang/String", "<init>", "([BB)V"⟩ : MethodName) (head1 (Jvm.Cond.code (⟨"java/lang/String", "<init>", "([BB)V"⟩ : MethodName) jdk_42_method_151_code 3 none :: ws) ({ frames := 1, cells := 0, slots := 0, locals := 12 } : Room)) (fun a U => a = #[(.ref o0), (.ref o1), (.int p2)] ∧ Z.Warmed39 U.vm ∧ U.heap = h0) (fun _ _ _ _ _ => True) (fun _ U o U' => ∃ v L, o = .returned v ∧ Q13 Z o0 o1 p2 h0 n0 v U'.heap L ∧ FrameEnd U o U' L ({ frames := 1, cells := 0, slots := 0, locals := 12 } : Room).cells ({ frames := 1, cells := 0, slots := 0, locals := 12 } : Room).slots) := by
  refine MetFree.of_bodySF (plainFor_of_name pn_13) hisR ?_
  intro p e s m args below meth c s₁ Bd hml0 hP hK
  obtain ⟨rfl, hZ, hh⟩ := hP
  have hx := Bd.exec
  have hby := Bd.bytes
  have hml : c.maxLocals = 3 := hml0
  have hown : s.vm.findClass "java/lang/String" = some m.cls := findClass_of_methodNamed Bd.named
  have hnm := (name_of_methodNamed Bd.named Bd.method).1
  have X0 : Stand p l e ({ frames := 1, cells := 0, slots := 0, locals := 12 } : Room) s m #[(.ref o0), (.ref o1), (.int p2)] below meth c s₁ [] 0 0 := Stand.of_body Bd
  have e0 : s₁.heap = h0 := by rw [← hh, Bd.state]; rfl
  have N0 := Fr.nil n0
  have K0 : Keep h0 h0 [o0] := Keep.refl _ _
  have pre0 : ∀ t, Steps p.tables e below (s₁.setTop (mkF m 0 #[.val (.ref o0), .val (.ref o1), .val (.int p2)] [])) t → Steps p.tables e below (s₁.setTop (entryFrame m #[(.ref o0), (.ref o1), (.int p2)] 3)) t := fun t k => castTop (ef_13 m o0 o1 p2) k
  have pre1 : ∀ t, Steps p.tables e below (s₁.setTop (mkF m 1 #[.val (.ref o0), .val (.ref o1), .val (.int p2)] [(.ref o0)])) t → Steps p.tables e below (s₁.setTop (entryFrame m #[(.ref o0), (.ref o1), (.int p2)] 3)) t := fun t k => pre0 t (by
    show Steps p.tables e below (s₁.setTop (mkF m 0 #[.val (.ref o0), .val (.ref o1), .val (.int p2)] [])) _
    refine XS.aloadN X0.here hx rfl (hb hby d13_0) rfl rfl ?_
    exact k)
  obtain ⟨T2, X2, e2, st2⟩ := initO X0 hx hZ hown (hw _ (List.mem_of_getElem? (i := 73) rfl)) (hw _ (List.mem_of_getElem? (i := 13) rfl)) (hw _ (List.mem_of_getElem? (i := 14) rfl)) e0 (g := (mkF m 1 #[.val (.ref o0), .val (.ref o1), .val (.int p2)] [(.ref o0)])) rfl (by rw [hml]; rfl) rfl (hb hby d13_1) (by decide) (W := 0) (by show 2 * 0 + _ ≤ _; exact Nat.le_of_eq rfl) (by decide)
  have pre3 : ∀ t, Steps p.tables e below (T2.setTop (mkF m 4 #[.val (.ref o0), .val (.ref o1), .val (.int p2)] [])) t → Steps p.tables e below (s₁.setTop (entryFrame m #[(.ref o0), (.ref o1), (.int p2)] 3)) t := fun t k => pre1 t (st2 _ k)
  have pre4 : ∀ t, Steps p.tables e below (T2.setTop (mkF m 6 #[.val (.ref o0), .val (.ref o1), .val (.int p2)] [(.ref o1), (.ref o0)])) t → Steps p.tables e below (s₁.setTop (entryFrame m #[(.ref o0), (.ref o1), (.int p2)] 3)) t := fun t k => pre3 t (by
    show Steps p.tables e below (T2.setTop (mkF m 4 #[.val (.ref o0), .val (.ref o1), .val (.int p2)] [])) _
    refine XS.aloadN X2.here hx rfl (hb hby d13_4) rfl rfl ?_
    show Steps p.tables e below (T2.setTop (mkF m 5 #[.val (.ref o0), .val (.ref o1), .val (.int p2)] [(.ref o0)])) _
    refine XS.aloadN X2.here hx rfl (hb hby d13_5) rfl rfl ?_
    exact k)
  obtain ⟨T5, h5, X5, e5, W5, st5⟩ := putF X2 hx hZ hown (host := "") (Or.inl (hw _ (List.mem_of_getElem? (i := 74) rfl))) Via.refl e2 I1 I0 (Or.inr ⟨(hw _ (List.mem_of_getElem? (i := 18) rfl)), rfl, hnm⟩) (hw _ (List.mem_of_getElem? (i := 17) rfl)) (ty := (.array .byte)) (by decide) rfl rfl (g := (mkF m 6 #[.val (.ref o0), .val (.ref o1), .val (.int p2)] [(.ref o1), (.ref o0)])) rfl rfl (hb hby d13_6)
  have N5 := Fr.snoc X5 N0 gw_o0
  have K5 : Keep h0 h5 [o0] := K0.wr W5 (Or.inl (List.mem_of_getElem? (i := 0) rfl))
  have Z5 : n0 ≤ h5.size := Nat.le_trans Z0 (Keep.of_wr W5).1
  have x6 := I0.wr W5
  have x7 := I1.same W5
  have x8 := I2.other W5 (Or.inr (slot_ne (Or.inr (hw _ (List.mem_of_getElem? (i := 19) rfl))) (Or.inr (hw _ (List.mem_of_getElem? (i := 18) rfl))) (by decide) (t := .byte) (t' := (.array .byte)) (by decide) (by decide)))
  have pre9 : ∀ t, Steps p.tables e below (T5.setTop (mkF m 9 #[.val (.ref o0), .val (.ref o1), .val (.int p2)] [])) t → Steps p.tables e below (s₁.setTop (entryFrame m #[(.ref o0), (.ref o1), (.int p2)] 3)) t := fun t k => pre4 t (st5 _ k)
  have pre10 : ∀ t, Steps p.tables e below (T5.setTop (mkF m 11 #[.val (.ref o0), .val (.ref o1), .val (.int p2)] [(.int p2), (.ref o0)])) t → Steps p.tables e below (s₁.setTop (entryFrame m #[(.ref o0), (.ref o1), (.int p2)] 3)) t := fun t k => pre9 t (by
    show Steps p.tables e below (T5.setTop (mkF m 9 #[.val (.ref o0), .val (.ref o1), .val (.int p2)] [])) _
    refine XS.aloadN X5.here hx rfl (hb hby d13_9) rfl rfl ?_
    show Steps p.tables e below (T5.setTop (mkF m 10 #[.val (.ref o0), .val (.ref o1), .val (.int p2)] [(.ref o0)])) _
    refine XS.iloadN X5.here hx rfl (hb hby d13_10) rfl ?_
    exact k)
  obtain ⟨T11, h11, X11, e11, W11, st11⟩ := putFN X5 hx hZ hown (hw _ (List.mem_of_getElem? (i := 75) rfl)) Via.refl e5 x8 x6 (Or.inr ⟨(hw _ (List.mem_of_getElem? (i := 19) rfl)), rfl, hnm⟩) (hw _ (List.mem_of_getElem? (i := 17) rfl)) (ty := .byte) (v' := (.int (nar .byte p2))) (by decide) rfl (fits_nar_byte _) (g := (mkF m 11 #[.val (.ref o0), .val (.ref o1), .val (.int p2)] [(.int p2), (.ref o0)])) rfl rfl (hb hby d13_11)
  have N11 := Fr.snoc X11 N5 gw_o0
  have K11 : Keep h0 h11 [o0] := K5.wr W11 (Or.inl (List.mem_of_getElem? (i := 0) rfl))
  have Z11 : n0 ≤ h11.size := Nat.le_trans Z5 (Keep.of_wr W11).1
  have x12 := x6.wr W11
  have x13 := x7.other W11 (Or.inr (slot_ne (Or.inr (hw _ (List.mem_of_getElem? (i := 18) rfl))) (Or.inr (hw _ (List.mem_of_getElem? (i := 19) rfl))) (by decide) (t := (.array .byte)) (t' := .byte) (by decide) (by decide)))
  have x14 := x8.same W11
  have pre15 : ∀ t, Steps p.tables e below (T11.setTop (mkF m 14 #[.val (.ref o0), .val (.ref o1), .val (.int p2)] [])) t → Steps p.tables e below (s₁.setTop (entryFrame m #[(.ref o0), (.ref o1), (.int p2)] 3)) t := fun t k => pre10 t (st11 _ k)
  obtain ⟨fs, hr, hrun, hended, hW, hsame⟩ := X11.leave (v := none) (fun _ => rfl)
  refine ⟨_, _, ?_, hrun, hended, _, _, rfl, ?_, ⟨_, rfl⟩, hW, hsame.mono (by decide) (by decide)⟩
  · exact pre15 _ (X11.returnOut hx Bd.returns (hb hby d13_14) hr)
  · show Q13 Z o0 o1 p2 h0 n0 _ T11.heap _
    rw [e11]
    exact ⟨rfl, N11, K11, x12, x13, x14⟩
theorem own_can {p : Int32} (h : ¬ ((255 : Int32) < p)) : ¬ (f11 p = (0 : Int32)) := by
  unfold f11
  rw [if_neg h]
  decide
theorem d10_0 : decode jdk_42_method_139_code 0 = .ok (.getstatic 38, 3) := by decide +kernel
theorem d10_3 : decode jdk_42_method_139_code 3 = .ok (.ifCond .eq 23, 3) := by decide +kernel
theorem d10_6 : decode jdk_42_method_139_code 6 = .ok (.iload_n 0, 1) := by decide +kernel
theorem d10_7 : decode jdk_42_method_139_code 7 = .ok (.invokestatic 1015, 3) := by decide +kernel
theorem d10_10 : decode jdk_42_method_139_code 10 = .ok (.ifCond .eq 16, 3) := by decide +kernel
theorem d10_13 : decode jdk_42_method_139_code 13 = .ok (.new 10, 3) := by decide +kernel
theorem d10_16 : decode jdk_42_method_139_code 16 = .ok (.dup, 1) := by decide +kernel
theorem d10_17 : decode jdk_42_method_139_code 17 = .ok (.iload_n 0, 1) := by decide +kernel
theorem d10_18 : decode jdk_42_method_139_code 18 = .ok (.invokestatic 1018, 3) := by decide +kernel
theorem d10_21 : decode jdk_42_method_139_code 21 = .ok (.iconst 0, 1) := by decide +kernel
theorem d10_22 : decode jdk_42_method_139_code 22 = .ok (.invokespecial 209, 3) := by decide +kernel
theorem d10_25 : decode jdk_42_method_139_code 25 = .ok (.areturn, 1) := by decide +kernel
theorem pn_10 : plainName "java/lang/String" = true := by first | (simp [plainName, overriddenIn]; done) | decide +kernel
theorem pd__C_Z : parseMethodDescriptor "(C)Z" = some ⟨[.char], some .boolean⟩ := by decide +kernel
theorem pd__C__B : parseMethodDescriptor "(C)[B" = some ⟨[.char], some (.array .byte)⟩ := by decide +kernel
theorem pd___BB_V : parseMethodDescriptor "([BB)V" = some ⟨[(.array .byte), .byte], none⟩ := by decide +kernel
theorem ef_10 (m : MethodId) (x0 : Int32) : entryFrame m #[(.int x0)] 1 = mkF m 0 #[.val (.int x0)] [] := by first | (simp [entryFrame, mkF, argsToLocals, Value.category]; done) | rfl
def Q10 (Z : State) (p0 : Int32) (wcs : Int32) (h0 : Heap) (n0 : Nat) (v : Option Value) (h : Heap) (L : List Loc) : Prop := ∃ (b13 : Addr) (b18_0 : Addr) (k_b18_0 : ClassId), v = (some (.ref b13)) ∧ Fr n0 L ∧ Keep h0 h [] ∧ h0.size ≤ b13 ∧ h0.size ≤ b18_0 ∧ Exa Z h b13 "java/lang/String" ∧ Fld Z h b13 "java/lang/String" "value" "[B" (.ref b18_0) ∧ Fld Z h b13 "java/lang/String" "coder" "B" (.int (nar .byte (0 : Int32))) ∧ Arv Z h b18_0 k_b18_0 .byte (1 : Int32) [(.int ((p0.toInt8.toInt32).toInt8.toInt32))] (.int (0 : Int32))
set_option maxRecDepth 65536 in
set_option maxHeartbeats 40000000 in
theorem rm10 (l : Launch) (Z : State) (a0 : Array Value) (hw : ∀ d ∈ tables_1, d.before a0 Z = true) (ws : List Jvm.Cond) (p0 : Int32) (wcs : Int32) (h0 : Heap) (n0 : Nat) (Z0 : n0 ≤ h0.size) (I0 : Sta Z h0 "java/lang/String" "COMPACT_STRINGS" "Z" (.int wcs)) (hcs : ¬ (wcs = (0 : Int32))) (hp : ¬ ((255 : Int32) < p0)) :
    MetFree l (⟨"java/lang/String", "valueOf", "(C)Ljava/lang/String;"⟩ : MethodName) (head1 (Jvm.Cond.code (⟨"java/lang/String", "valueOf", "(C)Ljava/lang/String;"⟩ : MethodName) jdk_42_method_139_code 1 (some (.object "java/lang/String")) :: ws) ({ frames := 2, cells := 2, slots := 5, locals := 27 } : Room)) (fun a U => a = #[(.int p0)] ∧ Z.Warmed39 U.vm ∧ U.heap = h0) (fun _ _ _ _ _ => True) (fun _ U o U' => ∃ v L, o = .returned v ∧ Q10 Z p0 wcs h0 n0 v U'.heap L ∧ FrameEnd U o U' L ({ frames := 2, cells := 2, slots := 5, locals := 27 } : Room).cells ({ frames := 2, cells := 2, slots := 5, locals := 27 } : Room).slots) := by
  refine MetFree.of_bodySF (plainFor_of_name pn_10) hisR ?_
  intro p e s m args below meth c s₁ Bd hml0 hP hK
  obtain ⟨rfl, hZ, hh⟩ := hP
  have hx := Bd.exec
  have hby := Bd.bytes
  have hml : c.maxLocals = 1 := hml0
  have hown : s.vm.findClass "java/lang/String" = some m.cls := findClass_of_methodNamed Bd.named
  have hnm := (name_of_methodNamed Bd.named Bd.method).1
  have X0 : Stand p l e ({ frames := 2, cells := 2, slots := 5, locals := 27 } : Room) s m #[(.int p0)] below meth c s₁ [] 0 0 := Stand.of_body Bd
  have e0 : s₁.heap = h0 := by rw [← hh, Bd.state]; rfl
  have N0 := Fr.nil n0
  have K0 : Keep h0 h0 [] := Keep.refl _ _
  have pre0 : ∀ t, Steps p.tables e below (s₁.setTop (mkF m 0 #[.val (.int p0)] [])) t → Steps p.tables e below (s₁.setTop (entryFrame m #[(.int p0)] 1)) t := fun t k => castTop (ef_10 m p0) k
  obtain ⟨T1, X1, e1, st1⟩ := getS2 X0 hx hZ hown (host := "") (Or.inl (hw _ (List.mem_of_getElem? (i := 60) rfl))) Via.refl e0 I0 (g := (mkF m 0 #[.val (.int p0)] [])) rfl (hb hby d10_0)
  have pre2 : ∀ t, Steps p.tables e below (T1.setTop (mkF m 3 #[.val (.int p0)] [(.int wcs)])) t → Steps p.tables e below (s₁.setTop (entryFrame m #[(.int p0)] 1)) t := fun t k => pre0 t (st1 _ k)
  have pre3 : ∀ t, Steps p.tables e below (T1.setTop (mkF m 7 #[.val (.int p0)] [(.int p0)])) t → Steps p.tables e below (s₁.setTop (entryFrame m #[(.int p0)] 1)) t := fun t k => pre2 t (by
    show Steps p.tables e below (T1.setTop (mkF m 3 #[.val (.int p0)] [(.int wcs)])) _
    refine XS.ifNo X1.here hx rfl (hb hby d10_3) rfl ((if0 _ _).trans (feq hcs).1) ?_
    show Steps p.tables e below (T1.setTop (mkF m 6 #[.val (.int p0)] [])) _
    refine XS.iloadN X1.here hx rfl (hb hby d10_6) rfl ?_
    exact k)
  obtain ⟨_, _, ⟨T4, L4, k4, n4⟩, -, X4, ⟨Lc4, hQ4, l4, y4, z4⟩, st4⟩ := Jvm.LawKit.callS X1 hx (y := (⟨"java/lang/StringLatin1", "canEncode", "(C)Z"⟩ : MethodName)) hown (mvT hZ (hw _ (List.mem_of_getElem? (i := 61) rfl))) (mvT hZ (hw _ (List.mem_of_getElem? (i := 62) rfl))) (mvT hZ (hw _ (List.mem_of_getElem? (i := 63) rfl))) (mvT hZ (hw _ (List.mem_of_getElem? (i := 64) rfl))) (by decide) (backOf (W := 0) (rm11 l Z a0 hw [] p0 h0 n0 Z0) hZ (hw _ (List.mem_of_getElem? (i := 64) rfl)) (hw _ (List.mem_of_getElem? (i := 63) rfl)) (by decide) (by decide)) (g := (mkF m 7 #[.val (.int p0)] [(.int p0)])) rfl (by rw [hml]; rfl) (argsL := [(.int p0)]) (rest := []) (lenOf pd__C_Z rfl) rfl (by show 2 * 0 + _ ≤ _; exact Nat.le_of_eq rfl) (hb hby d10_7) (fun _ _ => ⟨rfl, e1, (by decide : 0 + 0 ≤ _), (by decide : 0 + 0 ≤ _)⟩)
  dsimp only [Pt.U, Pt.locs, Pt.cells, Pt.slots] at X4 l4 y4 z4 st4 hQ4
  subst l4 y4 z4
  obtain ⟨rfl, Nq4, e4⟩ := hQ4
  have N4 := Fr.app N0 Nq4
  have pre5 : ∀ t, Steps p.tables e below (T4.setTop (mkF m 10 #[.val (.int p0)] [(.int (f11 p0))])) t → Steps p.tables e below (s₁.setTop (entryFrame m #[(.int p0)] 1)) t := fun t k => pre3 t (st4 _ k)
  have pre6 : ∀ t, Steps p.tables e below (T4.setTop (mkF m 13 #[.val (.int p0)] [])) t → Steps p.tables e below (s₁.setTop (entryFrame m #[(.int p0)] 1)) t := fun t k => pre5 t (by
    show Steps p.tables e below (T4.setTop (mkF m 10 #[.val (.int p0)] [(.int (f11 p0))])) _
    refine XS.ifNo X4.here hx rfl (hb hby d10_10) rfl ((if0 _ _).trans (feq (own_can hp)).1) ?_
    exact k)
  obtain ⟨T7, h7, X7, e7, E7, A7, D7, -, st7⟩ := newO X4 hx hZ hown (hw _ (List.mem_of_getElem? (i := 65) rfl)) (hw _ (List.mem_of_getElem? (i := 17) rfl)) (hw _ (List.mem_of_getElem? (i := 16) rfl)) e4 (g := (mkF m 13 #[.val (.int p0)] [])) rfl (hb hby d10_13) (by decide) (by decide)
  obtain ⟨b13, g7⟩ : ∃ z, z = h0.size := ⟨_, rfl⟩
  rw [← g7] at A7 D7 st7
  have gg7 : n0 ≤ b13 := Nat.le_trans Z0 (Nat.le_of_eq g7.symm)
  have sz7 : h0.size ≤ b13 := Nat.le_trans K0.1 (Nat.le_of_eq g7.symm)
  have K7 : Keep h0 h7 [] := K0.ext E7
  have Z7 : n0 ≤ h7.size := Nat.le_trans Z0 E7.1
  have x8 := I0.ext E7
  have Fn7_value : Fld Z h7 b13 "java/lang/String" "value" "[B" .null := D7 (Or.inr (hw _ (List.mem_of_getElem? (i := 18) rfl))) (ty := (.array .byte)) (by decide)
  have Fn7_coder : Fld Z h7 b13 "java/lang/String" "coder" "B" (.int (0 : Int32)) := D7 (Or.inr (hw _ (List.mem_of_getElem? (i := 19) rfl))) (ty := .byte) (by decide)
  have pre9 : ∀ t, Steps p.tables e below (T7.setTop (mkF m 16 #[.val (.int p0)] [(.ref b13)])) t → Steps p.tables e below (s₁.setTop (entryFrame m #[(.int p0)] 1)) t := fun t k => pre6 t (st7 _ k)
  have pre10 : ∀ t, Steps p.tables e below (T7.setTop (mkF m 18 #[.val (.int p0)] [(.int p0), (.ref b13), (.ref b13)])) t → Steps p.tables e below (s₁.setTop (entryFrame m #[(.int p0)] 1)) t := fun t k => pre9 t (by
    show Steps p.tables e below (T7.setTop (mkF m 16 #[.val (.int p0)] [(.ref b13)])) _
    refine XS.dup X7.here hx rfl (hb hby d10_16) rfl rfl ?_
    show Steps p.tables e below (T7.setTop (mkF m 17 #[.val (.int p0)] [(.ref b13), (.ref b13)])) _
    refine XS.iloadN X7.here hx rfl (hb hby d10_17) rfl ?_
    exact k)
  obtain ⟨_, _, ⟨T11, L11, k11, n11⟩, -, X11, ⟨Lc11, hQ11, l11, y11, z11⟩, st11⟩ := Jvm.LawKit.callS X7 hx (y := (⟨"java/lang/StringLatin1", "toBytes", "(C)[B"⟩ : MethodName)) hown (mvT hZ (hw _ (List.mem_of_getElem? (i := 66) rfl))) (mvT hZ (hw _ (List.mem_of_getElem? (i := 67) rfl))) (mvT hZ (hw _ (List.mem_of_getElem? (i := 63) rfl))) (mvT hZ (hw _ (List.mem_of_getElem? (i := 68) rfl))) (by decide) (backOf (W := 2) (rm12 l Z a0 hw [] p0 h7 n0 Z7) hZ (hw _ (List.mem_of_getElem? (i := 68) rfl)) (hw _ (List.mem_of_getElem? (i := 63) rfl)) (by decide) (by decide)) (g := (mkF m 18 #[.val (.int p0)] [(.int p0), (.ref b13), (.ref b13)])) rfl (by rw [hml]; rfl) (argsL := [(.int p0)]) (rest := [(.ref b13), (.ref b13)]) (lenOf pd__C__B rfl) rfl (by show 2 * 0 + _ ≤ _; exact Nat.le_of_eq rfl) (hb hby d10_18) (fun _ _ => ⟨rfl, e7, (by decide : 1 + 1 ≤ _), (by decide : 4 + 1 ≤ _)⟩)
  dsimp only [Pt.U, Pt.locs, Pt.cells, Pt.slots] at X11 l11 y11 z11 st11 hQ11
  subst l11 y11 z11
  obtain ⟨b18_0, k_b1_11, rfl, Nq11, Kq11, gz11_b18_0, o11_0⟩ := hQ11
  have N11 := Fr.app N4 Nq11
  have K11 : Keep h0 T11.heap [] := K7.trans Kq11 all0
  have Z11 : n0 ≤ T11.heap.size := Nat.le_trans Z7 Kq11.1
  have x12 := own_staK x8 Kq11 all0
  have x13 := A7.keep Kq11
  have x14 := Fn7_value.keep Kq11 nin0
  have x15 := Fn7_coder.keep Kq11 nin0
  have gg11_b18_0 : n0 ≤ b18_0 := Nat.le_trans Z7 gz11_b18_0
  have sz11_b18_0 : h0.size ≤ b18_0 := Nat.le_trans K7.1 gz11_b18_0
  have ne11_b13_b18_0 : b13 ≠ b18_0 := Nat.ne_of_lt (Nat.lt_of_lt_of_le A7.lt gz11_b18_0)
  have pre16 : ∀ t, Steps p.tables e below (T11.setTop (mkF m 21 #[.val (.int p0)] [(.ref b18_0), (.ref b13), (.ref b13)])) t → Steps p.tables e below (s₁.setTop (entryFrame m #[(.int p0)] 1)) t := fun t k => pre10 t (st11 _ k)
  have pre17 : ∀ t, Steps p.tables e below (T11.setTop (mkF m 22 #[.val (.int p0)] [(.int (0 : Int32)), (.ref b18_0), (.ref b13), (.ref b13)])) t → Steps p.tables e below (s₁.setTop (entryFrame m #[(.int p0)] 1)) t := fun t k => pre16 t (by
    show Steps p.tables e below (T11.setTop (mkF m 21 #[.val (.int p0)] [(.ref b18_0), (.ref b13), (.ref b13)])) _
    refine XS.iconst X11.here hx rfl (hb hby d10_21) ?_
    exact k)
  obtain ⟨_, _, ⟨T18, L18, k18, n18⟩, -, X18, ⟨Lc18, hQ18, l18, y18, z18⟩, st18⟩ := X11.specialBack hx (y := (⟨"java/lang/String", "<init>", "([BB)V"⟩ : MethodName)) rfl hown (mvT hZ (hw _ (List.mem_of_getElem? (i := 69) rfl))) (mvT hZ (hw _ (List.mem_of_getElem? (i := 70) rfl))) (mvT hZ (hw _ (List.mem_of_getElem? (i := 72) rfl))) (by decide) (backOf (W := 1) (rm13 l Z a0 hw [] b13 b18_0 (0 : Int32) T11.heap n0 Z11 x13 x14 x15 gg7) hZ (hw _ (List.mem_of_getElem? (i := 72) rfl)) (hw _ (List.mem_of_getElem? (i := 16) rfl)) (by decide) (by decide)) (g := (mkF m 22 #[.val (.int p0)] [(.int (0 : Int32)), (.ref b18_0), (.ref b13), (.ref b13)])) rfl (by rw [hml]; rfl) (Steps.refl _) (a := b13) (argsL := [(.ref b18_0), (.int (0 : Int32))]) (rest := [(.ref b13)]) (lenOf pd___BB_V rfl) rfl (by show 2 * 0 + _ ≤ _; exact Nat.le_of_eq rfl) (hb hby d10_22) (fun _ _ => ⟨rfl, rfl, (by decide : 2 + 0 ≤ _), (by decide : 5 + 0 ≤ _)⟩)
  dsimp only [Pt.U, Pt.locs, Pt.cells, Pt.slots] at X18 l18 y18 z18 st18 hQ18
  subst l18 y18 z18
  obtain ⟨rfl, Nq18, Kq18, o18_0, o18_1, o18_2⟩ := hQ18
  have N18 := Fr.app N11 Nq18
  have K18 : Keep h0 T18.heap [] := K11.trans Kq18 (allS (Or.inr sz7) all0)
  have Z18 : n0 ≤ T18.heap.size := Nat.le_trans Z11 Kq18.1
  have x19 := own_staK x12 Kq18 (allS (own_plE x13) all0)
  have x20 := x13.keep Kq18
  have x21 := o11_0.keep Kq18 (ninS (Ne.symm ne11_b13_b18_0) nin0)
  have pre22 : ∀ t, Steps p.tables e below (T18.setTop (mkF m 25 #[.val (.int p0)] [(.ref b13)])) t → Steps p.tables e below (s₁.setTop (entryFrame m #[(.int p0)] 1)) t := fun t k => pre17 t (st18.trans k)
  obtain ⟨fs, hr, hrun, hended, hW, hsame⟩ := X18.leave (v := some (.ref b13)) (fun h => by rw [Bd.returns] at h; cases h)
  refine ⟨_, _, ?_, hrun, hended, _, _, rfl, ?_, ⟨_, rfl⟩, hW, hsame.mono (by decide) (by decide)⟩
  · refine pre22 _ ?_
    jvm_step X18.here [X18.here.top, hx, (hb hby d10_25), X18.method', Bd.returns, Value.isRef, FieldType.isReference]
    first | (intro acts; rw [hr _ acts rfl rfl rfl]) | rw [hr _ _ rfl rfl rfl]
    exact Steps.refl _
  · show Q10 Z p0 wcs h0 n0 _ T18.heap _
    skip
    exact ⟨b13, b18_0, _, rfl, N18, K18, sz7, sz11_b18_0, o18_0, o18_1, o18_2, x21⟩
theorem d16_0 : decode jdk_42_method_152_code 0 = .ok (.getstatic 38, 3) := by decide +kernel
theorem d16_3 : decode jdk_42_method_152_code 3 = .ok (.ifCond .eq 10, 3) := by decide +kernel
theorem d16_6 : decode jdk_42_method_152_code 6 = .ok (.aload_n 0, 1) := by decide +kernel
theorem d16_7 : decode jdk_42_method_152_code 7 = .ok (.getfield 15, 3) := by decide +kernel
theorem d16_10 : decode jdk_42_method_152_code 10 = .ok (.goto 4, 3) := by decide +kernel
theorem d16_14 : decode jdk_42_method_152_code 14 = .ok (.ireturn, 1) := by decide +kernel
theorem pn_16 : plainName "java/lang/String" = true := by first | (simp [plainName, overriddenIn]; done) | decide +kernel
theorem ef_16 (m : MethodId) (x0 : Addr) : entryFrame m #[(.ref x0)] 1 = mkF m 0 #[.val (.ref x0)] [] := by first | (simp [entryFrame, mkF, argsToLocals, Value.category]; done) | rfl
def f16 : Int32 := (0 : Int32)
set_option maxRecDepth 65536 in
set_option maxHeartbeats 40000000 in
theorem rm16 (l : Launch) (Z : State) (a0 : Array Value) (hw : ∀ d ∈ tables_1, d.before a0 Z = true) (ws : List Jvm.Cond) (o0 : Addr) (wcs : Int32) (h0 : Heap) (n0 : Nat) (Z0 : n0 ≤ h0.size) (I0 : Sta Z h0 "java/lang/String" "COMPACT_STRINGS" "Z" (.int wcs)) (I1 : Fld Z h0 o0 "java/lang/String" "coder" "B" (.int (0 : Int32))) (hcs : ¬ (wcs = (0 : Int32))) :
    MetFree l (⟨"java/lang/String", "coder", "()B"⟩ : MethodName) (head1 (Jvm.Cond.code (⟨"java/lang/String", "coder", "()B"⟩ : MethodName) jdk_42_method_152_code 1 (some .byte) :: ws) ({ frames := 0, cells := 0, slots := 0, locals := 0 } : Room)) (fun a U => a = #[(.ref o0)] ∧ Z.Warmed39 U.vm ∧ U.heap = h0) (fun _ _ _ _ _ => True) (fun _ U o U' => ∃ v L, o = .returned v ∧ QP (some (.int (f16))) h0 n0 v U'.heap L ∧ FrameEnd U o U' L ({ frames := 0, cells := 0, slots := 0, locals := 0 } : Room).cells ({ frames := 0, cells := 0, slots := 0, locals := 0 } : Room).slots) := by
  refine MetFree.of_bodySF (plainFor_of_name pn_16) hisR ?_
  intro p e s m args below meth c s₁ Bd hml0 hP hK
  obtain ⟨rfl, hZ, hh⟩ := hP
  have hx := Bd.exec
  have hby := Bd.bytes
  have hml : c.maxLocals = 1 := hml0
  have hown : s.vm.findClass "java/lang/String" = some m.cls := findClass_of_methodNamed Bd.named
  have hnm := (name_of_methodNamed Bd.named Bd.method).1
  have X0 : Stand p l e ({ frames := 0, cells := 0, slots := 0, locals := 0 } : Room) s m #[(.ref o0)] below meth c s₁ [] 0 0 := Stand.of_body Bd
  have e0 : s₁.heap = h0 := by rw [← hh, Bd.state]; rfl
  have N0 := Fr.nil n0
  have K0 : Keep h0 h0 [] := Keep.refl _ _
  have pre0 : ∀ t, Steps p.tables e below (s₁.setTop (mkF m 0 #[.val (.ref o0)] [])) t → Steps p.tables e below (s₁.setTop (entryFrame m #[(.ref o0)] 1)) t := fun t k => castTop (ef_16 m o0) k
  obtain ⟨T1, X1, e1, st1⟩ := getS2 X0 hx hZ hown (host := "") (Or.inl (hw _ (List.mem_of_getElem? (i := 60) rfl))) Via.refl e0 I0 (g := (mkF m 0 #[.val (.ref o0)] [])) rfl (hb hby d16_0)
  have pre2 : ∀ t, Steps p.tables e below (T1.setTop (mkF m 3 #[.val (.ref o0)] [(.int wcs)])) t → Steps p.tables e below (s₁.setTop (entryFrame m #[(.ref o0)] 1)) t := fun t k => pre0 t (st1 _ k)
  have pre3 : ∀ t, Steps p.tables e below (T1.setTop (mkF m 7 #[.val (.ref o0)] [(.ref o0)])) t → Steps p.tables e below (s₁.setTop (entryFrame m #[(.ref o0)] 1)) t := fun t k => pre2 t (by
    show Steps p.tables e below (T1.setTop (mkF m 3 #[.val (.ref o0)] [(.int wcs)])) _
    refine XS.ifNo X1.here hx rfl (hb hby d16_3) rfl ((if0 _ _).trans (feq hcs).1) ?_
    show Steps p.tables e below (T1.setTop (mkF m 6 #[.val (.ref o0)] [])) _
    refine XS.aloadN X1.here hx rfl (hb hby d16_6) rfl rfl ?_
    exact k)
  obtain ⟨T4, X4, e4, st4⟩ := getF X1 hx hZ hown (host := "") (Or.inl (hw _ (List.mem_of_getElem? (i := 75) rfl))) Via.refl e1 I1 (g := (mkF m 7 #[.val (.ref o0)] [(.ref o0)])) rfl rfl (hb hby d16_7)
  have pre5 : ∀ t, Steps p.tables e below (T4.setTop (mkF m 10 #[.val (.ref o0)] [(.int (0 : Int32))])) t → Steps p.tables e below (s₁.setTop (entryFrame m #[(.ref o0)] 1)) t := fun t k => pre3 t (st4 _ k)
  have pre6 : ∀ t, Steps p.tables e below (T4.setTop (mkF m 14 #[.val (.ref o0)] [(.int (0 : Int32))])) t → Steps p.tables e below (s₁.setTop (entryFrame m #[(.ref o0)] 1)) t := fun t k => pre5 t (by
    show Steps p.tables e below (T4.setTop (mkF m 10 #[.val (.ref o0)] [(.int (0 : Int32))])) _
    refine XS.goto X4.here hx rfl (pc0 := 10) (pc' := 14) rfl (hb hby d16_10) (by decide) (by decide) ?_
    exact k)
  obtain ⟨fs, hr, hrun, hended, hW, hsame⟩ := X4.leave (v := some (.int (0 : Int32))) (fun h => by rw [Bd.returns] at h; cases h)
  refine ⟨_, _, ?_, hrun, hended, _, _, rfl, ?_, ⟨_, rfl⟩, hW, hsame.mono (by decide) (by decide)⟩
  · exact pre6 _ (retN X4 hx (t := .byte) Bd.returns (by simp) (hb hby d16_14) hr)
  · exact ⟨by simp only [f16], N0, e4⟩
theorem d15_0 : decode jdk_42_method_54_code 0 = .ok (.aload_n 0, 1) := by decide +kernel
theorem d15_1 : decode jdk_42_method_54_code 1 = .ok (.getfield 9, 3) := by decide +kernel
theorem d15_4 : decode jdk_42_method_54_code 4 = .ok (.arraylength, 1) := by decide +kernel
theorem d15_5 : decode jdk_42_method_54_code 5 = .ok (.aload_n 0, 1) := by decide +kernel
theorem d15_6 : decode jdk_42_method_54_code 6 = .ok (.invokevirtual 335, 3) := by decide +kernel
theorem d15_9 : decode jdk_42_method_54_code 9 = .ok (.ishr, 1) := by decide +kernel
theorem d15_10 : decode jdk_42_method_54_code 10 = .ok (.ireturn, 1) := by decide +kernel
theorem pn_15 : plainName "java/lang/String" = true := by first | (simp [plainName, overriddenIn]; done) | decide +kernel
theorem pd___B : parseMethodDescriptor "()B" = some ⟨[], some .byte⟩ := by decide +kernel
theorem ef_15 (m : MethodId) (x0 : Addr) : entryFrame m #[(.ref x0)] 1 = mkF m 0 #[.val (.ref x0)] [] := by first | (simp [entryFrame, mkF, argsToLocals, Value.category]; done) | rfl
def f15 : Int32 := ((1 : Int32) >>> ((f16) &&& 31))
set_option maxRecDepth 65536 in
set_option maxHeartbeats 40000000 in
theorem rm15 (l : Launch) (Z : State) (a0 : Array Value) (hw : ∀ d ∈ tables_1, d.before a0 Z = true) (ws : List Jvm.Cond) (o0 : Addr) (wcs : Int32) (oa : Addr) (ka : ClassId) (w : Int32) (h0 : Heap) (n0 : Nat) (Z0 : n0 ≤ h0.size) (I0 : Sta Z h0 "java/lang/String" "COMPACT_STRINGS" "Z" (.int wcs)) (I1 : Exa Z h0 o0 "java/lang/String") (I2 : Fld Z h0 o0 "java/lang/String" "value" "[B" (.ref oa)) (I3 : Fld Z h0 o0 "java/lang/String" "coder" "B" (.int (0 : Int32))) (I4 : Arv Z h0 oa ka .byte (1 : Int32) [(.int w)] (.int (0 : Int32))) (hcs : ¬ (wcs = (0 : Int32))) :
    MetFree l (⟨"java/lang/String", "length", "()I"⟩ : MethodName) (head1 (Jvm.Cond.code (⟨"java/lang/String", "length", "()I"⟩ : MethodName) jdk_42_method_54_code 1 (some .int) :: ws) ({ frames := 1, cells := 0, slots := 0, locals := 13 } : Room)) (fun a U => a = #[(.ref o0)] ∧ Z.Warmed39 U.vm ∧ U.heap = h0) (fun _ _ _ _ _ => True) (fun _ U o U' => ∃ v L, o = .returned v ∧ QP (some (.int (f15))) h0 n0 v U'.heap L ∧ FrameEnd U o U' L ({ frames := 1, cells := 0, slots := 0, locals := 13 } : Room).cells ({ frames := 1, cells := 0, slots := 0, locals := 13 } : Room).slots) := by
  refine MetFree.of_bodySF (plainFor_of_name pn_15) hisR ?_
  intro p e s m args below meth c s₁ Bd hml0 hP hK
  obtain ⟨rfl, hZ, hh⟩ := hP
  have hx := Bd.exec
  have hby := Bd.bytes
  have hml : c.maxLocals = 1 := hml0
  have hown : s.vm.findClass "java/lang/String" = some m.cls := findClass_of_methodNamed Bd.named
  have hnm := (name_of_methodNamed Bd.named Bd.method).1
  have X0 : Stand p l e ({ frames := 1, cells := 0, slots := 0, locals := 13 } : Room) s m #[(.ref o0)] below meth c s₁ [] 0 0 := Stand.of_body Bd
  have e0 : s₁.heap = h0 := by rw [← hh, Bd.state]; rfl
  have N0 := Fr.nil n0
  have K0 : Keep h0 h0 [] := Keep.refl _ _
  have pre0 : ∀ t, Steps p.tables e below (s₁.setTop (mkF m 0 #[.val (.ref o0)] [])) t → Steps p.tables e below (s₁.setTop (entryFrame m #[(.ref o0)] 1)) t := fun t k => castTop (ef_15 m o0) k
  have pre1 : ∀ t, Steps p.tables e below (s₁.setTop (mkF m 1 #[.val (.ref o0)] [(.ref o0)])) t → Steps p.tables e below (s₁.setTop (entryFrame m #[(.ref o0)] 1)) t := fun t k => pre0 t (by
    show Steps p.tables e below (s₁.setTop (mkF m 0 #[.val (.ref o0)] [])) _
    refine XS.aloadN X0.here hx rfl (hb hby d15_0) rfl rfl ?_
    exact k)
  obtain ⟨T2, X2, e2, st2⟩ := getF X0 hx hZ hown (host := "") (Or.inl (hw _ (List.mem_of_getElem? (i := 74) rfl))) Via.refl e0 I2 (g := (mkF m 1 #[.val (.ref o0)] [(.ref o0)])) rfl rfl (hb hby d15_1)
  have pre3 : ∀ t, Steps p.tables e below (T2.setTop (mkF m 4 #[.val (.ref o0)] [(.ref oa)])) t → Steps p.tables e below (s₁.setTop (entryFrame m #[(.ref o0)] 1)) t := fun t k => pre1 t (st2 _ k)
  obtain ⟨cl4, Ar4, -, Sz4, Mn4, Hs4, -⟩ := id I4
  have pre5 : ∀ t, Steps p.tables e below (T2.setTop (mkF m 5 #[.val (.ref o0)] [(.int (1 : Int32))])) t → Steps p.tables e below (s₁.setTop (entryFrame m #[(.ref o0)] 1)) t := fun t k => pre3 t (by
    show Steps p.tables e below (T2.setTop (mkF m 4 #[.val (.ref o0)] [(.ref oa)])) _
    refine X2.arraylength hx (by rw [e2]; exact Ar4.1) (State.isArrayOf_alike hZ.alike Ar4.2.1) (g := (mkF m 4 #[.val (.ref o0)] [(.ref oa)])) rfl rfl (hb hby d15_4) _ ?_
    rw [len_of Sz4 Mn4]
    exact k)
  have pre6 : ∀ t, Steps p.tables e below (T2.setTop (mkF m 6 #[.val (.ref o0)] [(.ref o0), (.int (1 : Int32))])) t → Steps p.tables e below (s₁.setTop (entryFrame m #[(.ref o0)] 1)) t := fun t k => pre5 t (by
    show Steps p.tables e below (T2.setTop (mkF m 5 #[.val (.ref o0)] [(.int (1 : Int32))])) _
    refine XS.aloadN X2.here hx rfl (hb hby d15_5) rfl rfl ?_
    exact k)
  obtain ⟨cq7, kq7, q7a, q7b, q7c⟩ := isOf hZ e2 I1
  obtain ⟨_, _, ⟨T7, L7, k7, n7⟩, -, X7, ⟨Lc7, hQ7, l7, y7, z7⟩, st7⟩ := X2.virtualBack hx (y := (⟨"java/lang/String", "coder", "()B"⟩ : MethodName)) (z := (⟨"java/lang/String", "coder", "()B"⟩ : MethodName)) hown (mvT hZ (hw _ (List.mem_of_getElem? (i := 85) rfl))) (mvT hZ (hw _ (List.mem_of_getElem? (i := 86) rfl))) (notFace_of_selects (args := #[]) (mvT hZ (hw _ (List.mem_of_getElem? (i := 88) rfl)))) (mvT hZ (hw _ (List.mem_of_getElem? (i := 88) rfl))) (mvT hZ (hw _ (List.mem_of_getElem? (i := 87) rfl))) (by decide) (backOf (W := 1) (rm16 l Z a0 hw [] o0 wcs h0 n0 Z0 I0 I3 hcs) hZ (hw _ (List.mem_of_getElem? (i := 89) rfl)) (hw _ (List.mem_of_getElem? (i := 16) rfl)) (by decide) (by decide)) q7a q7c (g := (mkF m 6 #[.val (.ref o0)] [(.ref o0), (.int (1 : Int32))])) rfl (by rw [hml]; rfl) (Steps.refl _) (argsL := []) (rest := [(.int (1 : Int32))]) (lenOf pd___B rfl) rfl (by show 2 * 0 + _ ≤ _; exact Nat.le_of_eq rfl) (hb hby d15_6) (fun _ _ => ⟨rfl, e2, (by decide : 0 + 0 ≤ _), (by decide : 0 + 0 ≤ _)⟩)
  dsimp only [Pt.U, Pt.locs, Pt.cells, Pt.slots] at X7 l7 y7 z7 st7 hQ7
  subst l7 y7 z7
  obtain ⟨rfl, Nq7, e7⟩ := hQ7
  have N7 := Fr.app N0 Nq7
  have pre8 : ∀ t, Steps p.tables e below (T7.setTop (mkF m 9 #[.val (.ref o0)] [(.int (f16)), (.int (1 : Int32))])) t → Steps p.tables e below (s₁.setTop (entryFrame m #[(.ref o0)] 1)) t := fun t k => pre6 t (st7.trans k)
  have pre9 : ∀ t, Steps p.tables e below (T7.setTop (mkF m 10 #[.val (.ref o0)] [(.int ((1 : Int32) >>> ((f16) &&& 31)))])) t → Steps p.tables e below (s₁.setTop (entryFrame m #[(.ref o0)] 1)) t := fun t k => pre8 t (by
    show Steps p.tables e below (T7.setTop (mkF m 9 #[.val (.ref o0)] [(.int (f16)), (.int (1 : Int32))])) _
    refine XS.ishr X7.here hx rfl (hb hby d15_9) rfl ?_
    exact k)
  obtain ⟨fs, hr, hrun, hended, hW, hsame⟩ := X7.leave (v := some (.int ((1 : Int32) >>> ((f16) &&& 31)))) (fun h => by rw [Bd.returns] at h; cases h)
  refine ⟨_, _, ?_, hrun, hended, _, _, rfl, ?_, ⟨_, rfl⟩, hW, hsame.mono (by decide) (by decide)⟩
  · exact pre9 _ (retI X7 hx Bd.returns (hb hby d15_10) hr)
  · exact ⟨by simp only [f15], N7, e7⟩
theorem d18_0 : decode jdk_42_method_154_code 0 = .ok (.getstatic 38, 3) := by decide +kernel
theorem d18_3 : decode jdk_42_method_154_code 3 = .ok (.ifCond .eq 14, 3) := by decide +kernel
theorem d18_6 : decode jdk_42_method_154_code 6 = .ok (.aload_n 0, 1) := by decide +kernel
theorem d18_7 : decode jdk_42_method_154_code 7 = .ok (.getfield 15, 3) := by decide +kernel
theorem d18_10 : decode jdk_42_method_154_code 10 = .ok (.ifCond .ne 7, 3) := by decide +kernel
theorem d18_13 : decode jdk_42_method_154_code 13 = .ok (.iconst 1, 1) := by decide +kernel
theorem d18_14 : decode jdk_42_method_154_code 14 = .ok (.goto 4, 3) := by decide +kernel
theorem d18_18 : decode jdk_42_method_154_code 18 = .ok (.ireturn, 1) := by decide +kernel
theorem pn_18 : plainName "java/lang/String" = true := by first | (simp [plainName, overriddenIn]; done) | decide +kernel
theorem ef_18 (m : MethodId) (x0 : Addr) : entryFrame m #[(.ref x0)] 1 = mkF m 0 #[.val (.ref x0)] [] := by first | (simp [entryFrame, mkF, argsToLocals, Value.category]; done) | rfl
def f18 : Int32 := (1 : Int32)
set_option maxRecDepth 65536 in
set_option maxHeartbeats 40000000 in
theorem rm18 (l : Launch) (Z : State) (a0 : Array Value) (hw : ∀ d ∈ tables_1, d.before a0 Z = true) (ws : List Jvm.Cond) (o0 : Addr) (wcs : Int32) (h0 : Heap) (n0 : Nat) (Z0 : n0 ≤ h0.size) (I0 : Sta Z h0 "java/lang/String" "COMPACT_STRINGS" "Z" (.int wcs)) (I1 : Fld Z h0 o0 "java/lang/String" "coder" "B" (.int (0 : Int32))) (hcs : ¬ (wcs = (0 : Int32))) :
    MetFree l (⟨"java/lang/String", "isLatin1", "()Z"⟩ : MethodName) (head1 (Jvm.Cond.code (⟨"java/lang/String", "isLatin1", "()Z"⟩ : MethodName) jdk_42_method_154_code 1 (some .boolean) :: ws) ({ frames := 0, cells := 0, slots := 0, locals := 0 } : Room)) (fun a U => a = #[(.ref o0)] ∧ Z.Warmed39 U.vm ∧ U.heap = h0) (fun _ _ _ _ _ => True) (fun _ U o U' => ∃ v L, o = .returned v ∧ QP (some (.int (f18))) h0 n0 v U'.heap L ∧ FrameEnd U o U' L ({ frames := 0, cells := 0, slots := 0, locals := 0 } : Room).cells ({ frames := 0, cells := 0, slots := 0, locals := 0 } : Room).slots) := by
  refine MetFree.of_bodySF (plainFor_of_name pn_18) hisR ?_
  intro p e s m args below meth c s₁ Bd hml0 hP hK
  obtain ⟨rfl, hZ, hh⟩ := hP
  have hx := Bd.exec
  have hby := Bd.bytes
  have hml : c.maxLocals = 1 := hml0
  have hown : s.vm.findClass "java/lang/String" = some m.cls := findClass_of_methodNamed Bd.named
  have hnm := (name_of_methodNamed Bd.named Bd.method).1
  have X0 : Stand p l e ({ frames := 0, cells := 0, slots := 0, locals := 0 } : Room) s m #[(.ref o0)] below meth c s₁ [] 0 0 := Stand.of_body Bd
  have e0 : s₁.heap = h0 := by rw [← hh, Bd.state]; rfl
  have N0 := Fr.nil n0
  have K0 : Keep h0 h0 [] := Keep.refl _ _
  have pre0 : ∀ t, Steps p.tables e below (s₁.setTop (mkF m 0 #[.val (.ref o0)] [])) t → Steps p.tables e below (s₁.setTop (entryFrame m #[(.ref o0)] 1)) t := fun t k => castTop (ef_18 m o0) k
  obtain ⟨T1, X1, e1, st1⟩ := getS2 X0 hx hZ hown (host := "") (Or.inl (hw _ (List.mem_of_getElem? (i := 60) rfl))) Via.refl e0 I0 (g := (mkF m 0 #[.val (.ref o0)] [])) rfl (hb hby d18_0)
  have pre2 : ∀ t, Steps p.tables e below (T1.setTop (mkF m 3 #[.val (.ref o0)] [(.int wcs)])) t → Steps p.tables e below (s₁.setTop (entryFrame m #[(.ref o0)] 1)) t := fun t k => pre0 t (st1 _ k)
  have pre3 : ∀ t, Steps p.tables e below (T1.setTop (mkF m 7 #[.val (.ref o0)] [(.ref o0)])) t → Steps p.tables e below (s₁.setTop (entryFrame m #[(.ref o0)] 1)) t := fun t k => pre2 t (by
    show Steps p.tables e below (T1.setTop (mkF m 3 #[.val (.ref o0)] [(.int wcs)])) _
    refine XS.ifNo X1.here hx rfl (hb hby d18_3) rfl ((if0 _ _).trans (feq hcs).1) ?_
    show Steps p.tables e below (T1.setTop (mkF m 6 #[.val (.ref o0)] [])) _
    refine XS.aloadN X1.here hx rfl (hb hby d18_6) rfl rfl ?_
    exact k)
  obtain ⟨T4, X4, e4, st4⟩ := getF X1 hx hZ hown (host := "") (Or.inl (hw _ (List.mem_of_getElem? (i := 75) rfl))) Via.refl e1 I1 (g := (mkF m 7 #[.val (.ref o0)] [(.ref o0)])) rfl rfl (hb hby d18_7)
  have pre5 : ∀ t, Steps p.tables e below (T4.setTop (mkF m 10 #[.val (.ref o0)] [(.int (0 : Int32))])) t → Steps p.tables e below (s₁.setTop (entryFrame m #[(.ref o0)] 1)) t := fun t k => pre3 t (st4 _ k)
  have pre6 : ∀ t, Steps p.tables e below (T4.setTop (mkF m 18 #[.val (.ref o0)] [(.int (1 : Int32))])) t → Steps p.tables e below (s₁.setTop (entryFrame m #[(.ref o0)] 1)) t := fun t k => pre5 t (by
    show Steps p.tables e below (T4.setTop (mkF m 10 #[.val (.ref o0)] [(.int (0 : Int32))])) _
    refine XS.ifNo X4.here hx rfl (hb hby d18_10) rfl (by decide) ?_
    show Steps p.tables e below (T4.setTop (mkF m 13 #[.val (.ref o0)] [])) _
    refine XS.iconst X4.here hx rfl (hb hby d18_13) ?_
    show Steps p.tables e below (T4.setTop (mkF m 14 #[.val (.ref o0)] [(.int (1 : Int32))])) _
    refine XS.goto X4.here hx rfl (pc0 := 14) (pc' := 18) rfl (hb hby d18_14) (by decide) (by decide) ?_
    exact k)
  obtain ⟨fs, hr, hrun, hended, hW, hsame⟩ := X4.leave (v := some (.int (1 : Int32))) (fun h => by rw [Bd.returns] at h; cases h)
  refine ⟨_, _, ?_, hrun, hended, _, _, rfl, ?_, ⟨_, rfl⟩, hW, hsame.mono (by decide) (by decide)⟩
  · exact pre6 _ (retN X4 hx (t := .boolean) Bd.returns (by simp) (hb hby d18_18) hr)
  · exact ⟨by simp only [f18], N0, e4⟩
theorem d21_0 : decode jdk_41_method_11_code 0 = .ok (.iload_n 0, 1) := by decide +kernel
theorem d21_1 : decode jdk_41_method_11_code 1 = .ok (.ifCond .lt 8, 3) := by decide +kernel
theorem d21_4 : decode jdk_41_method_11_code 4 = .ok (.iload_n 0, 1) := by decide +kernel
theorem d21_5 : decode jdk_41_method_11_code 5 = .ok (.iload_n 1, 1) := by decide +kernel
theorem d21_6 : decode jdk_41_method_11_code 6 = .ok (.if_icmp .lt 10, 3) := by decide +kernel
theorem d21_16 : decode jdk_41_method_11_code 16 = .ok (.iload_n 0, 1) := by decide +kernel
theorem d21_17 : decode jdk_41_method_11_code 17 = .ok (.ireturn, 1) := by decide +kernel
theorem pn_21 : plainName "jdk/internal/util/Preconditions" = true := by first | (simp [plainName, overriddenIn]; done) | decide +kernel
theorem ef_21 (m : MethodId) (x0 : Int32) (x1 : Int32) (x2 : Value) (h2 : x2.isRef = true) : entryFrame m #[(.int x0), (.int x1), x2] 3 = mkF m 0 #[.val (.int x0), .val (.int x1), .val x2] [] := by rcases ref_cases h2 with rfl | ⟨y2, rfl⟩ <;> first | (simp [entryFrame, mkF, argsToLocals, Value.category]; done) | rfl
def f21 (p0 : Int32) : Int32 := p0
set_option maxRecDepth 65536 in
set_option maxHeartbeats 40000000 in
theorem rm21 (l : Launch) (Z : State) (a0 : Array Value) (hw : ∀ d ∈ tables_1, d.before a0 Z = true) (ws : List Jvm.Cond) (p0 : Int32) (p1 : Int32) (o2 : Value) (h0 : Heap) (n0 : Nat) (Z0 : n0 ≤ h0.size) (isref_o2 : o2.isRef = true) (hi0 : ¬ (p0 < (0 : Int32))) (hi1 : p0 < p1) :
    MetFree l (⟨"jdk/internal/util/Preconditions", "checkIndex", "(IILjava/util/function/BiFunction;)I"⟩ : MethodName) (head1 (Jvm.Cond.code (⟨"jdk/internal/util/Preconditions", "checkIndex", "(IILjava/util/function/BiFunction;)I"⟩ : MethodName) jdk_41_method_11_code 3 (some .int) :: ws) ({ frames := 0, cells := 0, slots := 0, locals := 0 } : Room)) (fun a U => a = #[(.int p0), (.int p1), o2] ∧ Z.Warmed39 U.vm ∧ U.heap = h0) (fun _ _ _ _ _ => True) (fun _ U o U' => ∃ v L, o = .returned v ∧ QP (some (.int (f21 p0))) h0 n0 v U'.heap L ∧ FrameEnd U o U' L ({ frames := 0, cells := 0, slots := 0, locals := 0 } : Room).cells ({ frames := 0, cells := 0, slots := 0, locals := 0 } : Room).slots) := by
  refine MetFree.of_bodySF (plainFor_of_name pn_21) hisR ?_
  intro p e s m args below meth c s₁ Bd hml0 hP hK
  obtain ⟨rfl, hZ, hh⟩ := hP
  have hx := Bd.exec
  have hby := Bd.bytes
  have hml : c.maxLocals = 3 := hml0
  have hown : s.vm.findClass "jdk/internal/util/Preconditions" = some m.cls := findClass_of_methodNamed Bd.named
  have hnm := (name_of_methodNamed Bd.named Bd.method).1
  have X0 : Stand p l e ({ frames := 0, cells := 0, slots := 0, locals := 0 } : Room) s m #[(.int p0), (.int p1), o2] below meth c s₁ [] 0 0 := Stand.of_body Bd
  have e0 : s₁.heap = h0 := by rw [← hh, Bd.state]; rfl
  have N0 := Fr.nil n0
  have K0 : Keep h0 h0 [] := Keep.refl _ _
  have pre0 : ∀ t, Steps p.tables e below (s₁.setTop (mkF m 0 #[.val (.int p0), .val (.int p1), .val o2] [])) t → Steps p.tables e below (s₁.setTop (entryFrame m #[(.int p0), (.int p1), o2] 3)) t := fun t k => castTop (ef_21 m p0 p1 o2 isref_o2) k
  have pre1 : ∀ t, Steps p.tables e below (s₁.setTop (mkF m 17 #[.val (.int p0), .val (.int p1), .val o2] [(.int p0)])) t → Steps p.tables e below (s₁.setTop (entryFrame m #[(.int p0), (.int p1), o2] 3)) t := fun t k => pre0 t (by
    show Steps p.tables e below (s₁.setTop (mkF m 0 #[.val (.int p0), .val (.int p1), .val o2] [])) _
    refine XS.iloadN X0.here hx rfl (hb hby d21_0) rfl ?_
    show Steps p.tables e below (s₁.setTop (mkF m 1 #[.val (.int p0), .val (.int p1), .val o2] [(.int p0)])) _
    refine XS.ifNo X0.here hx rfl (hb hby d21_1) rfl ((if0 _ _).trans (flt hi0).1) ?_
    show Steps p.tables e below (s₁.setTop (mkF m 4 #[.val (.int p0), .val (.int p1), .val o2] [])) _
    refine XS.iloadN X0.here hx rfl (hb hby d21_4) rfl ?_
    show Steps p.tables e below (s₁.setTop (mkF m 5 #[.val (.int p0), .val (.int p1), .val o2] [(.int p0)])) _
    refine XS.iloadN X0.here hx rfl (hb hby d21_5) rfl ?_
    show Steps p.tables e below (s₁.setTop (mkF m 6 #[.val (.int p0), .val (.int p1), .val o2] [(.int p1), (.int p0)])) _
    refine XS.icmpYes X0.here hx rfl (pc0 := 6) (pc' := 16) rfl (hb hby d21_6) rfl (tlt hi1).1 (by decide) (by decide) ?_
    show Steps p.tables e below (s₁.setTop (mkF m 16 #[.val (.int p0), .val (.int p1), .val o2] [])) _
    refine XS.iloadN X0.here hx rfl (hb hby d21_16) rfl ?_
    exact k)
  obtain ⟨fs, hr, hrun, hended, hW, hsame⟩ := X0.leave (v := some (.int p0)) (fun h => by rw [Bd.returns] at h; cases h)
  refine ⟨_, _, ?_, hrun, hended, _, _, rfl, ?_, ⟨_, rfl⟩, hW, hsame.mono (by decide) (by decide)⟩
  · exact pre1 _ (retI X0 hx Bd.returns (hb hby d21_17) hr)
  · exact ⟨by simp only [f21], N0, e0⟩
theorem d20_0 : decode jdk_42_method_155_code 0 = .ok (.iload_n 0, 1) := by decide +kernel
theorem d20_1 : decode jdk_42_method_155_code 1 = .ok (.iload_n 1, 1) := by decide +kernel
theorem d20_2 : decode jdk_42_method_155_code 2 = .ok (.getstatic 1053, 3) := by decide +kernel
theorem d20_5 : decode jdk_42_method_155_code 5 = .ok (.invokestatic 1059, 3) := by decide +kernel
theorem d20_8 : decode jdk_42_method_155_code 8 = .ok (.pop, 1) := by decide +kernel
theorem d20_9 : decode jdk_42_method_155_code 9 = .ok (.return_, 1) := by decide +kernel
theorem pn_20 : plainName "java/lang/String" = true := by first | (simp [plainName, overriddenIn]; done) | decide +kernel
theorem pd__IILjava_util_function_BiFunction__I : parseMethodDescriptor "(IILjava/util/function/BiFunction;)I" = some ⟨[.int, .int, (.object "java/util/function/BiFunction")], some .int⟩ := by decide +kernel
theorem ef_20 (m : MethodId) (x0 : Int32) (x1 : Int32) : entryFrame m #[(.int x0), (.int x1)] 2 = mkF m 0 #[.val (.int x0), .val (.int x1)] [] := by first | (simp [entryFrame, mkF, argsToLocals, Value.category]; done) | rfl
set_option maxRecDepth 65536 in
set_option maxHeartbeats 40000000 in
theorem rm20 (l : Launch) (Z : State) (a0 : Array Value) (hw : ∀ d ∈ tables_1, d.before a0 Z = true) (ws : List Jvm.Cond) (p0 : Int32) (p1 : Int32) (wsf : Value) (h0 : Heap) (n0 : Nat) (Z0 : n0 ≤ h0.size) (I0 : Sta Z h0 "jdk/internal/util/Preconditions" "SIOOBE_FORMATTER" "Ljava/util/function/BiFunction;" wsf) (hsf : wsf.isRef = true) (hi0 : ¬ (p0 < (0 : Int32))) (hi1 : p0 < p1) :
    MetFree l (⟨"java/lang/String", "checkIndex", "(II)V"⟩ : MethodName) (head1 (Jvm.Cond.code (⟨"java/lang/String", "checkIndex", "(II)V"⟩ : MethodName) jdk_42_method_155_code 2 none :: ws) ({ frames := 1, cells := 0, slots := 0, locals := 14 } : Room)) (fun a U => a = #[(.int p0), (.int p1)] ∧ Z.Warmed39 U.vm ∧ U.heap = h0) (fun _ _ _ _ _ => True) (fun _ U o U' => ∃ v L, o = .returned v ∧ QP none h0 n0 v U'.heap L ∧ FrameEnd U o U' L ({ frames := 1, cells := 0, slots := 0, locals := 14 } : Room).cells ({ frames := 1, cells := 0, slots := 0, locals := 14 } : Room).slots) := by
  refine MetFree.of_bodySF (plainFor_of_name pn_20) hisR ?_
  intro p e s m args below meth c s₁ Bd hml0 hP hK
  obtain ⟨rfl, hZ, hh⟩ := hP
  have hx := Bd.exec
  have hby := Bd.bytes
  have hml : c.maxLocals = 2 := hml0
  have hown : s.vm.findClass "java/lang/String" = some m.cls := findClass_of_methodNamed Bd.named
  have hnm := (name_of_methodNamed Bd.named Bd.method).1
  have X0 : Stand p l e ({ frames := 1, cells := 0, slots := 0, locals := 14 } : Room) s m #[(.int p0), (.int p1)] below meth c s₁ [] 0 0 := Stand.of_body Bd
  have e0 : s₁.heap = h0 := by rw [← hh, Bd.state]; rfl
  have N0 := Fr.nil n0
  have K0 : Keep h0 h0 [] := Keep.refl _ _
  have pre0 : ∀ t, Steps p.tables e below (s₁.setTop (mkF m 0 #[.val (.int p0), .val (.int p1)] [])) t → Steps p.tables e below (s₁.setTop (entryFrame m #[(.int p0), (.int p1)] 2)) t := fun t k => castTop (ef_20 m p0 p1) k
  have pre1 : ∀ t, Steps p.tables e below (s₁.setTop (mkF m 2 #[.val (.int p0), .val (.int p1)] [(.int p1), (.int p0)])) t → Steps p.tables e below (s₁.setTop (entryFrame m #[(.int p0), (.int p1)] 2)) t := fun t k => pre0 t (by
    show Steps p.tables e below (s₁.setTop (mkF m 0 #[.val (.int p0), .val (.int p1)] [])) _
    refine XS.iloadN X0.here hx rfl (hb hby d20_0) rfl ?_
    show Steps p.tables e below (s₁.setTop (mkF m 1 #[.val (.int p0), .val (.int p1)] [(.int p0)])) _
    refine XS.iloadN X0.here hx rfl (hb hby d20_1) rfl ?_
    exact k)
  obtain ⟨T2, X2, e2, st2⟩ := getS2 X0 hx hZ hown (host := "") (Or.inl (hw _ (List.mem_of_getElem? (i := 106) rfl))) Via.refl e0 I0 (g := (mkF m 2 #[.val (.int p0), .val (.int p1)] [(.int p1), (.int p0)])) rfl (hb hby d20_2)
  have pre3 : ∀ t, Steps p.tables e below (T2.setTop (mkF m 5 #[.val (.int p0), .val (.int p1)] [wsf, (.int p1), (.int p0)])) t → Steps p.tables e below (s₁.setTop (entryFrame m #[(.int p0), (.int p1)] 2)) t := fun t k => pre1 t (st2 _ k)
  obtain ⟨_, _, ⟨T4, L4, k4, n4⟩, -, X4, ⟨Lc4, hQ4, l4, y4, z4⟩, st4⟩ := Jvm.LawKit.callS X2 hx (y := (⟨"jdk/internal/util/Preconditions", "checkIndex", "(IILjava/util/function/BiFunction;)I"⟩ : MethodName)) hown (mvT hZ (hw _ (List.mem_of_getElem? (i := 108) rfl))) (mvT hZ (hw _ (List.mem_of_getElem? (i := 109) rfl))) (mvT hZ (hw _ (List.mem_of_getElem? (i := 107) rfl))) (mvT hZ (hw _ (List.mem_of_getElem? (i := 110) rfl))) (by decide) (backOf (W := 0) (rm21 l Z a0 hw [] p0 p1 wsf h0 n0 Z0 hsf hi0 hi1) hZ (hw _ (List.mem_of_getElem? (i := 110) rfl)) (hw _ (List.mem_of_getElem? (i := 107) rfl)) (by decide) (by decide)) (g := (mkF m 5 #[.val (.int p0), .val (.int p1)] [wsf, (.int p1), (.int p0)])) rfl (by rw [hml]; rfl) (argsL := [(.int p0), (.int p1), wsf]) (rest := []) (lenOf pd__IILjava_util_function_BiFunction__I rfl) rfl (by show 2 * 0 + _ ≤ _; exact Nat.le_of_eq rfl) (hb hby d20_5) (fun _ _ => ⟨rfl, e2, (by decide : 0 + 0 ≤ _), (by decide : 0 + 0 ≤ _)⟩)
  dsimp only [Pt.U, Pt.locs, Pt.cells, Pt.slots] at X4 l4 y4 z4 st4 hQ4
  subst l4 y4 z4
  obtain ⟨rfl, Nq4, e4⟩ := hQ4
  have N4 := Fr.app N0 Nq4
  have pre5 : ∀ t, Steps p.tables e below (T4.setTop (mkF m 8 #[.val (.int p0), .val (.int p1)] [(.int (f21 p0))])) t → Steps p.tables e below (s₁.setTop (entryFrame m #[(.int p0), (.int p1)] 2)) t := fun t k => pre3 t (st4 _ k)
  have pre6 : ∀ t, Steps p.tables e below (T4.setTop (mkF m 9 #[.val (.int p0), .val (.int p1)] [])) t → Steps p.tables e below (s₁.setTop (entryFrame m #[(.int p0), (.int p1)] 2)) t := fun t k => pre5 t (by
    show Steps p.tables e below (T4.setTop (mkF m 8 #[.val (.int p0), .val (.int p1)] [(.int (f21 p0))])) _
    refine XS.pop X4.here hx rfl (hb hby d20_8) rfl rfl ?_
    exact k)
  obtain ⟨fs, hr, hrun, hended, hW, hsame⟩ := X4.leave (v := none) (fun _ => rfl)
  refine ⟨_, _, ?_, hrun, hended, _, _, rfl, ?_, ⟨_, rfl⟩, hW, hsame.mono (by decide) (by decide)⟩
  · exact pre6 _ (X4.returnOut hx Bd.returns (hb hby d20_9) hr)
  · exact ⟨rfl, N4, e4⟩
theorem d19_0 : decode jdk_43_method_2_code 0 = .ok (.iload_n 1, 1) := by decide +kernel
theorem d19_1 : decode jdk_43_method_2_code 1 = .ok (.aload_n 0, 1) := by decide +kernel
theorem d19_2 : decode jdk_43_method_2_code 2 = .ok (.arraylength, 1) := by decide +kernel
theorem d19_3 : decode jdk_43_method_2_code 3 = .ok (.invokestatic 9, 3) := by decide +kernel
theorem d19_6 : decode jdk_43_method_2_code 6 = .ok (.aload_n 0, 1) := by decide +kernel
theorem d19_7 : decode jdk_43_method_2_code 7 = .ok (.iload_n 1, 1) := by decide +kernel
theorem d19_8 : decode jdk_43_method_2_code 8 = .ok (.baload, 1) := by decide +kernel
theorem d19_9 : decode jdk_43_method_2_code 9 = .ok (.sipush 255, 3) := by decide +kernel
theorem d19_12 : decode jdk_43_method_2_code 12 = .ok (.iand, 1) := by decide +kernel
theorem d19_13 : decode jdk_43_method_2_code 13 = .ok (.i2c, 1) := by decide +kernel
theorem d19_14 : decode jdk_43_method_2_code 14 = .ok (.ireturn, 1) := by decide +kernel
theorem pn_19 : plainName "java/lang/StringLatin1" = true := by first | (simp [plainName, overriddenIn]; done) | decide +kernel
theorem pd__II_V : parseMethodDescriptor "(II)V" = some ⟨[.int, .int], none⟩ := by decide +kernel
theorem ef_19 (m : MethodId) (x0 : Addr) : entryFrame m #[(.ref x0), (.int (0 : Int32))] 2 = mkF m 0 #[.val (.ref x0), .val (.int (0 : Int32))] [] := by first | (simp [entryFrame, mkF, argsToLocals, Value.category]; done) | rfl
def f19 (w : Int32) : Int32 := (nar .char ((w &&& (255 : Int32)).toUInt32.toUInt16.toUInt32.toInt32))
set_option maxRecDepth 65536 in
set_option maxHeartbeats 40000000 in
theorem rm19 (l : Launch) (Z : State) (a0 : Array Value) (hw : ∀ d ∈ tables_1, d.before a0 Z = true) (ws : List Jvm.Cond) (o0 : Addr) (wsf : Value) (ka : ClassId) (w : Int32) (h0 : Heap) (n0 : Nat) (Z0 : n0 ≤ h0.size) (I0 : Sta Z h0 "jdk/internal/util/Preconditions" "SIOOBE_FORMATTER" "Ljava/util/function/BiFunction;" wsf) (I1 : Arv Z h0 o0 ka .byte (1 : Int32) [(.int w)] (.int (0 : Int32))) (hsf : wsf.isRef = true) :
    MetFree l (⟨"java/lang/StringLatin1", "charAt", "([BI)C"⟩ : MethodName) (head1 (Jvm.Cond.code (⟨"java/lang/StringLatin1", "charAt", "([BI)C"⟩ : MethodName) jdk_43_method_2_code 2 (some .char) :: ws) ({ frames := 2, cells := 0, slots := 0, locals := 27 } : Room)) (fun a U => a = #[(.ref o0), (.int (0 : Int32))] ∧ Z.Warmed39 U.vm ∧ U.heap = h0) (fun _ _ _ _ _ => True) (fun _ U o U' => ∃ v L, o = .returned v ∧ QP (some (.int (f19 w))) h0 n0 v U'.heap L ∧ FrameEnd U o U' L ({ frames := 2, cells := 0, slots := 0, locals := 27 } : Room).cells ({ frames := 2, cells := 0, slots := 0, locals := 27 } : Room).slots) := by
  refine MetFree.of_bodySF (plainFor_of_name pn_19) hisR ?_
  intro p e s m args below meth c s₁ Bd hml0 hP hK
  obtain ⟨rfl, hZ, hh⟩ := hP
  have hx := Bd.exec
  have hby := Bd.bytes
  have hml : c.maxLocals = 2 := hml0
  have hown : s.vm.findClass "java/lang/StringLatin1" = some m.cls := findClass_of_methodNamed Bd.named
  have hnm := (name_of_methodNamed Bd.named Bd.method).1
  have X0 : Stand p l e ({ frames := 2, cells := 0, slots := 0, locals := 27 } : Room) s m #[(.ref o0), (.int (0 : Int32))] below meth c s₁ [] 0 0 := Stand.of_body Bd
  have e0 : s₁.heap = h0 := by rw [← hh, Bd.state]; rfl
  have N0 := Fr.nil n0
  have K0 : Keep h0 h0 [] := Keep.refl _ _
  have pre0 : ∀ t, Steps p.tables e below (s₁.setTop (mkF m 0 #[.val (.ref o0), .val (.int (0 : Int32))] [])) t → Steps p.tables e below (s₁.setTop (entryFrame m #[(.ref o0), (.int (0 : Int32))] 2)) t := fun t k => castTop (ef_19 m o0) k
  have pre1 : ∀ t, Steps p.tables e below (s₁.setTop (mkF m 2 #[.val (.ref o0), .val (.int (0 : Int32))] [(.ref o0), (.int (0 : Int32))])) t → Steps p.tables e below (s₁.setTop (entryFrame m #[(.ref o0), (.int (0 : Int32))] 2)) t := fun t k => pre0 t (by
    show Steps p.tables e below (s₁.setTop (mkF m 0 #[.val (.ref o0), .val (.int (0 : Int32))] [])) _
    refine XS.iloadN X0.here hx rfl (hb hby d19_0) rfl ?_
    show Steps p.tables e below (s₁.setTop (mkF m 1 #[.val (.ref o0), .val (.int (0 : Int32))] [(.int (0 : Int32))])) _
    refine XS.aloadN X0.here hx rfl (hb hby d19_1) rfl rfl ?_
    exact k)
  obtain ⟨cl2, Ar2, -, Sz2, Mn2, Hs2, -⟩ := id I1
  have pre3 : ∀ t, Steps p.tables e below (s₁.setTop (mkF m 3 #[.val (.ref o0), .val (.int (0 : Int32))] [(.int (1 : Int32)), (.int (0 : Int32))])) t → Steps p.tables e below (s₁.setTop (entryFrame m #[(.ref o0), (.int (0 : Int32))] 2)) t := fun t k => pre1 t (by
    show Steps p.tables e below (s₁.setTop (mkF m 2 #[.val (.ref o0), .val (.int (0 : Int32))] [(.ref o0), (.int (0 : Int32))])) _
    refine X0.arraylength hx (by rw [e0]; exact Ar2.1) (State.isArrayOf_alike hZ.alike Ar2.2.1) (g := (mkF m 2 #[.val (.ref o0), .val (.int (0 : Int32))] [(.ref o0), (.int (0 : Int32))])) rfl rfl (hb hby d19_2) _ ?_
    rw [len_of Sz2 Mn2]
    exact k)
  obtain ⟨_, _, ⟨T4, L4, k4, n4⟩, -, X4, ⟨Lc4, hQ4, l4, y4, z4⟩, st4⟩ := Jvm.LawKit.callS X0 hx (y := (⟨"java/lang/String", "checkIndex", "(II)V"⟩ : MethodName)) hown (mvT hZ (hw _ (List.mem_of_getElem? (i := 103) rfl))) (mvT hZ (hw _ (List.mem_of_getElem? (i := 104) rfl))) (mvT hZ (hw _ (List.mem_of_getElem? (i := 16) rfl))) (mvT hZ (hw _ (List.mem_of_getElem? (i := 105) rfl))) (by decide) (backOf (W := 0) (rm20 l Z a0 hw [] (0 : Int32) (1 : Int32) wsf h0 n0 Z0 I0 hsf (by decide) (by decide)) hZ (hw _ (List.mem_of_getElem? (i := 105) rfl)) (hw _ (List.mem_of_getElem? (i := 16) rfl)) (by decide) (by decide)) (g := (mkF m 3 #[.val (.ref o0), .val (.int (0 : Int32))] [(.int (1 : Int32)), (.int (0 : Int32))])) rfl (by rw [hml]; rfl) (argsL := [(.int (0 : Int32)), (.int (1 : Int32))]) (rest := []) (lenOf pd__II_V rfl) rfl (by show 2 * 0 + _ ≤ _; exact Nat.le_of_eq rfl) (hb hby d19_3) (fun _ _ => ⟨rfl, e0, (by decide : 0 + 0 ≤ _), (by decide : 0 + 0 ≤ _)⟩)
  dsimp only [Pt.U, Pt.locs, Pt.cells, Pt.slots] at X4 l4 y4 z4 st4 hQ4
  subst l4 y4 z4
  obtain ⟨rfl, Nq4, e4⟩ := hQ4
  have N4 := Fr.app N0 Nq4
  have pre5 : ∀ t, Steps p.tables e below (T4.setTop (mkF m 6 #[.val (.ref o0), .val (.int (0 : Int32))] [])) t → Steps p.tables e below (s₁.setTop (entryFrame m #[(.ref o0), (.int (0 : Int32))] 2)) t := fun t k => pre3 t (st4 _ k)
  have pre6 : ∀ t, Steps p.tables e below (T4.setTop (mkF m 8 #[.val (.ref o0), .val (.int (0 : Int32))] [(.int (0 : Int32)), (.ref o0)])) t → Steps p.tables e below (s₁.setTop (entryFrame m #[(.ref o0), (.int (0 : Int32))] 2)) t := fun t k => pre5 t (by
    show Steps p.tables e below (T4.setTop (mkF m 6 #[.val (.ref o0), .val (.int (0 : Int32))] [])) _
    refine XS.aloadN X4.here hx rfl (hb hby d19_6) rfl rfl ?_
    show Steps p.tables e below (T4.setTop (mkF m 7 #[.val (.ref o0), .val (.int (0 : Int32))] [(.ref o0)])) _
    refine XS.iloadN X4.here hx rfl (hb hby d19_7) rfl ?_
    exact k)
  obtain ⟨cl7, Ar7, -, Sz7, Mn7, Hs7, -⟩ := id I1
  have hin7 : ¬ ((0 : Int32) < 0 ∨ cl7.slots.size ≤ ((0 : Int32)).toNatClampNeg) := inb_of Sz7 ⟨by decide, by decide⟩
  have hat7 : cl7.slots[((0 : Int32)).toNatClampNeg]? = some (.int w) := Hs7.at hin7 rfl
  have pre8 : ∀ t, Steps p.tables e below (T4.setTop (mkF m 9 #[.val (.ref o0), .val (.int (0 : Int32))] [(.int w)])) t → Steps p.tables e below (s₁.setTop (entryFrame m #[(.ref o0), (.int (0 : Int32))] 2)) t := fun t k => pre6 t (by
    show Steps p.tables e below (T4.setTop (mkF m 8 #[.val (.ref o0), .val (.int (0 : Int32))] [(.int (0 : Int32)), (.ref o0)])) _
    refine X4.baloadBytes hx (j := (0 : Int32)) (v := (.int w)) (by rw [e4]; exact Ar7.1) (State.isArrayOf_alike hZ.alike Ar7.2.1) Ar7.2.2 hin7 hat7 (g := (mkF m 8 #[.val (.ref o0), .val (.int (0 : Int32))] [(.int (0 : Int32)), (.ref o0)])) rfl rfl (hb hby d19_8) _ ?_
    exact k)
  have pre9 : ∀ t, Steps p.tables e below (T4.setTop (mkF m 14 #[.val (.ref o0), .val (.int (0 : Int32))] [(.int ((w &&& (255 : Int32)).toUInt32.toUInt16.toUInt32.toInt32))])) t → Steps p.tables e below (s₁.setTop (entryFrame m #[(.ref o0), (.int (0 : Int32))] 2)) t := fun t k => pre8 t (by
    show Steps p.tables e below (T4.setTop (mkF m 9 #[.val (.ref o0), .val (.int (0 : Int32))] [(.int w)])) _
    refine XS.sipush X4.here hx rfl (hb hby d19_9) ?_
    show Steps p.tables e below (T4.setTop (mkF m 12 #[.val (.ref o0), .val (.int (0 : Int32))] [(.int (255 : Int32)), (.int w)])) _
    refine XS.iand X4.here hx rfl (hb hby d19_12) rfl ?_
    show Steps p.tables e below (T4.setTop (mkF m 13 #[.val (.ref o0), .val (.int (0 : Int32))] [(.int (w &&& (255 : Int32)))])) _
    refine XS.i2c X4.here hx rfl (hb hby d19_13) rfl ?_
    exact k)
  obtain ⟨fs, hr, hrun, hended, hW, hsame⟩ := X4.leave (v := some (.int (nar .char ((w &&& (255 : Int32)).toUInt32.toUInt16.toUInt32.toInt32)))) (fun h => by rw [Bd.returns] at h; cases h)
  refine ⟨_, _, ?_, hrun, hended, _, _, rfl, ?_, ⟨_, rfl⟩, hW, hsame.mono (by decide) (by decide)⟩
  · exact pre9 _ (retN X4 hx (t := .char) Bd.returns (by simp) (hb hby d19_14) hr)
  · exact ⟨by simp only [f19], N4, e4⟩
theorem d17_0 : decode jdk_42_method_56_code 0 = .ok (.aload_n 0, 1) := by decide +kernel
theorem d17_1 : decode jdk_42_method_56_code 1 = .ok (.invokevirtual 492, 3) := by decide +kernel
theorem d17_4 : decode jdk_42_method_56_code 4 = .ok (.ifCond .eq 12, 3) := by decide +kernel
theorem d17_7 : decode jdk_42_method_56_code 7 = .ok (.aload_n 0, 1) := by decide +kernel
theorem d17_8 : decode jdk_42_method_56_code 8 = .ok (.getfield 9, 3) := by decide +kernel
theorem d17_11 : decode jdk_42_method_56_code 11 = .ok (.iload_n 1, 1) := by decide +kernel
theorem d17_12 : decode jdk_42_method_56_code 12 = .ok (.invokestatic 495, 3) := by decide +kernel
theorem d17_15 : decode jdk_42_method_56_code 15 = .ok (.ireturn, 1) := by decide +kernel
theorem pn_17 : plainName "java/lang/String" = true := by first | (simp [plainName, overriddenIn]; done) | decide +kernel
theorem pd___Z : parseMethodDescriptor "()Z" = some ⟨[], some .boolean⟩ := by decide +kernel
theorem pd___BI_C : parseMethodDescriptor "([BI)C" = some ⟨[(.array .byte), .int], some .char⟩ := by decide +kernel
theorem ef_17 (m : MethodId) (x0 : Addr) : entryFrame m #[(.ref x0), (.int (0 : Int32))] 2 = mkF m 0 #[.val (.ref x0), .val (.int (0 : Int32))] [] := by first | (simp [entryFrame, mkF, argsToLocals, Value.category]; done) | rfl
def f17 (w : Int32) : Int32 := (nar .char (f19 w))
set_option maxRecDepth 65536 in
set_option maxHeartbeats 40000000 in
theorem rm17 (l : Launch) (Z : State) (a0 : Array Value) (hw : ∀ d ∈ tables_1, d.before a0 Z = true) (ws : List Jvm.Cond) (o0 : Addr) (wcs : Int32) (wsf : Value) (oa : Addr) (ka : ClassId) (w : Int32) (h0 : Heap) (n0 : Nat) (Z0 : n0 ≤ h0.size) (I0 : Sta Z h0 "java/lang/String" "COMPACT_STRINGS" "Z" (.int wcs)) (I1 : Sta Z h0 "jdk/internal/util/Preconditions" "SIOOBE_FORMATTER" "Ljava/util/function/BiFunction;" wsf) (I2 : Exa Z h0 o0 "java/lang/String") (I3 : Fld Z h0 o0 "java/lang/String" "value" "[B" (.ref oa)) (I4 : Fld Z h0 o0 "java/lang/String" "coder" "B" (.int (0 : Int32))) (I5 : Arv Z h0 oa ka .byte (1 : Int32) [(.int w)] (.int (0 : Int32))) (hcs : ¬ (wcs = (0 : Int32))) (hsf : wsf.isRef = true) :
    MetFree l (⟨"java/lang/String", "charAt", "(I)C"⟩ : MethodName) (head1 (Jvm.Cond.code (⟨"java/lang/String", "charAt", "(I)C"⟩ : MethodName) jdk_42_method_56_code 2 (some .char) :: ws) ({ frames := 3, cells := 0, slots := 0, locals := 40 } : Room)) (fun a U => a = #[(.ref o0), (.int (0 : Int32))] ∧ Z.Warmed39 U.vm ∧ U.heap = h0) (fun _ _ _ _ _ => True) (fun _ U o U' => ∃ v L, o = .returned v ∧ QP (some (.int (f17 w))) h0 n0 v U'.heap L ∧ FrameEnd U o U' L ({ frames := 3, cells := 0, slots := 0, locals := 40 } : Room).cells ({ frames := 3, cells := 0, slots := 0, locals := 40 } : Room).slots) := by
  refine MetFree.of_bodySF (plainFor_of_name pn_17) hisR ?_
  intro p e s m args below meth c s₁ Bd hml0 hP hK
  obtain ⟨rfl, hZ, hh⟩ := hP
  have hx := Bd.exec
  have hby := Bd.bytes
  have hml : c.maxLocals = 2 := hml0
  have hown : s.vm.findClass "java/lang/String" = some m.cls := findClass_of_methodNamed Bd.named
  have hnm := (name_of_methodNamed Bd.named Bd.method).1
  have X0 : Stand p l e ({ frames := 3, cells := 0, slots := 0, locals := 40 } : Room) s m #[(.ref o0), (.int (0 : Int32))] below meth c s₁ [] 0 0 := Stand.of_body Bd
  have e0 : s₁.heap = h0 := by rw [← hh, Bd.state]; rfl
  have N0 := Fr.nil n0
  have K0 : Keep h0 h0 [] := Keep.refl _ _
  have pre0 : ∀ t, Steps p.tables e below (s₁.setTop (mkF m 0 #[.val (.ref o0), .val (.int (0 : Int32))] [])) t → Steps p.tables e below (s₁.setTop (entryFrame m #[(.ref o0), (.int (0 : Int32))] 2)) t := fun t k => castTop (ef_17 m o0) k
  have pre1 : ∀ t, Steps p.tables e below (s₁.setTop (mkF m 1 #[.val (.ref o0), .val (.int (0 : Int32))] [(.ref o0)])) t → Steps p.tables e below (s₁.setTop (entryFrame m #[(.ref o0), (.int (0 : Int32))] 2)) t := fun t k => pre0 t (by
    show Steps p.tables e below (s₁.setTop (mkF m 0 #[.val (.ref o0), .val (.int (0 : Int32))] [])) _
    refine XS.aloadN X0.here hx rfl (hb hby d17_0) rfl rfl ?_
    exact k)
  obtain ⟨cq2, kq2, q2a, q2b, q2c⟩ := isOf hZ e0 I2
  obtain ⟨_, _, ⟨T2, L2, k2, n2⟩, -, X2, ⟨Lc2, hQ2, l2, y2, z2⟩, st2⟩ := X0.virtualBack hx (y := (⟨"java/lang/String", "isLatin1", "()Z"⟩ : MethodName)) (z := (⟨"java/lang/String", "isLatin1", "()Z"⟩ : MethodName)) hown (mvT hZ (hw _ (List.mem_of_getElem? (i := 95) rfl))) (mvT hZ (hw _ (List.mem_of_getElem? (i := 96) rfl))) (notFace_of_selects (args := #[]) (mvT hZ (hw _ (List.mem_of_getElem? (i := 98) rfl)))) (mvT hZ (hw _ (List.mem_of_getElem? (i := 98) rfl))) (mvT hZ (hw _ (List.mem_of_getElem? (i := 97) rfl))) (by decide) (backOf (W := 0) (rm18 l Z a0 hw [] o0 wcs h0 n0 Z0 I0 I4 hcs) hZ (hw _ (List.mem_of_getElem? (i := 99) rfl)) (hw _ (List.mem_of_getElem? (i := 16) rfl)) (by decide) (by decide)) q2a q2c (g := (mkF m 1 #[.val (.ref o0), .val (.int (0 : Int32))] [(.ref o0)])) rfl (by rw [hml]; rfl) (Steps.refl _) (argsL := []) (rest := []) (lenOf pd___Z rfl) rfl (by show 2 * 0 + _ ≤ _; exact Nat.le_of_eq rfl) (hb hby d17_1) (fun _ _ => ⟨rfl, e0, (by decide : 0 + 0 ≤ _), (by decide : 0 + 0 ≤ _)⟩)
  dsimp only [Pt.U, Pt.locs, Pt.cells, Pt.slots] at X2 l2 y2 z2 st2 hQ2
  subst l2 y2 z2
  obtain ⟨rfl, Nq2, e2⟩ := hQ2
  have N2 := Fr.app N0 Nq2
  have pre3 : ∀ t, Steps p.tables e below (T2.setTop (mkF m 4 #[.val (.ref o0), .val (.int (0 : Int32))] [(.int (f18))])) t → Steps p.tables e below (s₁.setTop (entryFrame m #[(.ref o0), (.int (0 : Int32))] 2)) t := fun t k => pre1 t (st2.trans k)
  have pre4 : ∀ t, Steps p.tables e below (T2.setTop (mkF m 8 #[.val (.ref o0), .val (.int (0 : Int32))] [(.ref o0)])) t → Steps p.tables e below (s₁.setTop (entryFrame m #[(.ref o0), (.int (0 : Int32))] 2)) t := fun t k => pre3 t (by
    show Steps p.tables e below (T2.setTop (mkF m 4 #[.val (.ref o0), .val (.int (0 : Int32))] [(.int (f18))])) _
    refine XS.ifNo X2.here hx rfl (hb hby d17_4) rfl ((if0 _ _).trans (feq (by decide)).1) ?_
    show Steps p.tables e below (T2.setTop (mkF m 7 #[.val (.ref o0), .val (.int (0 : Int32))] [])) _
    refine XS.aloadN X2.here hx rfl (hb hby d17_7) rfl rfl ?_
    exact k)
  obtain ⟨T5, X5, e5, st5⟩ := getF X2 hx hZ hown (host := "") (Or.inl (hw _ (List.mem_of_getElem? (i := 74) rfl))) Via.refl e2 I3 (g := (mkF m 8 #[.val (.ref o0), .val (.int (0 : Int32))] [(.ref o0)])) rfl rfl (hb hby d17_8)
  have pre6 : ∀ t, Steps p.tables e below (T5.setTop (mkF m 11 #[.val (.ref o0), .val (.int (0 : Int32))] [(.ref oa)])) t → Steps p.tables e below (s₁.setTop (entryFrame m #[(.ref o0), (.int (0 : Int32))] 2)) t := fun t k => pre4 t (st5 _ k)
  have pre7 : ∀ t, Steps p.tables e below (T5.setTop (mkF m 12 #[.val (.ref o0), .val (.int (0 : Int32))] [(.int (0 : Int32)), (.ref oa)])) t → Steps p.tables e below (s₁.setTop (entryFrame m #[(.ref o0), (.int (0 : Int32))] 2)) t := fun t k => pre6 t (by
    show Steps p.tables e below (T5.setTop (mkF m 11 #[.val (.ref o0), .val (.int (0 : Int32))] [(.ref oa)])) _
    refine XS.iloadN X5.here hx rfl (hb hby d17_11) rfl ?_
    exact k)
  obtain ⟨_, _, ⟨T8, L8, k8, n8⟩, -, X8, ⟨Lc8, hQ8, l8, y8, z8⟩, st8⟩ := Jvm.LawKit.callS X5 hx (y := (⟨"java/lang/StringLatin1", "charAt", "([BI)C"⟩ : MethodName)) hown (mvT hZ (hw _ (List.mem_of_getElem? (i := 100) rfl))) (mvT hZ (hw _ (List.mem_of_getElem? (i := 101) rfl))) (mvT hZ (hw _ (List.mem_of_getElem? (i := 63) rfl))) (mvT hZ (hw _ (List.mem_of_getElem? (i := 102) rfl))) (by decide) (backOf (W := 0) (rm19 l Z a0 hw [] oa wsf _ w h0 n0 Z0 I1 I5 hsf) hZ (hw _ (List.mem_of_getElem? (i := 102) rfl)) (hw _ (List.mem_of_getElem? (i := 63) rfl)) (by decide) (by decide)) (g := (mkF m 12 #[.val (.ref o0), .val (.int (0 : Int32))] [(.int (0 : Int32)), (.ref oa)])) rfl (by rw [hml]; rfl) (argsL := [(.ref oa), (.int (0 : Int32))]) (rest := []) (lenOf pd___BI_C rfl) rfl (by show 2 * 0 + _ ≤ _; exact Nat.le_of_eq rfl) (hb hby d17_12) (fun _ _ => ⟨rfl, e5, (by decide : 0 + 0 ≤ _), (by decide : 0 + 0 ≤ _)⟩)
  dsimp only [Pt.U, Pt.locs, Pt.cells, Pt.slots] at X8 l8 y8 z8 st8 hQ8
  subst l8 y8 z8
  obtain ⟨rfl, Nq8, e8⟩ := hQ8
  have N8 := Fr.app N2 Nq8
  have pre9 : ∀ t, Steps p.tables e below (T8.setTop (mkF m 15 #[.val (.ref o0), .val (.int (0 : Int32))] [(.int (f19 w))])) t → Steps p.tables e below (s₁.setTop (entryFrame m #[(.ref o0), (.int (0 : Int32))] 2)) t := fun t k => pre7 t (st8 _ k)
  obtain ⟨fs, hr, hrun, hended, hW, hsame⟩ := X8.leave (v := some (.int (nar .char (f19 w)))) (fun h => by rw [Bd.returns] at h; cases h)
  refine ⟨_, _, ?_, hrun, hended, _, _, rfl, ?_, ⟨_, rfl⟩, hW, hsame.mono (by decide) (by decide)⟩
  · exact pre9 _ (retN X8 hx (t := .char) Bd.returns (by simp) (hb hby d17_15) hr)
  · exact ⟨by simp only [f17], N8, e8⟩
theorem own_ch (w : Int32) : f17 w < (2048 : Int32) := by
  have h : (w &&& (255 : Int32)).toInt = w.toInt % 256 := c_mask w 255 8 (by decide) (by decide)
  have a := c_i2c (w &&& (255 : Int32))
  have b := c_i2c ((w &&& (255 : Int32)).toUInt32.toUInt16.toUInt32.toInt32)
  have d := c_i2c (((w &&& (255 : Int32)).toUInt32.toUInt16.toUInt32.toInt32).toUInt32.toUInt16.toUInt32.toInt32)
  rw [Int32.lt_iff_toInt_lt]
  show (((((w &&& (255 : Int32)).toUInt32.toUInt16.toUInt32.toInt32).toUInt32.toUInt16.toUInt32.toInt32).toUInt32.toUInt16.toUInt32.toInt32).toInt) < 2048
  omega
theorem d14_0 : decode prog_13_method_8_code 0 = .ok (.iconst 0, 1) := by decide +kernel
theorem d14_1 : decode prog_13_method_8_code 1 = .ok (.istore_n 1, 1) := by decide +kernel
theorem d14_2 : decode prog_13_method_8_code 2 = .ok (.iconst 0, 1) := by decide +kernel
theorem d14_3 : decode prog_13_method_8_code 3 = .ok (.istore_n 2, 1) := by decide +kernel
theorem d14_4 : decode prog_13_method_8_code 4 = .ok (.iload_n 2, 1) := by decide +kernel
theorem d14_5 : decode prog_13_method_8_code 5 = .ok (.aload_n 0, 1) := by decide +kernel
theorem d14_6 : decode prog_13_method_8_code 6 = .ok (.invokevirtual 97, 3) := by decide +kernel
theorem d14_9 : decode prog_13_method_8_code 9 = .ok (.if_icmp .ge 95, 3) := by decide +kernel
theorem d14_12 : decode prog_13_method_8_code 12 = .ok (.aload_n 0, 1) := by decide +kernel
theorem d14_13 : decode prog_13_method_8_code 13 = .ok (.iload_n 2, 1) := by decide +kernel
theorem d14_14 : decode prog_13_method_8_code 14 = .ok (.invokevirtual 100, 3) := by decide +kernel
theorem d14_17 : decode prog_13_method_8_code 17 = .ok (.istore_n 3, 1) := by decide +kernel
theorem d14_18 : decode prog_13_method_8_code 18 = .ok (.iload_n 3, 1) := by decide +kernel
theorem d14_19 : decode prog_13_method_8_code 19 = .ok (.sipush 128, 3) := by decide +kernel
theorem d14_22 : decode prog_13_method_8_code 22 = .ok (.if_icmp .ge 9, 3) := by decide +kernel
theorem d14_25 : decode prog_13_method_8_code 25 = .ok (.iinc 1 1, 3) := by decide +kernel
theorem d14_28 : decode prog_13_method_8_code 28 = .ok (.goto 70, 3) := by decide +kernel
theorem d14_31 : decode prog_13_method_8_code 31 = .ok (.iload_n 3, 1) := by decide +kernel
theorem d14_32 : decode prog_13_method_8_code 32 = .ok (.sipush 2048, 3) := by decide +kernel
theorem d14_35 : decode prog_13_method_8_code 35 = .ok (.if_icmp .ge 9, 3) := by decide +kernel
theorem d14_38 : decode prog_13_method_8_code 38 = .ok (.iinc 1 2, 3) := by decide +kernel
theorem d14_41 : decode prog_13_method_8_code 41 = .ok (.goto 57, 3) := by decide +kernel
theorem d14_98 : decode prog_13_method_8_code 98 = .ok (.iinc 2 1, 3) := by decide +kernel
theorem d14_101 : decode prog_13_method_8_code 101 = .ok (.goto (-97), 3) := by decide +kernel
theorem d14_104 : decode prog_13_method_8_code 104 = .ok (.iload_n 1, 1) := by decide +kernel
theorem d14_105 : decode prog_13_method_8_code 105 = .ok (.ireturn, 1) := by decide +kernel
theorem pn_14 : plainName "com/example/oncemark/oncemark/LogFormat" = true := by first | (simp [plainName, overriddenIn]; done) | decide +kernel
theorem pd___I : parseMethodDescriptor "()I" = some ⟨[], some .int⟩ := by decide +kernel
theorem pd__I_C : parseMethodDescriptor "(I)C" = some ⟨[.int], some .char⟩ := by decide +kernel
theorem ef_14 (m : MethodId) (x0 : Addr) : entryFrame m #[(.ref x0)] 4 = mkF m 0 #[.val (.ref x0), .unset, .unset, .unset] [] := by first | (simp [entryFrame, mkF, argsToLocals, Value.category]; done) | rfl
def f14 (w : Int32) : Int32 := (if (f17 w) < (128 : Int32) then (1 : Int32) else (2 : Int32))
set_option maxRecDepth 65536 in
set_option maxHeartbeats 40000000 in
theorem rm14 (l : Launch) (Z : State) (a0 : Array Value) (hw : ∀ d ∈ tables_1, d.before a0 Z = true) (ws : List Jvm.Cond) (o0 : Addr) (wcs : Int32) (wsf : Value) (oa : Addr) (ka : ClassId) (w : Int32) (h0 : Heap) (n0 : Nat) (Z0 : n0 ≤ h0.size) (I0 : Sta Z h0 "java/lang/String" "COMPACT_STRINGS" "Z" (.int wcs)) (I1 : Sta Z h0 "jdk/internal/util/Preconditions" "SIOOBE_FORMATTER" "Ljava/util/function/BiFunction;" wsf) (I2 : Exa Z h0 o0 "java/lang/String") (I3 : Fld Z h0 o0 "java/lang/String" "value" "[B" (.ref oa)) (I4 : Fld Z h0 o0 "java/lang/String" "coder" "B" (.int (0 : Int32))) (I5 : Arv Z h0 oa ka .byte (1 : Int32) [(.int w)] (.int (0 : Int32))) (hcs : ¬ (wcs = (0 : Int32))) (hsf : wsf.isRef = true) :
    MetFree l (⟨"com/example/oncemark/oncemark/LogFormat", "utf8Length", "(Ljava/lang/String;)I"⟩ : MethodName) (head1 (Jvm.Cond.code (⟨"com/example/oncemark/oncemark/LogFormat", "utf8Length", "(Ljava/lang/String;)I"⟩ : MethodName) prog_13_method_8_code 4 (some .int) :: ws) ({ frames := 4, cells := 0, slots := 0, locals := 53 } : Room)) (fun a U => a = #[(.ref o0)] ∧ Z.Warmed39 U.vm ∧ U.heap = h0) (fun _ _ _ _ _ => True) (fun _ U o U' => ∃ v L, o = .returned v ∧ QP (some (.int (f14 w))) h0 n0 v U'.heap L ∧ FrameEnd U o U' L ({ frames := 4, cells := 0, slots := 0, locals := 53 } : Room).cells ({ frames := 4, cells := 0, slots := 0, locals := 53 } : Room).slots) := by
  refine MetFree.of_bodySF (plainFor_of_name pn_14) hisR ?_
  intro p e s m args below meth c s₁ Bd hml0 hP hK
  obtain ⟨rfl, hZ, hh⟩ := hP
  have hx := Bd.exec
  have hby := Bd.bytes
  have hml : c.maxLocals = 4 := hml0
  have hown : s.vm.findClass "com/example/oncemark/oncemark/LogFormat" = some m.cls := findClass_of_methodNamed Bd.named
  have hnm := (name_of_methodNamed Bd.named Bd.method).1
  have X0 : Stand p l e ({ frames := 4, cells := 0, slots := 0, locals := 53 } : Room) s m #[(.ref o0)] below meth c s₁ [] 0 0 := Stand.of_body Bd
  have e0 : s₁.heap = h0 := by rw [← hh, Bd.state]; rfl
  have N0 := Fr.nil n0
  have K0 : Keep h0 h0 [] := Keep.refl _ _
  have pre0 : ∀ t, Steps p.tables e below (s₁.setTop (mkF m 0 #[.val (.ref o0), .unset, .unset, .unset] [])) t → Steps p.tables e below (s₁.setTop (entryFrame m #[(.ref o0)] 4)) t := fun t k => castTop (ef_14 m o0) k
  have pre2 : ∀ t, Steps p.tables e below (s₁.setTop (mkF m 6 #[.val (.ref o0), .val (.int (0 : Int32)), .val (.int (0 : Int32)), .unset] [(.ref o0), (.int (0 : Int32))])) t → Steps p.tables e below (s₁.setTop (entryFrame m #[(.ref o0)] 4)) t := fun t k => pre0 t (by
    show Steps p.tables e below (s₁.setTop (mkF m 0 #[.val (.ref o0), .unset, .unset, .unset] [])) _
    refine XS.iconst X0.here hx rfl (hb hby d14_0) ?_
    show Steps p.tables e below (s₁.setTop (mkF m 1 #[.val (.ref o0), .unset, .unset, .unset] [(.int (0 : Int32))])) _
    refine XS.istoreN X0.here hx rfl (hb hby d14_1) rfl (l' := #[.val (.ref o0), .val (.int (0 : Int32)), .unset, .unset]) rfl ?_
    show Steps p.tables e below (s₁.setTop (mkF m 2 #[.val (.ref o0), .val (.int (0 : Int32)), .unset, .unset] [])) _
    refine XS.iconst X0.here hx rfl (hb hby d14_2) ?_
    show Steps p.tables e below (s₁.setTop (mkF m 3 #[.val (.ref o0), .val (.int (0 : Int32)), .unset, .unset] [(.int (0 : Int32))])) _
    refine XS.istoreN X0.here hx rfl (hb hby d14_3) rfl (l' := #[.val (.ref o0), .val (.int (0 : Int32)), .val (.int (0 : Int32)), .unset]) rfl ?_
    show Steps p.tables e below (s₁.setTop (mkF m 4 #[.val (.ref o0), .val (.int (0 : Int32)), .val (.int (0 : Int32)), .unset] [])) _
    refine XS.iloadN X0.here hx rfl (hb hby d14_4) rfl ?_
    show Steps p.tables e below (s₁.setTop (mkF m 5 #[.val (.ref o0), .val (.int (0 : Int32)), .val (.int (0 : Int32)), .unset] [(.int (0 : Int32))])) _
    refine XS.aloadN X0.here hx rfl (hb hby d14_5) rfl rfl ?_
    exact k)
  obtain ⟨cq3, kq3, q3a, q3b, q3c⟩ := isOf hZ e0 I2
  obtain ⟨_, _, ⟨T3, L3, k3, n3⟩, -, X3, ⟨Lc3, hQ3, l3, y3, z3⟩, st3⟩ := X0.virtualBack hx (y := (⟨"java/lang/String", "length", "()I"⟩ : MethodName)) (z := (⟨"java/lang/String", "length", "()I"⟩ : MethodName)) hown (mvT hZ (hw _ (List.mem_of_getElem? (i := 80) rfl))) (mvT hZ (hw _ (List.mem_of_getElem? (i := 81) rfl))) (notFace_of_selects (args := #[]) (mvT hZ (hw _ (List.mem_of_getElem? (i := 83) rfl)))) (mvT hZ (hw _ (List.mem_of_getElem? (i := 83) rfl))) (mvT hZ (hw _ (List.mem_of_getElem? (i := 82) rfl))) (by decide) (backOf (W := 1) (rm15 l Z a0 hw [] o0 wcs oa _ w h0 n0 Z0 I0 I2 I3 I4 I5 hcs) hZ (hw _ (List.mem_of_getElem? (i := 84) rfl)) (hw _ (List.mem_of_getElem? (i := 16) rfl)) (by decide) (by decide)) q3a q3c (g := (mkF m 6 #[.val (.ref o0), .val (.int (0 : Int32)), .val (.int (0 : Int32)), .unset] [(.ref o0), (.int (0 : Int32))])) rfl (by rw [hml]; rfl) (Steps.refl _) (argsL := []) (rest := [(.int (0 : Int32))]) (lenOf pd___I rfl) rfl (by show 2 * 0 + _ ≤ _; exact Nat.le_of_eq rfl) (hb hby d14_6) (fun _ _ => ⟨rfl, e0, (by decide : 0 + 0 ≤ _), (by decide : 0 + 0 ≤ _)⟩)
  dsimp only [Pt.U, Pt.locs, Pt.cells, Pt.slots] at X3 l3 y3 z3 st3 hQ3
  subst l3 y3 z3
  obtain ⟨rfl, Nq3, e3⟩ := hQ3
  have N3 := Fr.app N0 Nq3
  have pre4 : ∀ t, Steps p.tables e below (T3.setTop (mkF m 9 #[.val (.ref o0), .val (.int (0 : Int32)), .val (.int (0 : Int32)), .unset] [(.int (f15)), (.int (0 : Int32))])) t → Steps p.tables e below (s₁.setTop (entryFrame m #[(.ref o0)] 4)) t := fun t k => pre2 t (st3.trans k)
  have pre5 : ∀ t, Steps p.tables e below (T3.setTop (mkF m 14 #[.val (.ref o0), .val (.int (0 : Int32)), .val (.int (0 : Int32)), .unset] [(.int (0 : Int32)), (.ref o0)])) t → Steps p.tables e below (s₁.setTop (entryFrame m #[(.ref o0)] 4)) t := fun t k => pre4 t (by
    show Steps p.tables e below (T3.setTop (mkF m 9 #[.val (.ref o0), .val (.int (0 : Int32)), .val (.int (0 : Int32)), .unset] [(.int (f15)), (.int (0 : Int32))])) _
    refine XS.icmpNo X3.here hx rfl (hb hby d14_9) rfl (tlt (by decide)).2.1 ?_
    show Steps p.tables e below (T3.setTop (mkF m 12 #[.val (.ref o0), .val (.int (0 : Int32)), .val (.int (0 : Int32)), .unset] [])) _
    refine XS.aloadN X3.here hx rfl (hb hby d14_12) rfl rfl ?_
    show Steps p.tables e below (T3.setTop (mkF m 13 #[.val (.ref o0), .val (.int (0 : Int32)), .val (.int (0 : Int32)), .unset] [(.ref o0)])) _
    refine XS.iloadN X3.here hx rfl (hb hby d14_13) rfl ?_
    exact k)
  obtain ⟨cq6, kq6, q6a, q6b, q6c⟩ := isOf hZ e3 I2
  obtain ⟨_, _, ⟨T6, L6, k6, n6⟩, -, X6, ⟨Lc6, hQ6, l6, y6, z6⟩, st6⟩ := X3.virtualBack hx (y := (⟨"java/lang/String", "charAt", "(I)C"⟩ : MethodName)) (z := (⟨"java/lang/String", "charAt", "(I)C"⟩ : MethodName)) hown (mvT hZ (hw _ (List.mem_of_getElem? (i := 90) rfl))) (mvT hZ (hw _ (List.mem_of_getElem? (i := 91) rfl))) (notFace_of_selects (args := #[]) (mvT hZ (hw _ (List.mem_of_getElem? (i := 93) rfl)))) (mvT hZ (hw _ (List.mem_of_getElem? (i := 93) rfl))) (mvT hZ (hw _ (List.mem_of_getElem? (i := 92) rfl))) (by decide) (backOf (W := 0) (rm17 l Z a0 hw [] o0 wcs wsf oa _ w h0 n0 Z0 I0 I1 I2 I3 I4 I5 hcs hsf) hZ (hw _ (List.mem_of_getElem? (i := 94) rfl)) (hw _ (List.mem_of_getElem? (i := 16) rfl)) (by decide) (by decide)) q6a q6c (g := (mkF m 14 #[.val (.ref o0), .val (.int (0 : Int32)), .val (.int (0 : Int32)), .unset] [(.int (0 : Int32)), (.ref o0)])) rfl (by rw [hml]; rfl) (Steps.refl _) (argsL := [(.int (0 : Int32))]) (rest := []) (lenOf pd__I_C rfl) rfl (by show 2 * 0 + _ ≤ _; exact Nat.le_of_eq rfl) (hb hby d14_14) (fun _ _ => ⟨rfl, e3, (by decide : 0 + 0 ≤ _), (by decide : 0 + 0 ≤ _)⟩)
  dsimp only [Pt.U, Pt.locs, Pt.cells, Pt.slots] at X6 l6 y6 z6 st6 hQ6
  subst l6 y6 z6
  obtain ⟨rfl, Nq6, e6⟩ := hQ6
  have N6 := Fr.app N3 Nq6
  have pre7 : ∀ t, Steps p.tables e below (T6.setTop (mkF m 17 #[.val (.ref o0), .val (.int (0 : Int32)), .val (.int (0 : Int32)), .unset] [(.int (f17 w))])) t → Steps p.tables e below (s₁.setTop (entryFrame m #[(.ref o0)] 4)) t := fun t k => pre5 t (st6.trans k)
  have pre8 : ∀ t, Steps p.tables e below (T6.setTop (mkF m 22 #[.val (.ref o0), .val (.int (0 : Int32)), .val (.int (0 : Int32)), .val (.int (f17 w))] [(.int (128 : Int32)), (.int (f17 w))])) t → Steps p.tables e below (s₁.setTop (entryFrame m #[(.ref o0)] 4)) t := fun t k => pre7 t (by
    show Steps p.tables e below (T6.setTop (mkF m 17 #[.val (.ref o0), .val (.int (0 : Int32)), .val (.int (0 : Int32)), .unset] [(.int (f17 w))])) _
    refine XS.istoreN X6.here hx rfl (hb hby d14_17) rfl (l' := #[.val (.ref o0), .val (.int (0 : Int32)), .val (.int (0 : Int32)), .val (.int (f17 w))]) rfl ?_
    show Steps p.tables e below (T6.setTop (mkF m 18 #[.val (.ref o0), .val (.int (0 : Int32)), .val (.int (0 : Int32)), .val (.int (f17 w))] [])) _
    refine XS.iloadN X6.here hx rfl (hb hby d14_18) rfl ?_
    show Steps p.tables e below (T6.setTop (mkF m 19 #[.val (.ref o0), .val (.int (0 : Int32)), .val (.int (0 : Int32)), .val (.int (f17 w))] [(.int (f17 w))])) _
    refine XS.sipush X6.here hx rfl (hb hby d14_19) ?_
    exact k)
  by_cases hc22_1 : (f17 w) < (128 : Int32)
  · have pre9 : ∀ t, Steps p.tables e below (T6.setTop (mkF m 6 #[.val (.ref o0), .val (.int (1 : Int32)), .val (.int (1 : Int32)), .val (.int (f17 w))] [(.ref o0), (.int (1 : Int32))])) t → Steps p.tables e below (s₁.setTop (entryFrame m #[(.ref o0)] 4)) t := fun t k => pre8 t (by
      show Steps p.tables e below (T6.setTop (mkF m 22 #[.val (.ref o0), .val (.int (0 : Int32)), .val (.int (0 : Int32)), .val (.int (f17 w))] [(.int (128 : Int32)), (.int (f17 w))])) _
      refine XS.icmpNo X6.here hx rfl (hb hby d14_22) rfl (tlt hc22_1).2.1 ?_
      show Steps p.tables e below (T6.setTop (mkF m 25 #[.val (.ref o0), .val (.int (0 : Int32)), .val (.int (0 : Int32)), .val (.int (f17 w))] [])) _
      refine XS.iinc X6.here hx rfl (hb hby d14_25) rfl (l' := #[.val (.ref o0), .val (.int (1 : Int32)), .val (.int (0 : Int32)), .val (.int (f17 w))]) rfl ?_
      show Steps p.tables e below (T6.setTop (mkF m 28 #[.val (.ref o0), .val (.int (1 : Int32)), .val (.int (0 : Int32)), .val (.int (f17 w))] [])) _
      refine XS.goto X6.here hx rfl (pc0 := 28) (pc' := 98) rfl (hb hby d14_28) (by decide) (by decide) ?_
      show Steps p.tables e below (T6.setTop (mkF m 98 #[.val (.ref o0), .val (.int (1 : Int32)), .val (.int (0 : Int32)), .val (.int (f17 w))] [])) _
      refine XS.iinc X6.here hx rfl (hb hby d14_98) rfl (l' := #[.val (.ref o0), .val (.int (1 : Int32)), .val (.int (1 : Int32)), .val (.int (f17 w))]) rfl ?_
      show Steps p.tables e below (T6.setTop (mkF m 101 #[.val (.ref o0), .val (.int (1 : Int32)), .val (.int (1 : Int32)), .val (.int (f17 w))] [])) _
      refine XS.goto X6.here hx rfl (pc0 := 101) (pc' := 4) rfl (hb hby d14_101) (by decide) (by decide) ?_
      show Steps p.tables e below (T6.setTop (mkF m 4 #[.val (.ref o0), .val (.int (1 : Int32)), .val (.int (1 : Int32)), .val (.int (f17 w))] [])) _
      refine XS.iloadN X6.here hx rfl (hb hby d14_4) rfl ?_
      show Steps p.tables e below (T6.setTop (mkF m 5 #[.val (.ref o0), .val (.int (1 : Int32)), .val (.int (1 : Int32)), .val (.int (f17 w))] [(.int (1 : Int32))])) _
      refine XS.aloadN X6.here hx rfl (hb hby d14_5) rfl rfl ?_
      exact k)
    obtain ⟨cq10, kq10, q10a, q10b, q10c⟩ := isOf hZ e6 I2
    obtain ⟨_, _, ⟨T10, L10, k10, n10⟩, -, X10, ⟨Lc10, hQ10, l10, y10, z10⟩, st10⟩ := X6.virtualBack hx (y := (⟨"java/lang/String", "length", "()I"⟩ : MethodName)) (z := (⟨"java/lang/String", "length", "()I"⟩ : MethodName)) hown (mvT hZ (hw _ (List.mem_of_getElem? (i := 80) rfl))) (mvT hZ (hw _ (List.mem_of_getElem? (i := 81) rfl))) (notFace_of_selects (args := #[]) (mvT hZ (hw _ (List.mem_of_getElem? (i := 83) rfl)))) (mvT hZ (hw _ (List.mem_of_getElem? (i := 83) rfl))) (mvT hZ (hw _ (List.mem_of_getElem? (i := 82) rfl))) (by decide) (backOf (W := 1) (rm15 l Z a0 hw [] o0 wcs oa _ w h0 n0 Z0 I0 I2 I3 I4 I5 hcs) hZ (hw _ (List.mem_of_getElem? (i := 84) rfl)) (hw _ (List.mem_of_getElem? (i := 16) rfl)) (by decide) (by decide)) q10a q10c (g := (mkF m 6 #[.val (.ref o0), .val (.int (1 : Int32)), .val (.int (1 : Int32)), .val (.int (f17 w))] [(.ref o0), (.int (1 : Int32))])) rfl (by rw [hml]; rfl) (Steps.refl _) (argsL := []) (rest := [(.int (1 : Int32))]) (lenOf pd___I rfl) rfl (by show 2 * 0 + _ ≤ _; exact Nat.le_of_eq rfl) (hb hby d14_6) (fun _ _ => ⟨rfl, e6, (by decide : 0 + 0 ≤ _), (by decide : 0 + 0 ≤ _)⟩)
    dsimp only [Pt.U, Pt.locs, Pt.cells, Pt.slots] at X10 l10 y10 z10 st10 hQ10
    subst l10 y10 z10
    obtain ⟨rfl, Nq10, e10⟩ := hQ10
    have N10 := Fr.app N6 Nq10
    have pre11 : ∀ t, Steps p.tables e below (T10.setTop (mkF m 9 #[.val (.ref o0), .val (.int (1 : Int32)), .val (.int (1 : Int32)), .val (.int (f17 w))] [(.int (f15)), (.int (1 : Int32))])) t → Steps p.tables e below (s₁.setTop (entryFrame m #[(.ref o0)] 4)) t := fun t k => pre9 t (st10.trans k)
    have pre12 : ∀ t, Steps p.tables e below (T10.setTop (mkF m 105 #[.val (.ref o0), .val (.int (1 : Int32)), .val (.int (1 : Int32)), .val (.int (f17 w))] [(.int (1 : Int32))])) t → Steps p.tables e below (s₁.setTop (entryFrame m #[(.ref o0)] 4)) t := fun t k => pre11 t (by
      show Steps p.tables e below (T10.setTop (mkF m 9 #[.val (.ref o0), .val (.int (1 : Int32)), .val (.int (1 : Int32)), .val (.int (f17 w))] [(.int (f15)), (.int (1 : Int32))])) _
      refine XS.icmpYes X10.here hx rfl (pc0 := 9) (pc' := 104) rfl (hb hby d14_9) rfl (flt (by decide)).2.1 (by decide) (by decide) ?_
      show Steps p.tables e below (T10.setTop (mkF m 104 #[.val (.ref o0), .val (.int (1 : Int32)), .val (.int (1 : Int32)), .val (.int (f17 w))] [])) _
      refine XS.iloadN X10.here hx rfl (hb hby d14_104) rfl ?_
      exact k)
    obtain ⟨fs, hr, hrun, hended, hW, hsame⟩ := X10.leave (v := some (.int (1 : Int32))) (fun h => by rw [Bd.returns] at h; cases h)
    refine ⟨_, _, ?_, hrun, hended, _, _, rfl, ?_, ⟨_, rfl⟩, hW, hsame.mono (by decide) (by decide)⟩
    · exact pre12 _ (retI X10 hx Bd.returns (hb hby d14_105) hr)
    · exact ⟨by simp only [f14, if_pos hc22_1], N10, e10⟩
  · have pre13 : ∀ t, Steps p.tables e below (T6.setTop (mkF m 6 #[.val (.ref o0), .val (.int (2 : Int32)), .val (.int (1 : Int32)), .val (.int (f17 w))] [(.ref o0), (.int (1 : Int32))])) t → Steps p.tables e below (s₁.setTop (entryFrame m #[(.ref o0)] 4)) t := fun t k => pre8 t (by
      show Steps p.tables e below (T6.setTop (mkF m 22 #[.val (.ref o0), .val (.int (0 : Int32)), .val (.int (0 : Int32)), .val (.int (f17 w))] [(.int (128 : Int32)), (.int (f17 w))])) _
      refine XS.icmpYes X6.here hx rfl (pc0 := 22) (pc' := 31) rfl (hb hby d14_22) rfl (flt hc22_1).2.1 (by decide) (by decide) ?_
      show Steps p.tables e below (T6.setTop (mkF m 31 #[.val (.ref o0), .val (.int (0 : Int32)), .val (.int (0 : Int32)), .val (.int (f17 w))] [])) _
      refine XS.iloadN X6.here hx rfl (hb hby d14_31) rfl ?_
      show Steps p.tables e below (T6.setTop (mkF m 32 #[.val (.ref o0), .val (.int (0 : Int32)), .val (.int (0 : Int32)), .val (.int (f17 w))] [(.int (f17 w))])) _
      refine XS.sipush X6.here hx rfl (hb hby d14_32) ?_
      show Steps p.tables e below (T6.setTop (mkF m 35 #[.val (.ref o0), .val (.int (0 : Int32)), .val (.int (0 : Int32)), .val (.int (f17 w))] [(.int (2048 : Int32)), (.int (f17 w))])) _
      refine XS.icmpNo X6.here hx rfl (hb hby d14_35) rfl (tlt (own_ch w)).2.1 ?_
      show Steps p.tables e below (T6.setTop (mkF m 38 #[.val (.ref o0), .val (.int (0 : Int32)), .val (.int (0 : Int32)), .val (.int (f17 w))] [])) _
      refine XS.iinc X6.here hx rfl (hb hby d14_38) rfl (l' := #[.val (.ref o0), .val (.int (2 : Int32)), .val (.int (0 : Int32)), .val (.int (f17 w))]) rfl ?_
      show Steps p.tables e below (T6.setTop (mkF m 41 #[.val (.ref o0), .val (.int (2 : Int32)), .val (.int (0 : Int32)), .val (.int (f17 w))] [])) _
      refine XS.goto X6.here hx rfl (pc0 := 41) (pc' := 98) rfl (hb hby d14_41) (by decide) (by decide) ?_
      show Steps p.tables e below (T6.setTop (mkF m 98 #[.val (.ref o0), .val (.int (2 : Int32)), .val (.int (0 : Int32)), .val (.int (f17 w))] [])) _
      refine XS.iinc X6.here hx rfl (hb hby d14_98) rfl (l' := #[.val (.ref o0), .val (.int (2 : Int32)), .val (.int (1 : Int32)), .val (.int (f17 w))]) rfl ?_
      show Steps p.tables e below (T6.setTop (mkF m 101 #[.val (.ref o0), .val (.int (2 : Int32)), .val (.int (1 : Int32)), .val (.int (f17 w))] [])) _
      refine XS.goto X6.here hx rfl (pc0 := 101) (pc' := 4) rfl (hb hby d14_101) (by decide) (by decide) ?_
      show Steps p.tables e below (T6.setTop (mkF m 4 #[.val (.ref o0), .val (.int (2 : Int32)), .val (.int (1 : Int32)), .val (.int (f17 w))] [])) _
      refine XS.iloadN X6.here hx rfl (hb hby d14_4) rfl ?_
      show Steps p.tables e below (T6.setTop (mkF m 5 #[.val (.ref o0), .val (.int (2 : Int32)), .val (.int (1 : Int32)), .val (.int (f17 w))] [(.int (1 : Int32))])) _
      refine XS.aloadN X6.here hx rfl (hb hby d14_5) rfl rfl ?_
      exact k)
    obtain ⟨cq14, kq14, q14a, q14b, q14c⟩ := isOf hZ e6 I2
    obtain ⟨_, _, ⟨T14, L14, k14, n14⟩, -, X14, ⟨Lc14, hQ14, l14, y14, z14⟩, st14⟩ := X6.virtualBack hx (y := (⟨"java/lang/String", "length", "()I"⟩ : MethodName)) (z := (⟨"java/lang/String", "length", "()I"⟩ : MethodName)) hown (mvT hZ (hw _ (List.mem_of_getElem? (i := 80) rfl))) (mvT hZ (hw _ (List.mem_of_getElem? (i := 81) rfl))) (notFace_of_selects (args := #[]) (mvT hZ (hw _ (List.mem_of_getElem? (i := 83) rfl)))) (mvT hZ (hw _ (List.mem_of_getElem? (i := 83) rfl))) (mvT hZ (hw _ (List.mem_of_getElem? (i := 82) rfl))) (by decide) (backOf (W := 1) (rm15 l Z a0 hw [] o0 wcs oa _ w h0 n0 Z0 I0 I2 I3 I4 I5 hcs) hZ (hw _ (List.mem_of_getElem? (i := 84) rfl)) (hw _ (List.mem_of_getElem? (i := 16) rfl)) (by decide) (by decide)) q14a q14c (g := (mkF m 6 #[.val (.ref o0), .val (.int (2 : Int32)), .val (.int (1 : Int32)), .val (.int (f17 w))] [(.ref o0), (.int (1 : Int32))])) rfl (by rw [hml]; rfl) (Steps.refl _) (argsL := []) (rest := [(.int (1 : Int32))]) (lenOf pd___I rfl) rfl (by show 2 * 0 + _ ≤ _; exact Nat.le_of_eq rfl) (hb hby d14_6) (fun _ _ => ⟨rfl, e6, (by decide : 0 + 0 ≤ _), (by decide : 0 + 0 ≤ _)⟩)
    dsimp only [Pt.U, Pt.locs, Pt.cells, Pt.slots] at X14 l14 y14 z14 st14 hQ14
    subst l14 y14 z14
    obtain ⟨rfl, Nq14, e14⟩ := hQ14
    have N14 := Fr.app N6 Nq14
    have pre15 : ∀ t, Steps p.tables e below (T14.setTop (mkF m 9 #[.val (.ref o0), .val (.int (2 : Int32)), .val (.int (1 : Int32)), .val (.int (f17 w))] [(.int (f15)), (.int (1 : Int32))])) t → Steps p.tables e below (s₁.setTop (entryFrame m #[(.ref o0)] 4)) t := fun t k => pre13 t (st14.trans k)
    have pre16 : ∀ t, Steps p.tables e below (T14.setTop (mkF m 105 #[.val (.ref o0), .val (.int (2 : Int32)), .val (.int (1 : Int32)), .val (.int (f17 w))] [(.int (2 : Int32))])) t → Steps p.tables e below (s₁.setTop (entryFrame m #[(.ref o0)] 4)) t := fun t k => pre15 t (by
      show Steps p.tables e below (T14.setTop (mkF m 9 #[.val (.ref o0), .val (.int (2 : Int32)), .val (.int (1 : Int32)), .val (.int (f17 w))] [(.int (f15)), (.int (1 : Int32))])) _
      refine XS.icmpYes X14.here hx rfl (pc0 := 9) (pc' := 104) rfl (hb hby d14_9) rfl (flt (by decide)).2.1 (by decide) (by decide) ?_
      show Steps p.tables e below (T14.setTop (mkF m 104 #[.val (.ref o0), .val (.int (2 : Int32)), .val (.int (1 : Int32)), .val (.int (f17 w))] [])) _
      refine XS.iloadN X14.here hx rfl (hb hby d14_104) rfl ?_
      exact k)
    obtain ⟨fs, hr, hrun, hended, hW, hsame⟩ := X14.leave (v := some (.int (2 : Int32))) (fun h => by rw [Bd.returns] at h; cases h)
    refine ⟨_, _, ?_, hrun, hended, _, _, rfl, ?_, ⟨_, rfl⟩, hW, hsame.mono (by decide) (by decide)⟩
    · exact pre16 _ (retI X14 hx Bd.returns (hb hby d14_105) hr)
    · exact ⟨by simp only [f14, if_neg hc22_1], N14, e14⟩
theorem own_u (w : Int32) : ¬ (f14 w < (0 : Int32)) ∧ ¬ ((65535 : Int32) < f14 w) := by
  unfold f14
  split <;> decide
theorem d4_0 : decode jdk_31_method_11_code 0 = .ok (.aload_n 0, 1) := by decide +kernel
theorem d4_1 : decode jdk_31_method_11_code 1 = .ok (.ifnonnull 12, 3) := by decide +kernel
theorem d4_13 : decode jdk_31_method_11_code 13 = .ok (.aload_n 0, 1) := by decide +kernel
theorem d4_14 : decode jdk_31_method_11_code 14 = .ok (.areturn, 1) := by decide +kernel
theorem pn_4 : plainName "java/util/Objects" = true := by first | (simp [plainName, overriddenIn]; done) | decide +kernel
theorem ef_4 (m : MethodId) (x0 : Addr) (x1 : Addr) : entryFrame m #[(.ref x0), (.ref x1)] 2 = mkF m 0 #[.val (.ref x0), .val (.ref x1)] [] := by first | (simp [entryFrame, mkF, argsToLocals, Value.category]; done) | rfl
def f4 (o0 : Addr) : Addr := o0
set_option maxRecDepth 65536 in
set_option maxHeartbeats 40000000 in
theorem rm4 (l : Launch) (Z : State) (a0 : Array Value) (hw : ∀ d ∈ tables_1, d.before a0 Z = true) (ws : List Jvm.Cond) (o0 : Addr) (o1 : Addr) (h0 : Heap) (n0 : Nat) (Z0 : n0 ≤ h0.size) :
    MetFree l (⟨"java/util/Objects", "requireNonNull", "(Ljava/lang/Object;Ljava/lang/String;)Ljava/lang/Object;"⟩ : MethodName) (head1 (Jvm.Cond.code (⟨"java/util/Objects", "requireNonNull", "(Ljava/lang/Object;Ljava/lang/String;)Ljava/lang/Object;"⟩ : MethodName) jdk_31_method_11_code 2 (some (.object "java/lang/Object")) :: ws) ({ frames := 0, cells := 0, slots := 0, locals := 0 } : Room)) (fun a U => a = #[(.ref o0), (.ref o1)] ∧ Z.Warmed39 U.vm ∧ U.heap = h0) (fun _ _ _ _ _ => True) (fun _ U o U' => ∃ v L, o = .returned v ∧ QP (some (.ref (f4 o0))) h0 n0 v U'.heap L ∧ FrameEnd U o U' L ({ frames := 0, cells := 0, slots := 0, locals := 0 } : Room).cells ({ frames := 0, cells := 0, slots := 0, locals := 0 } : Room).slots) := by
  refine MetFree.of_bodySF (plainFor_of_name pn_4) hisR ?_
  intro p e s m args below meth c s₁ Bd hml0 hP hK
  obtain ⟨rfl, hZ, hh⟩ := hP
  have hx := Bd.exec
  have hby := Bd.bytes
  have hml : c.maxLocals = 2 := hml0
  have hown : s.vm.findClass "java/util/Objects" = some m.cls := findClass_of_methodNamed Bd.named
  have hnm := (name_of_methodNamed Bd.named Bd.method).1
  have X0 : Stand p l e ({ frames := 0, cells := 0, slots := 0, locals := 0 } : Room) s m #[(.ref o0), (.ref o1)] below meth c s₁ [] 0 0 := Stand.of_body Bd
  have e0 : s₁.heap = h0 := by rw [← hh, Bd.state]; rfl
  have N0 := Fr.nil n0
  have K0 : Keep h0 h0 [] := Keep.refl _ _
  have pre0 : ∀ t, Steps p.tables e below (s₁.setTop (mkF m 0 #[.val (.ref o0), .val (.ref o1)] [])) t → Steps p.tables e below (s₁.setTop (entryFrame m #[(.ref o0), (.ref o1)] 2)) t := fun t k => castTop (ef_4 m o0 o1) k
  have pre1 : ∀ t, Steps p.tables e below (s₁.setTop (mkF m 14 #[.val (.ref o0), .val (.ref o1)] [(.ref o0)])) t → Steps p.tables e below (s₁.setTop (entryFrame m #[(.ref o0), (.ref o1)] 2)) t := fun t k => pre0 t (by
    show Steps p.tables e below (s₁.setTop (mkF m 0 #[.val (.ref o0), .val (.ref o1)] [])) _
    refine XS.aloadN X0.here hx rfl (hb hby d4_0) rfl rfl ?_
    show Steps p.tables e below (s₁.setTop (mkF m 1 #[.val (.ref o0), .val (.ref o1)] [(.ref o0)])) _
    refine XS.ifnonnullYes X0.here hx rfl (pc0 := 1) (pc' := 13) rfl (hb hby d4_1) rfl (by decide) (by decide) ?_
    show Steps p.tables e below (s₁.setTop (mkF m 13 #[.val (.ref o0), .val (.ref o1)] [])) _
    refine XS.aloadN X0.here hx rfl (hb hby d4_13) rfl rfl ?_
    exact k)
  obtain ⟨fs, hr, hrun, hended, hW, hsame⟩ := X0.leave (v := some (.ref o0)) (fun h => by rw [Bd.returns] at h; cases h)
  refine ⟨_, _, ?_, hrun, hended, _, _, rfl, ?_, ⟨_, rfl⟩, hW, hsame.mono (by decide) (by decide)⟩
  · refine pre1 _ ?_
    jvm_step X0.here [X0.here.top, hx, (hb hby d4_14), X0.method', Bd.returns, Value.isRef, FieldType.isReference]
    first | (intro acts; rw [hr _ acts rfl rfl rfl]) | rw [hr _ _ rfl rfl rfl]
    exact Steps.refl _
  · exact ⟨by simp only [f4], N0, e0⟩
theorem d6_0 : decode prog_18_method_9_code 0 = .ok (.lload_n 0, 1) := by decide +kernel
theorem d6_1 : decode prog_18_method_9_code 1 = .ok (.lconst 0, 1) := by decide +kernel
theorem d6_2 : decode prog_18_method_9_code 2 = .ok (.lcmp, 1) := by decide +kernel
theorem d6_3 : decode prog_18_method_9_code 3 = .ok (.ifCond .ge 17, 3) := by decide +kernel
theorem d6_20 : decode prog_18_method_9_code 20 = .ok (.lload_n 0, 1) := by decide +kernel
theorem d6_21 : decode prog_18_method_9_code 21 = .ok (.lreturn, 1) := by decide +kernel
theorem pn_6 : plainName "com/example/oncemark/oncemark/OutgoingMessage" = true := by first | (simp [plainName, overriddenIn]; done) | decide +kernel
theorem ef_6 (m : MethodId) (x0 : Int64) : entryFrame m #[(.long x0)] 2 = mkF m 0 #[.val (.long x0), .second] [] := by first | (simp [entryFrame, mkF, argsToLocals, Value.category]; done) | rfl
def f6 (q0 : Int64) : Int64 := q0
set_option maxRecDepth 65536 in
set_option maxHeartbeats 40000000 in
theorem rm6 (l : Launch) (Z : State) (a0 : Array Value) (hw : ∀ d ∈ tables_1, d.before a0 Z = true) (ws : List Jvm.Cond) (q0 : Int64) (h0 : Heap) (n0 : Nat) (Z0 : n0 ≤ h0.size) (hq : ¬ (q0 < (0 : Int64))) :
    MetFree l (⟨"com/example/oncemark/oncemark/OutgoingMessage", "checkedSequenceId", "(J)J"⟩ : MethodName) (head1 (Jvm.Cond.code (⟨"com/example/oncemark/oncemark/OutgoingMessage", "checkedSequenceId", "(J)J"⟩ : MethodName) prog_18_method_9_code 2 (some .long) :: ws) ({ frames := 0, cells := 0, slots := 0, locals := 0 } : Room)) (fun a U => a = #[(.long q0)] ∧ Z.Warmed39 U.vm ∧ U.heap = h0) (fun _ _ _ _ _ => True) (fun _ U o U' => ∃ v L, o = .returned v ∧ QP (some (.long (f6 q0))) h0 n0 v U'.heap L ∧ FrameEnd U o U' L ({ frames := 0, cells := 0, slots := 0, locals := 0 } : Room).cells ({ frames := 0, cells := 0, slots := 0, locals := 0 } : Room).slots) := by
  refine MetFree.of_bodySF (plainFor_of_name pn_6) hisR ?_
  intro p e s m args below meth c s₁ Bd hml0 hP hK
  obtain ⟨rfl, hZ, hh⟩ := hP
  have hx := Bd.exec
  have hby := Bd.bytes
  have hml : c.maxLocals = 2 := hml0
  have hown : s.vm.findClass "com/example/oncemark/oncemark/OutgoingMessage" = some m.cls := findClass_of_methodNamed Bd.named
  have hnm := (name_of_methodNamed Bd.named Bd.method).1
  have X0 : Stand p l e ({ frames := 0, cells := 0, slots := 0, locals := 0 } : Room) s m #[(.long q0)] below meth c s₁ [] 0 0 := Stand.of_body Bd
  have e0 : s₁.heap = h0 := by rw [← hh, Bd.state]; rfl
  have N0 := Fr.nil n0
  have K0 : Keep h0 h0 [] := Keep.refl _ _
  have pre0 : ∀ t, Steps p.tables e below (s₁.setTop (mkF m 0 #[.val (.long q0), .second] [])) t → Steps p.tables e below (s₁.setTop (entryFrame m #[(.long q0)] 2)) t := fun t k => castTop (ef_6 m q0) k
  have pre1 : ∀ t, Steps p.tables e below (s₁.setTop (mkF m 21 #[.val (.long q0), .second] [(.long q0)])) t → Steps p.tables e below (s₁.setTop (entryFrame m #[(.long q0)] 2)) t := fun t k => pre0 t (by
    show Steps p.tables e below (s₁.setTop (mkF m 0 #[.val (.long q0), .second] [])) _
    refine XS.lloadN X0.here hx rfl (hb hby d6_0) rfl ?_
    show Steps p.tables e below (s₁.setTop (mkF m 1 #[.val (.long q0), .second] [(.long q0)])) _
    refine XS.lconst X0.here hx rfl (hb hby d6_1) ?_
    show Steps p.tables e below (s₁.setTop (mkF m 2 #[.val (.long q0), .second] [(.long (0 : Int64)), (.long q0)])) _
    refine XS.lcmp X0.here hx rfl (hb hby d6_2) rfl ?_
    show Steps p.tables e below (s₁.setTop (mkF m 3 #[.val (.long q0), .second] [(.int (lcmpW q0 (0 : Int64)))])) _
    refine XS.ifYes X0.here hx rfl (pc0 := 3) (pc' := 20) rfl (hb hby d6_3) rfl ((if0 _ _).trans (flt (fun q => hq ((lw_lt _ _).mp q))).2.1) (by decide) (by decide) ?_
    show Steps p.tables e below (s₁.setTop (mkF m 20 #[.val (.long q0), .second] [])) _
    refine XS.lloadN X0.here hx rfl (hb hby d6_20) rfl ?_
    exact k)
  obtain ⟨fs, hr, hrun, hended, hW, hsame⟩ := X0.leave (v := some (.long q0)) (fun h => by rw [Bd.returns] at h; cases h)
  refine ⟨_, _, ?_, hrun, hended, _, _, rfl, ?_, ⟨_, rfl⟩, hW, hsame.mono (by decide) (by decide)⟩
  · exact pre1 _ (X0.lreturnOut hx Bd.returns (hb hby d6_21) hr)
  · exact ⟨by simp only [f6], N0, e0⟩
theorem d2_0 : decode prog_18_method_3_code 0 = .ok (.aload_n 0, 1) := by decide +kernel
theorem d2_1 : decode prog_18_method_3_code 1 = .ok (.invokespecial 13, 3) := by decide +kernel
theorem d2_4 : decode prog_18_method_3_code 4 = .ok (.aload_n 2, 1) := by decide +kernel
theorem d2_5 : decode prog_18_method_3_code 5 = .ok (.ldc 18, 2) := by decide +kernel
theorem d2_7 : decode prog_18_method_3_code 7 = .ok (.invokestatic 20, 3) := by decide +kernel
theorem d2_10 : decode prog_18_method_3_code 10 = .ok (.pop, 1) := by decide +kernel
theorem d2_11 : decode prog_18_method_3_code 11 = .ok (.aload_n 2, 1) := by decide +kernel
theorem d2_12 : decode prog_18_method_3_code 12 = .ok (.arraylength, 1) := by decide +kernel
theorem d2_13 : decode prog_18_method_3_code 13 = .ok (.ldc 28, 2) := by decide +kernel
theorem d2_15 : decode prog_18_method_3_code 15 = .ok (.if_icmp .le 13, 3) := by decide +kernel
theorem d2_28 : decode prog_18_method_3_code 28 = .ok (.aload_n 1, 1) := by decide +kernel
theorem d2_29 : decode prog_18_method_3_code 29 = .ok (.ifnull 41, 3) := by decide +kernel
theorem d2_70 : decode prog_18_method_3_code 70 = .ok (.aload_n 0, 1) := by decide +kernel
theorem d2_71 : decode prog_18_method_3_code 71 = .ok (.lload_n 3, 1) := by decide +kernel
theorem d2_72 : decode prog_18_method_3_code 72 = .ok (.putfield 49, 3) := by decide +kernel
theorem d2_75 : decode prog_18_method_3_code 75 = .ok (.aload_n 0, 1) := by decide +kernel
theorem d2_76 : decode prog_18_method_3_code 76 = .ok (.aload_n 1, 1) := by decide +kernel
theorem d2_77 : decode prog_18_method_3_code 77 = .ok (.putfield 53, 3) := by decide +kernel
theorem d2_80 : decode prog_18_method_3_code 80 = .ok (.aload_n 0, 1) := by decide +kernel
theorem d2_81 : decode prog_18_method_3_code 81 = .ok (.aload_n 2, 1) := by decide +kernel
theorem d2_82 : decode prog_18_method_3_code 82 = .ok (.putfield 56, 3) := by decide +kernel
theorem d2_85 : decode prog_18_method_3_code 85 = .ok (.return_, 1) := by decide +kernel
theorem pn_2 : plainName "com/example/oncemark/oncemark/OutgoingMessage" = true := by first | (simp [plainName, overriddenIn]; done) | decide +kernel
theorem pd__Ljava_lang_Object_Ljava_lang_String__Ljava_lang_Object_ : parseMethodDescriptor "(Ljava/lang/Object;Ljava/lang/String;)Ljava/lang/Object;" = some ⟨[(.object "java/lang/Object"), (.object "java/lang/String")], some (.object "java/lang/Object")⟩ := by decide +kernel
theorem ef_2_n (m : MethodId) (x0 : Addr) (x2 : Addr) (x3 : Int64) : entryFrame m #[(.ref x0), .null, (.ref x2), (.long x3)] 6 = mkF m 0 #[.val (.ref x0), .val .null, .val (.ref x2), .val (.long x3), .second, .unset] [] := by first | (simp [entryFrame, mkF, argsToLocals, Value.category]; done) | rfl
def Q2_n (Z : State) (o0 : Addr) (o2 : Addr) (q3 : Int64) (kb : ClassId) (n : Int32) (h0 : Heap) (n0 : Nat) (v : Option Value) (h : Heap) (L : List Loc) : Prop := v = none ∧ Fr n0 L ∧ Keep h0 h [o0] ∧ Exa Z h o0 "com/example/oncemark/oncemark/OutgoingMessage" ∧ Fld Z h o0 "com/example/oncemark/oncemark/OutgoingMessage" "sequenceId" "J" (.long q3) ∧ Fld Z h o0 "com/example/oncemark/oncemark/OutgoingMessage" "key" "Ljava/lang/String;" .null ∧ Fld Z h o0 "com/example/oncemark/oncemark/OutgoingMessage" "payload" "[B" (.ref o2)
set_option maxRecDepth 65536 in
set_option maxHeartbeats 40000000 in
theorem rm2_n (l : Launch) (Z : State) (a0 : Array Value) (hw : ∀ d ∈ tables_1, d.before a0 Z = true) (ws : List Jvm.Cond) (o0 : Addr) (o2 : Addr) (q3 : Int64) (kb : ClassId) (n : Int32) (h0 : Heap) (n0 : Nat) (Z0 : n0 ≤ h0.size) (I0 : Exa Z h0 o0 "com/example/oncemark/oncemark/OutgoingMessage") (I1 : Fld Z h0 o0 "com/example/oncemark/oncemark/OutgoingMessage" "sequenceId" "J" (.long (0 : Int64))) (I2 : Fld Z h0 o0 "com/example/oncemark/oncemark/OutgoingMessage" "key" "Ljava/lang/String;" .null) (I3 : Fld Z h0 o0 "com/example/oncemark/oncemark/OutgoingMessage" "payload" "[B" .null) (I4 : Arh Z h0 o2 kb .byte n [] [] (.int (0 : Int32))) (gw_o0 : n0 ≤ o0) (ne_o2_o0 : o2 ≠ o0) (hle : ¬ ((1048576 : Int32) < n)) :
    MetFree l (⟨"com/example/oncemark/oncemark/OutgoingMessage", "<init>", "(Ljava/lang/String;[BJ)V"⟩ : MethodName) (head1 (Jvm.Cond.code (⟨"com/example/oncemark/oncemark/OutgoingMessage", "<init>", "(Ljava/lang/String;[BJ)V"⟩ : MethodName) prog_18_method_3_code 6 none :: ws) ({ frames := 1, cells := 2, slots := 32, locals := 13 } : Room)) (fun a U => a = #[(.ref o0), .null, (.ref o2), (.long q3)] ∧ Z.Warmed39 U.vm ∧ U.heap = h0) (fun _ _ _ _ _ => True) (fun _ U o U' => ∃ v L, o = .returned v ∧ Q2_n Z o0 o2 q3 kb n h0 n0 v U'.heap L ∧ ReturnedEndW U o U' L ({ frames := 1, cells := 2, slots := 32, locals := 13 } : Room).cells ({ frames := 1, cells := 2, slots := 32, locals := 13 } : Room).slots) := by
  refine MetFree.of_bodySF (plainFor_of_name pn_2) hisR ?_
  intro p e s m args below meth c s₁ Bd hml0 hP hK
  obtain ⟨rfl, hZ, hh⟩ := hP
  have hx := Bd.exec
  have hby := Bd.bytes
  have hml : c.maxLocals = 6 := hml0
  have hown : s.vm.findClass "com/example/oncemark/oncemark/OutgoingMessage" = some m.cls := findClass_of_methodNamed Bd.named
  have hnm := (name_of_methodNamed Bd.named Bd.method).1
  have X0 : Stand p l e ({ frames := 1, cells := 2, slots := 32, locals := 13 } : Room) (s.setVm s.vm) m #[(.ref o0), .null, (.ref o2), (.long q3)] below meth c s₁ [] 0 0 := by rw [State.setVm_self]; exact Stand.of_body Bd
  have hS0 : s.Since s.vm h0.size := (State.WarmedH.refl s).since _
  have kS0 : h0.size ≤ h0.size := Nat.le_refl _
  have hZ : Z.Warmed39 (s.setVm s.vm).vm := hZ
  have hown : (s.setVm s.vm).vm.findClass "com/example/oncemark/oncemark/OutgoingMessage" = some m.cls := hown
  have e0 : s₁.heap = h0 := by rw [← hh, Bd.state]; rfl
  have N0 := Fr.nil n0
  have K0 : Keep h0 h0 [o0] := Keep.refl _ _
  have pre0 : ∀ t, Steps p.tables e below (s₁.setTop (mkF m 0 #[.val (.ref o0), .val .null, .val (.ref o2), .val (.long q3), .second, .unset] [])) t → Steps p.tables e below (s₁.setTop (entryFrame m #[(.ref o0), .null, (.ref o2), (.long q3)] 6)) t := fun t k => castTop (ef_2_n m o0 o2 q3) k
  have pre1 : ∀ t, Steps p.tables e below (s₁.setTop (mkF m 1 #[.val (.ref o0), .val .null, .val (.ref o2), .val (.long q3), .second, .unset] [(.ref o0)])) t → Steps p.tables e below (s₁.setTop (entryFrame m #[(.ref o0), .null, (.ref o2), (.long q3)] 6)) t := fun t k => pre0 t (by
    show Steps p.tables e below (s₁.setTop (mkF m 0 #[.val (.ref o0), .val .null, .val (.ref o2), .val (.long q3), .second, .unset] [])) _
    refine XS.aloadN X0.here hx rfl (hb hby d2_0) rfl rfl ?_
    exact k)
  obtain ⟨T2, X2, e2, st2⟩ := initO X0 hx hZ hown (hw _ (List.mem_of_getElem? (i := 12) rfl)) (hw _ (List.mem_of_getElem? (i := 13) rfl)) (hw _ (List.mem_of_getElem? (i := 14) rfl)) e0 (g := (mkF m 1 #[.val (.ref o0), .val .null, .val (.ref o2), .val (.long q3), .second, .unset] [(.ref o0)])) rfl (by rw [hml]; rfl) rfl (hb hby d2_1) (by decide) (W := 0) (by show 2 * 0 + _ ≤ _; exact Nat.le_of_eq rfl) (by decide)
  have pre3 : ∀ t, Steps p.tables e below (T2.setTop (mkF m 4 #[.val (.ref o0), .val .null, .val (.ref o2), .val (.long q3), .second, .unset] [])) t → Steps p.tables e below (s₁.setTop (entryFrame m #[(.ref o0), .null, (.ref o2), (.long q3)] 6)) t := fun t k => pre1 t (st2 _ k)
  have pre4 : ∀ t, Steps p.tables e below (T2.setTop (mkF m 5 #[.val (.ref o0), .val .null, .val (.ref o2), .val (.long q3), .second, .unset] [(.ref o2)])) t → Steps p.tables e below (s₁.setTop (entryFrame m #[(.ref o0), .null, (.ref o2), (.long q3)] 6)) t := fun t k => pre3 t (by
    show Steps p.tables e below (T2.setTop (mkF m 4 #[.val (.ref o0), .val .null, .val (.ref o2), .val (.long q3), .second, .unset] [])) _
    refine XS.aloadN X2.here hx rfl (hb hby d2_4) rfl rfl ?_
    exact k)
  obtain ⟨lt5, T5, h5, kk5, X5, e5, E5, hS5, kS5, hZ, hown, st5⟩ := ldcS X2 hx hZ hown (hw _ (List.mem_of_getElem? (i := 15) rfl)) (own_wS hw) e2 hS0 kS0 (g := (mkF m 5 #[.val (.ref o0), .val .null, .val (.ref o2), .val (.long q3), .second, .unset] [(.ref o2)])) rfl (hb hby d2_5) (n := 28) (by decide) (by decide) (by decide) (by decide)
  have K5 : Keep h0 h5 [o0] := K0.ext E5
  have Z5 : n0 ≤ h5.size := Nat.le_trans Z0 E5.1
  have x6 := I0.ext E5
  have x7 := I1.ext E5
  have x8 := I2.ext E5
  have x9 := I3.ext E5
  have x10 := I4.ext E5
  have pre11 : ∀ t, Steps p.tables e below (T5.setTop (mkF m 7 #[.val (.ref o0), .val .null, .val (.ref o2), .val (.long q3), .second, .unset] [(.ref lt5), (.ref o2)])) t → Steps p.tables e below (s₁.setTop (entryFrame m #[(.ref o0), .null, (.ref o2), (.long q3)] 6)) t := fun t k => pre4 t (st5 _ k)
  obtain ⟨_, _, ⟨T12, L12, k12, n12⟩, -, X12, ⟨Lc12, hQ12, l12, y12, z12⟩, st12⟩ := Jvm.LawKit.callS X5 hx (y := (⟨"java/util/Objects", "requireNonNull", "(Ljava/lang/Object;Ljava/lang/String;)Ljava/lang/Object;"⟩ : MethodName)) hown (mvT hZ (hw _ (List.mem_of_getElem? (i := 22) rfl))) (mvT hZ (hw _ (List.mem_of_getElem? (i := 23) rfl))) (mvT hZ (hw _ (List.mem_of_getElem? (i := 24) rfl))) (mvT hZ (hw _ (List.mem_of_getElem? (i := 25) rfl))) (by decide) (backOf (W := 0) (rm4 l Z a0 hw [] o2 lt5 h5 n0 Z5) hZ (hw _ (List.mem_of_getElem? (i := 25) rfl)) (hw _ (List.mem_of_getElem? (i := 24) rfl)) (by decide) (by decide)) (g := (mkF m 7 #[.val (.ref o0), .val .null, .val (.ref o2), .val (.long q3), .second, .unset] [(.ref lt5), (.ref o2)])) rfl (by rw [hml]; rfl) (argsL := [(.ref o2), (.ref lt5)]) (rest := []) (lenOf pd__Ljava_lang_Object_Ljava_lang_String__Ljava_lang_Object_ rfl) rfl (by show 2 * 0 + _ ≤ _; exact Nat.le_of_eq rfl) (hb hby d2_7) (fun _ _ => ⟨rfl, e5, (by decide : 2 + 0 ≤ _), (by decide : 32 + 0 ≤ _)⟩)
  dsimp only [Pt.U, Pt.locs, Pt.cells, Pt.slots] at X12 l12 y12 z12 st12 hQ12
  subst l12 y12 z12
  obtain ⟨rfl, Nq12, e12⟩ := hQ12
  have N12 := Fr.app N0 Nq12
  have pre13 : ∀ t, Steps p.tables e below (T12.setTop (mkF m 10 #[.val (.ref o0), .val .null, .val (.ref o2), .val (.long q3), .second, .unset] [(.ref (f4 o2))])) t → Steps p.tables e below (s₁.setTop (entryFrame m #[(.ref o0), .null, (.ref o2), (.long q3)] 6)) t := fun t k => pre11 t (st12 _ k)
  have pre14 : ∀ t, Steps p.tables e below (T12.setTop (mkF m 12 #[.val (.ref o0), .val .null, .val (.ref o2), .val (.long q3), .second, .unset] [(.ref o2)])) t → Steps p.tables e below (s₁.setTop (entryFrame m #[(.ref o0), .null, (.ref o2), (.long q3)] 6)) t := fun t k => pre13 t (by
    show Steps p.tables e below (T12.setTop (mkF m 10 #[.val (.ref o0), .val .null, .val (.ref o2), .val (.long q3), .second, .unset] [(.ref (f4 o2))])) _
    refine XS.pop X12.here hx rfl (hb hby d2_10) rfl rfl ?_
    show Steps p.tables e below (T12.setTop (mkF m 11 #[.val (.ref o0), .val .null, .val (.ref o2), .val (.long q3), .second, .unset] [])) _
    refine XS.aloadN X12.here hx rfl (hb hby d2_11) rfl rfl ?_
    exact k)
  obtain ⟨cl15, Ar15, -, Sz15, Mn15, Hs15, -⟩ := id x10
  have pre16 : ∀ t, Steps p.tables e below (T12.setTop (mkF m 13 #[.val (.ref o0), .val .null, .val (.ref o2), .val (.long q3), .second, .unset] [(.int n)])) t → Steps p.tables e below (s₁.setTop (entryFrame m #[(.ref o0), .null, (.ref o2), (.long q3)] 6)) t := fun t k => pre14 t (by
    show Steps p.tables e below (T12.setTop (mkF m 12 #[.val (.ref o0), .val .null, .val (.ref o2), .val (.long q3), .second, .unset] [(.ref o2)])) _
    refine X12.arraylength hx (by rw [e12]; exact Ar15.1) (State.isArrayOf_alike hZ.alike Ar15.2.1) (g := (mkF m 12 #[.val (.ref o0), .val .null, .val (.ref o2), .val (.long q3), .second, .unset] [(.ref o2)])) rfl rfl (hb hby d2_12) _ ?_
    rw [len_of Sz15 Mn15]
    exact k)
  have pre17 : ∀ t, Steps p.tables e below (T12.setTop (mkF m 72 #[.val (.ref o0), .val .null, .val (.ref o2), .val (.long q3), .second, .unset] [(.long q3), (.ref o0)])) t → Steps p.tables e below (s₁.setTop (entryFrame m #[(.ref o0), .null, (.ref o2), (.long q3)] 6)) t := fun t k => pre16 t (by
    show Steps p.tables e below (T12.setTop (mkF m 13 #[.val (.ref o0), .val .null, .val (.ref o2), .val (.long q3), .second, .unset] [(.int n)])) _
    refine X12.ldcInt hx hown (mvT hZ (hw _ (List.mem_of_getElem? (i := 26) rfl))) (g := (mkF m 13 #[.val (.ref o0), .val .null, .val (.ref o2), .val (.long q3), .second, .unset] [(.int n)])) rfl (hb hby d2_13) _ ?_
    show Steps p.tables e below (T12.setTop (mkF m 15 #[.val (.ref o0), .val .null, .val (.ref o2), .val (.long q3), .second, .unset] [(.int (1048576 : Int32)), (.int n)])) _
    refine XS.icmpYes X12.here hx rfl (pc0 := 15) (pc' := 28) rfl (hb hby d2_15) rfl (flt hle).2.2.2 (by decide) (by decide) ?_
    show Steps p.tables e below (T12.setTop (mkF m 28 #[.val (.ref o0), .val .null, .val (.ref o2), .val (.long q3), .second, .unset] [])) _
    refine XS.aloadN X12.here hx rfl (hb hby d2_28) rfl rfl ?_
    show Steps p.tables e below (T12.setTop (mkF m 29 #[.val (.ref o0), .val .null, .val (.ref o2), .val (.long q3), .second, .unset] [.null])) _
    refine XS.ifnullYes X12.here hx rfl (pc0 := 29) (pc' := 70) rfl (hb hby d2_29) rfl (by decide) (by decide) ?_
    show Steps p.tables e below (T12.setTop (mkF m 70 #[.val (.ref o0), .val .null, .val (.ref o2), .val (.long q3), .second, .unset] [])) _
    refine XS.aloadN X12.here hx rfl (hb hby d2_70) rfl rfl ?_
    show Steps p.tables e below (T12.setTop (mkF m 71 #[.val (.ref o0), .val .null, .val (.ref o2), .val (.long q3), .second, .unset] [(.ref o0)])) _
    refine XS.lloadN X12.here hx rfl (hb hby d2_71) rfl ?_
    exact k)
  obtain ⟨T18, h18, X18, e18, W18, st18⟩ := putF X12 hx hZ hown (host := "") (Or.inl (hw _ (List.mem_of_getElem? (i := 27) rfl))) Via.refl e12 x7 x6 (Or.inr ⟨(hw _ (List.mem_of_getElem? (i := 28) rfl)), rfl, hnm⟩) (hw _ (List.mem_of_getElem? (i := 3) rfl)) (ty := .long) (by decide) rfl rfl (g := (mkF m 72 #[.val (.ref o0), .val .null, .val (.ref o2), .val (.long q3), .second, .unset] [(.long q3), (.ref o0)])) rfl rfl (hb hby d2_72)
  have N18 := Fr.snoc X18 N12 gw_o0
  have K18 : Keep h0 h18 [o0] := K5.wr W18 (Or.inl (List.mem_of_getElem? (i := 0) rfl))
  have Z18 : n0 ≤ h18.size := Nat.le_trans Z5 (Keep.of_wr W18).1
  have x19 := x6.wr W18
  have x20 := x7.same W18
  have x21 := x8.other W18 (Or.inr (slot_ne (Or.inr (hw _ (List.mem_of_getElem? (i := 30) rfl))) (Or.inr (hw _ (List.mem_of_getElem? (i := 28) rfl))) (by decide) (t := (.object "java/lang/String")) (t' := .long) (by decide) (by decide)))
  have x22 := x9.other W18 (Or.inr (slot_ne (Or.inr (hw _ (List.mem_of_getElem? (i := 32) rfl))) (Or.inr (hw _ (List.mem_of_getElem? (i := 28) rfl))) (by decide) (t := (.array .byte)) (t' := .long) (by decide) (by decide)))
  have x23 := x10.other W18 ne_o2_o0
  have pre24 : ∀ t, Steps p.tables e below (T18.setTop (mkF m 75 #[.val (.ref o0), .val .null, .val (.ref o2), .val (.long q3), .second, .unset] [])) t → Steps p.tables e below (s₁.setTop (entryFrame m #[(.ref o0), .null, (.ref o2), (.long q3)] 6)) t := fun t k => pre17 t (st18 _ k)
  have kS18 : _ ≤ h18.size := Nat.le_trans kS5 (Keep.of_wr W18).1
  have pre25 : ∀ t, Steps p.tables e below (T18.setTop (mkF m 77 #[.val (.ref o0), .val .null, .val (.ref o2), .val (.long q3), .second, .unset] [.null, (.ref o0)])) t → Steps p.tables e below (s₁.setTop (entryFrame m #[(.ref o0), .null, (.ref o2), (.long q3)] 6)) t := fun t k => pre24 t (by
    show Steps p.tables e below (T18.setTop (mkF m 75 #[.val (.ref o0), .val .null, .val (.ref o2), .val (.long q3), .second, .unset] [])) _
    refine XS.aloadN X18.here hx rfl (hb hby d2_75) rfl rfl ?_
    show Steps p.tables e below (T18.setTop (mkF m 76 #[.val (.ref o0), .val .null, .val (.ref o2), .val (.long q3), .second, .unset] [(.ref o0)])) _
    refine XS.aloadN X18.here hx rfl (hb hby d2_76) rfl rfl ?_
    exact k)
  obtain ⟨T26, h26, X26, e26, W26, st26⟩ := putF X18 hx hZ hown (host := "") (Or.inl (hw _ (List.mem_of_getElem? (i := 29) rfl))) Via.refl e18 x21 x19 (Or.inr ⟨(hw _ (List.mem_of_getElem? (i := 30) rfl)), rfl, hnm⟩) (hw _ (List.mem_of_getElem? (i := 3) rfl)) (ty := (.object "java/lang/String")) (by decide) rfl rfl (g := (mkF m 77 #[.val (.ref o0), .val .null, .val (.ref o2), .val (.long q3), .second, .unset] [.null, (.ref o0)])) rfl rfl (hb hby d2_77)
  have N26 := Fr.snoc X26 N18 gw_o0
  have K26 : Keep h0 h26 [o0] := K18.wr W26 (Or.inl (List.mem_of_getElem? (i := 0) rfl))
  have Z26 : n0 ≤ h26.size := Nat.le_trans Z18 (Keep.of_wr W26).1
  have x27 := x19.wr W26
  have x28 := x20.other W26 (Or.inr (slot_ne (Or.inr (hw _ (List.mem_of_getElem? (i := 28) rfl))) (Or.inr (hw _ (List.mem_of_getElem? (i := 30) rfl))) (by decide) (t := .long) (t' := (.object "java/lang/String")) (by decide) (by decide)))
  have x29 := x21.same W26
  have x30 := x22.other W26 (Or.inr (slot_ne (Or.inr (hw _ (List.mem_of_getElem? (i := 32) rfl))) (Or.inr (hw _ (List.mem_of_getElem? (i := 30) rfl))) (by decide) (t := (.array .byte)) (t' := (.object "java/lang/String")) (by decide) (by decide)))
  have x31 := x23.other W26 ne_o2_o0
  have pre32 : ∀ t, Steps p.tables e below (T26.setTop (mkF m 80 #[.val (.ref o0), .val .null, .val (.ref o2), .val (.long q3), .second, .unset] [])) t → Steps p.tables e below (s₁.setTop (entryFrame m #[(.ref o0), .null, (.ref o2), (.long q3)] 6)) t := fun t k => pre25 t (st26 _ k)
  have kS26 : _ ≤ h26.size := Nat.le_trans kS18 (Keep.of_wr W26).1
  have pre33 : ∀ t, Steps p.tables e below (T26.setTop (mkF m 82 #[.val (.ref o0), .val .null, .val (.ref o2), .val (.long q3), .second, .unset] [(.ref o2), (.ref o0)])) t → Steps p.tables e below (s₁.setTop (entryFrame m #[(.ref o0), .null, (.ref o2), (.long q3)] 6)) t := fun t k => pre32 t (by
    show Steps p.tables e below (T26.setTop (mkF m 80 #[.val (.ref o0), .val .null, .val (.ref o2), .val (.long q3), .second, .unset] [])) _
    refine XS.aloadN X26.here hx rfl (hb hby d2_80) rfl rfl ?_
    show Steps p.tables e below (T26.setTop (mkF m 81 #[.val (.ref o0), .val .null, .val (.ref o2), .val (.long q3), .second, .unset] [(.ref o0)])) _
    refine XS.aloadN X26.here hx rfl (hb hby d2_81) rfl rfl ?_
    exact k)
  obtain ⟨T34, h34, X34, e34, W34, st34⟩ := putF X26 hx hZ hown (host := "") (Or.inl (hw _ (List.mem_of_getElem? (i := 31) rfl))) Via.refl e26 x30 x27 (Or.inr ⟨(hw _ (List.mem_of_getElem? (i := 32) rfl)), rfl, hnm⟩) (hw _ (List.mem_of_getElem? (i := 3) rfl)) (ty := (.array .byte)) (by decide) rfl rfl (g := (mkF m 82 #[.val (.ref o0), .val .null, .val (.ref o2), .val (.long q3), .second, .unset] [(.ref o2), (.ref o0)])) rfl rfl (hb hby d2_82)
  have N34 := Fr.snoc X34 N26 gw_o0
  have K34 : Keep h0 h34 [o0] := K26.wr W34 (Or.inl (List.mem_of_getElem? (i := 0) rfl))
  have Z34 : n0 ≤ h34.size := Nat.le_trans Z26 (Keep.of_wr W34).1
  have x35 := x27.wr W34
  have x36 := x28.other W34 (Or.inr (slot_ne (Or.inr (hw _ (List.mem_of_getElem? (i := 28) rfl))) (Or.inr (hw _ (List.mem_of_getElem? (i := 32) rfl))) (by decide) (t := .long) (t' := (.array .byte)) (by decide) (by decide)))
  have x37 := x29.other W34 (Or.inr (slot_ne (Or.inr (hw _ (List.mem_of_getElem? (i := 30) rfl))) (Or.inr (hw _ (List.mem_of_getElem? (i := 32) rfl))) (by decide) (t := (.object "java/lang/String")) (t' := (.array .byte)) (by decide) (by decide)))
  have x38 := x30.same W34
  have x39 := x31.other W34 ne_o2_o0
  have pre40 : ∀ t, Steps p.tables e below (T34.setTop (mkF m 85 #[.val (.ref o0), .val .null, .val (.ref o2), .val (.long q3), .second, .unset] [])) t → Steps p.tables e below (s₁.setTop (entryFrame m #[(.ref o0), .null, (.ref o2), (.long q3)] 6)) t := fun t k => pre33 t (st34 _ k)
  have kS34 : _ ≤ h34.size := Nat.le_trans kS26 (Keep.of_wr W34).1
  obtain ⟨fs, hr, hrun, hended, hE⟩ := X34.leaveW hS5 (by rw [e34]; exact kS34) (v := none) (fun _ => rfl)
  refine ⟨_, _, ?_, hrun, hended, _, _, rfl, ?_, hE.1, hE.2.1, hE.2.2.1, hE.2.2.2.mono (by decide) (by decide)⟩
  · exact pre40 _ (X34.returnOut hx Bd.returns (hb hby d2_85) hr)
  · show Q2_n Z o0 o2 q3 kb n h0 n0 _ T34.heap _
    rw [e34]
    exact ⟨rfl, N34, K34, x35, x36, x37, x38⟩
theorem d1_0 : decode prog_18_method_2_code 0 = .ok (.aload_n 0, 1) := by decide +kernel
theorem d1_1 : decode prog_18_method_2_code 1 = .ok (.aload_n 1, 1) := by decide +kernel
theorem d1_2 : decode prog_18_method_2_code 2 = .ok (.aload_n 2, 1) := by decide +kernel
theorem d1_3 : decode prog_18_method_2_code 3 = .ok (.ldc2_w 11, 3) := by decide +kernel
theorem d1_6 : decode prog_18_method_2_code 6 = .ok (.invokespecial 7, 3) := by decide +kernel
theorem d1_9 : decode prog_18_method_2_code 9 = .ok (.return_, 1) := by decide +kernel
theorem pn_1 : plainName "com/example/oncemark/oncemark/OutgoingMessage" = true := by first | (simp [plainName, overriddenIn]; done) | decide +kernel
theorem pd__Ljava_lang_String__BJ_V : parseMethodDescriptor "(Ljava/lang/String;[BJ)V" = some ⟨[(.object "java/lang/String"), (.array .byte), .long], none⟩ := by decide +kernel
theorem ef_1_n (m : MethodId) (x0 : Addr) (x2 : Addr) : entryFrame m #[(.ref x0), .null, (.ref x2)] 3 = mkF m 0 #[.val (.ref x0), .val .null, .val (.ref x2)] [] := by first | (simp [entryFrame, mkF, argsToLocals, Value.category]; done) | rfl
def Q1_n (Z : State) (o0 : Addr) (o2 : Addr) (kb : ClassId) (n : Int32) (h0 : Heap) (n0 : Nat) (v : Option Value) (h : Heap) (L : List Loc) : Prop := v = none ∧ Fr n0 L ∧ Keep h0 h [o0] ∧ Exa Z h o0 "com/example/oncemark/oncemark/OutgoingMessage" ∧ Fld Z h o0 "com/example/oncemark/oncemark/OutgoingMessage" "sequenceId" "J" (.long (-1 : Int64)) ∧ Fld Z h o0 "com/example/oncemark/oncemark/OutgoingMessage" "key" "Ljava/lang/String;" .null ∧ Fld Z h o0 "com/example/oncemark/oncemark/OutgoingMessage" "payload" "[B" (.ref o2)
set_option maxRecDepth 65536 in
set_option maxHeartbeats 40000000 in
theorem rm1_n (l : Launch) (Z : State) (a0 : Array Value) (hw : ∀ d ∈ tables_1, d.before a0 Z = true) (ws : List Jvm.Cond) (o0 : Addr) (o2 : Addr) (kb : ClassId) (n : Int32) (h0 : Heap) (n0 : Nat) (Z0 : n0 ≤ h0.size) (I0 : Exa Z h0 o0 "com/example/oncemark/oncemark/OutgoingMessage") (I1 : Fld Z h0 o0 "com/example/oncemark/oncemark/OutgoingMessage" "sequenceId" "J" (.long (0 : Int64))) (I2 : Fld Z h0 o0 "com/example/oncemark/oncemark/OutgoingMessage" "key" "Ljava/lang/String;" .null) (I3 : Fld Z h0 o0 "com/example/oncemark/oncemark/OutgoingMessage" "payload" "[B" .null) (I4 : Arh Z h0 o2 kb .byte n [] [] (.int (0 : Int32))) (gw_o0 : n0 ≤ o0) (ne_o2_o0 : o2 ≠ o0) (hle : ¬ ((1048576 : Int32) < n)) :
    MetFree l (⟨"com/example/oncemark/oncemark/OutgoingMessage", "<init>", "(Ljava/lang/String;[B)V"⟩ : MethodName) (head1 (Jvm.Cond.code (⟨"com/example/oncemark/oncemark/OutgoingMessage", "<init>", "(Ljava/lang/String;[B)V"⟩ : MethodName) prog_18_method_2_code 3 none :: ws) ({ frames := 2, cells := 2, slots := 32, locals := 30 } : Room)) (fun a U => a = #[(.ref o0), .null, (.ref o2)] ∧ Z.Warmed39 U.vm ∧ U.heap = h0) (fun _ _ _ _ _ => True) (fun _ U o U' => ∃ v L, o = .returned v ∧ Q1_n Z o0 o2 kb n h0 n0 v U'.heap L ∧ ReturnedEndW U o U' L ({ frames := 2, cells := 2, slots := 32, locals := 30 } : Room).cells ({ frames := 2, cells := 2, slots := 32, locals := 30 } : Room).slots) := by
  refine MetFree.of_bodySF (plainFor_of_name pn_1) hisR ?_
  intro p e s m args below meth c s₁ Bd hml0 hP hK
  obtain ⟨rfl, hZ, hh⟩ := hP
  have hx := Bd.exec
  have hby := Bd.bytes
  have hml : c.maxLocals = 3 := hml0
  have hown : s.vm.findClass "com/example/oncemark/oncemark/OutgoingMessage" = some m.cls := findClass_of_methodNamed Bd.named
  have hnm := (name_of_methodNamed Bd.named Bd.method).1
  have X0 : Stand p l e ({ frames := 2, cells := 2, slots := 32, locals := 30 } : Room) (s.setVm s.vm) m #[(.ref o0), .null, (.ref o2)] below meth c s₁ [] 0 0 := by rw [State.setVm_self]; exact Stand.of_body Bd
  have hS0 : s.Since s.vm h0.size := (State.WarmedH.refl s).since _
  have kS0 : h0.size ≤ h0.size := Nat.le_refl _
  have hZ : Z.Warmed39 (s.setVm s.vm).vm := hZ
  have hown : (s.setVm s.vm).vm.findClass "com/example/oncemark/oncemark/OutgoingMessage" = some m.cls := hown
  have e0 : s₁.heap = h0 := by rw [← hh, Bd.state]; rfl
  have N0 := Fr.nil n0
  have K0 : Keep h0 h0 [o0] := Keep.refl _ _
  have pre0 : ∀ t, Steps p.tables e below (s₁.setTop (mkF m 0 #[.val (.ref o0), .val .null, .val (.ref o2)] [])) t → Steps p.tables e below (s₁.setTop (entryFrame m #[(.ref o0), .null, (.ref o2)] 3)) t := fun t k => castTop (ef_1_n m o0 o2) k
  have pre1 : ∀ t, Steps p.tables e below (s₁.setTop (mkF m 6 #[.val (.ref o0), .val .null, .val (.ref o2)] [(.long (-1 : Int64)), (.ref o2), .null, (.ref o0)])) t → Steps p.tables e below (s₁.setTop (entryFrame m #[(.ref o0), .null, (.ref o2)] 3)) t := fun t k => pre0 t (by
    show Steps p.tables e below (s₁.setTop (mkF m 0 #[.val (.ref o0), .val .null, .val (.ref o2)] [])) _
    refine XS.aloadN X0.here hx rfl (hb hby d1_0) rfl rfl ?_
    show Steps p.tables e below (s₁.setTop (mkF m 1 #[.val (.ref o0), .val .null, .val (.ref o2)] [(.ref o0)])) _
    refine XS.aloadN X0.here hx rfl (hb hby d1_1) rfl rfl ?_
    show Steps p.tables e below (s₁.setTop (mkF m 2 #[.val (.ref o0), .val .null, .val (.ref o2)] [.null, (.ref o0)])) _
    refine XS.aloadN X0.here hx rfl (hb hby d1_2) rfl rfl ?_
    show Steps p.tables e below (s₁.setTop (mkF m 3 #[.val (.ref o0), .val .null, .val (.ref o2)] [(.ref o2), .null, (.ref o0)])) _
    refine X0.ldc2Long hx hown (mvT hZ (hw _ (List.mem_of_getElem? (i := 8) rfl))) (g := (mkF m 3 #[.val (.ref o0), .val .null, .val (.ref o2)] [(.ref o2), .null, (.ref o0)])) rfl (hb hby d1_3) _ ?_
    exact k)
  obtain ⟨_, _, ⟨T2, L2, k2, n2⟩, -, X2, hSn2, hgn2, ⟨Lc2, hQ2, l2, y2, z2⟩, st2⟩ := X0.specialBackS hx (y := (⟨"com/example/oncemark/oncemark/OutgoingMessage", "<init>", "(Ljava/lang/String;[BJ)V"⟩ : MethodName)) rfl hown (mvT hZ (hw _ (List.mem_of_getElem? (i := 9) rfl))) (mvT hZ (hw _ (List.mem_of_getElem? (i := 10) rfl))) (mvT hZ (hw _ (List.mem_of_getElem? (i := 11) rfl))) (by decide) (backOfS (W := 0) (rm2_n l Z a0 hw [] o0 o2 (-1 : Int64) _ n h0 n0 Z0 I0 I1 I2 I3 I4 gw_o0 ne_o2_o0 hle) hZ (hw _ (List.mem_of_getElem? (i := 11) rfl)) (hw _ (List.mem_of_getElem? (i := 4) rfl)) (by decide) (by decide)) (g := (mkF m 6 #[.val (.ref o0), .val .null, .val (.ref o2)] [(.long (-1 : Int64)), (.ref o2), .null, (.ref o0)])) rfl (by rw [hml]; rfl) (Steps.refl _) (a := o0) (argsL := [.null, (.ref o2), (.long (-1 : Int64))]) (rest := []) (lenOf pd__Ljava_lang_String__BJ_V rfl) rfl (by show 2 * 0 + _ ≤ _; exact Nat.le_of_eq rfl) (hb hby d1_6) (fun _ _ => ⟨rfl, e0, (by decide : 0 + 2 ≤ _), (by decide : 0 + 32 ≤ _)⟩)
  dsimp only [Pt.U, Pt.locs, Pt.cells, Pt.slots] at X2 l2 y2 z2 st2 hQ2 hSn2 hgn2
  subst l2 y2 z2
  obtain ⟨X2, hS2, hZ, hown⟩ := rebS hS0 (by rw [e0]; exact kS0) X2 hSn2 hgn2 hZ hown
  obtain ⟨rfl, Nq2, Kq2, o2_0, o2_1, o2_2, o2_3⟩ := hQ2
  have N2 := Fr.app N0 Nq2
  have K2 : Keep h0 T2.heap [o0] := K0.trans Kq2 (allS (Or.inl (List.mem_of_getElem? (i := 0) rfl)) all0)
  have Z2 : n0 ≤ T2.heap.size := Nat.le_trans Z0 Kq2.1
  have x3 := I0.keep Kq2
  have x4 := I4.keep Kq2 (ninS ne_o2_o0 nin0)
  have pre5 : ∀ t, Steps p.tables e below (T2.setTop (mkF m 9 #[.val (.ref o0), .val .null, .val (.ref o2)] [])) t → Steps p.tables e below (s₁.setTop (entryFrame m #[(.ref o0), .null, (.ref o2)] 3)) t := fun t k => pre1 t (st2.trans k)
  obtain ⟨fs, hr, hrun, hended, hE⟩ := X2.leaveW hS2 (Nat.le_refl _) (v := none) (fun _ => rfl)
  refine ⟨_, _, ?_, hrun, hended, _, _, rfl, ?_, hE.1, hE.2.1, hE.2.2.1, hE.2.2.2.mono (by decide) (by decide)⟩
  · exact pre5 _ (X2.returnOut hx Bd.returns (hb hby d1_9) hr)
  · show Q1_n Z o0 o2 kb n h0 n0 _ T2.heap _
    skip
    exact ⟨rfl, N2, K2, o2_0, o2_1, o2_2, o2_3⟩
theorem d5_0 : decode prog_18_method_1_code 0 = .ok (.aload_n 0, 1) := by decide +kernel
theorem d5_1 : decode prog_18_method_1_code 1 = .ok (.aload_n 3, 1) := by decide +kernel
theorem d5_2 : decode prog_18_method_1_code 2 = .ok (.aload 4, 2) := by decide +kernel
theorem d5_4 : decode prog_18_method_1_code 4 = .ok (.lload_n 1, 1) := by decide +kernel
theorem d5_5 : decode prog_18_method_1_code 5 = .ok (.invokestatic 1, 3) := by decide +kernel
theorem d5_8 : decode prog_18_method_1_code 8 = .ok (.invokespecial 7, 3) := by decide +kernel
theorem d5_11 : decode prog_18_method_1_code 11 = .ok (.return_, 1) := by decide +kernel
theorem pn_5 : plainName "com/example/oncemark/oncemark/OutgoingMessage" = true := by first | (simp [plainName, overriddenIn]; done) | decide +kernel
theorem pd__J_J : parseMethodDescriptor "(J)J" = some ⟨[.long], some .long⟩ := by decide +kernel
theorem ef_5_n (m : MethodId) (x0 : Addr) (x1 : Int64) (x3 : Addr) : entryFrame m #[(.ref x0), (.long x1), .null, (.ref x3)] 5 = mkF m 0 #[.val (.ref x0), .val (.long x1), .second, .val .null, .val (.ref x3)] [] := by first | (simp [entryFrame, mkF, argsToLocals, Value.category]; done) | rfl
def Q5_n (Z : State) (o0 : Addr) (q1 : Int64) (o3 : Addr) (kb : ClassId) (n : Int32) (h0 : Heap) (n0 : Nat) (v : Option Value) (h : Heap) (L : List Loc) : Prop := v = none ∧ Fr n0 L ∧ Keep h0 h [o0] ∧ Exa Z h o0 "com/example/oncemark/oncemark/OutgoingMessage" ∧ Fld Z h o0 "com/example/oncemark/oncemark/OutgoingMessage" "sequenceId" "J" (.long (f6 q1)) ∧ Fld Z h o0 "com/example/oncemark/oncemark/OutgoingMessage" "key" "Ljava/lang/String;" .null ∧ Fld Z h o0 "com/example/oncemark/oncemark/OutgoingMessage" "payload" "[B" (.ref o3)
set_option maxRecDepth 65536 in
set_option maxHeartbeats 40000000 in
theorem rm5_n (l : Launch) (Z : State) (a0 : Array Value) (hw : ∀ d ∈ tables_1, d.before a0 Z = true) (ws : List Jvm.Cond) (o0 : Addr) (q1 : Int64) (o3 : Addr) (kb : ClassId) (n : Int32) (h0 : Heap) (n0 : Nat) (Z0 : n0 ≤ h0.size) (I0 : Exa Z h0 o0 "com/example/oncemark/oncemark/OutgoingMessage") (I1 : Fld Z h0 o0 "com/example/oncemark/oncemark/OutgoingMessage" "sequenceId" "J" (.long (0 : Int64))) (I2 : Fld Z h0 o0 "com/example/oncemark/oncemark/OutgoingMessage" "key" "Ljava/lang/String;" .null) (I3 : Fld Z h0 o0 "com/example/oncemark/oncemark/OutgoingMessage" "payload" "[B" .null) (I4 : Arh Z h0 o3 kb .byte n [] [] (.int (0 : Int32))) (gw_o0 : n0 ≤ o0) (ne_o3_o0 : o3 ≠ o0) (hq : ¬ (q1 < (0 : Int64))) (hle : ¬ ((1048576 : Int32) < n)) :
    MetFree l (⟨"com/example/oncemark/oncemark/OutgoingMessage", "<init>", "(JLjava/lang/String;[B)V"⟩ : MethodName) (head1 (Jvm.Cond.code (⟨"com/example/oncemark/oncemark/OutgoingMessage", "<init>", "(JLjava/lang/String;[B)V"⟩ : MethodName) prog_18_method_1_code 5 none :: ws) ({ frames := 2, cells := 2, slots := 32, locals := 30 } : Room)) (fun a U => a = #[(.ref o0), (.long q1), .null, (.ref o3)] ∧ Z.Warmed39 U.vm ∧ U.heap = h0) (fun _ _ _ _ _ => True) (fun _ U o U' => ∃ v L, o = .returned v ∧ Q5_n Z o0 q1 o3 kb n h0 n0 v U'.heap L ∧ ReturnedEndW U o U' L ({ frames := 2, cells := 2, slots := 32, locals := 30 } : Room).cells ({ frames := 2, cells := 2, slots := 32, locals := 30 } : Room).slots) := by
  refine MetFree.of_bodySF (plainFor_of_name pn_5) hisR ?_
  intro p e s m args below meth c s₁ Bd hml0 hP hK
  obtain ⟨rfl, hZ, hh⟩ := hP
  have hx := Bd.exec
  have hby := Bd.bytes
  have hml : c.maxLocals = 5 := hml0
  have hown : s.vm.findClass "com/example/oncemark/oncemark/OutgoingMessage" = some m.cls := findClass_of_methodNamed Bd.named
  have hnm := (name_of_methodNamed Bd.named Bd.method).1
  have X0 : Stand p l e ({ frames := 2, cells := 2, slots := 32, locals := 30 } : Room) (s.setVm s.vm) m #[(.ref o0), (.long q1), .null, (.ref o3)] below meth c s₁ [] 0 0 := by rw [State.setVm_self]; exact Stand.of_body Bd
  have hS0 : s.Since s.vm h0.size := (State.WarmedH.refl s).since _
  have kS0 : h0.size ≤ h0.size := Nat.le_refl _
  have hZ : Z.Warmed39 (s.setVm s.vm).vm := hZ
  have hown : (s.setVm s.vm).vm.findClass "com/example/oncemark/oncemark/OutgoingMessage" = some m.cls := hown
  have e0 : s₁.heap = h0 := by rw [← hh, Bd.state]; rfl
  have N0 := Fr.nil n0
  have K0 : Keep h0 h0 [o0] := Keep.refl _ _
  have pre0 : ∀ t, Steps p.tables e below (s₁.setTop (mkF m 0 #[.val (.ref o0), .val (.long q1), .second, .val .null, .val (.ref o3)] [])) t → Steps p.tables e below (s₁.setTop (entryFrame m #[(.ref o0), (.long q1), .null, (.ref o3)] 5)) t := fun t k => castTop (ef_5_n m o0 q1 o3) k
  have pre1 : ∀ t, Steps p.tables e below (s₁.setTop (mkF m 5 #[.val (.ref o0), .val (.long q1), .second, .val .null, .val (.ref o3)] [(.long q1), (.ref o3), .null, (.ref o0)])) t → Steps p.tables e below (s₁.setTop (entryFrame m #[(.ref o0), (.long q1), .null, (.ref o3)] 5)) t := fun t k => pre0 t (by
    show Steps p.tables e below (s₁.setTop (mkF m 0 #[.val (.ref o0), .val (.long q1), .second, .val .null, .val (.ref o3)] [])) _
    refine XS.aloadN X0.here hx rfl (hb hby d5_0) rfl rfl ?_
    show Steps p.tables e below (s₁.setTop (mkF m 1 #[.val (.ref o0), .val (.long q1), .second, .val .null, .val (.ref o3)] [(.ref o0)])) _
    refine XS.aloadN X0.here hx rfl (hb hby d5_1) rfl rfl ?_
    show Steps p.tables e below (s₁.setTop (mkF m 2 #[.val (.ref o0), .val (.long q1), .second, .val .null, .val (.ref o3)] [.null, (.ref o0)])) _
    refine XS.aload X0.here hx rfl (hb hby d5_2) rfl rfl ?_
    show Steps p.tables e below (s₁.setTop (mkF m 4 #[.val (.ref o0), .val (.long q1), .second, .val .null, .val (.ref o3)] [(.ref o3), .null, (.ref o0)])) _
    refine XS.lloadN X0.here hx rfl (hb hby d5_4) rfl ?_
    exact k)
  obtain ⟨_, _, ⟨T2, L2, k2, n2⟩, -, X2, ⟨Lc2, hQ2, l2, y2, z2⟩, st2⟩ := Jvm.LawKit.callS X0 hx (y := (⟨"com/example/oncemark/oncemark/OutgoingMessage", "checkedSequenceId", "(J)J"⟩ : MethodName)) hown (mvT hZ (hw _ (List.mem_of_getElem? (i := 36) rfl))) (mvT hZ (hw _ (List.mem_of_getElem? (i := 37) rfl))) (mvT hZ (hw _ (List.mem_of_getElem? (i := 4) rfl))) (mvT hZ (hw _ (List.mem_of_getElem? (i := 38) rfl))) (by decide) (backOf (W := 3) (rm6 l Z a0 hw [] q1 h0 n0 Z0 hq) hZ (hw _ (List.mem_of_getElem? (i := 38) rfl)) (hw _ (List.mem_of_getElem? (i := 4) rfl)) (by decide) (by decide)) (g := (mkF m 5 #[.val (.ref o0), .val (.long q1), .second, .val .null, .val (.ref o3)] [(.long q1), (.ref o3), .null, (.ref o0)])) rfl (by rw [hml]; rfl) (argsL := [(.long q1)]) (rest := [(.ref o3), .null, (.ref o0)]) (lenOf pd__J_J rfl) rfl (by show 2 * 0 + _ ≤ _; exact Nat.le_of_eq rfl) (hb hby d5_5) (fun _ _ => ⟨rfl, e0, (by decide : 0 + 0 ≤ _), (by decide : 0 + 0 ≤ _)⟩)
  dsimp only [Pt.U, Pt.locs, Pt.cells, Pt.slots] at X2 l2 y2 z2 st2 hQ2
  subst l2 y2 z2
  obtain ⟨rfl, Nq2, e2⟩ := hQ2
  have N2 := Fr.app N0 Nq2
  have pre3 : ∀ t, Steps p.tables e below (T2.setTop (mkF m 8 #[.val (.ref o0), .val (.long q1), .second, .val .null, .val (.ref o3)] [(.long (f6 q1)), (.ref o3), .null, (.ref o0)])) t → Steps p.tables e below (s₁.setTop (entryFrame m #[(.ref o0), (.long q1), .null, (.ref o3)] 5)) t := fun t k => pre1 t (st2 _ k)
  obtain ⟨_, _, ⟨T4, L4, k4, n4⟩, -, X4, hSn4, hgn4, ⟨Lc4, hQ4, l4, y4, z4⟩, st4⟩ := X2.specialBackS hx (y := (⟨"com/example/oncemark/oncemark/OutgoingMessage", "<init>", "(Ljava/lang/String;[BJ)V"⟩ : MethodName)) rfl hown (mvT hZ (hw _ (List.mem_of_getElem? (i := 9) rfl))) (mvT hZ (hw _ (List.mem_of_getElem? (i := 10) rfl))) (mvT hZ (hw _ (List.mem_of_getElem? (i := 11) rfl))) (by decide) (backOfS (W := 0) (rm2_n l Z a0 hw [] o0 o3 (f6 q1) _ n h0 n0 Z0 I0 I1 I2 I3 I4 gw_o0 ne_o3_o0 hle) hZ (hw _ (List.mem_of_getElem? (i := 11) rfl)) (hw _ (List.mem_of_getElem? (i := 4) rfl)) (by decide) (by decide)) (g := (mkF m 8 #[.val (.ref o0), .val (.long q1), .second, .val .null, .val (.ref o3)] [(.long (f6 q1)), (.ref o3), .null, (.ref o0)])) rfl (by rw [hml]; rfl) (Steps.refl _) (a := o0) (argsL := [.null, (.ref o3), (.long (f6 q1))]) (rest := []) (lenOf pd__Ljava_lang_String__BJ_V rfl) rfl (by show 2 * 0 + _ ≤ _; exact Nat.le_of_eq rfl) (hb hby d5_8) (fun _ _ => ⟨rfl, e2, (by decide : 0 + 2 ≤ _), (by decide : 0 + 32 ≤ _)⟩)
  dsimp only [Pt.U, Pt.locs, Pt.cells, Pt.slots] at X4 l4 y4 z4 st4 hQ4 hSn4 hgn4
  subst l4 y4 z4
  obtain ⟨X4, hS4, hZ, hown⟩ := rebS hS0 (by rw [e2]; exact kS0) X4 hSn4 hgn4 hZ hown
  obtain ⟨rfl, Nq4, Kq4, o4_0, o4_1, o4_2, o4_3⟩ := hQ4
  have N4 := Fr.app N2 Nq4
  have K4 : Keep h0 T4.heap [o0] := K0.trans Kq4 (allS (Or.inl (List.mem_of_getElem? (i := 0) rfl)) all0)
  have Z4 : n0 ≤ T4.heap.size := Nat.le_trans Z0 Kq4.1
  have x5 := I0.keep Kq4
  have x6 := I4.keep Kq4 (ninS ne_o3_o0 nin0)
  have pre7 : ∀ t, Steps p.tables e below (T4.setTop (mkF m 11 #[.val (.ref o0), .val (.long q1), .second, .val .null, .val (.ref o3)] [])) t → Steps p.tables e below (s₁.setTop (entryFrame m #[(.ref o0), (.long q1), .null, (.ref o3)] 5)) t := fun t k => pre3 t (st4.trans k)
  obtain ⟨fs, hr, hrun, hended, hE⟩ := X4.leaveW hS4 (Nat.le_refl _) (v := none) (fun _ => rfl)
  refine ⟨_, _, ?_, hrun, hended, _, _, rfl, ?_, hE.1, hE.2.1, hE.2.2.1, hE.2.2.2.mono (by decide) (by decide)⟩
  · exact pre7 _ (X4.returnOut hx Bd.returns (hb hby d5_11) hr)
  · show Q5_n Z o0 q1 o3 kb n h0 n0 _ T4.heap _
    skip
    exact ⟨rfl, N4, K4, o4_0, o4_1, o4_2, o4_3⟩
theorem d7_0 : decode prog_18_method_8_code 0 = .ok (.new 2, 3) := by decide +kernel
theorem d7_3 : decode prog_18_method_8_code 3 = .ok (.dup, 1) := by decide +kernel
theorem d7_4 : decode prog_18_method_8_code 4 = .ok (.lload_n 1, 1) := by decide +kernel
theorem d7_5 : decode prog_18_method_8_code 5 = .ok (.aload_n 0, 1) := by decide +kernel
theorem d7_6 : decode prog_18_method_8_code 6 = .ok (.getfield 53, 3) := by decide +kernel
theorem d7_9 : decode prog_18_method_8_code 9 = .ok (.aload_n 0, 1) := by decide +kernel
theorem d7_10 : decode prog_18_method_8_code 10 = .ok (.getfield 56, 3) := by decide +kernel
theorem d7_13 : decode prog_18_method_8_code 13 = .ok (.invokespecial 59, 3) := by decide +kernel
theorem d7_16 : decode prog_18_method_8_code 16 = .ok (.areturn, 1) := by decide +kernel
theorem pn_7 : plainName "com/example/oncemark/oncemark/OutgoingMessage" = true := by first | (simp [plainName, overriddenIn]; done) | decide +kernel
theorem pd__JLjava_lang_String__B_V : parseMethodDescriptor "(JLjava/lang/String;[B)V" = some ⟨[.long, (.object "java/lang/String"), (.array .byte)], none⟩ := by decide +kernel
theorem ef_7_n (m : MethodId) (x0 : Addr) (x1 : Int64) : entryFrame m #[(.ref x0), (.long x1)] 3 = mkF m 0 #[.val (.ref x0), .val (.long x1), .second] [] := by first | (simp [entryFrame, mkF, argsToLocals, Value.category]; done) | rfl
def Q7_n (Z : State) (o0 : Addr) (q1 : Int64) (op : Addr) (kb : ClassId) (n : Int32) (h0 : Heap) (n0 : Nat) (v : Option Value) (h : Heap) (L : List Loc) : Prop := ∃ (b0 : Addr), v = (some (.ref b0)) ∧ Fr n0 L ∧ Keep h0 h [] ∧ h0.size ≤ b0 ∧ Exa Z h b0 "com/example/oncemark/oncemark/OutgoingMessage" ∧ Fld Z h b0 "com/example/oncemark/oncemark/OutgoingMessage" "sequenceId" "J" (.long (f6 q1))
set_option maxRecDepth 65536 in
set_option maxHeartbeats 40000000 in
theorem rm7_n (l : Launch) (Z : State) (a0 : Array Value) (hw : ∀ d ∈ tables_1, d.before a0 Z = true) (ws : List Jvm.Cond) (o0 : Addr) (q1 : Int64) (op : Addr) (kb : ClassId) (n : Int32) (h0 : Heap) (n0 : Nat) (Z0 : n0 ≤ h0.size) (I0 : Fld Z h0 o0 "com/example/oncemark/oncemark/OutgoingMessage" "key" "Ljava/lang/String;" .null) (I1 : Fld Z h0 o0 "com/example/oncemark/oncemark/OutgoingMessage" "payload" "[B" (.ref op)) (I2 : Arh Z h0 op kb .byte n [] [] (.int (0 : Int32))) (hq : ¬ (q1 < (0 : Int64))) (hle : ¬ ((1048576 : Int32) < n)) :
    MetFree l (⟨"com/example/oncemark/oncemark/OutgoingMessage", "numbered", "(J)Lcom/example/oncemark/oncemark/OutgoingMessage;"⟩ : MethodName) (head1 (Jvm.Cond.code (⟨"com/example/oncemark/oncemark/OutgoingMessage", "numbered", "(J)Lcom/example/oncemark/oncemark/OutgoingMessage;"⟩ : MethodName) prog_18_method_8_code 3 (some (.object "com/example/oncemark/oncemark/OutgoingMessage")) :: ws) ({ frames := 3, cells := 3, slots := 35, locals := 47 } : Room)) (fun a U => a = #[(.ref o0), (.long q1)] ∧ Z.Warmed39 U.vm ∧ U.heap = h0) (fun _ _ _ _ _ => True) (fun _ U o U' => ∃ v L, o = .returned v ∧ Q7_n Z o0 q1 op kb n h0 n0 v U'.heap L ∧ ReturnedEndW U o U' L ({ frames := 3, cells := 3, slots := 35, locals := 47 } : Room).cells ({ frames := 3, cells := 3, slots := 35, locals := 47 } : Room).slots) := by
  refine MetFree.of_bodySF (plainFor_of_name pn_7) hisR ?_
  intro p e s m args below meth c s₁ Bd hml0 hP hK
  obtain ⟨rfl, hZ, hh⟩ := hP
  have hx := Bd.exec
  have hby := Bd.bytes
  have hml : c.maxLocals = 3 := hml0
  have hown : s.vm.findClass "com/example/oncemark/oncemark/OutgoingMessage" = some m.cls := findClass_of_methodNamed Bd.named
  have hnm := (name_of_methodNamed Bd.named Bd.method).1
  have X0 : Stand p l e ({ frames := 3, cells := 3, slots := 35, locals := 47 } : Room) (s.setVm s.vm) m #[(.ref o0), (.long q1)] below meth c s₁ [] 0 0 := by rw [State.setVm_self]; exact Stand.of_body Bd
  have hS0 : s.Since s.vm h0.size := (State.WarmedH.refl s).since _
  have kS0 : h0.size ≤ h0.size := Nat.le_refl _
  have hZ : Z.Warmed39 (s.setVm s.vm).vm := hZ
  have hown : (s.setVm s.vm).vm.findClass "com/example/oncemark/oncemark/OutgoingMessage" = some m.cls := hown
  have e0 : s₁.heap = h0 := by rw [← hh, Bd.state]; rfl
  have N0 := Fr.nil n0
  have K0 : Keep h0 h0 [] := Keep.refl _ _
  have pre0 : ∀ t, Steps p.tables e below (s₁.setTop (mkF m 0 #[.val (.ref o0), .val (.long q1), .second] [])) t → Steps p.tables e below (s₁.setTop (entryFrame m #[(.ref o0), (.long q1)] 3)) t := fun t k => castTop (ef_7_n m o0 q1) k
  obtain ⟨T1, h1, X1, e1, E1, A1, D1, -, st1⟩ := newO X0 hx hZ hown (hw _ (List.mem_of_getElem? (i := 44) rfl)) (hw _ (List.mem_of_getElem? (i := 3) rfl)) (hw _ (List.mem_of_getElem? (i := 4) rfl)) e0 (g := (mkF m 0 #[.val (.ref o0), .val (.long q1), .second] [])) rfl (hb hby d7_0) (by decide) (by decide)
  obtain ⟨b0, g1⟩ : ∃ z, z = h0.size := ⟨_, rfl⟩
  rw [← g1] at A1 D1 st1
  have gg1 : n0 ≤ b0 := Nat.le_trans Z0 (Nat.le_of_eq g1.symm)
  have sz1 : h0.size ≤ b0 := Nat.le_trans K0.1 (Nat.le_of_eq g1.symm)
  have K1 : Keep h0 h1 [] := K0.ext E1
  have Z1 : n0 ≤ h1.size := Nat.le_trans Z0 E1.1
  have ne1_o0 : o0 ≠ b0 := Nat.ne_of_lt (Nat.lt_of_lt_of_le I0.lt (Nat.le_of_eq g1.symm))
  have ne1_op : op ≠ b0 := Nat.ne_of_lt (Nat.lt_of_lt_of_le I2.lt (Nat.le_of_eq g1.symm))
  have x2 := I0.ext E1
  have x3 := I1.ext E1
  have x4 := I2.ext E1
  have Fn1_sequenceId : Fld Z h1 b0 "com/example/oncemark/oncemark/OutgoingMessage" "sequenceId" "J" (.long (0 : Int64)) := D1 (Or.inr (hw _ (List.mem_of_getElem? (i := 28) rfl))) (ty := .long) (by decide)
  have Fn1_key : Fld Z h1 b0 "com/example/oncemark/oncemark/OutgoingMessage" "key" "Ljava/lang/String;" .null := D1 (Or.inr (hw _ (List.mem_of_getElem? (i := 30) rfl))) (ty := (.object "java/lang/String")) (by decide)
  have Fn1_payload : Fld Z h1 b0 "com/example/oncemark/oncemark/OutgoingMessage" "payload" "[B" .null := D1 (Or.inr (hw _ (List.mem_of_getElem? (i := 32) rfl))) (ty := (.array .byte)) (by decide)
  have pre5 : ∀ t, Steps p.tables e below (T1.setTop (mkF m 3 #[.val (.ref o0), .val (.long q1), .second] [(.ref b0)])) t → Steps p.tables e below (s₁.setTop (entryFrame m #[(.ref o0), (.long q1)] 3)) t := fun t k => pre0 t (st1 _ k)
  have kS1 : _ ≤ h1.size := Nat.le_trans kS0 E1.1
  have pre6 : ∀ t, Steps p.tables e below (T1.setTop (mkF m 6 #[.val (.ref o0), .val (.long q1), .second] [(.ref o0), (.long q1), (.ref b0), (.ref b0)])) t → Steps p.tables e below (s₁.setTop (entryFrame m #[(.ref o0), (.long q1)] 3)) t := fun t k => pre5 t (by
    show Steps p.tables e below (T1.setTop (mkF m 3 #[.val (.ref o0), .val (.long q1), .second] [(.ref b0)])) _
    refine XS.dup X1.here hx rfl (hb hby d7_3) rfl rfl ?_
    show Steps p.tables e below (T1.setTop (mkF m 4 #[.val (.ref o0), .val (.long q1), .second] [(.ref b0), (.ref b0)])) _
    refine XS.lloadN X1.here hx rfl (hb hby d7_4) rfl ?_
    show Steps p.tables e below (T1.setTop (mkF m 5 #[.val (.ref o0), .val (.long q1), .second] [(.long q1), (.ref b0), (.ref b0)])) _
    refine XS.aloadN X1.here hx rfl (hb hby d7_5) rfl rfl ?_
    exact k)
  obtain ⟨T7, X7, e7, st7⟩ := getF X1 hx hZ hown (host := "") (Or.inl (hw _ (List.mem_of_getElem? (i := 29) rfl))) Via.refl e1 x2 (g := (mkF m 6 #[.val (.ref o0), .val (.long q1), .second] [(.ref o0), (.long q1), (.ref b0), (.ref b0)])) rfl rfl (hb hby d7_6)
  have pre8 : ∀ t, Steps p.tables e below (T7.setTop (mkF m 9 #[.val (.ref o0), .val (.long q1), .second] [.null, (.long q1), (.ref b0), (.ref b0)])) t → Steps p.tables e below (s₁.setTop (entryFrame m #[(.ref o0), (.long q1)] 3)) t := fun t k => pre6 t (st7 _ k)
  have pre9 : ∀ t, Steps p.tables e below (T7.setTop (mkF m 10 #[.val (.ref o0), .val (.long q1), .second] [(.ref o0), .null, (.long q1), (.ref b0), (.ref b0)])) t → Steps p.tables e below (s₁.setTop (entryFrame m #[(.ref o0), (.long q1)] 3)) t := fun t k => pre8 t (by
    show Steps p.tables e below (T7.setTop (mkF m 9 #[.val (.ref o0), .val (.long q1), .second] [.null, (.long q1), (.ref b0), (.ref b0)])) _
    refine XS.aloadN X7.here hx rfl (hb hby d7_9) rfl rfl ?_
    exact k)
  obtain ⟨T10, X10, e10, st10⟩ := getF X7 hx hZ hown (host := "") (Or.inl (hw _ (List.mem_of_getElem? (i := 31) rfl))) Via.refl e7 x3 (g := (mkF m 10 #[.val (.ref o0), .val (.long q1), .second] [(.ref o0), .null, (.long q1), (.ref b0), (.ref b0)])) rfl rfl (hb hby d7_10)
  have pre11 : ∀ t, Steps p.tables e below (T10.setTop (mkF m 13 #[.val (.ref o0), .val (.long q1), .second] [(.ref op), .null, (.long q1), (.ref b0), (.ref b0)])) t → Steps p.tables e below (s₁.setTop (entryFrame m #[(.ref o0), (.long q1)] 3)) t := fun t k => pre9 t (st10 _ k)
  obtain ⟨_, _, ⟨T12, L12, k12, n12⟩, -, X12, hSn12, hgn12, ⟨Lc12, hQ12, l12, y12, z12⟩, st12⟩ := X10.specialBackS hx (y := (⟨"com/example/oncemark/oncemark/OutgoingMessage", "<init>", "(JLjava/lang/String;[B)V"⟩ : MethodName)) rfl hown (mvT hZ (hw _ (List.mem_of_getElem? (i := 45) rfl))) (mvT hZ (hw _ (List.mem_of_getElem? (i := 34) rfl))) (mvT hZ (hw _ (List.mem_of_getElem? (i := 35) rfl))) (by decide) (backOfS (W := 1) (rm5_n l Z a0 hw [] b0 q1 op _ n h1 n0 Z1 A1 Fn1_sequenceId Fn1_key Fn1_payload x4 gg1 ne1_op hq hle) hZ (hw _ (List.mem_of_getElem? (i := 35) rfl)) (hw _ (List.mem_of_getElem? (i := 4) rfl)) (by decide) (by decide)) (g := (mkF m 13 #[.val (.ref o0), .val (.long q1), .second] [(.ref op), .null, (.long q1), (.ref b0), (.ref b0)])) rfl (by rw [hml]; rfl) (Steps.refl _) (a := b0) (argsL := [(.long q1), .null, (.ref op)]) (rest := [(.ref b0)]) (lenOf pd__JLjava_lang_String__B_V rfl) rfl (by show 2 * 0 + _ ≤ _; exact Nat.le_of_eq rfl) (hb hby d7_13) (fun _ _ => ⟨rfl, e10, (by decide : 1 + 2 ≤ _), (by decide : 3 + 32 ≤ _)⟩)
  dsimp only [Pt.U, Pt.locs, Pt.cells, Pt.slots] at X12 l12 y12 z12 st12 hQ12 hSn12 hgn12
  subst l12 y12 z12
  obtain ⟨X12, hS12, hZ, hown⟩ := rebS hS0 (by rw [e10]; exact kS1) X12 hSn12 hgn12 hZ hown
  obtain ⟨rfl, Nq12, Kq12, o12_0, o12_1, o12_2, o12_3⟩ := hQ12
  have N12 := Fr.app N0 Nq12
  have K12 : Keep h0 T12.heap [] := K1.trans Kq12 (allS (Or.inr sz1) all0)
  have Z12 : n0 ≤ T12.heap.size := Nat.le_trans Z1 Kq12.1
  have x13 := x2.keep Kq12 (ninS ne1_o0 nin0)
  have x14 := x3.keep Kq12 (ninS ne1_o0 nin0)
  have x15 := x4.keep Kq12 (ninS ne1_op nin0)
  have x16 := A1.keep Kq12
  have pre17 : ∀ t, Steps p.tables e below (T12.setTop (mkF m 16 #[.val (.ref o0), .val (.long q1), .second] [(.ref b0)])) t → Steps p.tables e below (s₁.setTop (entryFrame m #[(.ref o0), (.long q1)] 3)) t := fun t k => pre11 t (st12.trans k)
  obtain ⟨fs, hr, hrun, hended, hE⟩ := X12.leaveW hS12 (Nat.le_refl _) (v := some (.ref b0)) (fun h => by rw [Bd.returns] at h; cases h)
  refine ⟨_, _, ?_, hrun, hended, _, _, rfl, ?_, hE.1, hE.2.1, hE.2.2.1, hE.2.2.2.mono (by decide) (by decide)⟩
  · refine pre17 _ ?_
    jvm_step X12.here [X12.here.top, hx, (hb hby d7_16), X12.method', Bd.returns, Value.isRef, FieldType.isReference]
    first | (intro acts; rw [hr _ acts rfl rfl rfl]) | rw [hr _ _ rfl rfl rfl]
    exact Steps.refl _
  · show Q7_n Z o0 q1 op kb n h0 n0 _ T12.heap _
    skip
    exact ⟨b0, rfl, N12, K12, sz1, o12_0, o12_1⟩
theorem d2_32 : decode prog_18_method_3_code 32 = .ok (.aload_n 1, 1) := by decide +kernel
theorem d2_33 : decode prog_18_method_3_code 33 = .ok (.invokestatic 33, 3) := by decide +kernel
theorem d2_36 : decode prog_18_method_3_code 36 = .ok (.istore 5, 2) := by decide +kernel
theorem d2_38 : decode prog_18_method_3_code 38 = .ok (.iload 5, 2) := by decide +kernel
theorem d2_40 : decode prog_18_method_3_code 40 = .ok (.ifCond .ge 13, 3) := by decide +kernel
theorem d2_53 : decode prog_18_method_3_code 53 = .ok (.iload 5, 2) := by decide +kernel
theorem d2_55 : decode prog_18_method_3_code 55 = .ok (.ldc 46, 2) := by decide +kernel
theorem d2_57 : decode prog_18_method_3_code 57 = .ok (.if_icmp .le 13, 3) := by decide +kernel
theorem pd__Ljava_lang_String__I : parseMethodDescriptor "(Ljava/lang/String;)I" = some ⟨[(.object "java/lang/String")], some .int⟩ := by decide +kernel
theorem ef_2_k (m : MethodId) (x0 : Addr) (x1 : Addr) (x2 : Addr) (x3 : Int64) : entryFrame m #[(.ref x0), (.ref x1), (.ref x2), (.long x3)] 6 = mkF m 0 #[.val (.ref x0), .val (.ref x1), .val (.ref x2), .val (.long x3), .second, .unset] [] := by first | (simp [entryFrame, mkF, argsToLocals, Value.category]; done) | rfl
def Q2_k (Z : State) (o0 : Addr) (o1 : Addr) (o2 : Addr) (q3 : Int64) (kb : ClassId) (n : Int32) (wcs : Int32) (wsf : Value) (oa : Addr) (ka : ClassId) (w : Int32) (h0 : Heap) (n0 : Nat) (v : Option Value) (h : Heap) (L : List Loc) : Prop := v = none ∧ Fr n0 L ∧ Keep h0 h [o0] ∧ Exa Z h o0 "com/example/oncemark/oncemark/OutgoingMessage" ∧ Fld Z h o0 "com/example/oncemark/oncemark/OutgoingMessage" "sequenceId" "J" (.long q3) ∧ Fld Z h o0 "com/example/oncemark/oncemark/OutgoingMessage" "key" "Ljava/lang/String;" (.ref o1) ∧ Fld Z h o0 "com/example/oncemark/oncemark/OutgoingMessage" "payload" "[B" (.ref o2)
set_option maxRecDepth 65536 in
set_option maxHeartbeats 40000000 in
theorem rm2_k (l : Launch) (Z : State) (a0 : Array Value) (hw : ∀ d ∈ tables_1, d.before a0 Z = true) (ws : List Jvm.Cond) (o0 : Addr) (o1 : Addr) (o2 : Addr) (q3 : Int64) (kb : ClassId) (n : Int32) (wcs : Int32) (wsf : Value) (oa : Addr) (ka : ClassId) (w : Int32) (h0 : Heap) (n0 : Nat) (Z0 : n0 ≤ h0.size) (I0 : Exa Z h0 o0 "com/example/oncemark/oncemark/OutgoingMessage") (I1 : Fld Z h0 o0 "com/example/oncemark/oncemark/OutgoingMessage" "sequenceId" "J" (.long (0 : Int64))) (I2 : Fld Z h0 o0 "com/example/oncemark/oncemark/OutgoingMessage" "key" "Ljava/lang/String;" .null) (I3 : Fld Z h0 o0 "com/example/oncemark/oncemark/OutgoingMessage" "payload" "[B" .null) (I4 : Arh Z h0 o2 kb .byte n [] [] (.int (0 : Int32))) (I5 : Sta Z h0 "java/lang/String" "COMPACT_STRINGS" "Z" (.int wcs)) (I6 : Sta Z h0 "jdk/internal/util/Preconditions" "SIOOBE_FORMATTER" "Ljava/util/function/BiFunction;" wsf) (I7 : Exa Z h0 o1 "java/lang/String") (I8 : Fld Z h0 o1 "java/lang/String" "value" "[B" (.ref oa)) (I9 : Fld Z h0 o1 "java/lang/String" "coder" "B" (.int (0 : Int32))) (I10 : Arv Z h0 oa ka .byte (1 : Int32) [(.int w)] (.int (0 : Int32))) (gw_o0 : n0 ≤ o0) (ne_o2_o0 : o2 ≠ o0) (ne_o1_o0 : o1 ≠ o0) (ne_oa_o0 : oa ≠ o0) (hle : ¬ ((1048576 : Int32) < n)) (hcs : ¬ (wcs = (0 : Int32))) (hsf : wsf.isRef = true) :
    MetFree l (⟨"com/example/oncemark/oncemark/OutgoingMessage", "<init>", "(Ljava/lang/String;[BJ)V"⟩ : MethodName) (head1 (Jvm.Cond.code (⟨"com/example/oncemark/oncemark/OutgoingMessage", "<init>", "(Ljava/lang/String;[BJ)V"⟩ : MethodName) prog_18_method_3_code 6 none :: ws) ({ frames := 5, cells := 2, slots := 32, locals := 68 } : Room)) (fun a U => a = #[(.ref o0), (.ref o1), (.ref o2), (.long q3)] ∧ Z.Warmed39 U.vm ∧ U.heap = h0) (fun _ _ _ _ _ => True) (fun _ U o U' => ∃ v L, o = .returned v ∧ Q2_k Z o0 o1 o2 q3 kb n wcs wsf oa ka w h0 n0 v U'.heap L ∧ ReturnedEndW U o U' L ({ frames := 5, cells := 2, slots := 32, locals := 68 } : Room).cells ({ frames := 5, cells := 2, slots := 32, locals := 68 } : Room).slots) := by
  refine MetFree.of_bodySF (plainFor_of_name pn_2) hisR ?_
  intro p e s m args below meth c s₁ Bd hml0 hP hK
  obtain ⟨rfl, hZ, hh⟩ := hP
  have hx := Bd.exec
  have hby := Bd.bytes
  have hml : c.maxLocals = 6 := hml0
  have hown : s.vm.findClass "com/example/oncemark/oncemark/OutgoingMessage" = some m.cls := findClass_of_methodNamed Bd.named
  have hnm := (name_of_methodNamed Bd.named Bd.method).1
  have X0 : Stand p l e ({ frames := 5, cells := 2, slots := 32, locals := 68 } : Room) (s.setVm s.vm) m #[(.ref o0), (.ref o1), (.ref o2), (.long q3)] below meth c s₁ [] 0 0 := by rw [State.setVm_self]; exact Stand.of_body Bd
  have hS0 : s.Since s.vm h0.size := (State.WarmedH.refl s).since _
  have kS0 : h0.size ≤ h0.size := Nat.le_refl _
  have hZ : Z.Warmed39 (s.setVm s.vm).vm := hZ
  have hown : (s.setVm s.vm).vm.findClass "com/example/oncemark/oncemark/OutgoingMessage" = some m.cls := hown
  have e0 : s₁.heap = h0 := by rw [← hh, Bd.state]; rfl
  have N0 := Fr.nil n0
  have K0 : Keep h0 h0 [o0] := Keep.refl _ _
  have pre0 : ∀ t, Steps p.tables e below (s₁.setTop (mkF m 0 #[.val (.ref o0), .val (.ref o1), .val (.ref o2), .val (.long q3), .second, .unset] [])) t → Steps p.tables e below (s₁.setTop (entryFrame m #[(.ref o0), (.ref o1), (.ref o2), (.long q3)] 6)) t := fun t k => castTop (ef_2_k m o0 o1 o2 q3) k
  have pre1 : ∀ t, Steps p.tables e below (s₁.setTop (mkF m 1 #[.val (.ref o0), .val (.ref o1), .val (.ref o2), .val (.long q3), .second, .unset] [(.ref o0)])) t → Steps p.tables e below (s₁.setTop (entryFrame m #[(.ref o0), (.ref o1), (.ref o2), (.long q3)] 6)) t := fun t k => pre0 t (by
    show Steps p.tables e below (s₁.setTop (mkF m 0 #[.val (.ref o0), .val (.ref o1), .val (.ref o2), .val (.long q3), .second, .unset] [])) _
    refine XS.aloadN X0.here hx rfl (hb hby d2_0) rfl rfl ?_
    exact k)
  obtain ⟨T2, X2, e2, st2⟩ := initO X0 hx hZ hown (hw _ (List.mem_of_getElem? (i := 12) rfl)) (hw _ (List.mem_of_getElem? (i := 13) rfl)) (hw _ (List.mem_of_getElem? (i := 14) rfl)) e0 (g := (mkF m 1 #[.val (.ref o0), .val (.ref o1), .val (.ref o2), .val (.long q3), .second, .unset] [(.ref o0)])) rfl (by rw [hml]; rfl) rfl (hb hby d2_1) (by decide) (W := 0) (by show 2 * 0 + _ ≤ _; exact Nat.le_of_eq rfl) (by decide)
  have pre3 : ∀ t, Steps p.tables e below (T2.setTop (mkF m 4 #[.val (.ref o0), .val (.ref o1), .val (.ref o2), .val (.long q3), .second, .unset] [])) t → Steps p.tables e below (s₁.setTop (entryFrame m #[(.ref o0), (.ref o1), (.ref o2), (.long q3)] 6)) t := fun t k => pre1 t (st2 _ k)
  have pre4 : ∀ t, Steps p.tables e below (T2.setTop (mkF m 5 #[.val (.ref o0), .val (.ref o1), .val (.ref o2), .val (.long q3), .second, .unset] [(.ref o2)])) t → Steps p.tables e below (s₁.setTop (entryFrame m #[(.ref o0), (.ref o1), (.ref o2), (.long q3)] 6)) t := fun t k => pre3 t (by
    show Steps p.tables e below (T2.setTop (mkF m 4 #[.val (.ref o0), .val (.ref o1), .val (.ref o2), .val (.long q3), .second, .unset] [])) _
    refine XS.aloadN X2.here hx rfl (hb hby d2_4) rfl rfl ?_
    exact k)
  obtain ⟨lt5, T5, h5, kk5, X5, e5, E5, hS5, kS5, hZ, hown, st5⟩ := ldcS X2 hx hZ hown (hw _ (List.mem_of_getElem? (i := 15) rfl)) (own_wS hw) e2 hS0 kS0 (g := (mkF m 5 #[.val (.ref o0), .val (.ref o1), .val (.ref o2), .val (.long q3), .second, .unset] [(.ref o2)])) rfl (hb hby d2_5) (n := 28) (by decide) (by decide) (by decide) (by decide)
  have K5 : Keep h0 h5 [o0] := K0.ext E5
  have Z5 : n0 ≤ h5.size := Nat.le_trans Z0 E5.1
  have x6 := I0.ext E5
  have x7 := I1.ext E5
  have x8 := I2.ext E5
  have x9 := I3.ext E5
  have x10 := I4.ext E5
  have x11 := I5.ext E5
  have x12 := I6.ext E5
  have x13 := I7.ext E5
  have x14 := I8.ext E5
  have x15 := I9.ext E5
  have x16 := I10.ext E5
  have pre17 : ∀ t, Steps p.tables e below (T5.setTop (mkF m 7 #[.val (.ref o0), .val (.ref o1), .val (.ref o2), .val (.long q3), .second, .unset] [(.ref lt5), (.ref o2)])) t → Steps p.tables e below (s₁.setTop (entryFrame m #[(.ref o0), (.ref o1), (.ref o2), (.long q3)] 6)) t := fun t k => pre4 t (st5 _ k)
  obtain ⟨_, _, ⟨T18, L18, k18, n18⟩, -, X18, ⟨Lc18, hQ18, l18, y18, z18⟩, st18⟩ := Jvm.LawKit.callS X5 hx (y := (⟨"java/util/Objects", "requireNonNull", "(Ljava/lang/Object;Ljava/lang/String;)Ljava/lang/Object;"⟩ : MethodName)) hown (mvT hZ (hw _ (List.mem_of_getElem? (i := 22) rfl))) (mvT hZ (hw _ (List.mem_of_getElem? (i := 23) rfl))) (mvT hZ (hw _ (List.mem_of_getElem? (i := 24) rfl))) (mvT hZ (hw _ (List.mem_of_getElem? (i := 25) rfl))) (by decide) (backOf (W := 0) (rm4 l Z a0 hw [] o2 lt5 h5 n0 Z5) hZ (hw _ (List.mem_of_getElem? (i := 25) rfl)) (hw _ (List.mem_of_getElem? (i := 24) rfl)) (by decide) (by decide)) (g := (mkF m 7 #[.val (.ref o0), .val (.ref o1), .val (.ref o2), .val (.long q3), .second, .unset] [(.ref lt5), (.ref o2)])) rfl (by rw [hml]; rfl) (argsL := [(.ref o2), (.ref lt5)]) (rest := []) (lenOf pd__Ljava_lang_Object_Ljava_lang_String__Ljava_lang_Object_ rfl) rfl (by show 2 * 0 + _ ≤ _; exact Nat.le_of_eq rfl) (hb hby d2_7) (fun _ _ => ⟨rfl, e5, (by decide : 2 + 0 ≤ _), (by decide : 32 + 0 ≤ _)⟩)
  dsimp only [Pt.U, Pt.locs, Pt.cells, Pt.slots] at X18 l18 y18 z18 st18 hQ18
  subst l18 y18 z18
  obtain ⟨rfl, Nq18, e18⟩ := hQ18
  have N18 := Fr.app N0 Nq18
  have pre19 : ∀ t, Steps p.tables e below (T18.setTop (mkF m 10 #[.val (.ref o0), .val (.ref o1), .val (.ref o2), .val (.long q3), .second, .unset] [(.ref (f4 o2))])) t → Steps p.tables e below (s₁.setTop (entryFrame m #[(.ref o0), (.ref o1), (.ref o2), (.long q3)] 6)) t := fun t k => pre17 t (st18 _ k)
  have pre20 : ∀ t, Steps p.tables e below (T18.setTop (mkF m 12 #[.val (.ref o0), .val (.ref o1), .val (.ref o2), .val (.long q3), .second, .unset] [(.ref o2)])) t → Steps p.tables e below (s₁.setTop (entryFrame m #[(.ref o0), (.ref o1), (.ref o2), (.long q3)] 6)) t := fun t k => pre19 t (by
    show Steps p.tables e below (T18.setTop (mkF m 10 #[.val (.ref o0), .val (.ref o1), .val (.ref o2), .val (.long q3), .second, .unset] [(.ref (f4 o2))])) _
    refine XS.pop X18.here hx rfl (hb hby d2_10) rfl rfl ?_
    show Steps p.tables e below (T18.setTop (mkF m 11 #[.val (.ref o0), .val (.ref o1), .val (.ref o2), .val (.long q3), .second, .unset] [])) _
    refine XS.aloadN X18.here hx rfl (hb hby d2_11) rfl rfl ?_
    exact k)
  obtain ⟨cl21, Ar21, -, Sz21, Mn21, Hs21, -⟩ := id x10
  have pre22 : ∀ t, Steps p.tables e below (T18.setTop (mkF m 13 #[.val (.ref o0), .val (.ref o1), .val (.ref o2), .val (.long q3), .second, .unset] [(.int n)])) t → Steps p.tables e below (s₁.setTop (entryFrame m #[(.ref o0), (.ref o1), (.ref o2), (.long q3)] 6)) t := fun t k => pre20 t (by
    show Steps p.tables e below (T18.setTop (mkF m 12 #[.val (.ref o0), .val (.ref o1), .val (.ref o2), .val (.long q3), .second, .unset] [(.ref o2)])) _
    refine X18.arraylength hx (by rw [e18]; exact Ar21.1) (State.isArrayOf_alike hZ.alike Ar21.2.1) (g := (mkF m 12 #[.val (.ref o0), .val (.ref o1), .val (.ref o2), .val (.long q3), .second, .unset] [(.ref o2)])) rfl rfl (hb hby d2_12) _ ?_
    rw [len_of Sz21 Mn21]
    exact k)
  have pre23 : ∀ t, Steps p.tables e below (T18.setTop (mkF m 33 #[.val (.ref o0), .val (.ref o1), .val (.ref o2), .val (.long q3), .second, .unset] [(.ref o1)])) t → Steps p.tables e below (s₁.setTop (entryFrame m #[(.ref o0), (.ref o1), (.ref o2), (.long q3)] 6)) t := fun t k => pre22 t (by
    show Steps p.tables e below (T18.setTop (mkF m 13 #[.val (.ref o0), .val (.ref o1), .val (.ref o2), .val (.long q3), .second, .unset] [(.int n)])) _
    refine X18.ldcInt hx hown (mvT hZ (hw _ (List.mem_of_getElem? (i := 26) rfl))) (g := (mkF m 13 #[.val (.ref o0), .val (.ref o1), .val (.ref o2), .val (.long q3), .second, .unset] [(.int n)])) rfl (hb hby d2_13) _ ?_
    show Steps p.tables e below (T18.setTop (mkF m 15 #[.val (.ref o0), .val (.ref o1), .val (.ref o2), .val (.long q3), .second, .unset] [(.int (1048576 : Int32)), (.int n)])) _
    refine XS.icmpYes X18.here hx rfl (pc0 := 15) (pc' := 28) rfl (hb hby d2_15) rfl (flt hle).2.2.2 (by decide) (by decide) ?_
    show Steps p.tables e below (T18.setTop (mkF m 28 #[.val (.ref o0), .val (.ref o1), .val (.ref o2), .val (.long q3), .second, .unset] [])) _
    refine XS.aloadN X18.here hx rfl (hb hby d2_28) rfl rfl ?_
    show Steps p.tables e below (T18.setTop (mkF m 29 #[.val (.ref o0), .val (.ref o1), .val (.ref o2), .val (.long q3), .second, .unset] [(.ref o1)])) _
    refine XS.ifnullNo X18.here hx rfl (hb hby d2_29) rfl ?_
    show Steps p.tables e below (T18.setTop (mkF m 32 #[.val (.ref o0), .val (.ref o1), .val (.ref o2), .val (.long q3), .second, .unset] [])) _
    refine XS.aloadN X18.here hx rfl (hb hby d2_32) rfl rfl ?_
    exact k)
  obtain ⟨_, _, ⟨T24, L24, k24, n24⟩, -, X24, ⟨Lc24, hQ24, l24, y24, z24⟩, st24⟩ := Jvm.LawKit.callS X18 hx (y := (⟨"com/example/oncemark/oncemark/LogFormat", "utf8Length", "(Ljava/lang/String;)I"⟩ : MethodName)) hown (mvT hZ (hw _ (List.mem_of_getElem? (i := 76) rfl))) (mvT hZ (hw _ (List.mem_of_getElem? (i := 77) rfl))) (mvT hZ (hw _ (List.mem_of_getElem? (i := 78) rfl))) (mvT hZ (hw _ (List.mem_of_getElem? (i := 79) rfl))) (by decide) (backOf (W := 0) (rm14 l Z a0 hw [] o1 wcs wsf oa _ w h5 n0 Z5 x11 x12 x13 x14 x15 x16 hcs hsf) hZ (hw _ (List.mem_of_getElem? (i := 79) rfl)) (hw _ (List.mem_of_getElem? (i := 78) rfl)) (by decide) (by decide)) (g := (mkF m 33 #[.val (.ref o0), .val (.ref o1), .val (.ref o2), .val (.long q3), .second, .unset] [(.ref o1)])) rfl (by rw [hml]; rfl) (argsL := [(.ref o1)]) (rest := []) (lenOf pd__Ljava_lang_String__I rfl) rfl (by show 2 * 0 + _ ≤ _; exact Nat.le_of_eq rfl) (hb hby d2_33) (fun _ _ => ⟨rfl, e18, (by decide : 2 + 0 ≤ _), (by decide : 32 + 0 ≤ _)⟩)
  dsimp only [Pt.U, Pt.locs, Pt.cells, Pt.slots] at X24 l24 y24 z24 st24 hQ24
  subst l24 y24 z24
  obtain ⟨rfl, Nq24, e24⟩ := hQ24
  have N24 := Fr.app N18 Nq24
  have pre25 : ∀ t, Steps p.tables e below (T24.setTop (mkF m 36 #[.val (.ref o0), .val (.ref o1), .val (.ref o2), .val (.long q3), .second, .unset] [(.int (f14 w))])) t → Steps p.tables e below (s₁.setTop (entryFrame m #[(.ref o0), (.ref o1), (.ref o2), (.long q3)] 6)) t := fun t k => pre23 t (st24 _ k)
  have pre26 : ∀ t, Steps p.tables e below (T24.setTop (mkF m 72 #[.val (.ref o0), .val (.ref o1), .val (.ref o2), .val (.long q3), .second, .val (.int (f14 w))] [(.long q3), (.ref o0)])) t → Steps p.tables e below (s₁.setTop (entryFrame m #[(.ref o0), (.ref o1), (.ref o2), (.long q3)] 6)) t := fun t k => pre25 t (by
    show Steps p.tables e below (T24.setTop (mkF m 36 #[.val (.ref o0), .val (.ref o1), .val (.ref o2), .val (.long q3), .second, .unset] [(.int (f14 w))])) _
    refine XS.istore X24.here hx rfl (hb hby d2_36) rfl (l' := #[.val (.ref o0), .val (.ref o1), .val (.ref o2), .val (.long q3), .second, .val (.int (f14 w))]) rfl ?_
    show Steps p.tables e below (T24.setTop (mkF m 38 #[.val (.ref o0), .val (.ref o1), .val (.ref o2), .val (.long q3), .second, .val (.int (f14 w))] [])) _
    refine XS.iload X24.here hx rfl (hb hby d2_38) rfl ?_
    show Steps p.tables e below (T24.setTop (mkF m 40 #[.val (.ref o0), .val (.ref o1), .val (.ref o2), .val (.long q3), .second, .val (.int (f14 w))] [(.int (f14 w))])) _
    refine XS.ifYes X24.here hx rfl (pc0 := 40) (pc' := 53) rfl (hb hby d2_40) rfl ((if0 _ _).trans (flt (own_u w).1).2.1) (by decide) (by decide) ?_
    show Steps p.tables e below (T24.setTop (mkF m 53 #[.val (.ref o0), .val (.ref o1), .val (.ref o2), .val (.long q3), .second, .val (.int (f14 w))] [])) _
    refine XS.iload X24.here hx rfl (hb hby d2_53) rfl ?_
    show Steps p.tables e below (T24.setTop (mkF m 55 #[.val (.ref o0), .val (.ref o1), .val (.ref o2), .val (.long q3), .second, .val (.int (f14 w))] [(.int (f14 w))])) _
    refine X24.ldcInt hx hown (mvT hZ (hw _ (List.mem_of_getElem? (i := 111) rfl))) (g := (mkF m 55 #[.val (.ref o0), .val (.ref o1), .val (.ref o2), .val (.long q3), .second, .val (.int (f14 w))] [(.int (f14 w))])) rfl (hb hby d2_55) _ ?_
    show Steps p.tables e below (T24.setTop (mkF m 57 #[.val (.ref o0), .val (.ref o1), .val (.ref o2), .val (.long q3), .second, .val (.int (f14 w))] [(.int (65535 : Int32)), (.int (f14 w))])) _
    refine XS.icmpYes X24.here hx rfl (pc0 := 57) (pc' := 70) rfl (hb hby d2_57) rfl (flt (own_u w).2).2.2.2 (by decide) (by decide) ?_
    show Steps p.tables e below (T24.setTop (mkF m 70 #[.val (.ref o0), .val (.ref o1), .val (.ref o2), .val (.long q3), .second, .val (.int (f14 w))] [])) _
    refine XS.aloadN X24.here hx rfl (hb hby d2_70) rfl rfl ?_
    show Steps p.tables e below (T24.setTop (mkF m 71 #[.val (.ref o0), .val (.ref o1), .val (.ref o2), .val (.long q3), .second, .val (.int (f14 w))] [(.ref o0)])) _
    refine XS.lloadN X24.here hx rfl (hb hby d2_71) rfl ?_
    exact k)
  obtain ⟨T27, h27, X27, e27, W27, st27⟩ := putF X24 hx hZ hown (host := "") (Or.inl (hw _ (List.mem_of_getElem? (i := 27) rfl))) Via.refl e24 x7 x6 (Or.inr ⟨(hw _ (List.mem_of_getElem? (i := 28) rfl)), rfl, hnm⟩) (hw _ (List.mem_of_getElem? (i := 3) rfl)) (ty := .long) (by decide) rfl rfl (g := (mkF m 72 #[.val (.ref o0), .val (.ref o1), .val (.ref o2), .val (.long q3), .second, .val (.int (f14 w))] [(.long q3), (.ref o0)])) rfl rfl (hb hby d2_72)
  have N27 := Fr.snoc X27 N24 gw_o0
  have K27 : Keep h0 h27 [o0] := K5.wr W27 (Or.inl (List.mem_of_getElem? (i := 0) rfl))
  have Z27 : n0 ≤ h27.size := Nat.le_trans Z5 (Keep.of_wr W27).1
  have x28 := x6.wr W27
  have x29 := x7.same W27
  have x30 := x8.other W27 (Or.inr (slot_ne (Or.inr (hw _ (List.mem_of_getElem? (i := 30) rfl))) (Or.inr (hw _ (List.mem_of_getElem? (i := 28) rfl))) (by decide) (t := (.object "java/lang/String")) (t' := .long) (by decide) (by decide)))
  have x31 := x9.other W27 (Or.inr (slot_ne (Or.inr (hw _ (List.mem_of_getElem? (i := 32) rfl))) (Or.inr (hw _ (List.mem_of_getElem? (i := 28) rfl))) (by decide) (t := (.array .byte)) (t' := .long) (by decide) (by decide)))
  have x32 := x10.other W27 ne_o2_o0
  have x33 := x11.wr W27
  have x34 := x12.wr W27
  have x35 := x13.wr W27
  have x36 := x14.other W27 (Or.inl ne_o1_o0)
  have x37 := x15.other W27 (Or.inl ne_o1_o0)
  have x38 := x16.other W27 ne_oa_o0
  have pre39 : ∀ t, Steps p.tables e below (T27.setTop (mkF m 75 #[.val (.ref o0), .val (.ref o1), .val (.ref o2), .val (.long q3), .second, .val (.int (f14 w))] [])) t → Steps p.tables e below (s₁.setTop (entryFrame m #[(.ref o0), (.ref o1), (.ref o2), (.long q3)] 6)) t := fun t k => pre26 t (st27 _ k)
  have kS27 : _ ≤ h27.size := Nat.le_trans kS5 (Keep.of_wr W27).1
  have pre40 : ∀ t, Steps p.tables e below (T27.setTop (mkF m 77 #[.val (.ref o0), .val (.ref o1), .val (.ref o2), .val (.long q3), .second, .val (.int (f14 w))] [(.ref o1), (.ref o0)])) t → Steps p.tables e below (s₁.setTop (entryFrame m #[(.ref o0), (.ref o1), (.ref o2), (.long q3)] 6)) t := fun t k => pre39 t (by
    show Steps p.tables e below (T27.setTop (mkF m 75 #[.val (.ref o0), .val (.ref o1), .val (.ref o2), .val (.long q3), .second, .val (.int (f14 w))] [])) _
    refine XS.aloadN X27.here hx rfl (hb hby d2_75) rfl rfl ?_
    show Steps p.tables e below (T27.setTop (mkF m 76 #[.val (.ref o0), .val (.ref o1), .val (.ref o2), .val (.long q3), .second, .val (.int (f14 w))] [(.ref o0)])) _
    refine XS.aloadN X27.here hx rfl (hb hby d2_76) rfl rfl ?_
    exact k)
  obtain ⟨T41, h41, X41, e41, W41, st41⟩ := putF X27 hx hZ hown (host := "") (Or.inl (hw _ (List.mem_of_getElem? (i := 29) rfl))) Via.refl e27 x30 x28 (Or.inr ⟨(hw _ (List.mem_of_getElem? (i := 30) rfl)), rfl, hnm⟩) (hw _ (List.mem_of_getElem? (i := 3) rfl)) (ty := (.object "java/lang/String")) (by decide) rfl rfl (g := (mkF m 77 #[.val (.ref o0), .val (.ref o1), .val (.ref o2), .val (.long q3), .second, .val (.int (f14 w))] [(.ref o1), (.ref o0)])) rfl rfl (hb hby d2_77)
  have N41 := Fr.snoc X41 N27 gw_o0
  have K41 : Keep h0 h41 [o0] := K27.wr W41 (Or.inl (List.mem_of_getElem? (i := 0) rfl))
  have Z41 : n0 ≤ h41.size := Nat.le_trans Z27 (Keep.of_wr W41).1
  have x42 := x28.wr W41
  have x43 := x29.other W41 (Or.inr (slot_ne (Or.inr (hw _ (List.mem_of_getElem? (i := 28) rfl))) (Or.inr (hw _ (List.mem_of_getElem? (i := 30) rfl))) (by decide) (t := .long) (t' := (.object "java/lang/String")) (by decide) (by decide)))
  have x44 := x30.same W41
  have x45 := x31.other W41 (Or.inr (slot_ne (Or.inr (hw _ (List.mem_of_getElem? (i := 32) rfl))) (Or.inr (hw _ (List.mem_of_getElem? (i := 30) rfl))) (by decide) (t := (.array .byte)) (t' := (.object "java/lang/String")) (by decide) (by decide)))
  have x46 := x32.other W41 ne_o2_o0
  have x47 := x33.wr W41
  have x48 := x34.wr W41
  have x49 := x35.wr W41
  have x50 := x36.other W41 (Or.inl ne_o1_o0)
  have x51 := x37.other W41 (Or.inl ne_o1_o0)
  have x52 := x38.other W41 ne_oa_o0
  have pre53 : ∀ t, Steps p.tables e below (T41.setTop (mkF m 80 #[.val (.ref o0), .val (.ref o1), .val (.ref o2), .val (.long q3), .second, .val (.int (f14 w))] [])) t → Steps p.tables e below (s₁.setTop (entryFrame m #[(.ref o0), (.ref o1), (.ref o2), (.long q3)] 6)) t := fun t k => pre40 t (st41 _ k)
  have kS41 : _ ≤ h41.size := Nat.le_trans kS27 (Keep.of_wr W41).1
  have pre54 : ∀ t, Steps p.tables e below (T41.setTop (mkF m 82 #[.val (.ref o0), .val (.ref o1), .val (.ref o2), .val (.long q3), .second, .val (.int (f14 w))] [(.ref o2), (.ref o0)])) t → Steps p.tables e below (s₁.setTop (entryFrame m #[(.ref o0), (.ref o1), (.ref o2), (.long q3)] 6)) t := fun t k => pre53 t (by
    show Steps p.tables e below (T41.setTop (mkF m 80 #[.val (.ref o0), .val (.ref o1), .val (.ref o2), .val (.long q3), .second, .val (.int (f14 w))] [])) _
    refine XS.aloadN X41.here hx rfl (hb hby d2_80) rfl rfl ?_
    show Steps p.tables e below (T41.setTop (mkF m 81 #[.val (.ref o0), .val (.ref o1), .val (.ref o2), .val (.long q3), .second, .val (.int (f14 w))] [(.ref o0)])) _
    refine XS.aloadN X41.here hx rfl (hb hby d2_81) rfl rfl ?_
    exact k)
  obtain ⟨T55, h55, X55, e55, W55, st55⟩ := putF X41 hx hZ hown (host := "") (Or.inl (hw _ (List.mem_of_getElem? (i := 31) rfl))) Via.refl e41 x45 x42 (Or.inr ⟨(hw _ (List.mem_of_getElem? (i := 32) rfl)), rfl, hnm⟩) (hw _ (List.mem_of_getElem? (i := 3) rfl)) (ty := (.array .byte)) (by decide) rfl rfl (g := (mkF m 82 #[.val (.ref o0), .val (.ref o1), .val (.ref o2), .val (.long q3), .second, .val (.int (f14 w))] [(.ref o2), (.ref o0)])) rfl rfl (hb hby d2_82)
  have N55 := Fr.snoc X55 N41 gw_o0
  have K55 : Keep h0 h55 [o0] := K41.wr W55 (Or.inl (List.mem_of_getElem? (i := 0) rfl))
  have Z55 : n0 ≤ h55.size := Nat.le_trans Z41 (Keep.of_wr W55).1
  have x56 := x42.wr W55
  have x57 := x43.other W55 (Or.inr (slot_ne (Or.inr (hw _ (List.mem_of_getElem? (i := 28) rfl))) (Or.inr (hw _ (List.mem_of_getElem? (i := 32) rfl))) (by decide) (t := .long) (t' := (.array .byte)) (by decide) (by decide)))
  have x58 := x44.other W55 (Or.inr (slot_ne (Or.inr (hw _ (List.mem_of_getElem? (i := 30) rfl))) (Or.inr (hw _ (List.mem_of_getElem? (i := 32) rfl))) (by decide) (t := (.object "java/lang/String")) (t' := (.array .byte)) (by decide) (by decide)))
  have x59 := x45.same W55
  have x60 := x46.other W55 ne_o2_o0
  have x61 := x47.wr W55
  have x62 := x48.wr W55
  have x63 := x49.wr W55
  have x64 := x50.other W55 (Or.inl ne_o1_o0)
  have x65 := x51.other W55 (Or.inl ne_o1_o0)
  have x66 := x52.other W55 ne_oa_o0
  have pre67 : ∀ t, Steps p.tables e below (T55.setTop (mkF m 85 #[.val (.ref o0), .val (.ref o1), .val (.ref o2), .val (.long q3), .second, .val (.int (f14 w))] [])) t → Steps p.tables e below (s₁.setTop (entryFrame m #[(.ref o0), (.ref o1), (.ref o2), (.long q3)] 6)) t := fun t k => pre54 t (st55 _ k)
  have kS55 : _ ≤ h55.size := Nat.le_trans kS41 (Keep.of_wr W55).1
  obtain ⟨fs, hr, hrun, hended, hE⟩ := X55.leaveW hS5 (by rw [e55]; exact kS55) (v := none) (fun _ => rfl)
  refine ⟨_, _, ?_, hrun, hended, _, _, rfl, ?_, hE.1, hE.2.1, hE.2.2.1, hE.2.2.2.mono (by decide) (by decide)⟩
  · exact pre67 _ (X55.returnOut hx Bd.returns (hb hby d2_85) hr)
  · show Q2_k Z o0 o1 o2 q3 kb n wcs wsf oa ka w h0 n0 _ T55.heap _
    rw [e55]
    exact ⟨rfl, N55, K55, x56, x57, x58, x59⟩
theorem ef_1_k (m : MethodId) (x0 : Addr) (x1 : Addr) (x2 : Addr) : entryFrame m #[(.ref x0), (.ref x1), (.ref x2)] 3 = mkF m 0 #[.val (.ref x0), .val (.ref x1), .val (.ref x2)] [] := by first | (simp [entryFrame, mkF, argsToLocals, Value.category]; done) | rfl
def Q1_k (Z : State) (o0 : Addr) (o1 : Addr) (o2 : Addr) (kb : ClassId) (n : Int32) (wcs : Int32) (wsf : Value) (oa : Addr) (ka : ClassId) (w : Int32) (h0 : Heap) (n0 : Nat) (v : Option Value) (h : Heap) (L : List Loc) : Prop := v = none ∧ Fr n0 L ∧ Keep h0 h [o0] ∧ Exa Z h o0 "com/example/oncemark/oncemark/OutgoingMessage" ∧ Fld Z h o0 "com/example/oncemark/oncemark/OutgoingMessage" "sequenceId" "J" (.long (-1 : Int64)) ∧ Fld Z h o0 "com/example/oncemark/oncemark/OutgoingMessage" "key" "Ljava/lang/String;" (.ref o1) ∧ Fld Z h o0 "com/example/oncemark/oncemark/OutgoingMessage" "payload" "[B" (.ref o2)
set_option maxRecDepth 65536 in
set_option maxHeartbeats 40000000 in
theorem rm1_k (l : Launch) (Z : State) (a0 : Array Value) (hw : ∀ d ∈ tables_1, d.before a0 Z = true) (ws : List Jvm.Cond) (o0 : Addr) (o1 : Addr) (o2 : Addr) (kb : ClassId) (n : Int32) (wcs : Int32) (wsf : Value) (oa : Addr) (ka : ClassId) (w : Int32) (h0 : Heap) (n0 : Nat) (Z0 : n0 ≤ h0.size) (I0 : Exa Z h0 o0 "com/example/oncemark/oncemark/OutgoingMessage") (I1 : Fld Z h0 o0 "com/example/oncemark/oncemark/OutgoingMessage" "sequenceId" "J" (.long (0 : Int64))) (I2 : Fld Z h0 o0 "com/example/oncemark/oncemark/OutgoingMessage" "key" "Ljava/lang/String;" .null) (I3 : Fld Z h0 o0 "com/example/oncemark/oncemark/OutgoingMessage" "payload" "[B" .null) (I4 : Arh Z h0 o2 kb .byte n [] [] (.int (0 : Int32))) (I5 : Sta Z h0 "java/lang/String" "COMPACT_STRINGS" "Z" (.int wcs)) (I6 : Sta Z h0 "jdk/internal/util/Preconditions" "SIOOBE_FORMATTER" "Ljava/util/function/BiFunction;" wsf) (I7 : Exa Z h0 o1 "java/lang/String") (I8 : Fld Z h0 o1 "java/lang/String" "value" "[B" (.ref oa)) (I9 : Fld Z h0 o1 "java/lang/String" "coder" "B" (.int (0 : Int32))) (I10 : Arv Z h0 oa ka .byte (1 : Int32) [(.int w)] (.int (0 : Int32))) (gw_o0 : n0 ≤ o0) (ne_o2_o0 : o2 ≠ o0) (ne_o1_o0 : o1 ≠ o0) (ne_oa_o0 : oa ≠ o0) (hle : ¬ ((1048576 : Int32) < n)) (hcs : ¬ (wcs = (0 : Int32))) (hsf : wsf.isRef = true) :
    MetFree l (⟨"com/example/oncemark/oncemark/OutgoingMessage", "<init>", "(Ljava/lang/String;[B)V"⟩ : MethodName) (head1 (Jvm.Cond.code (⟨"com/example/oncemark/oncemark/OutgoingMessage", "<init>", "(Ljava/lang/String;[B)V"⟩ : MethodName) prog_18_method_2_code 3 none :: ws) ({ frames := 6, cells := 2, slots := 32, locals := 85 } : Room)) (fun a U => a = #[(.ref o0), (.ref o1), (.ref o2)] ∧ Z.Warmed39 U.vm ∧ U.heap = h0) (fun _ _ _ _ _ => True) (fun _ U o U' => ∃ v L, o = .returned v ∧ Q1_k Z o0 o1 o2 kb n wcs wsf oa ka w h0 n0 v U'.heap L ∧ ReturnedEndW U o U' L ({ frames := 6, cells := 2, slots := 32, locals := 85 } : Room).cells ({ frames := 6, cells := 2, slots := 32, locals := 85 } : Room).slots) := by
  refine MetFree.of_bodySF (plainFor_of_name pn_1) hisR ?_
  intro p e s m args below meth c s₁ Bd hml0 hP hK
  obtain ⟨rfl, hZ, hh⟩ := hP
  have hx := Bd.exec
  have hby := Bd.bytes
  have hml : c.maxLocals = 3 := hml0
  have hown : s.vm.findClass "com/example/oncemark/oncemark/OutgoingMessage" = some m.cls := findClass_of_methodNamed Bd.named
  have hnm := (name_of_methodNamed Bd.named Bd.method).1
  have X0 : Stand p l e ({ frames := 6, cells := 2, slots := 32, locals := 85 } : Room) (s.setVm s.vm) m #[(.ref o0), (.ref o1), (.ref o2)] below meth c s₁ [] 0 0 := by rw [State.setVm_self]; exact Stand.of_body Bd
  have hS0 : s.Since s.vm h0.size := (State.WarmedH.refl s).since _
  have kS0 : h0.size ≤ h0.size := Nat.le_refl _
  have hZ : Z.Warmed39 (s.setVm s.vm).vm := hZ
  have hown : (s.setVm s.vm).vm.findClass "com/example/oncemark/oncemark/OutgoingMessage" = some m.cls := hown
  have e0 : s₁.heap = h0 := by rw [← hh, Bd.state]; rfl
  have N0 := Fr.nil n0
  have K0 : Keep h0 h0 [o0] := Keep.refl _ _
  have pre0 : ∀ t, Steps p.tables e below (s₁.setTop (mkF m 0 #[.val (.ref o0), .val (.ref o1), .val (.ref o2)] [])) t → Steps p.tables e below (s₁.setTop (entryFrame m #[(.ref o0), (.ref o1), (.ref o2)] 3)) t := fun t k => castTop (ef_1_k m o0 o1 o2) k
  have pre1 : ∀ t, Steps p.tables e below (s₁.setTop (mkF m 6 #[.val (.ref o0), .val (.ref o1), .val (.ref o2)] [(.long (-1 : Int64)), (.ref o2), (.ref o1), (.ref o0)])) t → Steps p.tables e below (s₁.setTop (entryFrame m #[(.ref o0), (.ref o1), (.ref o2)] 3)) t := fun t k => pre0 t (by
    show Steps p.tables e below (s₁.setTop (mkF m 0 #[.val (.ref o0), .val (.ref o1), .val (.ref o2)] [])) _
    refine XS.aloadN X0.here hx rfl (hb hby d1_0) rfl rfl ?_
    show Steps p.tables e below (s₁.setTop (mkF m 1 #[.val (.ref o0), .val (.ref o1), .val (.ref o2)] [(.ref o0)])) _
    refine XS.aloadN X0.here hx rfl (hb hby d1_1) rfl rfl ?_
    show Steps p.tables e below (s₁.setTop (mkF m 2 #[.val (.ref o0), .val (.ref o1), .val (.ref o2)] [(.ref o1), (.ref o0)])) _
    refine XS.aloadN X0.here hx rfl (hb hby d1_2) rfl rfl ?_
    show Steps p.tables e below (s₁.setTop (mkF m 3 #[.val (.ref o0), .val (.ref o1), .val (.ref o2)] [(.ref o2), (.ref o1), (.ref o0)])) _
    refine X0.ldc2Long hx hown (mvT hZ (hw _ (List.mem_of_getElem? (i := 8) rfl))) (g := (mkF m 3 #[.val (.ref o0), .val (.ref o1), .val (.ref o2)] [(.ref o2), (.ref o1), (.ref o0)])) rfl (hb hby d1_3) _ ?_
    exact k)
  obtain ⟨_, _, ⟨T2, L2, k2, n2⟩, -, X2, hSn2, hgn2, ⟨Lc2, hQ2, l2, y2, z2⟩, st2⟩ := X0.specialBackS hx (y := (⟨"com/example/oncemark/oncemark/OutgoingMessage", "<init>", "(Ljava/lang/String;[BJ)V"⟩ : MethodName)) rfl hown (mvT hZ (hw _ (List.mem_of_getElem? (i := 9) rfl))) (mvT hZ (hw _ (List.mem_of_getElem? (i := 10) rfl))) (mvT hZ (hw _ (List.mem_of_getElem? (i := 11) rfl))) (by decide) (backOfS (W := 0) (rm2_k l Z a0 hw [] o0 o1 o2 (-1 : Int64) _ n wcs wsf oa _ w h0 n0 Z0 I0 I1 I2 I3 I4 I5 I6 I7 I8 I9 I10 gw_o0 ne_o2_o0 ne_o1_o0 ne_oa_o0 hle hcs hsf) hZ (hw _ (List.mem_of_getElem? (i := 11) rfl)) (hw _ (List.mem_of_getElem? (i := 4) rfl)) (by decide) (by decide)) (g := (mkF m 6 #[.val (.ref o0), .val (.ref o1), .val (.ref o2)] [(.long (-1 : Int64)), (.ref o2), (.ref o1), (.ref o0)])) rfl (by rw [hml]; rfl) (Steps.refl _) (a := o0) (argsL := [(.ref o1), (.ref o2), (.long (-1 : Int64))]) (rest := []) (lenOf pd__Ljava_lang_String__BJ_V rfl) rfl (by show 2 * 0 + _ ≤ _; exact Nat.le_of_eq rfl) (hb hby d1_6) (fun _ _ => ⟨rfl, e0, (by decide : 0 + 2 ≤ _), (by decide : 0 + 32 ≤ _)⟩)
  dsimp only [Pt.U, Pt.locs, Pt.cells, Pt.slots] at X2 l2 y2 z2 st2 hQ2 hSn2 hgn2
  subst l2 y2 z2
  obtain ⟨X2, hS2, hZ, hown⟩ := rebS hS0 (by rw [e0]; exact kS0) X2 hSn2 hgn2 hZ hown
  obtain ⟨rfl, Nq2, Kq2, o2_0, o2_1, o2_2, o2_3⟩ := hQ2
  have N2 := Fr.app N0 Nq2
  have K2 : Keep h0 T2.heap [o0] := K0.trans Kq2 (allS (Or.inl (List.mem_of_getElem? (i := 0) rfl)) all0)
  have Z2 : n0 ≤ T2.heap.size := Nat.le_trans Z0 Kq2.1
  have x3 := I0.keep Kq2
  have x4 := I4.keep Kq2 (ninS ne_o2_o0 nin0)
  have x5 := own_staK I5 Kq2 (allS (own_plE I0) all0)
  have x6 := own_staK I6 Kq2 (allS (own_plE I0) all0)
  have x7 := I7.keep Kq2
  have x8 := I8.keep Kq2 (ninS ne_o1_o0 nin0)
  have x9 := I9.keep Kq2 (ninS ne_o1_o0 nin0)
  have x10 := I10.keep Kq2 (ninS ne_oa_o0 nin0)
  have pre11 : ∀ t, Steps p.tables e below (T2.setTop (mkF m 9 #[.val (.ref o0), .val (.ref o1), .val (.ref o2)] [])) t → Steps p.tables e below (s₁.setTop (entryFrame m #[(.ref o0), (.ref o1), (.ref o2)] 3)) t := fun t k => pre1 t (st2.trans k)
  obtain ⟨fs, hr, hrun, hended, hE⟩ := X2.leaveW hS2 (Nat.le_refl _) (v := none) (fun _ => rfl)
  refine ⟨_, _, ?_, hrun, hended, _, _, rfl, ?_, hE.1, hE.2.1, hE.2.2.1, hE.2.2.2.mono (by decide) (by decide)⟩
  · exact pre11 _ (X2.returnOut hx Bd.returns (hb hby d1_9) hr)
  · show Q1_k Z o0 o1 o2 kb n wcs wsf oa ka w h0 n0 _ T2.heap _
    skip
    exact ⟨rfl, N2, K2, o2_0, o2_1, o2_2, o2_3⟩
theorem ef_5_k (m : MethodId) (x0 : Addr) (x1 : Int64) (x2 : Addr) (x3 : Addr) : entryFrame m #[(.ref x0), (.long x1), (.ref x2), (.ref x3)] 5 = mkF m 0 #[.val (.ref x0), .val (.long x1), .second, .val (.ref x2), .val (.ref x3)] [] := by first | (simp [entryFrame, mkF, argsToLocals, Value.category]; done) | rfl
def Q5_k (Z : State) (o0 : Addr) (q1 : Int64) (o2 : Addr) (o3 : Addr) (kb : ClassId) (n : Int32) (wcs : Int32) (wsf : Value) (oa : Addr) (ka : ClassId) (w : Int32) (h0 : Heap) (n0 : Nat) (v : Option Value) (h : Heap) (L : List Loc) : Prop := v = none ∧ Fr n0 L ∧ Keep h0 h [o0] ∧ Exa Z h o0 "com/example/oncemark/oncemark/OutgoingMessage" ∧ Fld Z h o0 "com/example/oncemark/oncemark/OutgoingMessage" "sequenceId" "J" (.long (f6 q1)) ∧ Fld Z h o0 "com/example/oncemark/oncemark/OutgoingMessage" "key" "Ljava/lang/String;" (.ref o2) ∧ Fld Z h o0 "com/example/oncemark/oncemark/OutgoingMessage" "payload" "[B" (.ref o3)
set_option maxRecDepth 65536 in
set_option maxHeartbeats 40000000 in
theorem rm5_k (l : Launch) (Z : State) (a0 : Array Value) (hw : ∀ d ∈ tables_1, d.before a0 Z = true) (ws : List Jvm.Cond) (o0 : Addr) (q1 : Int64) (o2 : Addr) (o3 : Addr) (kb : ClassId) (n : Int32) (wcs : Int32) (wsf : Value) (oa : Addr) (ka : ClassId) (w : Int32) (h0 : Heap) (n0 : Nat) (Z0 : n0 ≤ h0.size) (I0 : Exa Z h0 o0 "com/example/oncemark/oncemark/OutgoingMessage") (I1 : Fld Z h0 o0 "com/example/oncemark/oncemark/OutgoingMessage" "sequenceId" "J" (.long (0 : Int64))) (I2 : Fld Z h0 o0 "com/example/oncemark/oncemark/OutgoingMessage" "key" "Ljava/lang/String;" .null) (I3 : Fld Z h0 o0 "com/example/oncemark/oncemark/OutgoingMessage" "payload" "[B" .null) (I4 : Arh Z h0 o3 kb .byte n [] [] (.int (0 : Int32))) (I5 : Sta Z h0 "java/lang/String" "COMPACT_STRINGS" "Z" (.int wcs)) (I6 : Sta Z h0 "jdk/internal/util/Preconditions" "SIOOBE_FORMATTER" "Ljava/util/function/BiFunction;" wsf) (I7 : Exa Z h0 o2 "java/lang/String") (I8 : Fld Z h0 o2 "java/lang/String" "value" "[B" (.ref oa)) (I9 : Fld Z h0 o2 "java/lang/String" "coder" "B" (.int (0 : Int32))) (I10 : Arv Z h0 oa ka .byte (1 : Int32) [(.int w)] (.int (0 : Int32))) (gw_o0 : n0 ≤ o0) (ne_o3_o0 : o3 ≠ o0) (ne_o2_o0 : o2 ≠ o0) (ne_oa_o0 : oa ≠ o0) (hq : ¬ (q1 < (0 : Int64))) (hle : ¬ ((1048576 : Int32) < n)) (hcs : ¬ (wcs = (0 : Int32))) (hsf : wsf.isRef = true) :
    MetFree l (⟨"com/example/oncemark/oncemark/OutgoingMessage", "<init>", "(JLjava/lang/String;[B)V"⟩ : MethodName) (head1 (Jvm.Cond.code (⟨"com/example/oncemark/oncemark/OutgoingMessage", "<init>", "(JLjava/lang/String;[B)V"⟩ : MethodName) prog_18_method_1_code 5 none :: ws) ({ frames := 6, cells := 2, slots := 32, locals := 85 } : Room)) (fun a U => a = #[(.ref o0), (.long q1), (.ref o2), (.ref o3)] ∧ Z.Warmed39 U.vm ∧ U.heap = h0) (fun _ _ _ _ _ => True) (fun _ U o U' => ∃ v L, o = .returned v ∧ Q5_k Z o0 q1 o2 o3 kb n wcs wsf oa ka w h0 n0 v U'.heap L ∧ ReturnedEndW U o U' L ({ frames := 6, cells := 2, slots := 32, locals := 85 } : Room).cells ({ frames := 6, cells := 2, slots := 32, locals := 85 } : Room).slots) := by
  refine MetFree.of_bodySF (plainFor_of_name pn_5) hisR ?_
  intro p e s m args below meth c s₁ Bd hml0 hP hK
  obtain ⟨rfl, hZ, hh⟩ := hP
  have hx := Bd.exec
  have hby := Bd.bytes
  have hml : c.maxLocals = 5 := hml0
  have hown : s.vm.findClass "com/example/oncemark/oncemark/OutgoingMessage" = some m.cls := findClass_of_methodNamed Bd.named
  have hnm := (name_of_methodNamed Bd.named Bd.method).1
  have X0 : Stand p l e ({ frames := 6, cells := 2, slots := 32, locals := 85 } : Room) (s.setVm s.vm) m #[(.ref o0), (.long q1), (.ref o2), (.ref o3)] below meth c s₁ [] 0 0 := by rw [State.setVm_self]; exact Stand.of_body Bd
  have hS0 : s.Since s.vm h0.size := (State.WarmedH.refl s).since _
  have kS0 : h0.size ≤ h0.size := Nat.le_refl _
  have hZ : Z.Warmed39 (s.setVm s.vm).vm := hZ
  have hown : (s.setVm s.vm).vm.findClass "com/example/oncemark/oncemark/OutgoingMessage" = some m.cls := hown
  have e0 : s₁.heap = h0 := by rw [← hh, Bd.state]; rfl
  have N0 := Fr.nil n0
  have K0 : Keep h0 h0 [o0] := Keep.refl _ _
  have pre0 : ∀ t, Steps p.tables e below (s₁.setTop (mkF m 0 #[.val (.ref o0), .val (.long q1), .second, .val (.ref o2), .val (.ref o3)] [])) t → Steps p.tables e below (s₁.setTop (entryFrame m #[(.ref o0), (.long q1), (.ref o2), (.ref o3)] 5)) t := fun t k => castTop (ef_5_k m o0 q1 o2 o3) k
  have pre1 : ∀ t, Steps p.tables e below (s₁.setTop (mkF m 5 #[.val (.ref o0), .val (.long q1), .second, .val (.ref o2), .val (.ref o3)] [(.long q1), (.ref o3), (.ref o2), (.ref o0)])) t → Steps p.tables e below (s₁.setTop (entryFrame m #[(.ref o0), (.long q1), (.ref o2), (.ref o3)] 5)) t := fun t k => pre0 t (by
    show Steps p.tables e below (s₁.setTop (mkF m 0 #[.val (.ref o0), .val (.long q1), .second, .val (.ref o2), .val (.ref o3)] [])) _
    refine XS.aloadN X0.here hx rfl (hb hby d5_0) rfl rfl ?_
    show Steps p.tables e below (s₁.setTop (mkF m 1 #[.val (.ref o0), .val (.long q1), .second, .val (.ref o2), .val (.ref o3)] [(.ref o0)])) _
    refine XS.aloadN X0.here hx rfl (hb hby d5_1) rfl rfl ?_
    show Steps p.tables e below (s₁.setTop (mkF m 2 #[.val (.ref o0), .val (.long q1), .second, .val (.ref o2), .val (.ref o3)] [(.ref o2), (.ref o0)])) _
    refine XS.aload X0.here hx rfl (hb hby d5_2) rfl rfl ?_
    show Steps p.tables e below (s₁.setTop (mkF m 4 #[.val (.ref o0), .val (.long q1), .second, .val (.ref o2), .val (.ref o3)] [(.ref o3), (.ref o2), (.ref o0)])) _
    refine XS.lloadN X0.here hx rfl (hb hby d5_4) rfl ?_
    exact k)
  obtain ⟨_, _, ⟨T2, L2, k2, n2⟩, -, X2, ⟨Lc2, hQ2, l2, y2, z2⟩, st2⟩ := Jvm.LawKit.callS X0 hx (y := (⟨"com/example/oncemark/oncemark/OutgoingMessage", "checkedSequenceId", "(J)J"⟩ : MethodName)) hown (mvT hZ (hw _ (List.mem_of_getElem? (i := 36) rfl))) (mvT hZ (hw _ (List.mem_of_getElem? (i := 37) rfl))) (mvT hZ (hw _ (List.mem_of_getElem? (i := 4) rfl))) (mvT hZ (hw _ (List.mem_of_getElem? (i := 38) rfl))) (by decide) (backOf (W := 3) (rm6 l Z a0 hw [] q1 h0 n0 Z0 hq) hZ (hw _ (List.mem_of_getElem? (i := 38) rfl)) (hw _ (List.mem_of_getElem? (i := 4) rfl)) (by decide) (by decide)) (g := (mkF m 5 #[.val (.ref o0), .val (.long q1), .second, .val (.ref o2), .val (.ref o3)] [(.long q1), (.ref o3), (.ref o2), (.ref o0)])) rfl (by rw [hml]; rfl) (argsL := [(.long q1)]) (rest := [(.ref o3), (.ref o2), (.ref o0)]) (lenOf pd__J_J rfl) rfl (by show 2 * 0 + _ ≤ _; exact Nat.le_of_eq rfl) (hb hby d5_5) (fun _ _ => ⟨rfl, e0, (by decide : 0 + 0 ≤ _), (by decide : 0 + 0 ≤ _)⟩)
  dsimp only [Pt.U, Pt.locs, Pt.cells, Pt.slots] at X2 l2 y2 z2 st2 hQ2
  subst l2 y2 z2
  obtain ⟨rfl, Nq2, e2⟩ := hQ2
  have N2 := Fr.app N0 Nq2
  have pre3 : ∀ t, Steps p.tables e below (T2.setTop (mkF m 8 #[.val (.ref o0), .val (.long q1), .second, .val (.ref o2), .val (.ref o3)] [(.long (f6 q1)), (.ref o3), (.ref o2), (.ref o0)])) t → Steps p.tables e below (s₁.setTop (entryFrame m #[(.ref o0), (.long q1), (.ref o2), (.ref o3)] 5)) t := fun t k => pre1 t (st2 _ k)
  obtain ⟨_, _, ⟨T4, L4, k4, n4⟩, -, X4, hSn4, hgn4, ⟨Lc4, hQ4, l4, y4, z4⟩, st4⟩ := X2.specialBackS hx (y := (⟨"com/example/oncemark/oncemark/OutgoingMessage", "<init>", "(Ljava/lang/String;[BJ)V"⟩ : MethodName)) rfl hown (mvT hZ (hw _ (List.mem_of_getElem? (i := 9) rfl))) (mvT hZ (hw _ (List.mem_of_getElem? (i := 10) rfl))) (mvT hZ (hw _ (List.mem_of_getElem? (i := 11) rfl))) (by decide) (backOfS (W := 0) (rm2_k l Z a0 hw [] o0 o2 o3 (f6 q1) _ n wcs wsf oa _ w h0 n0 Z0 I0 I1 I2 I3 I4 I5 I6 I7 I8 I9 I10 gw_o0 ne_o3_o0 ne_o2_o0 ne_oa_o0 hle hcs hsf) hZ (hw _ (List.mem_of_getElem? (i := 11) rfl)) (hw _ (List.mem_of_getElem? (i := 4) rfl)) (by decide) (by decide)) (g := (mkF m 8 #[.val (.ref o0), .val (.long q1), .second, .val (.ref o2), .val (.ref o3)] [(.long (f6 q1)), (.ref o3), (.ref o2), (.ref o0)])) rfl (by rw [hml]; rfl) (Steps.refl _) (a := o0) (argsL := [(.ref o2), (.ref o3), (.long (f6 q1))]) (rest := []) (lenOf pd__Ljava_lang_String__BJ_V rfl) rfl (by show 2 * 0 + _ ≤ _; exact Nat.le_of_eq rfl) (hb hby d5_8) (fun _ _ => ⟨rfl, e2, (by decide : 0 + 2 ≤ _), (by decide : 0 + 32 ≤ _)⟩)
  dsimp only [Pt.U, Pt.locs, Pt.cells, Pt.slots] at X4 l4 y4 z4 st4 hQ4 hSn4 hgn4
  subst l4 y4 z4
  obtain ⟨X4, hS4, hZ, hown⟩ := rebS hS0 (by rw [e2]; exact kS0) X4 hSn4 hgn4 hZ hown
  obtain ⟨rfl, Nq4, Kq4, o4_0, o4_1, o4_2, o4_3⟩ := hQ4
  have N4 := Fr.app N2 Nq4
  have K4 : Keep h0 T4.heap [o0] := K0.trans Kq4 (allS (Or.inl (List.mem_of_getElem? (i := 0) rfl)) all0)
  have Z4 : n0 ≤ T4.heap.size := Nat.le_trans Z0 Kq4.1
  have x5 := I0.keep Kq4
  have x6 := I4.keep Kq4 (ninS ne_o3_o0 nin0)
  have x7 := own_staK I5 Kq4 (allS (own_plE I0) all0)
  have x8 := own_staK I6 Kq4 (allS (own_plE I0) all0)
  have x9 := I7.keep Kq4
  have x10 := I8.keep Kq4 (ninS ne_o2_o0 nin0)
  have x11 := I9.keep Kq4 (ninS ne_o2_o0 nin0)
  have x12 := I10.keep Kq4 (ninS ne_oa_o0 nin0)
  have pre13 : ∀ t, Steps p.tables e below (T4.setTop (mkF m 11 #[.val (.ref o0), .val (.long q1), .second, .val (.ref o2), .val (.ref o3)] [])) t → Steps p.tables e below (s₁.setTop (entryFrame m #[(.ref o0), (.long q1), (.ref o2), (.ref o3)] 5)) t := fun t k => pre3 t (st4.trans k)
  obtain ⟨fs, hr, hrun, hended, hE⟩ := X4.leaveW hS4 (Nat.le_refl _) (v := none) (fun _ => rfl)
  refine ⟨_, _, ?_, hrun, hended, _, _, rfl, ?_, hE.1, hE.2.1, hE.2.2.1, hE.2.2.2.mono (by decide) (by decide)⟩
  · exact pre13 _ (X4.returnOut hx Bd.returns (hb hby d5_11) hr)
  · show Q5_k Z o0 q1 o2 o3 kb n wcs wsf oa ka w h0 n0 _ T4.heap _
    skip
    exact ⟨rfl, N4, K4, o4_0, o4_1, o4_2, o4_3⟩
def Q7_k (Z : State) (o0 : Addr) (q1 : Int64) (ok : Addr) (op : Addr) (kb : ClassId) (n : Int32) (wcs : Int32) (wsf : Value) (oa : Addr) (ka : ClassId) (w : Int32) (h0 : Heap) (n0 : Nat) (v : Option Value) (h : Heap) (L : List Loc) : Prop := ∃ (b0 : Addr), v = (some (.ref b0)) ∧ Fr n0 L ∧ Keep h0 h [] ∧ h0.size ≤ b0 ∧ Exa Z h b0 "com/example/oncemark/oncemark/OutgoingMessage" ∧ Fld Z h b0 "com/example/oncemark/oncemark/OutgoingMessage" "sequenceId" "J" (.long (f6 q1))
set_option maxRecDepth 65536 in
set_option maxHeartbeats 40000000 in
theorem rm7_k (l : Launch) (Z : State) (a0 : Array Value) (hw : ∀ d ∈ tables_1, d.before a0 Z = true) (ws : List Jvm.Cond) (o0 : Addr) (q1 : Int64) (ok : Addr) (op : Addr) (kb : ClassId) (n : Int32) (wcs : Int32) (wsf : Value) (oa : Addr) (ka : ClassId) (w : Int32) (h0 : Heap) (n0 : Nat) (Z0 : n0 ≤ h0.size) (I0 : Fld Z h0 o0 "com/example/oncemark/oncemark/OutgoingMessage" "key" "Ljava/lang/String;" (.ref ok)) (I1 : Fld Z h0 o0 "com/example/oncemark/oncemark/OutgoingMessage" "payload" "[B" (.ref op)) (I2 : Arh Z h0 op kb .byte n [] [] (.int (0 : Int32))) (I3 : Sta Z h0 "java/lang/String" "COMPACT_STRINGS" "Z" (.int wcs)) (I4 : Sta Z h0 "jdk/internal/util/Preconditions" "SIOOBE_FORMATTER" "Ljava/util/function/BiFunction;" wsf) (I5 : Exa Z h0 ok "java/lang/String") (I6 : Fld Z h0 ok "java/lang/String" "value" "[B" (.ref oa)) (I7 : Fld Z h0 ok "java/lang/String" "coder" "B" (.int (0 : Int32))) (I8 : Arv Z h0 oa ka .byte (1 : Int32) [(.int w)] (.int (0 : Int32))) (hq : ¬ (q1 < (0 : Int64))) (hle : ¬ ((1048576 : Int32) < n)) (hcs : ¬ (wcs = (0 : Int32))) (hsf : wsf.isRef = true) :
    MetFree l (⟨"com/example/oncemark/oncemark/OutgoingMessage", "numbered", "(J)Lcom/example/oncemark/oncemark/OutgoingMessage;"⟩ : MethodName) (head1 (Jvm.Cond.code (⟨"com/example/oncemark/oncemark/OutgoingMessage", "numbered", "(J)Lcom/example/oncemark/oncemark/OutgoingMessage;"⟩ : MethodName) prog_18_method_8_code 3 (some (.object "com/example/oncemark/oncemark/OutgoingMessage")) :: ws) ({ frames := 7, cells := 3, slots := 35, locals := 102 } : Room)) (fun a U => a = #[(.ref o0), (.long q1)] ∧ Z.Warmed39 U.vm ∧ U.heap = h0) (fun _ _ _ _ _ => True) (fun _ U o U' => ∃ v L, o = .returned v ∧ Q7_k Z o0 q1 ok op kb n wcs wsf oa ka w h0 n0 v U'.heap L ∧ ReturnedEndW U o U' L ({ frames := 7, cells := 3, slots := 35, locals := 102 } : Room).cells ({ frames := 7, cells := 3, slots := 35, locals := 102 } : Room).slots) := by
  refine MetFree.of_bodySF (plainFor_of_name pn_7) hisR ?_
  intro p e s m args below meth c s₁ Bd hml0 hP hK
  obtain ⟨rfl, hZ, hh⟩ := hP
  have hx := Bd.exec
  have hby := Bd.bytes
  have hml : c.maxLocals = 3 := hml0
  have hown : s.vm.findClass "com/example/oncemark/oncemark/OutgoingMessage" = some m.cls := findClass_of_methodNamed Bd.named
  have hnm := (name_of_methodNamed Bd.named Bd.method).1
  have X0 : Stand p l e ({ frames := 7, cells := 3, slots := 35, locals := 102 } : Room) (s.setVm s.vm) m #[(.ref o0), (.long q1)] below meth c s₁ [] 0 0 := by rw [State.setVm_self]; exact Stand.of_body Bd
  have hS0 : s.Since s.vm h0.size := (State.WarmedH.refl s).since _
  have kS0 : h0.size ≤ h0.size := Nat.le_refl _
  have hZ : Z.Warmed39 (s.setVm s.vm).vm := hZ
  have hown : (s.setVm s.vm).vm.findClass "com/example/oncemark/oncemark/OutgoingMessage" = some m.cls := hown
  have e0 : s₁.heap = h0 := by rw [← hh, Bd.state]; rfl
  have N0 := Fr.nil n0
  have K0 : Keep h0 h0 [] := Keep.refl _ _
  have pre0 : ∀ t, Steps p.tables e below (s₁.setTop (mkF m 0 #[.val (.ref o0), .val (.long q1), .second] [])) t → Steps p.tables e below (s₁.setTop (entryFrame m #[(.ref o0), (.long q1)] 3)) t := fun t k => castTop (ef_7_n m o0 q1) k
  obtain ⟨T1, h1, X1, e1, E1, A1, D1, -, st1⟩ := newO X0 hx hZ hown (hw _ (List.mem_of_getElem? (i := 44) rfl)) (hw _ (List.mem_of_getElem? (i := 3) rfl)) (hw _ (List.mem_of_getElem? (i := 4) rfl)) e0 (g := (mkF m 0 #[.val (.ref o0), .val (.long q1), .second] [])) rfl (hb hby d7_0) (by decide) (by decide)
  obtain ⟨b0, g1⟩ : ∃ z, z = h0.size := ⟨_, rfl⟩
  rw [← g1] at A1 D1 st1
  have gg1 : n0 ≤ b0 := Nat.le_trans Z0 (Nat.le_of_eq g1.symm)
  have sz1 : h0.size ≤ b0 := Nat.le_trans K0.1 (Nat.le_of_eq g1.symm)
  have K1 : Keep h0 h1 [] := K0.ext E1
  have Z1 : n0 ≤ h1.size := Nat.le_trans Z0 E1.1
  have ne1_o0 : o0 ≠ b0 := Nat.ne_of_lt (Nat.lt_of_lt_of_le I0.lt (Nat.le_of_eq g1.symm))
  have ne1_op : op ≠ b0 := Nat.ne_of_lt (Nat.lt_of_lt_of_le I2.lt (Nat.le_of_eq g1.symm))
  have ne1_ok : ok ≠ b0 := Nat.ne_of_lt (Nat.lt_of_lt_of_le I5.lt (Nat.le_of_eq g1.symm))
  have ne1_oa : oa ≠ b0 := Nat.ne_of_lt (Nat.lt_of_lt_of_le I8.lt (Nat.le_of_eq g1.symm))
  have x2 := I0.ext E1
  have x3 := I1.ext E1
  have x4 := I2.ext E1
  have x5 := I3.ext E1
  have x6 := I4.ext E1
  have x7 := I5.ext E1
  have x8 := I6.ext E1
  have x9 := I7.ext E1
  have x10 := I8.ext E1
  have Fn1_sequenceId : Fld Z h1 b0 "com/example/oncemark/oncemark/OutgoingMessage" "sequenceId" "J" (.long (0 : Int64)) := D1 (Or.inr (hw _ (List.mem_of_getElem? (i := 28) rfl))) (ty := .long) (by decide)
  have Fn1_key : Fld Z h1 b0 "com/example/oncemark/oncemark/OutgoingMessage" "key" "Ljava/lang/String;" .null := D1 (Or.inr (hw _ (List.mem_of_getElem? (i := 30) rfl))) (ty := (.object "java/lang/String")) (by decide)
  have Fn1_payload : Fld Z h1 b0 "com/example/oncemark/oncemark/OutgoingMessage" "payload" "[B" .null := D1 (Or.inr (hw _ (List.mem_of_getElem? (i := 32) rfl))) (ty := (.array .byte)) (by decide)
  have pre11 : ∀ t, Steps p.tables e below (T1.setTop (mkF m 3 #[.val (.ref o0), .val (.long q1), .second] [(.ref b0)])) t → Steps p.tables e below (s₁.setTop (entryFrame m #[(.ref o0), (.long q1)] 3)) t := fun t k => pre0 t (st1 _ k)
  have kS1 : _ ≤ h1.size := Nat.le_trans kS0 E1.1
  have pre12 : ∀ t, Steps p.tables e below (T1.setTop (mkF m 6 #[.val (.ref o0), .val (.long q1), .second] [(.ref o0), (.long q1), (.ref b0), (.ref b0)])) t → Steps p.tables e below (s₁.setTop (entryFrame m #[(.ref o0), (.long q1)] 3)) t := fun t k => pre11 t (by
    show Steps p.tables e below (T1.setTop (mkF m 3 #[.val (.ref o0), .val (.long q1), .second] [(.ref b0)])) _
    refine XS.dup X1.here hx rfl (hb hby d7_3) rfl rfl ?_
    show Steps p.tables e below (T1.setTop (mkF m 4 #[.val (.ref o0), .val (.long q1), .second] [(.ref b0), (.ref b0)])) _
    refine XS.lloadN X1.here hx rfl (hb hby d7_4) rfl ?_
    show Steps p.tables e below (T1.setTop (mkF m 5 #[.val (.ref o0), .val (.long q1), .second] [(.long q1), (.ref b0), (.ref b0)])) _
    refine XS.aloadN X1.here hx rfl (hb hby d7_5) rfl rfl ?_
    exact k)
  obtain ⟨T13, X13, e13, st13⟩ := getF X1 hx hZ hown (host := "") (Or.inl (hw _ (List.mem_of_getElem? (i := 29) rfl))) Via.refl e1 x2 (g := (mkF m 6 #[.val (.ref o0), .val (.long q1), .second] [(.ref o0), (.long q1), (.ref b0), (.ref b0)])) rfl rfl (hb hby d7_6)
  have pre14 : ∀ t, Steps p.tables e below (T13.setTop (mkF m 9 #[.val (.ref o0), .val (.long q1), .second] [(.ref ok), (.long q1), (.ref b0), (.ref b0)])) t → Steps p.tables e below (s₁.setTop (entryFrame m #[(.ref o0), (.long q1)] 3)) t := fun t k => pre12 t (st13 _ k)
  have pre15 : ∀ t, Steps p.tables e below (T13.setTop (mkF m 10 #[.val (.ref o0), .val (.long q1), .second] [(.ref o0), (.ref ok), (.long q1), (.ref b0), (.ref b0)])) t → Steps p.tables e below (s₁.setTop (entryFrame m #[(.ref o0), (.long q1)] 3)) t := fun t k => pre14 t (by
    show Steps p.tables e below (T13.setTop (mkF m 9 #[.val (.ref o0), .val (.long q1), .second] [(.ref ok), (.long q1), (.ref b0), (.ref b0)])) _
    refine XS.aloadN X13.here hx rfl (hb hby d7_9) rfl rfl ?_
    exact k)
  obtain ⟨T16, X16, e16, st16⟩ := getF X13 hx hZ hown (host := "") (Or.inl (hw _ (List.mem_of_getElem? (i := 31) rfl))) Via.refl e13 x3 (g := (mkF m 10 #[.val (.ref o0), .val (.long q1), .second] [(.ref o0), (.ref ok), (.long q1), (.ref b0), (.ref b0)])) rfl rfl (hb hby d7_10)
  have pre17 : ∀ t, Steps p.tables e below (T16.setTop (mkF m 13 #[.val (.ref o0), .val (.long q1), .second] [(.ref op), (.ref ok), (.long q1), (.ref b0), (.ref b0)])) t → Steps p.tables e below (s₁.setTop (entryFrame m #[(.ref o0), (.long q1)] 3)) t := fun t k => pre15 t (st16 _ k)
  obtain ⟨_, _, ⟨T18, L18, k18, n18⟩, -, X18, hSn18, hgn18, ⟨Lc18, hQ18, l18, y18, z18⟩, st18⟩ := X16.specialBackS hx (y := (⟨"com/example/oncemark/oncemark/OutgoingMessage", "<init>", "(JLjava/lang/String;[B)V"⟩ : MethodName)) rfl hown (mvT hZ (hw _ (List.mem_of_getElem? (i := 45) rfl))) (mvT hZ (hw _ (List.mem_of_getElem? (i := 34) rfl))) (mvT hZ (hw _ (List.mem_of_getElem? (i := 35) rfl))) (by decide) (backOfS (W := 1) (rm5_k l Z a0 hw [] b0 q1 ok op _ n wcs wsf oa _ w h1 n0 Z1 A1 Fn1_sequenceId Fn1_key Fn1_payload x4 x5 x6 x7 x8 x9 x10 gg1 ne1_op ne1_ok ne1_oa hq hle hcs hsf) hZ (hw _ (List.mem_of_getElem? (i := 35) rfl)) (hw _ (List.mem_of_getElem? (i := 4) rfl)) (by decide) (by decide)) (g := (mkF m 13 #[.val (.ref o0), .val (.long q1), .second] [(.ref op), (.ref ok), (.long q1), (.ref b0), (.ref b0)])) rfl (by rw [hml]; rfl) (Steps.refl _) (a := b0) (argsL := [(.long q1), (.ref ok), (.ref op)]) (rest := [(.ref b0)]) (lenOf pd__JLjava_lang_String__B_V rfl) rfl (by show 2 * 0 + _ ≤ _; exact Nat.le_of_eq rfl) (hb hby d7_13) (fun _ _ => ⟨rfl, e16, (by decide : 1 + 2 ≤ _), (by decide : 3 + 32 ≤ _)⟩)
  dsimp only [Pt.U, Pt.locs, Pt.cells, Pt.slots] at X18 l18 y18 z18 st18 hQ18 hSn18 hgn18
  subst l18 y18 z18
  obtain ⟨X18, hS18, hZ, hown⟩ := rebS hS0 (by rw [e16]; exact kS1) X18 hSn18 hgn18 hZ hown
  obtain ⟨rfl, Nq18, Kq18, o18_0, o18_1, o18_2, o18_3⟩ := hQ18
  have N18 := Fr.app N0 Nq18
  have K18 : Keep h0 T18.heap [] := K1.trans Kq18 (allS (Or.inr sz1) all0)
  have Z18 : n0 ≤ T18.heap.size := Nat.le_trans Z1 Kq18.1
  have x19 := x2.keep Kq18 (ninS ne1_o0 nin0)
  have x20 := x3.keep Kq18 (ninS ne1_o0 nin0)
  have x21 := x4.keep Kq18 (ninS ne1_op nin0)
  have x22 := own_staK x5 Kq18 (allS (own_plE A1) all0)
  have x23 := own_staK x6 Kq18 (allS (own_plE A1) all0)
  have x24 := x7.keep Kq18
  have x25 := x8.keep Kq18 (ninS ne1_ok nin0)
  have x26 := x9.keep Kq18 (ninS ne1_ok nin0)
  have x27 := x10.keep Kq18 (ninS ne1_oa nin0)
  have x28 := A1.keep Kq18
  have pre29 : ∀ t, Steps p.tables e below (T18.setTop (mkF m 16 #[.val (.ref o0), .val (.long q1), .second] [(.ref b0)])) t → Steps p.tables e below (s₁.setTop (entryFrame m #[(.ref o0), (.long q1)] 3)) t := fun t k => pre17 t (st18.trans k)
  obtain ⟨fs, hr, hrun, hended, hE⟩ := X18.leaveW hS18 (Nat.le_refl _) (v := some (.ref b0)) (fun h => by rw [Bd.returns] at h; cases h)
  refine ⟨_, _, ?_, hrun, hended, _, _, rfl, ?_, hE.1, hE.2.1, hE.2.2.1, hE.2.2.2.mono (by decide) (by decide)⟩
  · refine pre29 _ ?_
    jvm_step X18.here [X18.here.top, hx, (hb hby d7_16), X18.method', Bd.returns, Value.isRef, FieldType.isReference]
    first | (intro acts; rw [hr _ acts rfl rfl rfl]) | rw [hr _ _ rfl rfl rfl]
    exact Steps.refl _
  · show Q7_k Z o0 q1 ok op kb n wcs wsf oa ka w h0 n0 _ T18.heap _
    skip
    exact ⟨b0, rfl, N18, K18, sz1, o18_0, o18_1⟩
theorem d8_0 : decode prog_18_method_4_code 0 = .ok (.aload_n 0, 1) := by decide +kernel
theorem d8_1 : decode prog_18_method_4_code 1 = .ok (.getfield 49, 3) := by decide +kernel
theorem d8_4 : decode prog_18_method_4_code 4 = .ok (.ldc2_w 11, 3) := by decide +kernel
theorem d8_7 : decode prog_18_method_4_code 7 = .ok (.lcmp, 1) := by decide +kernel
theorem d8_8 : decode prog_18_method_4_code 8 = .ok (.ifCond .eq 7, 3) := by decide +kernel
theorem d8_11 : decode prog_18_method_4_code 11 = .ok (.iconst 1, 1) := by decide +kernel
theorem d8_12 : decode prog_18_method_4_code 12 = .ok (.goto 4, 3) := by decide +kernel
theorem d8_15 : decode prog_18_method_4_code 15 = .ok (.iconst 0, 1) := by decide +kernel
theorem d8_16 : decode prog_18_method_4_code 16 = .ok (.ireturn, 1) := by decide +kernel
theorem pn_8 : plainName "com/example/oncemark/oncemark/OutgoingMessage" = true := by first | (simp [plainName, overriddenIn]; done) | decide +kernel
theorem ef_8 (m : MethodId) (x0 : Addr) : entryFrame m #[(.ref x0)] 1 = mkF m 0 #[.val (.ref x0)] [] := by first | (simp [entryFrame, mkF, argsToLocals, Value.category]; done) | rfl
def f8 (w0 : Int64) : Int32 := (if w0 = (-1 : Int64) then (0 : Int32) else (1 : Int32))
set_option maxRecDepth 65536 in
set_option maxHeartbeats 40000000 in
theorem rm8 (l : Launch) (Z : State) (a0 : Array Value) (hw : ∀ d ∈ tables_1, d.before a0 Z = true) (ws : List Jvm.Cond) (o0 : Addr) (w0 : Int64) (h0 : Heap) (n0 : Nat) (Z0 : n0 ≤ h0.size) (I0 : Fld Z h0 o0 "com/example/oncemark/oncemark/OutgoingMessage" "sequenceId" "J" (.long w0)) :
    MetFree l (⟨"com/example/oncemark/oncemark/OutgoingMessage", "hasSequenceId", "()Z"⟩ : MethodName) (head1 (Jvm.Cond.code (⟨"com/example/oncemark/oncemark/OutgoingMessage", "hasSequenceId", "()Z"⟩ : MethodName) prog_18_method_4_code 1 (some .boolean) :: ws) ({ frames := 0, cells := 0, slots := 0, locals := 0 } : Room)) (fun a U => a = #[(.ref o0)] ∧ Z.Warmed39 U.vm ∧ U.heap = h0) (fun _ _ _ _ _ => True) (fun _ U o U' => ∃ v L, o = .returned v ∧ QP (some (.int (f8 w0))) h0 n0 v U'.heap L ∧ FrameEnd U o U' L ({ frames := 0, cells := 0, slots := 0, locals := 0 } : Room).cells ({ frames := 0, cells := 0, slots := 0, locals := 0 } : Room).slots) := by
  refine MetFree.of_bodySF (plainFor_of_name pn_8) hisR ?_
  intro p e s m args below meth c s₁ Bd hml0 hP hK
  obtain ⟨rfl, hZ, hh⟩ := hP
  have hx := Bd.exec
  have hby := Bd.bytes
  have hml : c.maxLocals = 1 := hml0
  have hown : s.vm.findClass "com/example/oncemark/oncemark/OutgoingMessage" = some m.cls := findClass_of_methodNamed Bd.named
  have hnm := (name_of_methodNamed Bd.named Bd.method).1
  have X0 : Stand p l e ({ frames := 0, cells := 0, slots := 0, locals := 0 } : Room) s m #[(.ref o0)] below meth c s₁ [] 0 0 := Stand.of_body Bd
  have e0 : s₁.heap = h0 := by rw [← hh, Bd.state]; rfl
  have N0 := Fr.nil n0
  have K0 : Keep h0 h0 [] := Keep.refl _ _
  have pre0 : ∀ t, Steps p.tables e below (s₁.setTop (mkF m 0 #[.val (.ref o0)] [])) t → Steps p.tables e below (s₁.setTop (entryFrame m #[(.ref o0)] 1)) t := fun t k => castTop (ef_8 m o0) k
  have pre2 : ∀ t, Steps p.tables e below (s₁.setTop (mkF m 1 #[.val (.ref o0)] [(.ref o0)])) t → Steps p.tables e below (s₁.setTop (entryFrame m #[(.ref o0)] 1)) t := fun t k => pre0 t (by
    show Steps p.tables e below (s₁.setTop (mkF m 0 #[.val (.ref o0)] [])) _
    refine XS.aloadN X0.here hx rfl (hb hby d8_0) rfl rfl ?_
    exact k)
  obtain ⟨T3, X3, e3, st3⟩ := getF X0 hx hZ hown (host := "") (Or.inl (hw _ (List.mem_of_getElem? (i := 27) rfl))) Via.refl e0 I0 (g := (mkF m 1 #[.val (.ref o0)] [(.ref o0)])) rfl rfl (hb hby d8_1)
  have pre4 : ∀ t, Steps p.tables e below (T3.setTop (mkF m 4 #[.val (.ref o0)] [(.long w0)])) t → Steps p.tables e below (s₁.setTop (entryFrame m #[(.ref o0)] 1)) t := fun t k => pre2 t (st3 _ k)
  have pre5 : ∀ t, Steps p.tables e below (T3.setTop (mkF m 8 #[.val (.ref o0)] [(.int (lcmpW w0 (-1 : Int64)))])) t → Steps p.tables e below (s₁.setTop (entryFrame m #[(.ref o0)] 1)) t := fun t k => pre4 t (by
    show Steps p.tables e below (T3.setTop (mkF m 4 #[.val (.ref o0)] [(.long w0)])) _
    refine X3.ldc2Long hx hown (mvT hZ (hw _ (List.mem_of_getElem? (i := 8) rfl))) (g := (mkF m 4 #[.val (.ref o0)] [(.long w0)])) rfl (hb hby d8_4) _ ?_
    show Steps p.tables e below (T3.setTop (mkF m 7 #[.val (.ref o0)] [(.long (-1 : Int64)), (.long w0)])) _
    refine XS.lcmp X3.here hx rfl (hb hby d8_7) rfl ?_
    exact k)
  by_cases hc8_1 : w0 = (-1 : Int64)
  · have pre6 : ∀ t, Steps p.tables e below (T3.setTop (mkF m 16 #[.val (.ref o0)] [(.int (0 : Int32))])) t → Steps p.tables e below (s₁.setTop (entryFrame m #[(.ref o0)] 1)) t := fun t k => pre5 t (by
      show Steps p.tables e below (T3.setTop (mkF m 8 #[.val (.ref o0)] [(.int (lcmpW w0 (-1 : Int64)))])) _
      refine XS.ifYes X3.here hx rfl (pc0 := 8) (pc' := 15) rfl (hb hby d8_8) rfl ((if0 _ _).trans (teq ((lw_eq _ _).mpr hc8_1)).1) (by decide) (by decide) ?_
      show Steps p.tables e below (T3.setTop (mkF m 15 #[.val (.ref o0)] [])) _
      refine XS.iconst X3.here hx rfl (hb hby d8_15) ?_
      exact k)
    obtain ⟨fs, hr, hrun, hended, hW, hsame⟩ := X3.leave (v := some (.int (0 : Int32))) (fun h => by rw [Bd.returns] at h; cases h)
    refine ⟨_, _, ?_, hrun, hended, _, _, rfl, ?_, ⟨_, rfl⟩, hW, hsame.mono (by decide) (by decide)⟩
    · exact pre6 _ (retN X3 hx (t := .boolean) Bd.returns (by simp) (hb hby d8_16) hr)
    · exact ⟨by simp only [f8, if_pos hc8_1], N0, e3⟩
  · have pre7 : ∀ t, Steps p.tables e below (T3.setTop (mkF m 16 #[.val (.ref o0)] [(.int (1 : Int32))])) t → Steps p.tables e below (s₁.setTop (entryFrame m #[(.ref o0)] 1)) t := fun t k => pre5 t (by
      show Steps p.tables e below (T3.setTop (mkF m 8 #[.val (.ref o0)] [(.int (lcmpW w0 (-1 : Int64)))])) _
      refine XS.ifNo X3.here hx rfl (hb hby d8_8) rfl ((if0 _ _).trans (feq (fun q => hc8_1 ((lw_eq _ _).mp q))).1) ?_
      show Steps p.tables e below (T3.setTop (mkF m 11 #[.val (.ref o0)] [])) _
      refine XS.iconst X3.here hx rfl (hb hby d8_11) ?_
      show Steps p.tables e below (T3.setTop (mkF m 12 #[.val (.ref o0)] [(.int (1 : Int32))])) _
      refine XS.goto X3.here hx rfl (pc0 := 12) (pc' := 16) rfl (hb hby d8_12) (by decide) (by decide) ?_
      exact k)
    obtain ⟨fs, hr, hrun, hended, hW, hsame⟩ := X3.leave (v := some (.int (1 : Int32))) (fun h => by rw [Bd.returns] at h; cases h)
    refine ⟨_, _, ?_, hrun, hended, _, _, rfl, ?_, ⟨_, rfl⟩, hW, hsame.mono (by decide) (by decide)⟩
    · exact pre7 _ (retN X3 hx (t := .boolean) Bd.returns (by simp) (hb hby d8_16) hr)
    · exact ⟨by simp only [f8, if_neg hc8_1], N0, e3⟩
theorem d9_0 : decode prog_18_method_5_code 0 = .ok (.aload_n 0, 1) := by decide +kernel
theorem d9_1 : decode prog_18_method_5_code 1 = .ok (.getfield 49, 3) := by decide +kernel
theorem d9_4 : decode prog_18_method_5_code 4 = .ok (.lreturn, 1) := by decide +kernel
theorem pn_9 : plainName "com/example/oncemark/oncemark/OutgoingMessage" = true := by first | (simp [plainName, overriddenIn]; done) | decide +kernel
theorem ef_9 (m : MethodId) (x0 : Addr) : entryFrame m #[(.ref x0)] 1 = mkF m 0 #[.val (.ref x0)] [] := by first | (simp [entryFrame, mkF, argsToLocals, Value.category]; done) | rfl
def f9 (w0 : Int64) : Int64 := w0
set_option maxRecDepth 65536 in
set_option maxHeartbeats 40000000 in
theorem rm9 (l : Launch) (Z : State) (a0 : Array Value) (hw : ∀ d ∈ tables_1, d.before a0 Z = true) (ws : List Jvm.Cond) (o0 : Addr) (w0 : Int64) (h0 : Heap) (n0 : Nat) (Z0 : n0 ≤ h0.size) (I0 : Fld Z h0 o0 "com/example/oncemark/oncemark/OutgoingMessage" "sequenceId" "J" (.long w0)) :
    MetFree l (⟨"com/example/oncemark/oncemark/OutgoingMessage", "sequenceId", "()J"⟩ : MethodName) (head1 (Jvm.Cond.code (⟨"com/example/oncemark/oncemark/OutgoingMessage", "sequenceId", "()J"⟩ : MethodName) prog_18_method_5_code 1 (some .long) :: ws) ({ frames := 0, cells := 0, slots := 0, locals := 0 } : Room)) (fun a U => a = #[(.ref o0)] ∧ Z.Warmed39 U.vm ∧ U.heap = h0) (fun _ _ _ _ _ => True) (fun _ U o U' => ∃ v L, o = .returned v ∧ QP (some (.long (f9 w0))) h0 n0 v U'.heap L ∧ FrameEnd U o U' L ({ frames := 0, cells := 0, slots := 0, locals := 0 } : Room).cells ({ frames := 0, cells := 0, slots := 0, locals := 0 } : Room).slots) := by
  refine MetFree.of_bodySF (plainFor_of_name pn_9) hisR ?_
  intro p e s m args below meth c s₁ Bd hml0 hP hK
  obtain ⟨rfl, hZ, hh⟩ := hP
  have hx := Bd.exec
  have hby := Bd.bytes
  have hml : c.maxLocals = 1 := hml0
  have hown : s.vm.findClass "com/example/oncemark/oncemark/OutgoingMessage" = some m.cls := findClass_of_methodNamed Bd.named
  have hnm := (name_of_methodNamed Bd.named Bd.method).1
  have X0 : Stand p l e ({ frames := 0, cells := 0, slots := 0, locals := 0 } : Room) s m #[(.ref o0)] below meth c s₁ [] 0 0 := Stand.of_body Bd
  have e0 : s₁.heap = h0 := by rw [← hh, Bd.state]; rfl
  have N0 := Fr.nil n0
  have K0 : Keep h0 h0 [] := Keep.refl _ _
  have pre0 : ∀ t, Steps p.tables e below (s₁.setTop (mkF m 0 #[.val (.ref o0)] [])) t → Steps p.tables e below (s₁.setTop (entryFrame m #[(.ref o0)] 1)) t := fun t k => castTop (ef_9 m o0) k
  have pre1 : ∀ t, Steps p.tables e below (s₁.setTop (mkF m 1 #[.val (.ref o0)] [(.ref o0)])) t → Steps p.tables e below (s₁.setTop (entryFrame m #[(.ref o0)] 1)) t := fun t k => pre0 t (by
    show Steps p.tables e below (s₁.setTop (mkF m 0 #[.val (.ref o0)] [])) _
    refine XS.aloadN X0.here hx rfl (hb hby d9_0) rfl rfl ?_
    exact k)
  obtain ⟨T2, X2, e2, st2⟩ := getF X0 hx hZ hown (host := "") (Or.inl (hw _ (List.mem_of_getElem? (i := 27) rfl))) Via.refl e0 I0 (g := (mkF m 1 #[.val (.ref o0)] [(.ref o0)])) rfl rfl (hb hby d9_1)
  have pre3 : ∀ t, Steps p.tables e below (T2.setTop (mkF m 4 #[.val (.ref o0)] [(.long w0)])) t → Steps p.tables e below (s₁.setTop (entryFrame m #[(.ref o0)] 1)) t := fun t k => pre1 t (st2 _ k)
  obtain ⟨fs, hr, hrun, hended, hW, hsame⟩ := X2.leave (v := some (.long w0)) (fun h => by rw [Bd.returns] at h; cases h)
  refine ⟨_, _, ?_, hrun, hended, _, _, rfl, ?_, ⟨_, rfl⟩, hW, hsame.mono (by decide) (by decide)⟩
  · exact pre3 _ (X2.lreturnOut hx Bd.returns (hb hby d9_4) hr)
  · exact ⟨by simp only [f9], N0, e2⟩
theorem own_len (x : Int32) : ¬ ((((x.toUInt32 >>> ((1 : Int32) &&& 31).toUInt32).toInt32) &&& (3 : Int32)) < 0) ∧ (((x.toUInt32 >>> ((1 : Int32) &&& 31).toUInt32).toInt32) &&& (3 : Int32)).toNatClampNeg ≤ 3 ∧ ¬ ((1048576 : Int32) < (((x.toUInt32 >>> ((1 : Int32) &&& 31).toUInt32).toInt32) &&& (3 : Int32))) := by
  generalize ((x.toUInt32 >>> ((1 : Int32) &&& 31).toUInt32).toInt32) = y
  have h : (y &&& (3 : Int32)).toInt = y.toInt % 4 := c_mask y 3 2 (by decide) (by decide)
  refine ⟨?_, ?_, ?_⟩
  · rw [Int32.lt_iff_toInt_lt, h, show (0 : Int32).toInt = 0 from rfl]; omega
  · simp only [Int32.toNatClampNeg, h]; omega
  · rw [Int32.lt_iff_toInt_lt, h, show (1048576 : Int32).toInt = 1048576 from rfl]; omega
theorem own_q (x : Int64) : ¬ ((x &&& (9223372036854775807 : Int64)) < (0 : Int64)) := by
  have h : (x &&& (9223372036854775807 : Int64)).toInt = x.toInt % 9223372036854775808 := c_maskL x 9223372036854775807 63 (by decide) (by decide)
  rw [Int64.lt_iff_toInt_lt, h, show (0 : Int64).toInt = 0 from rfl]
  omega
theorem own_c (x : Int32) : ¬ ((255 : Int32) < ((x &&& (255 : Int32)).toUInt32.toUInt16.toUInt32.toInt32)) := by
  have h : (x &&& (255 : Int32)).toInt = x.toInt % 256 := c_mask x 255 8 (by decide) (by decide)
  have a := c_i2c (x &&& (255 : Int32))
  rw [Int32.lt_iff_toInt_lt, show (255 : Int32).toInt = 255 from rfl]
  omega
theorem pn_0 : plainName "com/example/oncemark/oncemark/OutgoingMessageHasSequenceIdPinLaw" = true := by first | (simp [plainName, overriddenIn]; done) | decide +kernel
theorem pd__Ljava_lang_String__B_V : parseMethodDescriptor "(Ljava/lang/String;[B)V" = some ⟨[(.object "java/lang/String"), (.array .byte)], none⟩ := by decide +kernel
theorem pd__J_Lcom_example_oncemark_oncemark_OutgoingMessage_ : parseMethodDescriptor "(J)Lcom/example/oncemark/oncemark/OutgoingMessage;" = some ⟨[.long], some (.object "com/example/oncemark/oncemark/OutgoingMessage")⟩ := by decide +kernel
theorem pd___J : parseMethodDescriptor "()J" = some ⟨[], some .long⟩ := by decide +kernel
theorem ef_0 (m : MethodId) (x0 : Int64) (x1 : Int32) (x2 : Int32) : entryFrame m #[(.long x0), (.int x1), (.int x2)] maxLocals = mkF m 0 #[.val (.long x0), .second, .val (.int x1), .val (.int x2), .unset, .unset, .unset, .unset, .unset, .unset, .unset, .unset, .unset, .unset] [] := by first | (simp [entryFrame, mkF, argsToLocals, Value.category, maxLocals]; done) | rfl
def v0_n_99_s0 : Int32 := (if (f8 (-1 : Int64)) = (0 : Int32) then (if (f9 (-1 : Int64)) = (-1 : Int64) then (1 : Int32) else (0 : Int32)) else (0 : Int32))
def v0_n_125_s0 (q0 : Int64) : Int32 := (if (f8 (f6 (q0 &&& (9223372036854775807 : Int64)))) = (0 : Int32) then (0 : Int32) else (if (f9 (f6 (q0 &&& (9223372036854775807 : Int64)))) = (q0 &&& (9223372036854775807 : Int64)) then (1 : Int32) else (0 : Int32)))
def v0_n_151_s0 (q0 : Int64) : Int32 := (if (f8 (f6 (q0 &&& (9223372036854775807 : Int64)))) = (0 : Int32) then (0 : Int32) else (if (f9 (f6 (q0 &&& (9223372036854775807 : Int64)))) = (q0 &&& (9223372036854775807 : Int64)) then (1 : Int32) else (0 : Int32)))
def f0_n (q0 : Int64) : Int32 := (if (v0_n_99_s0) = (0 : Int32) then (0 : Int32) else (if (v0_n_125_s0 q0) = (0 : Int32) then (0 : Int32) else (if (v0_n_151_s0 q0) = (0 : Int32) then (0 : Int32) else (1 : Int32))))
set_option maxRecDepth 65536 in
set_option maxHeartbeats 40000000 in
theorem rm0_n (l : Launch) (Z : State) (a0 : Array Value) (hw : ∀ d ∈ tables_1, d.before a0 Z = true) (ws : List Jvm.Cond) (q0 : Int64) (p1 : Int32) (p2 : Int32) (wcs : Int32) (wsf : Value) (h0 : Heap) (n0 : Nat) (Z0 : n0 ≤ h0.size) (I0 : Sta Z h0 "java/lang/String" "COMPACT_STRINGS" "Z" (.int wcs)) (I1 : Sta Z h0 "jdk/internal/util/Preconditions" "SIOOBE_FORMATTER" "Ljava/util/function/BiFunction;" wsf) (hk : (p1 &&& (1 : Int32)) = (0 : Int32)) (hcs : ¬ (wcs = (0 : Int32))) (hsf : wsf.isRef = true) :
    MetFree l x (head1 (Jvm.Cond.code x code maxLocals ret :: ws) room_1) (fun a U => a = #[(.long q0), (.int p1), (.int p2)] ∧ Z.Warmed39 U.vm ∧ U.heap = h0) (fun _ _ _ _ _ => True) (fun _ U o U' => ∃ v L, o = .returned v ∧ QL (some (.int (f0_n q0))) n0 v U'.heap L ∧ ReturnedEndW U o U' L room_1.cells room_1.slots) := by
  refine MetFree.of_bodySF (plainFor_of_name pn_0) hisR ?_
  intro p e s m args below meth c s₁ Bd hml0 hP hK
  obtain ⟨rfl, hZ, hh⟩ := hP
  have hx := Bd.exec
  have hby := Bd.bytes
  have hml : c.maxLocals = 14 := hml0
  have hown : s.vm.findClass "com/example/oncemark/oncemark/OutgoingMessageHasSequenceIdPinLaw" = some m.cls := findClass_of_methodNamed Bd.named
  have hnm := (name_of_methodNamed Bd.named Bd.method).1
  have X0 : Stand p l e room_1 (s.setVm s.vm) m #[(.long q0), (.int p1), (.int p2)] below meth c s₁ [] 0 0 := by rw [State.setVm_self]; exact Stand.of_body Bd
  have hS0 : s.Since s.vm h0.size := (State.WarmedH.refl s).since _
  have kS0 : h0.size ≤ h0.size := Nat.le_refl _
  have hZ : Z.Warmed39 (s.setVm s.vm).vm := hZ
  have hown : (s.setVm s.vm).vm.findClass "com/example/oncemark/oncemark/OutgoingMessageHasSequenceIdPinLaw" = some m.cls := hown
  have e0 : s₁.heap = h0 := by rw [← hh, Bd.state]; rfl
  have N0 := Fr.nil n0
  have K0 : Keep h0 h0 [] := Keep.refl _ _
  have pre0 : ∀ t, Steps p.tables e below (s₁.setTop (mkF m 0 #[.val (.long q0), .second, .val (.int p1), .val (.int p2), .unset, .unset, .unset, .unset, .unset, .unset, .unset, .unset, .unset, .unset] [])) t → Steps p.tables e below (s₁.setTop (entryFrame m #[(.long q0), (.int p1), (.int p2)] maxLocals)) t := fun t k => castTop (ef_0 m q0 p1 p2) k
  have pre10 : ∀ t, Steps p.tables e below (s₁.setTop (mkF m 33 #[.val (.long q0), .second, .val (.int p1), .val (.int p2), .val (.long (q0 &&& (9223372036854775807 : Int64))), .second, .val .null, .unset, .unset, .unset, .unset, .unset, .unset, .unset] [(.int (((p1.toUInt32 >>> ((1 : Int32) &&& 31).toUInt32).toInt32) &&& (3 : Int32)))])) t → Steps p.tables e below (s₁.setTop (entryFrame m #[(.long q0), (.int p1), (.int p2)] maxLocals)) t := fun t k => pre0 t (by
    show Steps p.tables e below (s₁.setTop (mkF m 0 #[.val (.long q0), .second, .val (.int p1), .val (.int p2), .unset, .unset, .unset, .unset, .unset, .unset, .unset, .unset, .unset, .unset] [])) _
    refine XS.lloadN X0.here hx rfl (hb hby at_0) rfl ?_
    show Steps p.tables e below (s₁.setTop (mkF m 1 #[.val (.long q0), .second, .val (.int p1), .val (.int p2), .unset, .unset, .unset, .unset, .unset, .unset, .unset, .unset, .unset, .unset] [(.long q0)])) _
    refine X0.ldc2Long hx hown (mvT hZ (hw _ (List.mem_of_getElem? (i := 0) rfl))) (g := (mkF m 1 #[.val (.long q0), .second, .val (.int p1), .val (.int p2), .unset, .unset, .unset, .unset, .unset, .unset, .unset, .unset, .unset, .unset] [(.long q0)])) rfl (hb hby at_1) _ ?_
    show Steps p.tables e below (s₁.setTop (mkF m 4 #[.val (.long q0), .second, .val (.int p1), .val (.int p2), .unset, .unset, .unset, .unset, .unset, .unset, .unset, .unset, .unset, .unset] [(.long (9223372036854775807 : Int64)), (.long q0)])) _
    refine XS.land X0.here hx rfl (hb hby at_4) rfl ?_
    show Steps p.tables e below (s₁.setTop (mkF m 5 #[.val (.long q0), .second, .val (.int p1), .val (.int p2), .unset, .unset, .unset, .unset, .unset, .unset, .unset, .unset, .unset, .unset] [(.long (q0 &&& (9223372036854775807 : Int64)))])) _
    refine XS.lstore X0.here hx rfl (hb hby at_5) rfl (l' := #[.val (.long q0), .second, .val (.int p1), .val (.int p2), .val (.long (q0 &&& (9223372036854775807 : Int64))), .second, .unset, .unset, .unset, .unset, .unset, .unset, .unset, .unset]) rfl ?_
    show Steps p.tables e below (s₁.setTop (mkF m 7 #[.val (.long q0), .second, .val (.int p1), .val (.int p2), .val (.long (q0 &&& (9223372036854775807 : Int64))), .second, .unset, .unset, .unset, .unset, .unset, .unset, .unset, .unset] [])) _
    refine XS.iloadN X0.here hx rfl (hb hby at_7) rfl ?_
    show Steps p.tables e below (s₁.setTop (mkF m 8 #[.val (.long q0), .second, .val (.int p1), .val (.int p2), .val (.long (q0 &&& (9223372036854775807 : Int64))), .second, .unset, .unset, .unset, .unset, .unset, .unset, .unset, .unset] [(.int p1)])) _
    refine XS.iconst X0.here hx rfl (hb hby at_8) ?_
    show Steps p.tables e below (s₁.setTop (mkF m 9 #[.val (.long q0), .second, .val (.int p1), .val (.int p2), .val (.long (q0 &&& (9223372036854775807 : Int64))), .second, .unset, .unset, .unset, .unset, .unset, .unset, .unset, .unset] [(.int (1 : Int32)), (.int p1)])) _
    refine XS.iand X0.here hx rfl (hb hby at_9) rfl ?_
    show Steps p.tables e below (s₁.setTop (mkF m 10 #[.val (.long q0), .second, .val (.int p1), .val (.int p2), .val (.long (q0 &&& (9223372036854775807 : Int64))), .second, .unset, .unset, .unset, .unset, .unset, .unset, .unset, .unset] [(.int (p1 &&& (1 : Int32)))])) _
    refine XS.ifYes X0.here hx rfl (pc0 := 10) (pc' := 25) rfl (hb hby at_10) rfl ((if0 _ _).trans (teq hk).1) (by decide) (by decide) ?_
    show Steps p.tables e below (s₁.setTop (mkF m 25 #[.val (.long q0), .second, .val (.int p1), .val (.int p2), .val (.long (q0 &&& (9223372036854775807 : Int64))), .second, .unset, .unset, .unset, .unset, .unset, .unset, .unset, .unset] [])) _
    refine XS.aconstNull X0.here hx rfl (hb hby at_25) ?_
    show Steps p.tables e below (s₁.setTop (mkF m 26 #[.val (.long q0), .second, .val (.int p1), .val (.int p2), .val (.long (q0 &&& (9223372036854775807 : Int64))), .second, .unset, .unset, .unset, .unset, .unset, .unset, .unset, .unset] [.null])) _
    refine XS.astore X0.here hx rfl (hb hby at_26) rfl rfl (l' := #[.val (.long q0), .second, .val (.int p1), .val (.int p2), .val (.long (q0 &&& (9223372036854775807 : Int64))), .second, .val .null, .unset, .unset, .unset, .unset, .unset, .unset, .unset]) rfl ?_
    show Steps p.tables e below (s₁.setTop (mkF m 28 #[.val (.long q0), .second, .val (.int p1), .val (.int p2), .val (.long (q0 &&& (9223372036854775807 : Int64))), .second, .val .null, .unset, .unset, .unset, .unset, .unset, .unset, .unset] [])) _
    refine XS.iloadN X0.here hx rfl (hb hby at_28) rfl ?_
    show Steps p.tables e below (s₁.setTop (mkF m 29 #[.val (.long q0), .second, .val (.int p1), .val (.int p2), .val (.long (q0 &&& (9223372036854775807 : Int64))), .second, .val .null, .unset, .unset, .unset, .unset, .unset, .unset, .unset] [(.int p1)])) _
    refine XS.iconst X0.here hx rfl (hb hby at_29) ?_
    show Steps p.tables e below (s₁.setTop (mkF m 30 #[.val (.long q0), .second, .val (.int p1), .val (.int p2), .val (.long (q0 &&& (9223372036854775807 : Int64))), .second, .val .null, .unset, .unset, .unset, .unset, .unset, .unset, .unset] [(.int (1 : Int32)), (.int p1)])) _
    refine XS.iushr X0.here hx rfl (hb hby at_30) rfl ?_
    show Steps p.tables e below (s₁.setTop (mkF m 31 #[.val (.long q0), .second, .val (.int p1), .val (.int p2), .val (.long (q0 &&& (9223372036854775807 : Int64))), .second, .val .null, .unset, .unset, .unset, .unset, .unset, .unset, .unset] [(.int ((p1.toUInt32 >>> ((1 : Int32) &&& 31).toUInt32).toInt32))])) _
    refine XS.iconst X0.here hx rfl (hb hby at_31) ?_
    show Steps p.tables e below (s₁.setTop (mkF m 32 #[.val (.long q0), .second, .val (.int p1), .val (.int p2), .val (.long (q0 &&& (9223372036854775807 : Int64))), .second, .val .null, .unset, .unset, .unset, .unset, .unset, .unset, .unset] [(.int (3 : Int32)), (.int ((p1.toUInt32 >>> ((1 : Int32) &&& 31).toUInt32).toInt32))])) _
    refine XS.iand X0.here hx rfl (hb hby at_32) rfl ?_
    exact k)
  obtain ⟨T11, h11, k11, X11, e11, E11, A11, st11⟩ := newP X0 hx hZ (hw _ (List.mem_of_getElem? (i := 1) rfl)) e0 (g := (mkF m 33 #[.val (.long q0), .second, .val (.int p1), .val (.int p2), .val (.long (q0 &&& (9223372036854775807 : Int64))), .second, .val .null, .unset, .unset, .unset, .unset, .unset, .unset, .unset] [(.int (((p1.toUInt32 >>> ((1 : Int32) &&& 31).toUInt32).toInt32) &&& (3 : Int32)))])) rfl (hb hby at_33) rfl (own_len p1).1 (cap := 3) (own_len p1).2.1 (by decide) (by decide) (by decide)
  obtain ⟨b33, g11⟩ : ∃ z, z = h0.size := ⟨_, rfl⟩
  rw [← g11] at A11 st11
  have gg11 : n0 ≤ b33 := Nat.le_trans Z0 (Nat.le_of_eq g11.symm)
  have sz11 : h0.size ≤ b33 := Nat.le_trans K0.1 (Nat.le_of_eq g11.symm)
  have K11 : Keep h0 h11 [] := K0.ext E11
  have Z11 : n0 ≤ h11.size := Nat.le_trans Z0 E11.1
  have V11 : Arh Z h11 b33 k11 .byte (((p1.toUInt32 >>> ((1 : Int32) &&& 31).toUInt32).toInt32) &&& (3 : Int32)) [] [] (.int (0 : Int32)) := (Arv.new A11 (own_len p1).1).arh
  have x12 := I0.ext E11
  have x13 := I1.ext E11
  have pre14 : ∀ t, Steps p.tables e below (T11.setTop (mkF m 35 #[.val (.long q0), .second, .val (.int p1), .val (.int p2), .val (.long (q0 &&& (9223372036854775807 : Int64))), .second, .val .null, .unset, .unset, .unset, .unset, .unset, .unset, .unset] [(.ref b33)])) t → Steps p.tables e below (s₁.setTop (entryFrame m #[(.long q0), (.int p1), (.int p2)] maxLocals)) t := fun t k => pre10 t (st11 _ k)
  have kS11 : _ ≤ h11.size := Nat.le_trans kS0 E11.1
  have pre15 : ∀ t, Steps p.tables e below (T11.setTop (mkF m 37 #[.val (.long q0), .second, .val (.int p1), .val (.int p2), .val (.long (q0 &&& (9223372036854775807 : Int64))), .second, .val .null, .val (.ref b33), .unset, .unset, .unset, .unset, .unset, .unset] [])) t → Steps p.tables e below (s₁.setTop (entryFrame m #[(.long q0), (.int p1), (.int p2)] maxLocals)) t := fun t k => pre14 t (by
    show Steps p.tables e below (T11.setTop (mkF m 35 #[.val (.long q0), .second, .val (.int p1), .val (.int p2), .val (.long (q0 &&& (9223372036854775807 : Int64))), .second, .val .null, .unset, .unset, .unset, .unset, .unset, .unset, .unset] [(.ref b33)])) _
    refine XS.astore X11.here hx rfl (hb hby at_35) rfl rfl (l' := #[.val (.long q0), .second, .val (.int p1), .val (.int p2), .val (.long (q0 &&& (9223372036854775807 : Int64))), .second, .val .null, .val (.ref b33), .unset, .unset, .unset, .unset, .unset, .unset]) rfl ?_
    exact k)
  obtain ⟨T16, h16, X16, e16, E16, A16, D16, -, st16⟩ := newO X11 hx hZ hown (hw _ (List.mem_of_getElem? (i := 2) rfl)) (hw _ (List.mem_of_getElem? (i := 3) rfl)) (hw _ (List.mem_of_getElem? (i := 4) rfl)) e11 (g := (mkF m 37 #[.val (.long q0), .second, .val (.int p1), .val (.int p2), .val (.long (q0 &&& (9223372036854775807 : Int64))), .second, .val .null, .val (.ref b33), .unset, .unset, .unset, .unset, .unset, .unset] [])) rfl (hb hby at_37) (by decide) (by decide)
  obtain ⟨b37, g16⟩ : ∃ z, z = h11.size := ⟨_, rfl⟩
  rw [← g16] at A16 D16 st16
  have gg16 : n0 ≤ b37 := Nat.le_trans Z11 (Nat.le_of_eq g16.symm)
  have sz16 : h0.size ≤ b37 := Nat.le_trans K11.1 (Nat.le_of_eq g16.symm)
  have K16 : Keep h0 h16 [] := K11.ext E16
  have Z16 : n0 ≤ h16.size := Nat.le_trans Z11 E16.1
  have ne16_b33 : b33 ≠ b37 := Nat.ne_of_lt (Nat.lt_of_lt_of_le V11.lt (Nat.le_of_eq g16.symm))
  have x17 := x12.ext E16
  have x18 := x13.ext E16
  have x19 := V11.ext E16
  have Fn16_sequenceId : Fld Z h16 b37 "com/example/oncemark/oncemark/OutgoingMessage" "sequenceId" "J" (.long (0 : Int64)) := D16 (Or.inr (hw _ (List.mem_of_getElem? (i := 28) rfl))) (ty := .long) (by decide)
  have Fn16_key : Fld Z h16 b37 "com/example/oncemark/oncemark/OutgoingMessage" "key" "Ljava/lang/String;" .null := D16 (Or.inr (hw _ (List.mem_of_getElem? (i := 30) rfl))) (ty := (.object "java/lang/String")) (by decide)
  have Fn16_payload : Fld Z h16 b37 "com/example/oncemark/oncemark/OutgoingMessage" "payload" "[B" .null := D16 (Or.inr (hw _ (List.mem_of_getElem? (i := 32) rfl))) (ty := (.array .byte)) (by decide)
  have pre20 : ∀ t, Steps p.tables e below (T16.setTop (mkF m 40 #[.val (.long q0), .second, .val (.int p1), .val (.int p2), .val (.long (q0 &&& (9223372036854775807 : Int64))), .second, .val .null, .val (.ref b33), .unset, .unset, .unset, .unset, .unset, .unset] [(.ref b37)])) t → Steps p.tables e below (s₁.setTop (entryFrame m #[(.long q0), (.int p1), (.int p2)] maxLocals)) t := fun t k => pre15 t (st16 _ k)
  have kS16 : _ ≤ h16.size := Nat.le_trans kS11 E16.1
  have pre21 : ∀ t, Steps p.tables e below (T16.setTop (mkF m 45 #[.val (.long q0), .second, .val (.int p1), .val (.int p2), .val (.long (q0 &&& (9223372036854775807 : Int64))), .second, .val .null, .val (.ref b33), .unset, .unset, .unset, .unset, .unset, .unset] [(.ref b33), .null, (.ref b37), (.ref b37)])) t → Steps p.tables e below (s₁.setTop (entryFrame m #[(.long q0), (.int p1), (.int p2)] maxLocals)) t := fun t k => pre20 t (by
    show Steps p.tables e below (T16.setTop (mkF m 40 #[.val (.long q0), .second, .val (.int p1), .val (.int p2), .val (.long (q0 &&& (9223372036854775807 : Int64))), .second, .val .null, .val (.ref b33), .unset, .unset, .unset, .unset, .unset, .unset] [(.ref b37)])) _
    refine XS.dup X16.here hx rfl (hb hby at_40) rfl rfl ?_
    show Steps p.tables e below (T16.setTop (mkF m 41 #[.val (.long q0), .second, .val (.int p1), .val (.int p2), .val (.long (q0 &&& (9223372036854775807 : Int64))), .second, .val .null, .val (.ref b33), .unset, .unset, .unset, .unset, .unset, .unset] [(.ref b37), (.ref b37)])) _
    refine XS.aload X16.here hx rfl (hb hby at_41) rfl rfl ?_
    show Steps p.tables e below (T16.setTop (mkF m 43 #[.val (.long q0), .second, .val (.int p1), .val (.int p2), .val (.long (q0 &&& (9223372036854775807 : Int64))), .second, .val .null, .val (.ref b33), .unset, .unset, .unset, .unset, .unset, .unset] [.null, (.ref b37), (.ref b37)])) _
    refine XS.aload X16.here hx rfl (hb hby at_43) rfl rfl ?_
    exact k)
  obtain ⟨_, _, ⟨T22, L22, k22, n22⟩, -, X22, hSn22, hgn22, ⟨Lc22, hQ22, l22, y22, z22⟩, st22⟩ := X16.specialBackS hx (y := (⟨"com/example/oncemark/oncemark/OutgoingMessage", "<init>", "(Ljava/lang/String;[B)V"⟩ : MethodName)) rfl hown (mvT hZ (hw _ (List.mem_of_getElem? (i := 5) rfl))) (mvT hZ (hw _ (List.mem_of_getElem? (i := 6) rfl))) (mvT hZ (hw _ (List.mem_of_getElem? (i := 7) rfl))) (by decide) (backOfS (W := 1) (rm1_n l Z a0 hw [] b37 b33 _ (((p1.toUInt32 >>> ((1 : Int32) &&& 31).toUInt32).toInt32) &&& (3 : Int32)) h16 n0 Z16 A16 Fn16_sequenceId Fn16_key Fn16_payload x19 gg16 ne16_b33 (own_len p1).2.2) hZ (hw _ (List.mem_of_getElem? (i := 7) rfl)) (hw _ (List.mem_of_getElem? (i := 4) rfl)) (by decide) (by decide)) (g := (mkF m 45 #[.val (.long q0), .second, .val (.int p1), .val (.int p2), .val (.long (q0 &&& (9223372036854775807 : Int64))), .second, .val .null, .val (.ref b33), .unset, .unset, .unset, .unset, .unset, .unset] [(.ref b33), .null, (.ref b37), (.ref b37)])) rfl (by rw [hml]; rfl) (Steps.refl _) (a := b37) (argsL := [.null, (.ref b33)]) (rest := [(.ref b37)]) (lenOf pd__Ljava_lang_String__B_V rfl) rfl (by show 2 * 0 + _ ≤ _; exact Nat.le_of_eq rfl) (hb hby at_45) (fun _ _ => ⟨rfl, e16, (by decide : 2 + 2 ≤ _), (by decide : 6 + 32 ≤ _)⟩)
  dsimp only [Pt.U, Pt.locs, Pt.cells, Pt.slots] at X22 l22 y22 z22 st22 hQ22 hSn22 hgn22
  subst l22 y22 z22
  obtain ⟨X22, hS22, hZ, hown⟩ := rebS hS0 (by rw [e16]; exact kS16) X22 hSn22 hgn22 hZ hown
  obtain ⟨rfl, Nq22, Kq22, o22_0, o22_1, o22_2, o22_3⟩ := hQ22
  have N22 := Fr.app N0 Nq22
  have K22 : Keep h0 T22.heap [] := K16.trans Kq22 (allS (Or.inr sz16) all0)
  have Z22 : n0 ≤ T22.heap.size := Nat.le_trans Z16 Kq22.1
  have x23 := own_staK x17 Kq22 (allS (own_plE A16) all0)
  have x24 := own_staK x18 Kq22 (allS (own_plE A16) all0)
  have x25 := x19.keep Kq22 (ninS ne16_b33 nin0)
  have x26 := A16.keep Kq22
  have pre27 : ∀ t, Steps p.tables e below (T22.setTop (mkF m 48 #[.val (.long q0), .second, .val (.int p1), .val (.int p2), .val (.long (q0 &&& (9223372036854775807 : Int64))), .second, .val .null, .val (.ref b33), .unset, .unset, .unset, .unset, .unset, .unset] [(.ref b37)])) t → Steps p.tables e below (s₁.setTop (entryFrame m #[(.long q0), (.int p1), (.int p2)] maxLocals)) t := fun t k => pre21 t (st22.trans k)
  have pre28 : ∀ t, Steps p.tables e below (T22.setTop (mkF m 50 #[.val (.long q0), .second, .val (.int p1), .val (.int p2), .val (.long (q0 &&& (9223372036854775807 : Int64))), .second, .val .null, .val (.ref b33), .val (.ref b37), .unset, .unset, .unset, .unset, .unset] [])) t → Steps p.tables e below (s₁.setTop (entryFrame m #[(.long q0), (.int p1), (.int p2)] maxLocals)) t := fun t k => pre27 t (by
    show Steps p.tables e below (T22.setTop (mkF m 48 #[.val (.long q0), .second, .val (.int p1), .val (.int p2), .val (.long (q0 &&& (9223372036854775807 : Int64))), .second, .val .null, .val (.ref b33), .unset, .unset, .unset, .unset, .unset, .unset] [(.ref b37)])) _
    refine XS.astore X22.here hx rfl (hb hby at_48) rfl rfl (l' := #[.val (.long q0), .second, .val (.int p1), .val (.int p2), .val (.long (q0 &&& (9223372036854775807 : Int64))), .second, .val .null, .val (.ref b33), .val (.ref b37), .unset, .unset, .unset, .unset, .unset]) rfl ?_
    exact k)
  obtain ⟨T29, h29, X29, e29, E29, A29, D29, -, st29⟩ := newO X22 hx hZ hown (hw _ (List.mem_of_getElem? (i := 2) rfl)) (hw _ (List.mem_of_getElem? (i := 3) rfl)) (hw _ (List.mem_of_getElem? (i := 4) rfl)) rfl (g := (mkF m 50 #[.val (.long q0), .second, .val (.int p1), .val (.int p2), .val (.long (q0 &&& (9223372036854775807 : Int64))), .second, .val .null, .val (.ref b33), .val (.ref b37), .unset, .unset, .unset, .unset, .unset] [])) rfl (hb hby at_50) (by decide) (by decide)
  obtain ⟨b50, g29⟩ : ∃ z, z = T22.heap.size := ⟨_, rfl⟩
  rw [← g29] at A29 D29 st29
  have gg29 : n0 ≤ b50 := Nat.le_trans Z22 (Nat.le_of_eq g29.symm)
  have sz29 : h0.size ≤ b50 := Nat.le_trans K22.1 (Nat.le_of_eq g29.symm)
  have K29 : Keep h0 h29 [] := K22.ext E29
  have Z29 : n0 ≤ h29.size := Nat.le_trans Z22 E29.1
  have ne29_b33 : b33 ≠ b50 := Nat.ne_of_lt (Nat.lt_of_lt_of_le x25.lt (Nat.le_of_eq g29.symm))
  have ne29_b37 : b37 ≠ b50 := Nat.ne_of_lt (Nat.lt_of_lt_of_le o22_0.lt (Nat.le_of_eq g29.symm))
  have x30 := x23.ext E29
  have x31 := x24.ext E29
  have x32 := x25.ext E29
  have x33 := o22_0.ext E29
  have x34 := o22_1.ext E29
  have x35 := o22_2.ext E29
  have x36 := o22_3.ext E29
  have Fn29_sequenceId : Fld Z h29 b50 "com/example/oncemark/oncemark/OutgoingMessage" "sequenceId" "J" (.long (0 : Int64)) := D29 (Or.inr (hw _ (List.mem_of_getElem? (i := 28) rfl))) (ty := .long) (by decide)
  have Fn29_key : Fld Z h29 b50 "com/example/oncemark/oncemark/OutgoingMessage" "key" "Ljava/lang/String;" .null := D29 (Or.inr (hw _ (List.mem_of_getElem? (i := 30) rfl))) (ty := (.object "java/lang/String")) (by decide)
  have Fn29_payload : Fld Z h29 b50 "com/example/oncemark/oncemark/OutgoingMessage" "payload" "[B" .null := D29 (Or.inr (hw _ (List.mem_of_getElem? (i := 32) rfl))) (ty := (.array .byte)) (by decide)
  have pre37 : ∀ t, Steps p.tables e below (T29.setTop (mkF m 53 #[.val (.long q0), .second, .val (.int p1), .val (.int p2), .val (.long (q0 &&& (9223372036854775807 : Int64))), .second, .val .null, .val (.ref b33), .val (.ref b37), .unset, .unset, .unset, .unset, .unset] [(.ref b50)])) t → Steps p.tables e below (s₁.setTop (entryFrame m #[(.long q0), (.int p1), (.int p2)] maxLocals)) t := fun t k => pre28 t (st29 _ k)
  have kS29 : _ ≤ h29.size := Nat.le_trans (Nat.le_refl _) E29.1
  have pre38 : ∀ t, Steps p.tables e below (T29.setTop (mkF m 60 #[.val (.long q0), .second, .val (.int p1), .val (.int p2), .val (.long (q0 &&& (9223372036854775807 : Int64))), .second, .val .null, .val (.ref b33), .val (.ref b37), .unset, .unset, .unset, .unset, .unset] [(.ref b33), .null, (.long (q0 &&& (9223372036854775807 : Int64))), (.ref b50), (.ref b50)])) t → Steps p.tables e below (s₁.setTop (entryFrame m #[(.long q0), (.int p1), (.int p2)] maxLocals)) t := fun t k => pre37 t (by
    show Steps p.tables e below (T29.setTop (mkF m 53 #[.val (.long q0), .second, .val (.int p1), .val (.int p2), .val (.long (q0 &&& (9223372036854775807 : Int64))), .second, .val .null, .val (.ref b33), .val (.ref b37), .unset, .unset, .unset, .unset, .unset] [(.ref b50)])) _
    refine XS.dup X29.here hx rfl (hb hby at_53) rfl rfl ?_
    show Steps p.tables e below (T29.setTop (mkF m 54 #[.val (.long q0), .second, .val (.int p1), .val (.int p2), .val (.long (q0 &&& (9223372036854775807 : Int64))), .second, .val .null, .val (.ref b33), .val (.ref b37), .unset, .unset, .unset, .unset, .unset] [(.ref b50), (.ref b50)])) _
    refine XS.lload X29.here hx rfl (hb hby at_54) rfl ?_
    show Steps p.tables e below (T29.setTop (mkF m 56 #[.val (.long q0), .second, .val (.int p1), .val (.int p2), .val (.long (q0 &&& (9223372036854775807 : Int64))), .second, .val .null, .val (.ref b33), .val (.ref b37), .unset, .unset, .unset, .unset, .unset] [(.long (q0 &&& (9223372036854775807 : Int64))), (.ref b50), (.ref b50)])) _
    refine XS.aload X29.here hx rfl (hb hby at_56) rfl rfl ?_
    show Steps p.tables e below (T29.setTop (mkF m 58 #[.val (.long q0), .second, .val (.int p1), .val (.int p2), .val (.long (q0 &&& (9223372036854775807 : Int64))), .second, .val .null, .val (.ref b33), .val (.ref b37), .unset, .unset, .unset, .unset, .unset] [.null, (.long (q0 &&& (9223372036854775807 : Int64))), (.ref b50), (.ref b50)])) _
    refine XS.aload X29.here hx rfl (hb hby at_58) rfl rfl ?_
    exact k)
  obtain ⟨_, _, ⟨T39, L39, k39, n39⟩, -, X39, hSn39, hgn39, ⟨Lc39, hQ39, l39, y39, z39⟩, st39⟩ := X29.specialBackS hx (y := (⟨"com/example/oncemark/oncemark/OutgoingMessage", "<init>", "(JLjava/lang/String;[B)V"⟩ : MethodName)) rfl hown (mvT hZ (hw _ (List.mem_of_getElem? (i := 33) rfl))) (mvT hZ (hw _ (List.mem_of_getElem? (i := 34) rfl))) (mvT hZ (hw _ (List.mem_of_getElem? (i := 35) rfl))) (by decide) (backOfS (W := 1) (rm5_n l Z a0 hw [] b50 (q0 &&& (9223372036854775807 : Int64)) b33 _ (((p1.toUInt32 >>> ((1 : Int32) &&& 31).toUInt32).toInt32) &&& (3 : Int32)) h29 n0 Z29 A29 Fn29_sequenceId Fn29_key Fn29_payload x32 gg29 ne29_b33 (own_q q0) (own_len p1).2.2) hZ (hw _ (List.mem_of_getElem? (i := 35) rfl)) (hw _ (List.mem_of_getElem? (i := 4) rfl)) (by decide) (by decide)) (g := (mkF m 60 #[.val (.long q0), .second, .val (.int p1), .val (.int p2), .val (.long (q0 &&& (9223372036854775807 : Int64))), .second, .val .null, .val (.ref b33), .val (.ref b37), .unset, .unset, .unset, .unset, .unset] [(.ref b33), .null, (.long (q0 &&& (9223372036854775807 : Int64))), (.ref b50), (.ref b50)])) rfl (by rw [hml]; rfl) (Steps.refl _) (a := b50) (argsL := [(.long (q0 &&& (9223372036854775807 : Int64))), .null, (.ref b33)]) (rest := [(.ref b50)]) (lenOf pd__JLjava_lang_String__B_V rfl) rfl (by show 2 * 0 + _ ≤ _; exact Nat.le_of_eq rfl) (hb hby at_60) (fun _ _ => ⟨rfl, e29, (by decide : 5 + 2 ≤ _), (by decide : 41 + 32 ≤ _)⟩)
  dsimp only [Pt.U, Pt.locs, Pt.cells, Pt.slots] at X39 l39 y39 z39 st39 hQ39 hSn39 hgn39
  subst l39 y39 z39
  obtain ⟨X39, hS39, hZ, hown⟩ := rebS hS22 (by rw [e29]; exact kS29) X39 hSn39 hgn39 hZ hown
  obtain ⟨rfl, Nq39, Kq39, o39_0, o39_1, o39_2, o39_3⟩ := hQ39
  have N39 := Fr.app N22 Nq39
  have K39 : Keep h0 T39.heap [] := K29.trans Kq39 (allS (Or.inr sz29) all0)
  have Z39 : n0 ≤ T39.heap.size := Nat.le_trans Z29 Kq39.1
  have x40 := own_staK x30 Kq39 (allS (own_plE A29) all0)
  have x41 := own_staK x31 Kq39 (allS (own_plE A29) all0)
  have x42 := x32.keep Kq39 (ninS ne29_b33 nin0)
  have x43 := x33.keep Kq39
  have x44 := x34.keep Kq39 (ninS ne29_b37 nin0)
  have x45 := x35.keep Kq39 (ninS ne29_b37 nin0)
  have x46 := x36.keep Kq39 (ninS ne29_b37 nin0)
  have x47 := A29.keep Kq39
  have pre48 : ∀ t, Steps p.tables e below (T39.setTop (mkF m 63 #[.val (.long q0), .second, .val (.int p1), .val (.int p2), .val (.long (q0 &&& (9223372036854775807 : Int64))), .second, .val .null, .val (.ref b33), .val (.ref b37), .unset, .unset, .unset, .unset, .unset] [(.ref b50)])) t → Steps p.tables e below (s₁.setTop (entryFrame m #[(.long q0), (.int p1), (.int p2)] maxLocals)) t := fun t k => pre38 t (st39.trans k)
  have pre49 : ∀ t, Steps p.tables e below (T39.setTop (mkF m 69 #[.val (.long q0), .second, .val (.int p1), .val (.int p2), .val (.long (q0 &&& (9223372036854775807 : Int64))), .second, .val .null, .val (.ref b33), .val (.ref b37), .val (.ref b50), .unset, .unset, .unset, .unset] [(.long (q0 &&& (9223372036854775807 : Int64))), (.ref b37)])) t → Steps p.tables e below (s₁.setTop (entryFrame m #[(.long q0), (.int p1), (.int p2)] maxLocals)) t := fun t k => pre48 t (by
    show Steps p.tables e below (T39.setTop (mkF m 63 #[.val (.long q0), .second, .val (.int p1), .val (.int p2), .val (.long (q0 &&& (9223372036854775807 : Int64))), .second, .val .null, .val (.ref b33), .val (.ref b37), .unset, .unset, .unset, .unset, .unset] [(.ref b50)])) _
    refine XS.astore X39.here hx rfl (hb hby at_63) rfl rfl (l' := #[.val (.long q0), .second, .val (.int p1), .val (.int p2), .val (.long (q0 &&& (9223372036854775807 : Int64))), .second, .val .null, .val (.ref b33), .val (.ref b37), .val (.ref b50), .unset, .unset, .unset, .unset]) rfl ?_
    show Steps p.tables e below (T39.setTop (mkF m 65 #[.val (.long q0), .second, .val (.int p1), .val (.int p2), .val (.long (q0 &&& (9223372036854775807 : Int64))), .second, .val .null, .val (.ref b33), .val (.ref b37), .val (.ref b50), .unset, .unset, .unset, .unset] [])) _
    refine XS.aload X39.here hx rfl (hb hby at_65) rfl rfl ?_
    show Steps p.tables e below (T39.setTop (mkF m 67 #[.val (.long q0), .second, .val (.int p1), .val (.int p2), .val (.long (q0 &&& (9223372036854775807 : Int64))), .second, .val .null, .val (.ref b33), .val (.ref b37), .val (.ref b50), .unset, .unset, .unset, .unset] [(.ref b37)])) _
    refine XS.lload X39.here hx rfl (hb hby at_67) rfl ?_
    exact k)
  obtain ⟨cq50, kq50, q50a, q50b, q50c⟩ := isOf hZ rfl x43
  obtain ⟨_, _, ⟨T50, L50, k50, n50⟩, -, X50, hSn50, hgn50, ⟨Lc50, hQ50, l50, y50, z50⟩, st50⟩ := X39.virtualBackS hx (y := (⟨"com/example/oncemark/oncemark/OutgoingMessage", "numbered", "(J)Lcom/example/oncemark/oncemark/OutgoingMessage;"⟩ : MethodName)) (z := (⟨"com/example/oncemark/oncemark/OutgoingMessage", "numbered", "(J)Lcom/example/oncemark/oncemark/OutgoingMessage;"⟩ : MethodName)) hown (mvT hZ (hw _ (List.mem_of_getElem? (i := 39) rfl))) (mvT hZ (hw _ (List.mem_of_getElem? (i := 40) rfl))) (notFace_of_selects (args := #[]) (mvT hZ (hw _ (List.mem_of_getElem? (i := 42) rfl)))) (mvT hZ (hw _ (List.mem_of_getElem? (i := 42) rfl))) (mvT hZ (hw _ (List.mem_of_getElem? (i := 41) rfl))) (by decide) (backOfS (W := 0) (rm7_n l Z a0 hw [] b37 (q0 &&& (9223372036854775807 : Int64)) b33 _ (((p1.toUInt32 >>> ((1 : Int32) &&& 31).toUInt32).toInt32) &&& (3 : Int32)) T39.heap n0 Z39 x45 x46 x42 (own_q q0) (own_len p1).2.2) hZ (hw _ (List.mem_of_getElem? (i := 43) rfl)) (hw _ (List.mem_of_getElem? (i := 4) rfl)) (by decide) (by decide)) q50a q50c (g := (mkF m 69 #[.val (.long q0), .second, .val (.int p1), .val (.int p2), .val (.long (q0 &&& (9223372036854775807 : Int64))), .second, .val .null, .val (.ref b33), .val (.ref b37), .val (.ref b50), .unset, .unset, .unset, .unset] [(.long (q0 &&& (9223372036854775807 : Int64))), (.ref b37)])) rfl (by rw [hml]; rfl) (Steps.refl _) (argsL := [(.long (q0 &&& (9223372036854775807 : Int64)))]) (rest := []) (lenOf pd__J_Lcom_example_oncemark_oncemark_OutgoingMessage_ rfl) rfl (by show 2 * 0 + _ ≤ _; exact Nat.le_of_eq rfl) (hb hby at_69) (fun _ _ => ⟨rfl, rfl, (by decide : 7 + 3 ≤ _), (by decide : 73 + 35 ≤ _)⟩)
  dsimp only [Pt.U, Pt.locs, Pt.cells, Pt.slots] at X50 l50 y50 z50 st50 hQ50 hSn50 hgn50
  subst l50 y50 z50
  obtain ⟨X50, hS50, hZ, hown⟩ := rebS hS39 (Nat.le_refl _) X50 hSn50 hgn50 hZ hown
  obtain ⟨b69_0, rfl, Nq50, Kq50, gz50_b69_0, o50_0, o50_1⟩ := hQ50
  have N50 := Fr.app N39 Nq50
  have K50 : Keep h0 T50.heap [] := K39.trans Kq50 all0
  have Z50 : n0 ≤ T50.heap.size := Nat.le_trans Z39 Kq50.1
  have x51 := own_staK x40 Kq50 all0
  have x52 := own_staK x41 Kq50 all0
  have x53 := x42.keep Kq50 nin0
  have x54 := x43.keep Kq50
  have x55 := x44.keep Kq50 nin0
  have x56 := x45.keep Kq50 nin0
  have x57 := x46.keep Kq50 nin0
  have x58 := o39_0.keep Kq50
  have x59 := o39_1.keep Kq50 nin0
  have x60 := o39_2.keep Kq50 nin0
  have x61 := o39_3.keep Kq50 nin0
  have gg50_b69_0 : n0 ≤ b69_0 := Nat.le_trans Z39 gz50_b69_0
  have sz50_b69_0 : h0.size ≤ b69_0 := Nat.le_trans K39.1 gz50_b69_0
  have ne50_b33_b69_0 : b33 ≠ b69_0 := Nat.ne_of_lt (Nat.lt_of_lt_of_le x42.lt gz50_b69_0)
  have ne50_b37_b69_0 : b37 ≠ b69_0 := Nat.ne_of_lt (Nat.lt_of_lt_of_le x43.lt gz50_b69_0)
  have ne50_b50_b69_0 : b50 ≠ b69_0 := Nat.ne_of_lt (Nat.lt_of_lt_of_le o39_0.lt gz50_b69_0)
  have pre62 : ∀ t, Steps p.tables e below (T50.setTop (mkF m 72 #[.val (.long q0), .second, .val (.int p1), .val (.int p2), .val (.long (q0 &&& (9223372036854775807 : Int64))), .second, .val .null, .val (.ref b33), .val (.ref b37), .val (.ref b50), .unset, .unset, .unset, .unset] [(.ref b69_0)])) t → Steps p.tables e below (s₁.setTop (entryFrame m #[(.long q0), (.int p1), (.int p2)] maxLocals)) t := fun t k => pre49 t (st50.trans k)
  have pre63 : ∀ t, Steps p.tables e below (T50.setTop (mkF m 76 #[.val (.long q0), .second, .val (.int p1), .val (.int p2), .val (.long (q0 &&& (9223372036854775807 : Int64))), .second, .val .null, .val (.ref b33), .val (.ref b37), .val (.ref b50), .val (.ref b69_0), .unset, .unset, .unset] [(.ref b37)])) t → Steps p.tables e below (s₁.setTop (entryFrame m #[(.long q0), (.int p1), (.int p2)] maxLocals)) t := fun t k => pre62 t (by
    show Steps p.tables e below (T50.setTop (mkF m 72 #[.val (.long q0), .second, .val (.int p1), .val (.int p2), .val (.long (q0 &&& (9223372036854775807 : Int64))), .second, .val .null, .val (.ref b33), .val (.ref b37), .val (.ref b50), .unset, .unset, .unset, .unset] [(.ref b69_0)])) _
    refine XS.astore X50.here hx rfl (hb hby at_72) rfl rfl (l' := #[.val (.long q0), .second, .val (.int p1), .val (.int p2), .val (.long (q0 &&& (9223372036854775807 : Int64))), .second, .val .null, .val (.ref b33), .val (.ref b37), .val (.ref b50), .val (.ref b69_0), .unset, .unset, .unset]) rfl ?_
    show Steps p.tables e below (T50.setTop (mkF m 74 #[.val (.long q0), .second, .val (.int p1), .val (.int p2), .val (.long (q0 &&& (9223372036854775807 : Int64))), .second, .val .null, .val (.ref b33), .val (.ref b37), .val (.ref b50), .val (.ref b69_0), .unset, .unset, .unset] [])) _
    refine XS.aload X50.here hx rfl (hb hby at_74) rfl rfl ?_
    exact k)
  obtain ⟨cq64, kq64, q64a, q64b, q64c⟩ := isOf hZ rfl x54
  obtain ⟨_, _, ⟨T64, L64, k64, n64⟩, -, X64, ⟨Lc64, hQ64, l64, y64, z64⟩, st64⟩ := X50.virtualBack hx (y := (⟨"com/example/oncemark/oncemark/OutgoingMessage", "hasSequenceId", "()Z"⟩ : MethodName)) (z := (⟨"com/example/oncemark/oncemark/OutgoingMessage", "hasSequenceId", "()Z"⟩ : MethodName)) hown (mvT hZ (hw _ (List.mem_of_getElem? (i := 46) rfl))) (mvT hZ (hw _ (List.mem_of_getElem? (i := 47) rfl))) (notFace_of_selects (args := #[]) (mvT hZ (hw _ (List.mem_of_getElem? (i := 49) rfl)))) (mvT hZ (hw _ (List.mem_of_getElem? (i := 49) rfl))) (mvT hZ (hw _ (List.mem_of_getElem? (i := 48) rfl))) (by decide) (backOf (W := 0) (rm8 l Z a0 hw [] b37 (-1 : Int64) T50.heap n0 Z50 x55) hZ (hw _ (List.mem_of_getElem? (i := 50) rfl)) (hw _ (List.mem_of_getElem? (i := 4) rfl)) (by decide) (by decide)) q64a q64c (g := (mkF m 76 #[.val (.long q0), .second, .val (.int p1), .val (.int p2), .val (.long (q0 &&& (9223372036854775807 : Int64))), .second, .val .null, .val (.ref b33), .val (.ref b37), .val (.ref b50), .val (.ref b69_0), .unset, .unset, .unset] [(.ref b37)])) rfl (by rw [hml]; rfl) (Steps.refl _) (argsL := []) (rest := []) (lenOf pd___Z rfl) rfl (by show 2 * 0 + _ ≤ _; exact Nat.le_of_eq rfl) (hb hby at_76) (fun _ _ => ⟨rfl, rfl, (by decide : 10 + 0 ≤ _), (by decide : 108 + 0 ≤ _)⟩)
  dsimp only [Pt.U, Pt.locs, Pt.cells, Pt.slots] at X64 l64 y64 z64 st64 hQ64
  subst l64 y64 z64
  obtain ⟨rfl, Nq64, e64⟩ := hQ64
  have N64 := Fr.app N50 Nq64
  have pre65 : ∀ t, Steps p.tables e below (T64.setTop (mkF m 79 #[.val (.long q0), .second, .val (.int p1), .val (.int p2), .val (.long (q0 &&& (9223372036854775807 : Int64))), .second, .val .null, .val (.ref b33), .val (.ref b37), .val (.ref b50), .val (.ref b69_0), .unset, .unset, .unset] [(.int (f8 (-1 : Int64)))])) t → Steps p.tables e below (s₁.setTop (entryFrame m #[(.long q0), (.int p1), (.int p2)] maxLocals)) t := fun t k => pre63 t (st64.trans k)
  obtain ⟨T66, L66, X66, e66, N66, pre66⟩ : ∃ (T' : State) (L' : List Loc), Stand p l e room_1 (s.setVm T50.vm) m #[(.long q0), (.int p1), (.int p2)] below meth c T' L' 10 108 ∧ T'.heap = T50.heap ∧ Fr n0 L' ∧ ∀ t, Steps p.tables e below (T'.setTop (mkF m 99 #[.val (.long q0), .second, .val (.int p1), .val (.int p2), .val (.long (q0 &&& (9223372036854775807 : Int64))), .second, .val .null, .val (.ref b33), .val (.ref b37), .val (.ref b50), .val (.ref b69_0), .unset, .unset, .unset] [(.int (v0_n_99_s0))])) t → Steps p.tables e below (s₁.setTop (entryFrame m #[(.long q0), (.int p1), (.int p2)] maxLocals)) t := by
    by_cases hc79_1 : (f8 (-1 : Int64)) = (0 : Int32)
    · have pre67 : ∀ t, Steps p.tables e below (T64.setTop (mkF m 84 #[.val (.long q0), .second, .val (.int p1), .val (.int p2), .val (.long (q0 &&& (9223372036854775807 : Int64))), .second, .val .null, .val (.ref b33), .val (.ref b37), .val (.ref b50), .val (.ref b69_0), .unset, .unset, .unset] [(.ref b37)])) t → Steps p.tables e below (s₁.setTop (entryFrame m #[(.long q0), (.int p1), (.int p2)] maxLocals)) t := fun t k => pre65 t (by
        show Steps p.tables e below (T64.setTop (mkF m 79 #[.val (.long q0), .second, .val (.int p1), .val (.int p2), .val (.long (q0 &&& (9223372036854775807 : Int64))), .second, .val .null, .val (.ref b33), .val (.ref b37), .val (.ref b50), .val (.ref b69_0), .unset, .unset, .unset] [(.int (f8 (-1 : Int64)))])) _
        refine XS.ifNo X64.here hx rfl (hb hby at_79) rfl ((if0 _ _).trans (teq hc79_1).2) ?_
        show Steps p.tables e below (T64.setTop (mkF m 82 #[.val (.long q0), .second, .val (.int p1), .val (.int p2), .val (.long (q0 &&& (9223372036854775807 : Int64))), .second, .val .null, .val (.ref b33), .val (.ref b37), .val (.ref b50), .val (.ref b69_0), .unset, .unset, .unset] [])) _
        refine XS.aload X64.here hx rfl (hb hby at_82) rfl rfl ?_
        exact k)
      obtain ⟨cq68, kq68, q68a, q68b, q68c⟩ := isOf hZ e64 x54
      obtain ⟨_, _, ⟨T68, L68, k68, n68⟩, -, X68, ⟨Lc68, hQ68, l68, y68, z68⟩, st68⟩ := X64.virtualBack hx (y := (⟨"com/example/oncemark/oncemark/OutgoingMessage", "sequenceId", "()J"⟩ : MethodName)) (z := (⟨"com/example/oncemark/oncemark/OutgoingMessage", "sequenceId", "()J"⟩ : MethodName)) hown (mvT hZ (hw _ (List.mem_of_getElem? (i := 51) rfl))) (mvT hZ (hw _ (List.mem_of_getElem? (i := 52) rfl))) (notFace_of_selects (args := #[]) (mvT hZ (hw _ (List.mem_of_getElem? (i := 54) rfl)))) (mvT hZ (hw _ (List.mem_of_getElem? (i := 54) rfl))) (mvT hZ (hw _ (List.mem_of_getElem? (i := 53) rfl))) (by decide) (backOf (W := 0) (rm9 l Z a0 hw [] b37 (-1 : Int64) T50.heap n0 Z50 x55) hZ (hw _ (List.mem_of_getElem? (i := 55) rfl)) (hw _ (List.mem_of_getElem? (i := 4) rfl)) (by decide) (by decide)) q68a q68c (g := (mkF m 84 #[.val (.long q0), .second, .val (.int p1), .val (.int p2), .val (.long (q0 &&& (9223372036854775807 : Int64))), .second, .val .null, .val (.ref b33), .val (.ref b37), .val (.ref b50), .val (.ref b69_0), .unset, .unset, .unset] [(.ref b37)])) rfl (by rw [hml]; rfl) (Steps.refl _) (argsL := []) (rest := []) (lenOf pd___J rfl) rfl (by show 2 * 0 + _ ≤ _; exact Nat.le_of_eq rfl) (hb hby at_84) (fun _ _ => ⟨rfl, e64, (by decide : 10 + 0 ≤ _), (by decide : 108 + 0 ≤ _)⟩)
      dsimp only [Pt.U, Pt.locs, Pt.cells, Pt.slots] at X68 l68 y68 z68 st68 hQ68
      subst l68 y68 z68
      obtain ⟨rfl, Nq68, e68⟩ := hQ68
      have N68 := Fr.app N64 Nq68
      have pre69 : ∀ t, Steps p.tables e below (T68.setTop (mkF m 87 #[.val (.long q0), .second, .val (.int p1), .val (.int p2), .val (.long (q0 &&& (9223372036854775807 : Int64))), .second, .val .null, .val (.ref b33), .val (.ref b37), .val (.ref b50), .val (.ref b69_0), .unset, .unset, .unset] [(.long (f9 (-1 : Int64)))])) t → Steps p.tables e below (s₁.setTop (entryFrame m #[(.long q0), (.int p1), (.int p2)] maxLocals)) t := fun t k => pre67 t (st68.trans k)
      have pre70 : ∀ t, Steps p.tables e below (T68.setTop (mkF m 91 #[.val (.long q0), .second, .val (.int p1), .val (.int p2), .val (.long (q0 &&& (9223372036854775807 : Int64))), .second, .val .null, .val (.ref b33), .val (.ref b37), .val (.ref b50), .val (.ref b69_0), .unset, .unset, .unset] [(.int (lcmpW (f9 (-1 : Int64)) (-1 : Int64)))])) t → Steps p.tables e below (s₁.setTop (entryFrame m #[(.long q0), (.int p1), (.int p2)] maxLocals)) t := fun t k => pre69 t (by
        show Steps p.tables e below (T68.setTop (mkF m 87 #[.val (.long q0), .second, .val (.int p1), .val (.int p2), .val (.long (q0 &&& (9223372036854775807 : Int64))), .second, .val .null, .val (.ref b33), .val (.ref b37), .val (.ref b50), .val (.ref b69_0), .unset, .unset, .unset] [(.long (f9 (-1 : Int64)))])) _
        refine X68.ldc2Long hx hown (mvT hZ (hw _ (List.mem_of_getElem? (i := 56) rfl))) (g := (mkF m 87 #[.val (.long q0), .second, .val (.int p1), .val (.int p2), .val (.long (q0 &&& (9223372036854775807 : Int64))), .second, .val .null, .val (.ref b33), .val (.ref b37), .val (.ref b50), .val (.ref b69_0), .unset, .unset, .unset] [(.long (f9 (-1 : Int64)))])) rfl (hb hby at_87) _ ?_
        show Steps p.tables e below (T68.setTop (mkF m 90 #[.val (.long q0), .second, .val (.int p1), .val (.int p2), .val (.long (q0 &&& (9223372036854775807 : Int64))), .second, .val .null, .val (.ref b33), .val (.ref b37), .val (.ref b50), .val (.ref b69_0), .unset, .unset, .unset] [(.long (-1 : Int64)), (.long (f9 (-1 : Int64)))])) _
        refine XS.lcmp X68.here hx rfl (hb hby at_90) rfl ?_
        exact k)
      by_cases hc91_2 : (f9 (-1 : Int64)) = (-1 : Int64)
      · have pre71 : ∀ t, Steps p.tables e below (T68.setTop (mkF m 99 #[.val (.long q0), .second, .val (.int p1), .val (.int p2), .val (.long (q0 &&& (9223372036854775807 : Int64))), .second, .val .null, .val (.ref b33), .val (.ref b37), .val (.ref b50), .val (.ref b69_0), .unset, .unset, .unset] [(.int (1 : Int32))])) t → Steps p.tables e below (s₁.setTop (entryFrame m #[(.long q0), (.int p1), (.int p2)] maxLocals)) t := fun t k => pre70 t (by
          show Steps p.tables e below (T68.setTop (mkF m 91 #[.val (.long q0), .second, .val (.int p1), .val (.int p2), .val (.long (q0 &&& (9223372036854775807 : Int64))), .second, .val .null, .val (.ref b33), .val (.ref b37), .val (.ref b50), .val (.ref b69_0), .unset, .unset, .unset] [(.int (lcmpW (f9 (-1 : Int64)) (-1 : Int64)))])) _
          refine XS.ifNo X68.here hx rfl (hb hby at_91) rfl ((if0 _ _).trans (teq ((lw_eq _ _).mpr hc91_2)).2) ?_
          show Steps p.tables e below (T68.setTop (mkF m 94 #[.val (.long q0), .second, .val (.int p1), .val (.int p2), .val (.long (q0 &&& (9223372036854775807 : Int64))), .second, .val .null, .val (.ref b33), .val (.ref b37), .val (.ref b50), .val (.ref b69_0), .unset, .unset, .unset] [])) _
          refine XS.iconst X68.here hx rfl (hb hby at_94) ?_
          show Steps p.tables e below (T68.setTop (mkF m 95 #[.val (.long q0), .second, .val (.int p1), .val (.int p2), .val (.long (q0 &&& (9223372036854775807 : Int64))), .second, .val .null, .val (.ref b33), .val (.ref b37), .val (.ref b50), .val (.ref b69_0), .unset, .unset, .unset] [(.int (1 : Int32))])) _
          refine XS.goto X68.here hx rfl (pc0 := 95) (pc' := 99) rfl (hb hby at_95) (by decide) (by decide) ?_
          exact k)
        exact ⟨T68, _, X68, e68, N68, fun t k => pre71 t (by simpa only [v0_n_99_s0, if_pos hc79_1, if_pos hc91_2] using k)⟩
      · have pre72 : ∀ t, Steps p.tables e below (T68.setTop (mkF m 99 #[.val (.long q0), .second, .val (.int p1), .val (.int p2), .val (.long (q0 &&& (9223372036854775807 : Int64))), .second, .val .null, .val (.ref b33), .val (.ref b37), .val (.ref b50), .val (.ref b69_0), .unset, .unset, .unset] [(.int (0 : Int32))])) t → Steps p.tables e below (s₁.setTop (entryFrame m #[(.long q0), (.int p1), (.int p2)] maxLocals)) t := fun t k => pre70 t (by
          show Steps p.tables e below (T68.setTop (mkF m 91 #[.val (.long q0), .second, .val (.int p1), .val (.int p2), .val (.long (q0 &&& (9223372036854775807 : Int64))), .second, .val .null, .val (.ref b33), .val (.ref b37), .val (.ref b50), .val (.ref b69_0), .unset, .unset, .unset] [(.int (lcmpW (f9 (-1 : Int64)) (-1 : Int64)))])) _
          refine XS.ifYes X68.here hx rfl (pc0 := 91) (pc' := 98) rfl (hb hby at_91) rfl ((if0 _ _).trans (feq (fun q => hc91_2 ((lw_eq _ _).mp q))).2) (by decide) (by decide) ?_
          show Steps p.tables e below (T68.setTop (mkF m 98 #[.val (.long q0), .second, .val (.int p1), .val (.int p2), .val (.long (q0 &&& (9223372036854775807 : Int64))), .second, .val .null, .val (.ref b33), .val (.ref b37), .val (.ref b50), .val (.ref b69_0), .unset, .unset, .unset] [])) _
          refine XS.iconst X68.here hx rfl (hb hby at_98) ?_
          exact k)
        exact ⟨T68, _, X68, e68, N68, fun t k => pre72 t (by simpa only [v0_n_99_s0, if_pos hc79_1, if_neg hc91_2] using k)⟩
    · have pre73 : ∀ t, Steps p.tables e below (T64.setTop (mkF m 99 #[.val (.long q0), .second, .val (.int p1), .val (.int p2), .val (.long (q0 &&& (9223372036854775807 : Int64))), .second, .val .null, .val (.ref b33), .val (.ref b37), .val (.ref b50), .val (.ref b69_0), .unset, .unset, .unset] [(.int (0 : Int32))])) t → Steps p.tables e below (s₁.setTop (entryFrame m #[(.long q0), (.int p1), (.int p2)] maxLocals)) t := fun t k => pre65 t (by
        show Steps p.tables e below (T64.setTop (mkF m 79 #[.val (.long q0), .second, .val (.int p1), .val (.int p2), .val (.long (q0 &&& (9223372036854775807 : Int64))), .second, .val .null, .val (.ref b33), .val (.ref b37), .val (.ref b50), .val (.ref b69_0), .unset, .unset, .unset] [(.int (f8 (-1 : Int64)))])) _
        refine XS.ifYes X64.here hx rfl (pc0 := 79) (pc' := 98) rfl (hb hby at_79) rfl ((if0 _ _).trans (feq hc79_1).2) (by decide) (by decide) ?_
        show Steps p.tables e below (T64.setTop (mkF m 98 #[.val (.long q0), .second, .val (.int p1), .val (.int p2), .val (.long (q0 &&& (9223372036854775807 : Int64))), .second, .val .null, .val (.ref b33), .val (.ref b37), .val (.ref b50), .val (.ref b69_0), .unset, .unset, .unset] [])) _
        refine XS.iconst X64.here hx rfl (hb hby at_98) ?_
        exact k)
      exact ⟨T64, _, X64, e64, N64, fun t k => pre73 t (by simpa only [v0_n_99_s0, if_neg hc79_1] using k)⟩
  have pre74 : ∀ t, Steps p.tables e below (T66.setTop (mkF m 103 #[.val (.long q0), .second, .val (.int p1), .val (.int p2), .val (.long (q0 &&& (9223372036854775807 : Int64))), .second, .val .null, .val (.ref b33), .val (.ref b37), .val (.ref b50), .val (.ref b69_0), .val (.int (v0_n_99_s0)), .unset, .unset] [(.ref b50)])) t → Steps p.tables e below (s₁.setTop (entryFrame m #[(.long q0), (.int p1), (.int p2)] maxLocals)) t := fun t k => pre66 t (by
    show Steps p.tables e below (T66.setTop (mkF m 99 #[.val (.long q0), .second, .val (.int p1), .val (.int p2), .val (.long (q0 &&& (9223372036854775807 : Int64))), .second, .val .null, .val (.ref b33), .val (.ref b37), .val (.ref b50), .val (.ref b69_0), .unset, .unset, .unset] [(.int (v0_n_99_s0))])) _
    refine XS.istore X66.here hx rfl (hb hby at_99) rfl (l' := #[.val (.long q0), .second, .val (.int p1), .val (.int p2), .val (.long (q0 &&& (9223372036854775807 : Int64))), .second, .val .null, .val (.ref b33), .val (.ref b37), .val (.ref b50), .val (.ref b69_0), .val (.int (v0_n_99_s0)), .unset, .unset]) rfl ?_
    show Steps p.tables e below (T66.setTop (mkF m 101 #[.val (.long q0), .second, .val (.int p1), .val (.int p2), .val (.long (q0 &&& (9223372036854775807 : Int64))), .second, .val .null, .val (.ref b33), .val (.ref b37), .val (.ref b50), .val (.ref b69_0), .val (.int (v0_n_99_s0)), .unset, .unset] [])) _
    refine XS.aload X66.here hx rfl (hb hby at_101) rfl rfl ?_
    exact k)
  obtain ⟨cq75, kq75, q75a, q75b, q75c⟩ := isOf hZ e66 x58
  obtain ⟨_, _, ⟨T75, L75, k75, n75⟩, -, X75, ⟨Lc75, hQ75, l75, y75, z75⟩, st75⟩ := X66.virtualBack hx (y := (⟨"com/example/oncemark/oncemark/OutgoingMessage", "hasSequenceId", "()Z"⟩ : MethodName)) (z := (⟨"com/example/oncemark/oncemark/OutgoingMessage", "hasSequenceId", "()Z"⟩ : MethodName)) hown (mvT hZ (hw _ (List.mem_of_getElem? (i := 46) rfl))) (mvT hZ (hw _ (List.mem_of_getElem? (i := 47) rfl))) (notFace_of_selects (args := #[]) (mvT hZ (hw _ (List.mem_of_getElem? (i := 49) rfl)))) (mvT hZ (hw _ (List.mem_of_getElem? (i := 49) rfl))) (mvT hZ (hw _ (List.mem_of_getElem? (i := 48) rfl))) (by decide) (backOf (W := 0) (rm8 l Z a0 hw [] b50 (f6 (q0 &&& (9223372036854775807 : Int64))) T50.heap n0 Z50 x59) hZ (hw _ (List.mem_of_getElem? (i := 50) rfl)) (hw _ (List.mem_of_getElem? (i := 4) rfl)) (by decide) (by decide)) q75a q75c (g := (mkF m 103 #[.val (.long q0), .second, .val (.int p1), .val (.int p2), .val (.long (q0 &&& (9223372036854775807 : Int64))), .second, .val .null, .val (.ref b33), .val (.ref b37), .val (.ref b50), .val (.ref b69_0), .val (.int (v0_n_99_s0)), .unset, .unset] [(.ref b50)])) rfl (by rw [hml]; rfl) (Steps.refl _) (argsL := []) (rest := []) (lenOf pd___Z rfl) rfl (by show 2 * 0 + _ ≤ _; exact Nat.le_of_eq rfl) (hb hby at_103) (fun _ _ => ⟨rfl, e66, (by decide : 10 + 0 ≤ _), (by decide : 108 + 0 ≤ _)⟩)
  dsimp only [Pt.U, Pt.locs, Pt.cells, Pt.slots] at X75 l75 y75 z75 st75 hQ75
  subst l75 y75 z75
  obtain ⟨rfl, Nq75, e75⟩ := hQ75
  have N75 := Fr.app N66 Nq75
  have pre76 : ∀ t, Steps p.tables e below (T75.setTop (mkF m 106 #[.val (.long q0), .second, .val (.int p1), .val (.int p2), .val (.long (q0 &&& (9223372036854775807 : Int64))), .second, .val .null, .val (.ref b33), .val (.ref b37), .val (.ref b50), .val (.ref b69_0), .val (.int (v0_n_99_s0)), .unset, .unset] [(.int (f8 (f6 (q0 &&& (9223372036854775807 : Int64)))))])) t → Steps p.tables e below (s₁.setTop (entryFrame m #[(.long q0), (.int p1), (.int p2)] maxLocals)) t := fun t k => pre74 t (st75.trans k)
  obtain ⟨T77, L77, X77, e77, N77, pre77⟩ : ∃ (T' : State) (L' : List Loc), Stand p l e room_1 (s.setVm T50.vm) m #[(.long q0), (.int p1), (.int p2)] below meth c T' L' 10 108 ∧ T'.heap = T50.heap ∧ Fr n0 L' ∧ ∀ t, Steps p.tables e below (T'.setTop (mkF m 125 #[.val (.long q0), .second, .val (.int p1), .val (.int p2), .val (.long (q0 &&& (9223372036854775807 : Int64))), .second, .val .null, .val (.ref b33), .val (.ref b37), .val (.ref b50), .val (.ref b69_0), .val (.int (v0_n_99_s0)), .unset, .unset] [(.int (v0_n_125_s0 q0))])) t → Steps p.tables e below (s₁.setTop (entryFrame m #[(.long q0), (.int p1), (.int p2)] maxLocals)) t := by
    by_cases hc106_3 : (f8 (f6 (q0 &&& (9223372036854775807 : Int64)))) = (0 : Int32)
    · have pre78 : ∀ t, Steps p.tables e below (T75.setTop (mkF m 125 #[.val (.long q0), .second, .val (.int p1), .val (.int p2), .val (.long (q0 &&& (9223372036854775807 : Int64))), .second, .val .null, .val (.ref b33), .val (.ref b37), .val (.ref b50), .val (.ref b69_0), .val (.int (v0_n_99_s0)), .unset, .unset] [(.int (0 : Int32))])) t → Steps p.tables e below (s₁.setTop (entryFrame m #[(.long q0), (.int p1), (.int p2)] maxLocals)) t := fun t k => pre76 t (by
        show Steps p.tables e below (T75.setTop (mkF m 106 #[.val (.long q0), .second, .val (.int p1), .val (.int p2), .val (.long (q0 &&& (9223372036854775807 : Int64))), .second, .val .null, .val (.ref b33), .val (.ref b37), .val (.ref b50), .val (.ref b69_0), .val (.int (v0_n_99_s0)), .unset, .unset] [(.int (f8 (f6 (q0 &&& (9223372036854775807 : Int64)))))])) _
        refine XS.ifYes X75.here hx rfl (pc0 := 106) (pc' := 124) rfl (hb hby at_106) rfl ((if0 _ _).trans (teq hc106_3).1) (by decide) (by decide) ?_
        show Steps p.tables e below (T75.setTop (mkF m 124 #[.val (.long q0), .second, .val (.int p1), .val (.int p2), .val (.long (q0 &&& (9223372036854775807 : Int64))), .second, .val .null, .val (.ref b33), .val (.ref b37), .val (.ref b50), .val (.ref b69_0), .val (.int (v0_n_99_s0)), .unset, .unset] [])) _
        refine XS.iconst X75.here hx rfl (hb hby at_124) ?_
        exact k)
      exact ⟨T75, _, X75, e75, N75, fun t k => pre78 t (by simpa only [v0_n_125_s0, if_pos hc106_3] using k)⟩
    · have pre79 : ∀ t, Steps p.tables e below (T75.setTop (mkF m 111 #[.val (.long q0), .second, .val (.int p1), .val (.int p2), .val (.long (q0 &&& (9223372036854775807 : Int64))), .second, .val .null, .val (.ref b33), .val (.ref b37), .val (.ref b50), .val (.ref b69_0), .val (.int (v0_n_99_s0)), .unset, .unset] [(.ref b50)])) t → Steps p.tables e below (s₁.setTop (entryFrame m #[(.long q0), (.int p1), (.int p2)] maxLocals)) t := fun t k => pre76 t (by
        show Steps p.tables e below (T75.setTop (mkF m 106 #[.val (.long q0), .second, .val (.int p1), .val (.int p2), .val (.long (q0 &&& (9223372036854775807 : Int64))), .second, .val .null, .val (.ref b33), .val (.ref b37), .val (.ref b50), .val (.ref b69_0), .val (.int (v0_n_99_s0)), .unset, .unset] [(.int (f8 (f6 (q0 &&& (9223372036854775807 : Int64)))))])) _
        refine XS.ifNo X75.here hx rfl (hb hby at_106) rfl ((if0 _ _).trans (feq hc106_3).1) ?_
        show Steps p.tables e below (T75.setTop (mkF m 109 #[.val (.long q0), .second, .val (.int p1), .val (.int p2), .val (.long (q0 &&& (9223372036854775807 : Int64))), .second, .val .null, .val (.ref b33), .val (.ref b37), .val (.ref b50), .val (.ref b69_0), .val (.int (v0_n_99_s0)), .unset, .unset] [])) _
        refine XS.aload X75.here hx rfl (hb hby at_109) rfl rfl ?_
        exact k)
      obtain ⟨cq80, kq80, q80a, q80b, q80c⟩ := isOf hZ e75 x58
      obtain ⟨_, _, ⟨T80, L80, k80, n80⟩, -, X80, ⟨Lc80, hQ80, l80, y80, z80⟩, st80⟩ := X75.virtualBack hx (y := (⟨"com/example/oncemark/oncemark/OutgoingMessage", "sequenceId", "()J"⟩ : MethodName)) (z := (⟨"com/example/oncemark/oncemark/OutgoingMessage", "sequenceId", "()J"⟩ : MethodName)) hown (mvT hZ (hw _ (List.mem_of_getElem? (i := 51) rfl))) (mvT hZ (hw _ (List.mem_of_getElem? (i := 52) rfl))) (notFace_of_selects (args := #[]) (mvT hZ (hw _ (List.mem_of_getElem? (i := 54) rfl)))) (mvT hZ (hw _ (List.mem_of_getElem? (i := 54) rfl))) (mvT hZ (hw _ (List.mem_of_getElem? (i := 53) rfl))) (by decide) (backOf (W := 0) (rm9 l Z a0 hw [] b50 (f6 (q0 &&& (9223372036854775807 : Int64))) T50.heap n0 Z50 x59) hZ (hw _ (List.mem_of_getElem? (i := 55) rfl)) (hw _ (List.mem_of_getElem? (i := 4) rfl)) (by decide) (by decide)) q80a q80c (g := (mkF m 111 #[.val (.long q0), .second, .val (.int p1), .val (.int p2), .val (.long (q0 &&& (9223372036854775807 : Int64))), .second, .val .null, .val (.ref b33), .val (.ref b37), .val (.ref b50), .val (.ref b69_0), .val (.int (v0_n_99_s0)), .unset, .unset] [(.ref b50)])) rfl (by rw [hml]; rfl) (Steps.refl _) (argsL := []) (rest := []) (lenOf pd___J rfl) rfl (by show 2 * 0 + _ ≤ _; exact Nat.le_of_eq rfl) (hb hby at_111) (fun _ _ => ⟨rfl, e75, (by decide : 10 + 0 ≤ _), (by decide : 108 + 0 ≤ _)⟩)
      dsimp only [Pt.U, Pt.locs, Pt.cells, Pt.slots] at X80 l80 y80 z80 st80 hQ80
      subst l80 y80 z80
      obtain ⟨rfl, Nq80, e80⟩ := hQ80
      have N80 := Fr.app N75 Nq80
      have pre81 : ∀ t, Steps p.tables e below (T80.setTop (mkF m 114 #[.val (.long q0), .second, .val (.int p1), .val (.int p2), .val (.long (q0 &&& (9223372036854775807 : Int64))), .second, .val .null, .val (.ref b33), .val (.ref b37), .val (.ref b50), .val (.ref b69_0), .val (.int (v0_n_99_s0)), .unset, .unset] [(.long (f9 (f6 (q0 &&& (9223372036854775807 : Int64)))))])) t → Steps p.tables e below (s₁.setTop (entryFrame m #[(.long q0), (.int p1), (.int p2)] maxLocals)) t := fun t k => pre79 t (st80.trans k)
      have pre82 : ∀ t, Steps p.tables e below (T80.setTop (mkF m 117 #[.val (.long q0), .second, .val (.int p1), .val (.int p2), .val (.long (q0 &&& (9223372036854775807 : Int64))), .second, .val .null, .val (.ref b33), .val (.ref b37), .val (.ref b50), .val (.ref b69_0), .val (.int (v0_n_99_s0)), .unset, .unset] [(.int (lcmpW (f9 (f6 (q0 &&& (9223372036854775807 : Int64)))) (q0 &&& (9223372036854775807 : Int64))))])) t → Steps p.tables e below (s₁.setTop (entryFrame m #[(.long q0), (.int p1), (.int p2)] maxLocals)) t := fun t k => pre81 t (by
        show Steps p.tables e below (T80.setTop (mkF m 114 #[.val (.long q0), .second, .val (.int p1), .val (.int p2), .val (.long (q0 &&& (9223372036854775807 : Int64))), .second, .val .null, .val (.ref b33), .val (.ref b37), .val (.ref b50), .val (.ref b69_0), .val (.int (v0_n_99_s0)), .unset, .unset] [(.long (f9 (f6 (q0 &&& (9223372036854775807 : Int64)))))])) _
        refine XS.lload X80.here hx rfl (hb hby at_114) rfl ?_
        show Steps p.tables e below (T80.setTop (mkF m 116 #[.val (.long q0), .second, .val (.int p1), .val (.int p2), .val (.long (q0 &&& (9223372036854775807 : Int64))), .second, .val .null, .val (.ref b33), .val (.ref b37), .val (.ref b50), .val (.ref b69_0), .val (.int (v0_n_99_s0)), .unset, .unset] [(.long (q0 &&& (9223372036854775807 : Int64))), (.long (f9 (f6 (q0 &&& (9223372036854775807 : Int64)))))])) _
        refine XS.lcmp X80.here hx rfl (hb hby at_116) rfl ?_
        exact k)
      by_cases hc117_4 : (f9 (f6 (q0 &&& (9223372036854775807 : Int64)))) = (q0 &&& (9223372036854775807 : Int64))
      · have pre83 : ∀ t, Steps p.tables e below (T80.setTop (mkF m 125 #[.val (.long q0), .second, .val (.int p1), .val (.int p2), .val (.long (q0 &&& (9223372036854775807 : Int64))), .second, .val .null, .val (.ref b33), .val (.ref b37), .val (.ref b50), .val (.ref b69_0), .val (.int (v0_n_99_s0)), .unset, .unset] [(.int (1 : Int32))])) t → Steps p.tables e below (s₁.setTop (entryFrame m #[(.long q0), (.int p1), (.int p2)] maxLocals)) t := fun t k => pre82 t (by
          show Steps p.tables e below (T80.setTop (mkF m 117 #[.val (.long q0), .second, .val (.int p1), .val (.int p2), .val (.long (q0 &&& (9223372036854775807 : Int64))), .second, .val .null, .val (.ref b33), .val (.ref b37), .val (.ref b50), .val (.ref b69_0), .val (.int (v0_n_99_s0)), .unset, .unset] [(.int (lcmpW (f9 (f6 (q0 &&& (9223372036854775807 : Int64)))) (q0 &&& (9223372036854775807 : Int64))))])) _
          refine XS.ifNo X80.here hx rfl (hb hby at_117) rfl ((if0 _ _).trans (teq ((lw_eq _ _).mpr hc117_4)).2) ?_
          show Steps p.tables e below (T80.setTop (mkF m 120 #[.val (.long q0), .second, .val (.int p1), .val (.int p2), .val (.long (q0 &&& (9223372036854775807 : Int64))), .second, .val .null, .val (.ref b33), .val (.ref b37), .val (.ref b50), .val (.ref b69_0), .val (.int (v0_n_99_s0)), .unset, .unset] [])) _
          refine XS.iconst X80.here hx rfl (hb hby at_120) ?_
          show Steps p.tables e below (T80.setTop (mkF m 121 #[.val (.long q0), .second, .val (.int p1), .val (.int p2), .val (.long (q0 &&& (9223372036854775807 : Int64))), .second, .val .null, .val (.ref b33), .val (.ref b37), .val (.ref b50), .val (.ref b69_0), .val (.int (v0_n_99_s0)), .unset, .unset] [(.int (1 : Int32))])) _
          refine XS.goto X80.here hx rfl (pc0 := 121) (pc' := 125) rfl (hb hby at_121) (by decide) (by decide) ?_
          exact k)
        exact ⟨T80, _, X80, e80, N80, fun t k => pre83 t (by simpa only [v0_n_125_s0, if_neg hc106_3, if_pos hc117_4] using k)⟩
      · have pre84 : ∀ t, Steps p.tables e below (T80.setTop (mkF m 125 #[.val (.long q0), .second, .val (.int p1), .val (.int p2), .val (.long (q0 &&& (9223372036854775807 : Int64))), .second, .val .null, .val (.ref b33), .val (.ref b37), .val (.ref b50), .val (.ref b69_0), .val (.int (v0_n_99_s0)), .unset, .unset] [(.int (0 : Int32))])) t → Steps p.tables e below (s₁.setTop (entryFrame m #[(.long q0), (.int p1), (.int p2)] maxLocals)) t := fun t k => pre82 t (by
          show Steps p.tables e below (T80.setTop (mkF m 117 #[.val (.long q0), .second, .val (.int p1), .val (.int p2), .val (.long (q0 &&& (9223372036854775807 : Int64))), .second, .val .null, .val (.ref b33), .val (.ref b37), .val (.ref b50), .val (.ref b69_0), .val (.int (v0_n_99_s0)), .unset, .unset] [(.int (lcmpW (f9 (f6 (q0 &&& (9223372036854775807 : Int64)))) (q0 &&& (9223372036854775807 : Int64))))])) _
          refine XS.ifYes X80.here hx rfl (pc0 := 117) (pc' := 124) rfl (hb hby at_117) rfl ((if0 _ _).trans (feq (fun q => hc117_4 ((lw_eq _ _).mp q))).2) (by decide) (by decide) ?_
          show Steps p.tables e below (T80.setTop (mkF m 124 #[.val (.long q0), .second, .val (.int p1), .val (.int p2), .val (.long (q0 &&& (9223372036854775807 : Int64))), .second, .val .null, .val (.ref b33), .val (.ref b37), .val (.ref b50), .val (.ref b69_0), .val (.int (v0_n_99_s0)), .unset, .unset] [])) _
          refine XS.iconst X80.here hx rfl (hb hby at_124) ?_
          exact k)
        exact ⟨T80, _, X80, e80, N80, fun t k => pre84 t (by simpa only [v0_n_125_s0, if_neg hc106_3, if_neg hc117_4] using k)⟩
  have pre85 : ∀ t, Steps p.tables e below (T77.setTop (mkF m 129 #[.val (.long q0), .second, .val (.int p1), .val (.int p2), .val (.long (q0 &&& (9223372036854775807 : Int64))), .second, .val .null, .val (.ref b33), .val (.ref b37), .val (.ref b50), .val (.ref b69_0), .val (.int (v0_n_99_s0)), .val (.int (v0_n_125_s0 q0)), .unset] [(.ref b69_0)])) t → Steps p.tables e below (s₁.setTop (entryFrame m #[(.long q0), (.int p1), (.int p2)] maxLocals)) t := fun t k => pre77 t (by
    show Steps p.tables e below (T77.setTop (mkF m 125 #[.val (.long q0), .second, .val (.int p1), .val (.int p2), .val (.long (q0 &&& (9223372036854775807 : Int64))), .second, .val .null, .val (.ref b33), .val (.ref b37), .val (.ref b50), .val (.ref b69_0), .val (.int (v0_n_99_s0)), .unset, .unset] [(.int (v0_n_125_s0 q0))])) _
    refine XS.istore X77.here hx rfl (hb hby at_125) rfl (l' := #[.val (.long q0), .second, .val (.int p1), .val (.int p2), .val (.long (q0 &&& (9223372036854775807 : Int64))), .second, .val .null, .val (.ref b33), .val (.ref b37), .val (.ref b50), .val (.ref b69_0), .val (.int (v0_n_99_s0)), .val (.int (v0_n_125_s0 q0)), .unset]) rfl ?_
    show Steps p.tables e below (T77.setTop (mkF m 127 #[.val (.long q0), .second, .val (.int p1), .val (.int p2), .val (.long (q0 &&& (9223372036854775807 : Int64))), .second, .val .null, .val (.ref b33), .val (.ref b37), .val (.ref b50), .val (.ref b69_0), .val (.int (v0_n_99_s0)), .val (.int (v0_n_125_s0 q0)), .unset] [])) _
    refine XS.aload X77.here hx rfl (hb hby at_127) rfl rfl ?_
    exact k)
  obtain ⟨cq86, kq86, q86a, q86b, q86c⟩ := isOf hZ e77 o50_0
  obtain ⟨_, _, ⟨T86, L86, k86, n86⟩, -, X86, ⟨Lc86, hQ86, l86, y86, z86⟩, st86⟩ := X77.virtualBack hx (y := (⟨"com/example/oncemark/oncemark/OutgoingMessage", "hasSequenceId", "()Z"⟩ : MethodName)) (z := (⟨"com/example/oncemark/oncemark/OutgoingMessage", "hasSequenceId", "()Z"⟩ : MethodName)) hown (mvT hZ (hw _ (List.mem_of_getElem? (i := 46) rfl))) (mvT hZ (hw _ (List.mem_of_getElem? (i := 47) rfl))) (notFace_of_selects (args := #[]) (mvT hZ (hw _ (List.mem_of_getElem? (i := 49) rfl)))) (mvT hZ (hw _ (List.mem_of_getElem? (i := 49) rfl))) (mvT hZ (hw _ (List.mem_of_getElem? (i := 48) rfl))) (by decide) (backOf (W := 0) (rm8 l Z a0 hw [] b69_0 (f6 (q0 &&& (9223372036854775807 : Int64))) T50.heap n0 Z50 o50_1) hZ (hw _ (List.mem_of_getElem? (i := 50) rfl)) (hw _ (List.mem_of_getElem? (i := 4) rfl)) (by decide) (by decide)) q86a q86c (g := (mkF m 129 #[.val (.long q0), .second, .val (.int p1), .val (.int p2), .val (.long (q0 &&& (9223372036854775807 : Int64))), .second, .val .null, .val (.ref b33), .val (.ref b37), .val (.ref b50), .val (.ref b69_0), .val (.int (v0_n_99_s0)), .val (.int (v0_n_125_s0 q0)), .unset] [(.ref b69_0)])) rfl (by rw [hml]; rfl) (Steps.refl _) (argsL := []) (rest := []) (lenOf pd___Z rfl) rfl (by show 2 * 0 + _ ≤ _; exact Nat.le_of_eq rfl) (hb hby at_129) (fun _ _ => ⟨rfl, e77, (by decide : 10 + 0 ≤ _), (by decide : 108 + 0 ≤ _)⟩)
  dsimp only [Pt.U, Pt.locs, Pt.cells, Pt.slots] at X86 l86 y86 z86 st86 hQ86
  subst l86 y86 z86
  obtain ⟨rfl, Nq86, e86⟩ := hQ86
  have N86 := Fr.app N77 Nq86
  have pre87 : ∀ t, Steps p.tables e below (T86.setTop (mkF m 132 #[.val (.long q0), .second, .val (.int p1), .val (.int p2), .val (.long (q0 &&& (9223372036854775807 : Int64))), .second, .val .null, .val (.ref b33), .val (.ref b37), .val (.ref b50), .val (.ref b69_0), .val (.int (v0_n_99_s0)), .val (.int (v0_n_125_s0 q0)), .unset] [(.int (f8 (f6 (q0 &&& (9223372036854775807 : Int64)))))])) t → Steps p.tables e below (s₁.setTop (entryFrame m #[(.long q0), (.int p1), (.int p2)] maxLocals)) t := fun t k => pre85 t (st86.trans k)
  obtain ⟨T88, L88, X88, e88, N88, pre88⟩ : ∃ (T' : State) (L' : List Loc), Stand p l e room_1 (s.setVm T50.vm) m #[(.long q0), (.int p1), (.int p2)] below meth c T' L' 10 108 ∧ T'.heap = T50.heap ∧ Fr n0 L' ∧ ∀ t, Steps p.tables e below (T'.setTop (mkF m 151 #[.val (.long q0), .second, .val (.int p1), .val (.int p2), .val (.long (q0 &&& (9223372036854775807 : Int64))), .second, .val .null, .val (.ref b33), .val (.ref b37), .val (.ref b50), .val (.ref b69_0), .val (.int (v0_n_99_s0)), .val (.int (v0_n_125_s0 q0)), .unset] [(.int (v0_n_151_s0 q0))])) t → Steps p.tables e below (s₁.setTop (entryFrame m #[(.long q0), (.int p1), (.int p2)] maxLocals)) t := by
    by_cases hc132_5 : (f8 (f6 (q0 &&& (9223372036854775807 : Int64)))) = (0 : Int32)
    · have pre89 : ∀ t, Steps p.tables e below (T86.setTop (mkF m 151 #[.val (.long q0), .second, .val (.int p1), .val (.int p2), .val (.long (q0 &&& (9223372036854775807 : Int64))), .second, .val .null, .val (.ref b33), .val (.ref b37), .val (.ref b50), .val (.ref b69_0), .val (.int (v0_n_99_s0)), .val (.int (v0_n_125_s0 q0)), .unset] [(.int (0 : Int32))])) t → Steps p.tables e below (s₁.setTop (entryFrame m #[(.long q0), (.int p1), (.int p2)] maxLocals)) t := fun t k => pre87 t (by
        show Steps p.tables e below (T86.setTop (mkF m 132 #[.val (.long q0), .second, .val (.int p1), .val (.int p2), .val (.long (q0 &&& (9223372036854775807 : Int64))), .second, .val .null, .val (.ref b33), .val (.ref b37), .val (.ref b50), .val (.ref b69_0), .val (.int (v0_n_99_s0)), .val (.int (v0_n_125_s0 q0)), .unset] [(.int (f8 (f6 (q0 &&& (9223372036854775807 : Int64)))))])) _
        refine XS.ifYes X86.here hx rfl (pc0 := 132) (pc' := 150) rfl (hb hby at_132) rfl ((if0 _ _).trans (teq hc132_5).1) (by decide) (by decide) ?_
        show Steps p.tables e below (T86.setTop (mkF m 150 #[.val (.long q0), .second, .val (.int p1), .val (.int p2), .val (.long (q0 &&& (9223372036854775807 : Int64))), .second, .val .null, .val (.ref b33), .val (.ref b37), .val (.ref b50), .val (.ref b69_0), .val (.int (v0_n_99_s0)), .val (.int (v0_n_125_s0 q0)), .unset] [])) _
        refine XS.iconst X86.here hx rfl (hb hby at_150) ?_
        exact k)
      exact ⟨T86, _, X86, e86, N86, fun t k => pre89 t (by simpa only [v0_n_151_s0, if_pos hc132_5] using k)⟩
    · have pre90 : ∀ t, Steps p.tables e below (T86.setTop (mkF m 137 #[.val (.long q0), .second, .val (.int p1), .val (.int p2), .val (.long (q0 &&& (9223372036854775807 : Int64))), .second, .val .null, .val (.ref b33), .val (.ref b37), .val (.ref b50), .val (.ref b69_0), .val (.int (v0_n_99_s0)), .val (.int (v0_n_125_s0 q0)), .unset] [(.ref b69_0)])) t → Steps p.tables e below (s₁.setTop (entryFrame m #[(.long q0), (.int p1), (.int p2)] maxLocals)) t := fun t k => pre87 t (by
        show Steps p.tables e below (T86.setTop (mkF m 132 #[.val (.long q0), .second, .val (.int p1), .val (.int p2), .val (.long (q0 &&& (9223372036854775807 : Int64))), .second, .val .null, .val (.ref b33), .val (.ref b37), .val (.ref b50), .val (.ref b69_0), .val (.int (v0_n_99_s0)), .val (.int (v0_n_125_s0 q0)), .unset] [(.int (f8 (f6 (q0 &&& (9223372036854775807 : Int64)))))])) _
        refine XS.ifNo X86.here hx rfl (hb hby at_132) rfl ((if0 _ _).trans (feq hc132_5).1) ?_
        show Steps p.tables e below (T86.setTop (mkF m 135 #[.val (.long q0), .second, .val (.int p1), .val (.int p2), .val (.long (q0 &&& (9223372036854775807 : Int64))), .second, .val .null, .val (.ref b33), .val (.ref b37), .val (.ref b50), .val (.ref b69_0), .val (.int (v0_n_99_s0)), .val (.int (v0_n_125_s0 q0)), .unset] [])) _
        refine XS.aload X86.here hx rfl (hb hby at_135) rfl rfl ?_
        exact k)
      obtain ⟨cq91, kq91, q91a, q91b, q91c⟩ := isOf hZ e86 o50_0
      obtain ⟨_, _, ⟨T91, L91, k91, n91⟩, -, X91, ⟨Lc91, hQ91, l91, y91, z91⟩, st91⟩ := X86.virtualBack hx (y := (⟨"com/example/oncemark/oncemark/OutgoingMessage", "sequenceId", "()J"⟩ : MethodName)) (z := (⟨"com/example/oncemark/oncemark/OutgoingMessage", "sequenceId", "()J"⟩ : MethodName)) hown (mvT hZ (hw _ (List.mem_of_getElem? (i := 51) rfl))) (mvT hZ (hw _ (List.mem_of_getElem? (i := 52) rfl))) (notFace_of_selects (args := #[]) (mvT hZ (hw _ (List.mem_of_getElem? (i := 54) rfl)))) (mvT hZ (hw _ (List.mem_of_getElem? (i := 54) rfl))) (mvT hZ (hw _ (List.mem_of_getElem? (i := 53) rfl))) (by decide) (backOf (W := 0) (rm9 l Z a0 hw [] b69_0 (f6 (q0 &&& (9223372036854775807 : Int64))) T50.heap n0 Z50 o50_1) hZ (hw _ (List.mem_of_getElem? (i := 55) rfl)) (hw _ (List.mem_of_getElem? (i := 4) rfl)) (by decide) (by decide)) q91a q91c (g := (mkF m 137 #[.val (.long q0), .second, .val (.int p1), .val (.int p2), .val (.long (q0 &&& (9223372036854775807 : Int64))), .second, .val .null, .val (.ref b33), .val (.ref b37), .val (.ref b50), .val (.ref b69_0), .val (.int (v0_n_99_s0)), .val (.int (v0_n_125_s0 q0)), .unset] [(.ref b69_0)])) rfl (by rw [hml]; rfl) (Steps.refl _) (argsL := []) (rest := []) (lenOf pd___J rfl) rfl (by show 2 * 0 + _ ≤ _; exact Nat.le_of_eq rfl) (hb hby at_137) (fun _ _ => ⟨rfl, e86, (by decide : 10 + 0 ≤ _), (by decide : 108 + 0 ≤ _)⟩)
      dsimp only [Pt.U, Pt.locs, Pt.cells, Pt.slots] at X91 l91 y91 z91 st91 hQ91
      subst l91 y91 z91
      obtain ⟨rfl, Nq91, e91⟩ := hQ91
      have N91 := Fr.app N86 Nq91
      have pre92 : ∀ t, Steps p.tables e below (T91.setTop (mkF m 140 #[.val (.long q0), .second, .val (.int p1), .val (.int p2), .val (.long (q0 &&& (9223372036854775807 : Int64))), .second, .val .null, .val (.ref b33), .val (.ref b37), .val (.ref b50), .val (.ref b69_0), .val (.int (v0_n_99_s0)), .val (.int (v0_n_125_s0 q0)), .unset] [(.long (f9 (f6 (q0 &&& (9223372036854775807 : Int64)))))])) t → Steps p.tables e below (s₁.setTop (entryFrame m #[(.long q0), (.int p1), (.int p2)] maxLocals)) t := fun t k => pre90 t (st91.trans k)
      have pre93 : ∀ t, Steps p.tables e below (T91.setTop (mkF m 143 #[.val (.long q0), .second, .val (.int p1), .val (.int p2), .val (.long (q0 &&& (9223372036854775807 : Int64))), .second, .val .null, .val (.ref b33), .val (.ref b37), .val (.ref b50), .val (.ref b69_0), .val (.int (v0_n_99_s0)), .val (.int (v0_n_125_s0 q0)), .unset] [(.int (lcmpW (f9 (f6 (q0 &&& (9223372036854775807 : Int64)))) (q0 &&& (9223372036854775807 : Int64))))])) t → Steps p.tables e below (s₁.setTop (entryFrame m #[(.long q0), (.int p1), (.int p2)] maxLocals)) t := fun t k => pre92 t (by
        show Steps p.tables e below (T91.setTop (mkF m 140 #[.val (.long q0), .second, .val (.int p1), .val (.int p2), .val (.long (q0 &&& (9223372036854775807 : Int64))), .second, .val .null, .val (.ref b33), .val (.ref b37), .val (.ref b50), .val (.ref b69_0), .val (.int (v0_n_99_s0)), .val (.int (v0_n_125_s0 q0)), .unset] [(.long (f9 (f6 (q0 &&& (9223372036854775807 : Int64)))))])) _
        refine XS.lload X91.here hx rfl (hb hby at_140) rfl ?_
        show Steps p.tables e below (T91.setTop (mkF m 142 #[.val (.long q0), .second, .val (.int p1), .val (.int p2), .val (.long (q0 &&& (9223372036854775807 : Int64))), .second, .val .null, .val (.ref b33), .val (.ref b37), .val (.ref b50), .val (.ref b69_0), .val (.int (v0_n_99_s0)), .val (.int (v0_n_125_s0 q0)), .unset] [(.long (q0 &&& (9223372036854775807 : Int64))), (.long (f9 (f6 (q0 &&& (9223372036854775807 : Int64)))))])) _
        refine XS.lcmp X91.here hx rfl (hb hby at_142) rfl ?_
        exact k)
      by_cases hc143_6 : (f9 (f6 (q0 &&& (9223372036854775807 : Int64)))) = (q0 &&& (9223372036854775807 : Int64))
      · have pre94 : ∀ t, Steps p.tables e below (T91.setTop (mkF m 151 #[.val (.long q0), .second, .val (.int p1), .val (.int p2), .val (.long (q0 &&& (9223372036854775807 : Int64))), .second, .val .null, .val (.ref b33), .val (.ref b37), .val (.ref b50), .val (.ref b69_0), .val (.int (v0_n_99_s0)), .val (.int (v0_n_125_s0 q0)), .unset] [(.int (1 : Int32))])) t → Steps p.tables e below (s₁.setTop (entryFrame m #[(.long q0), (.int p1), (.int p2)] maxLocals)) t := fun t k => pre93 t (by
          show Steps p.tables e below (T91.setTop (mkF m 143 #[.val (.long q0), .second, .val (.int p1), .val (.int p2), .val (.long (q0 &&& (9223372036854775807 : Int64))), .second, .val .null, .val (.ref b33), .val (.ref b37), .val (.ref b50), .val (.ref b69_0), .val (.int (v0_n_99_s0)), .val (.int (v0_n_125_s0 q0)), .unset] [(.int (lcmpW (f9 (f6 (q0 &&& (9223372036854775807 : Int64)))) (q0 &&& (9223372036854775807 : Int64))))])) _
          refine XS.ifNo X91.here hx rfl (hb hby at_143) rfl ((if0 _ _).trans (teq ((lw_eq _ _).mpr hc143_6)).2) ?_
          show Steps p.tables e below (T91.setTop (mkF m 146 #[.val (.long q0), .second, .val (.int p1), .val (.int p2), .val (.long (q0 &&& (9223372036854775807 : Int64))), .second, .val .null, .val (.ref b33), .val (.ref b37), .val (.ref b50), .val (.ref b69_0), .val (.int (v0_n_99_s0)), .val (.int (v0_n_125_s0 q0)), .unset] [])) _
          refine XS.iconst X91.here hx rfl (hb hby at_146) ?_
          show Steps p.tables e below (T91.setTop (mkF m 147 #[.val (.long q0), .second, .val (.int p1), .val (.int p2), .val (.long (q0 &&& (9223372036854775807 : Int64))), .second, .val .null, .val (.ref b33), .val (.ref b37), .val (.ref b50), .val (.ref b69_0), .val (.int (v0_n_99_s0)), .val (.int (v0_n_125_s0 q0)), .unset] [(.int (1 : Int32))])) _
          refine XS.goto X91.here hx rfl (pc0 := 147) (pc' := 151) rfl (hb hby at_147) (by decide) (by decide) ?_
          exact k)
        exact ⟨T91, _, X91, e91, N91, fun t k => pre94 t (by simpa only [v0_n_151_s0, if_neg hc132_5, if_pos hc143_6] using k)⟩
      · have pre95 : ∀ t, Steps p.tables e below (T91.setTop (mkF m 151 #[.val (.long q0), .second, .val (.int p1), .val (.int p2), .val (.long (q0 &&& (9223372036854775807 : Int64))), .second, .val .null, .val (.ref b33), .val (.ref b37), .val (.ref b50), .val (.ref b69_0), .val (.int (v0_n_99_s0)), .val (.int (v0_n_125_s0 q0)), .unset] [(.int (0 : Int32))])) t → Steps p.tables e below (s₁.setTop (entryFrame m #[(.long q0), (.int p1), (.int p2)] maxLocals)) t := fun t k => pre93 t (by
          show Steps p.tables e below (T91.setTop (mkF m 143 #[.val (.long q0), .second, .val (.int p1), .val (.int p2), .val (.long (q0 &&& (9223372036854775807 : Int64))), .second, .val .null, .val (.ref b33), .val (.ref b37), .val (.ref b50), .val (.ref b69_0), .val (.int (v0_n_99_s0)), .val (.int (v0_n_125_s0 q0)), .unset] [(.int (lcmpW (f9 (f6 (q0 &&& (9223372036854775807 : Int64)))) (q0 &&& (9223372036854775807 : Int64))))])) _
          refine XS.ifYes X91.here hx rfl (pc0 := 143) (pc' := 150) rfl (hb hby at_143) rfl ((if0 _ _).trans (feq (fun q => hc143_6 ((lw_eq _ _).mp q))).2) (by decide) (by decide) ?_
          show Steps p.tables e below (T91.setTop (mkF m 150 #[.val (.long q0), .second, .val (.int p1), .val (.int p2), .val (.long (q0 &&& (9223372036854775807 : Int64))), .second, .val .null, .val (.ref b33), .val (.ref b37), .val (.ref b50), .val (.ref b69_0), .val (.int (v0_n_99_s0)), .val (.int (v0_n_125_s0 q0)), .unset] [])) _
          refine XS.iconst X91.here hx rfl (hb hby at_150) ?_
          exact k)
        exact ⟨T91, _, X91, e91, N91, fun t k => pre95 t (by simpa only [v0_n_151_s0, if_neg hc132_5, if_neg hc143_6] using k)⟩
  have pre96 : ∀ t, Steps p.tables e below (T88.setTop (mkF m 155 #[.val (.long q0), .second, .val (.int p1), .val (.int p2), .val (.long (q0 &&& (9223372036854775807 : Int64))), .second, .val .null, .val (.ref b33), .val (.ref b37), .val (.ref b50), .val (.ref b69_0), .val (.int (v0_n_99_s0)), .val (.int (v0_n_125_s0 q0)), .val (.int (v0_n_151_s0 q0))] [(.int (v0_n_99_s0))])) t → Steps p.tables e below (s₁.setTop (entryFrame m #[(.long q0), (.int p1), (.int p2)] maxLocals)) t := fun t k => pre88 t (by
    show Steps p.tables e below (T88.setTop (mkF m 151 #[.val (.long q0), .second, .val (.int p1), .val (.int p2), .val (.long (q0 &&& (9223372036854775807 : Int64))), .second, .val .null, .val (.ref b33), .val (.ref b37), .val (.ref b50), .val (.ref b69_0), .val (.int (v0_n_99_s0)), .val (.int (v0_n_125_s0 q0)), .unset] [(.int (v0_n_151_s0 q0))])) _
    refine XS.istore X88.here hx rfl (hb hby at_151) rfl (l' := #[.val (.long q0), .second, .val (.int p1), .val (.int p2), .val (.long (q0 &&& (9223372036854775807 : Int64))), .second, .val .null, .val (.ref b33), .val (.ref b37), .val (.ref b50), .val (.ref b69_0), .val (.int (v0_n_99_s0)), .val (.int (v0_n_125_s0 q0)), .val (.int (v0_n_151_s0 q0))]) rfl ?_
    show Steps p.tables e below (T88.setTop (mkF m 153 #[.val (.long q0), .second, .val (.int p1), .val (.int p2), .val (.long (q0 &&& (9223372036854775807 : Int64))), .second, .val .null, .val (.ref b33), .val (.ref b37), .val (.ref b50), .val (.ref b69_0), .val (.int (v0_n_99_s0)), .val (.int (v0_n_125_s0 q0)), .val (.int (v0_n_151_s0 q0))] [])) _
    refine XS.iload X88.here hx rfl (hb hby at_153) rfl ?_
    exact k)
  by_cases hc155_7 : (v0_n_99_s0) = (0 : Int32)
  · have pre97 : ∀ t, Steps p.tables e below (T88.setTop (mkF m 173 #[.val (.long q0), .second, .val (.int p1), .val (.int p2), .val (.long (q0 &&& (9223372036854775807 : Int64))), .second, .val .null, .val (.ref b33), .val (.ref b37), .val (.ref b50), .val (.ref b69_0), .val (.int (v0_n_99_s0)), .val (.int (v0_n_125_s0 q0)), .val (.int (v0_n_151_s0 q0))] [(.int (0 : Int32))])) t → Steps p.tables e below (s₁.setTop (entryFrame m #[(.long q0), (.int p1), (.int p2)] maxLocals)) t := fun t k => pre96 t (by
      show Steps p.tables e below (T88.setTop (mkF m 155 #[.val (.long q0), .second, .val (.int p1), .val (.int p2), .val (.long (q0 &&& (9223372036854775807 : Int64))), .second, .val .null, .val (.ref b33), .val (.ref b37), .val (.ref b50), .val (.ref b69_0), .val (.int (v0_n_99_s0)), .val (.int (v0_n_125_s0 q0)), .val (.int (v0_n_151_s0 q0))] [(.int (v0_n_99_s0))])) _
      refine XS.ifYes X88.here hx rfl (pc0 := 155) (pc' := 172) rfl (hb hby at_155) rfl ((if0 _ _).trans (teq hc155_7).1) (by decide) (by decide) ?_
      show Steps p.tables e below (T88.setTop (mkF m 172 #[.val (.long q0), .second, .val (.int p1), .val (.int p2), .val (.long (q0 &&& (9223372036854775807 : Int64))), .second, .val .null, .val (.ref b33), .val (.ref b37), .val (.ref b50), .val (.ref b69_0), .val (.int (v0_n_99_s0)), .val (.int (v0_n_125_s0 q0)), .val (.int (v0_n_151_s0 q0))] [])) _
      refine XS.iconst X88.here hx rfl (hb hby at_172) ?_
      exact k)
    obtain ⟨fs, hr, hrun, hended, hE⟩ := X88.leaveW hS50 (by rw [e88]; exact (Nat.le_refl _)) (v := some (.int (0 : Int32))) (fun h => by rw [Bd.returns] at h; cases h)
    refine ⟨_, _, ?_, hrun, hended, _, _, rfl, ?_, hE.1, hE.2.1, hE.2.2.1, hE.2.2.2.mono (by decide) (by decide)⟩
    · exact pre97 _ (retN X88 hx (t := .boolean) Bd.returns (by simp) (hb hby at_173) hr)
    · exact ⟨by simp only [f0_n, if_pos hc155_7], N88, trivial⟩
  · have pre98 : ∀ t, Steps p.tables e below (T88.setTop (mkF m 160 #[.val (.long q0), .second, .val (.int p1), .val (.int p2), .val (.long (q0 &&& (9223372036854775807 : Int64))), .second, .val .null, .val (.ref b33), .val (.ref b37), .val (.ref b50), .val (.ref b69_0), .val (.int (v0_n_99_s0)), .val (.int (v0_n_125_s0 q0)), .val (.int (v0_n_151_s0 q0))] [(.int (v0_n_125_s0 q0))])) t → Steps p.tables e below (s₁.setTop (entryFrame m #[(.long q0), (.int p1), (.int p2)] maxLocals)) t := fun t k => pre96 t (by
      show Steps p.tables e below (T88.setTop (mkF m 155 #[.val (.long q0), .second, .val (.int p1), .val (.int p2), .val (.long (q0 &&& (9223372036854775807 : Int64))), .second, .val .null, .val (.ref b33), .val (.ref b37), .val (.ref b50), .val (.ref b69_0), .val (.int (v0_n_99_s0)), .val (.int (v0_n_125_s0 q0)), .val (.int (v0_n_151_s0 q0))] [(.int (v0_n_99_s0))])) _
      refine XS.ifNo X88.here hx rfl (hb hby at_155) rfl ((if0 _ _).trans (feq hc155_7).1) ?_
      show Steps p.tables e below (T88.setTop (mkF m 158 #[.val (.long q0), .second, .val (.int p1), .val (.int p2), .val (.long (q0 &&& (9223372036854775807 : Int64))), .second, .val .null, .val (.ref b33), .val (.ref b37), .val (.ref b50), .val (.ref b69_0), .val (.int (v0_n_99_s0)), .val (.int (v0_n_125_s0 q0)), .val (.int (v0_n_151_s0 q0))] [])) _
      refine XS.iload X88.here hx rfl (hb hby at_158) rfl ?_
      exact k)
    by_cases hc160_8 : (v0_n_125_s0 q0) = (0 : Int32)
    · have pre99 : ∀ t, Steps p.tables e below (T88.setTop (mkF m 173 #[.val (.long q0), .second, .val (.int p1), .val (.int p2), .val (.long (q0 &&& (9223372036854775807 : Int64))), .second, .val .null, .val (.ref b33), .val (.ref b37), .val (.ref b50), .val (.ref b69_0), .val (.int (v0_n_99_s0)), .val (.int (v0_n_125_s0 q0)), .val (.int (v0_n_151_s0 q0))] [(.int (0 : Int32))])) t → Steps p.tables e below (s₁.setTop (entryFrame m #[(.long q0), (.int p1), (.int p2)] maxLocals)) t := fun t k => pre98 t (by
        show Steps p.tables e below (T88.setTop (mkF m 160 #[.val (.long q0), .second, .val (.int p1), .val (.int p2), .val (.long (q0 &&& (9223372036854775807 : Int64))), .second, .val .null, .val (.ref b33), .val (.ref b37), .val (.ref b50), .val (.ref b69_0), .val (.int (v0_n_99_s0)), .val (.int (v0_n_125_s0 q0)), .val (.int (v0_n_151_s0 q0))] [(.int (v0_n_125_s0 q0))])) _
        refine XS.ifYes X88.here hx rfl (pc0 := 160) (pc' := 172) rfl (hb hby at_160) rfl ((if0 _ _).trans (teq hc160_8).1) (by decide) (by decide) ?_
        show Steps p.tables e below (T88.setTop (mkF m 172 #[.val (.long q0), .second, .val (.int p1), .val (.int p2), .val (.long (q0 &&& (9223372036854775807 : Int64))), .second, .val .null, .val (.ref b33), .val (.ref b37), .val (.ref b50), .val (.ref b69_0), .val (.int (v0_n_99_s0)), .val (.int (v0_n_125_s0 q0)), .val (.int (v0_n_151_s0 q0))] [])) _
        refine XS.iconst X88.here hx rfl (hb hby at_172) ?_
        exact k)
      obtain ⟨fs, hr, hrun, hended, hE⟩ := X88.leaveW hS50 (by rw [e88]; exact (Nat.le_refl _)) (v := some (.int (0 : Int32))) (fun h => by rw [Bd.returns] at h; cases h)
      refine ⟨_, _, ?_, hrun, hended, _, _, rfl, ?_, hE.1, hE.2.1, hE.2.2.1, hE.2.2.2.mono (by decide) (by decide)⟩
      · exact pre99 _ (retN X88 hx (t := .boolean) Bd.returns (by simp) (hb hby at_173) hr)
      · exact ⟨by simp only [f0_n, if_neg hc155_7, if_pos hc160_8], N88, trivial⟩
    · have pre100 : ∀ t, Steps p.tables e below (T88.setTop (mkF m 165 #[.val (.long q0), .second, .val (.int p1), .val (.int p2), .val (.long (q0 &&& (9223372036854775807 : Int64))), .second, .val .null, .val (.ref b33), .val (.ref b37), .val (.ref b50), .val (.ref b69_0), .val (.int (v0_n_99_s0)), .val (.int (v0_n_125_s0 q0)), .val (.int (v0_n_151_s0 q0))] [(.int (v0_n_151_s0 q0))])) t → Steps p.tables e below (s₁.setTop (entryFrame m #[(.long q0), (.int p1), (.int p2)] maxLocals)) t := fun t k => pre98 t (by
        show Steps p.tables e below (T88.setTop (mkF m 160 #[.val (.long q0), .second, .val (.int p1), .val (.int p2), .val (.long (q0 &&& (9223372036854775807 : Int64))), .second, .val .null, .val (.ref b33), .val (.ref b37), .val (.ref b50), .val (.ref b69_0), .val (.int (v0_n_99_s0)), .val (.int (v0_n_125_s0 q0)), .val (.int (v0_n_151_s0 q0))] [(.int (v0_n_125_s0 q0))])) _
        refine XS.ifNo X88.here hx rfl (hb hby at_160) rfl ((if0 _ _).trans (feq hc160_8).1) ?_
        show Steps p.tables e below (T88.setTop (mkF m 163 #[.val (.long q0), .second, .val (.int p1), .val (.int p2), .val (.long (q0 &&& (9223372036854775807 : Int64))), .second, .val .null, .val (.ref b33), .val (.ref b37), .val (.ref b50), .val (.ref b69_0), .val (.int (v0_n_99_s0)), .val (.int (v0_n_125_s0 q0)), .val (.int (v0_n_151_s0 q0))] [])) _
        refine XS.iload X88.here hx rfl (hb hby at_163) rfl ?_
        exact k)
      by_cases hc165_9 : (v0_n_151_s0 q0) = (0 : Int32)
      · have pre101 : ∀ t, Steps p.tables e below (T88.setTop (mkF m 173 #[.val (.long q0), .second, .val (.int p1), .val (.int p2), .val (.long (q0 &&& (9223372036854775807 : Int64))), .second, .val .null, .val (.ref b33), .val (.ref b37), .val (.ref b50), .val (.ref b69_0), .val (.int (v0_n_99_s0)), .val (.int (v0_n_125_s0 q0)), .val (.int (v0_n_151_s0 q0))] [(.int (0 : Int32))])) t → Steps p.tables e below (s₁.setTop (entryFrame m #[(.long q0), (.int p1), (.int p2)] maxLocals)) t := fun t k => pre100 t (by
          show Steps p.tables e below (T88.setTop (mkF m 165 #[.val (.long q0), .second, .val (.int p1), .val (.int p2), .val (.long (q0 &&& (9223372036854775807 : Int64))), .second, .val .null, .val (.ref b33), .val (.ref b37), .val (.ref b50), .val (.ref b69_0), .val (.int (v0_n_99_s0)), .val (.int (v0_n_125_s0 q0)), .val (.int (v0_n_151_s0 q0))] [(.int (v0_n_151_s0 q0))])) _
          refine XS.ifYes X88.here hx rfl (pc0 := 165) (pc' := 172) rfl (hb hby at_165) rfl ((if0 _ _).trans (teq hc165_9).1) (by decide) (by decide) ?_
          show Steps p.tables e below (T88.setTop (mkF m 172 #[.val (.long q0), .second, .val (.int p1), .val (.int p2), .val (.long (q0 &&& (9223372036854775807 : Int64))), .second, .val .null, .val (.ref b33), .val (.ref b37), .val (.ref b50), .val (.ref b69_0), .val (.int (v0_n_99_s0)), .val (.int (v0_n_125_s0 q0)), .val (.int (v0_n_151_s0 q0))] [])) _
          refine XS.iconst X88.here hx rfl (hb hby at_172) ?_
          exact k)
        obtain ⟨fs, hr, hrun, hended, hE⟩ := X88.leaveW hS50 (by rw [e88]; exact (Nat.le_refl _)) (v := some (.int (0 : Int32))) (fun h => by rw [Bd.returns] at h; cases h)
        refine ⟨_, _, ?_, hrun, hended, _, _, rfl, ?_, hE.1, hE.2.1, hE.2.2.1, hE.2.2.2.mono (by decide) (by decide)⟩
        · exact pre101 _ (retN X88 hx (t := .boolean) Bd.returns (by simp) (hb hby at_173) hr)
        · exact ⟨by simp only [f0_n, if_neg hc155_7, if_neg hc160_8, if_pos hc165_9], N88, trivial⟩
      · have pre102 : ∀ t, Steps p.tables e below (T88.setTop (mkF m 173 #[.val (.long q0), .second, .val (.int p1), .val (.int p2), .val (.long (q0 &&& (9223372036854775807 : Int64))), .second, .val .null, .val (.ref b33), .val (.ref b37), .val (.ref b50), .val (.ref b69_0), .val (.int (v0_n_99_s0)), .val (.int (v0_n_125_s0 q0)), .val (.int (v0_n_151_s0 q0))] [(.int (1 : Int32))])) t → Steps p.tables e below (s₁.setTop (entryFrame m #[(.long q0), (.int p1), (.int p2)] maxLocals)) t := fun t k => pre100 t (by
          show Steps p.tables e below (T88.setTop (mkF m 165 #[.val (.long q0), .second, .val (.int p1), .val (.int p2), .val (.long (q0 &&& (9223372036854775807 : Int64))), .second, .val .null, .val (.ref b33), .val (.ref b37), .val (.ref b50), .val (.ref b69_0), .val (.int (v0_n_99_s0)), .val (.int (v0_n_125_s0 q0)), .val (.int (v0_n_151_s0 q0))] [(.int (v0_n_151_s0 q0))])) _
          refine XS.ifNo X88.here hx rfl (hb hby at_165) rfl ((if0 _ _).trans (feq hc165_9).1) ?_
          show Steps p.tables e below (T88.setTop (mkF m 168 #[.val (.long q0), .second, .val (.int p1), .val (.int p2), .val (.long (q0 &&& (9223372036854775807 : Int64))), .second, .val .null, .val (.ref b33), .val (.ref b37), .val (.ref b50), .val (.ref b69_0), .val (.int (v0_n_99_s0)), .val (.int (v0_n_125_s0 q0)), .val (.int (v0_n_151_s0 q0))] [])) _
          refine XS.iconst X88.here hx rfl (hb hby at_168) ?_
          show Steps p.tables e below (T88.setTop (mkF m 169 #[.val (.long q0), .second, .val (.int p1), .val (.int p2), .val (.long (q0 &&& (9223372036854775807 : Int64))), .second, .val .null, .val (.ref b33), .val (.ref b37), .val (.ref b50), .val (.ref b69_0), .val (.int (v0_n_99_s0)), .val (.int (v0_n_125_s0 q0)), .val (.int (v0_n_151_s0 q0))] [(.int (1 : Int32))])) _
          refine XS.goto X88.here hx rfl (pc0 := 169) (pc' := 173) rfl (hb hby at_169) (by decide) (by decide) ?_
          exact k)
        obtain ⟨fs, hr, hrun, hended, hE⟩ := X88.leaveW hS50 (by rw [e88]; exact (Nat.le_refl _)) (v := some (.int (1 : Int32))) (fun h => by rw [Bd.returns] at h; cases h)
        refine ⟨_, _, ?_, hrun, hended, _, _, rfl, ?_, hE.1, hE.2.1, hE.2.2.1, hE.2.2.2.mono (by decide) (by decide)⟩
        · exact pre102 _ (retN X88 hx (t := .boolean) Bd.returns (by simp) (hb hby at_173) hr)
        · exact ⟨by simp only [f0_n, if_neg hc155_7, if_neg hc160_8, if_neg hc165_9], N88, trivial⟩
theorem pd__C_Ljava_lang_String_ : parseMethodDescriptor "(C)Ljava/lang/String;" = some ⟨[.char], some (.object "java/lang/String")⟩ := by decide +kernel
def v0_k_99_s0 : Int32 := (if (f8 (-1 : Int64)) = (0 : Int32) then (if (f9 (-1 : Int64)) = (-1 : Int64) then (1 : Int32) else (0 : Int32)) else (0 : Int32))
def v0_k_125_s0 (q0 : Int64) : Int32 := (if (f8 (f6 (q0 &&& (9223372036854775807 : Int64)))) = (0 : Int32) then (0 : Int32) else (if (f9 (f6 (q0 &&& (9223372036854775807 : Int64)))) = (q0 &&& (9223372036854775807 : Int64)) then (1 : Int32) else (0 : Int32)))
def v0_k_151_s0 (q0 : Int64) : Int32 := (if (f8 (f6 (q0 &&& (9223372036854775807 : Int64)))) = (0 : Int32) then (0 : Int32) else (if (f9 (f6 (q0 &&& (9223372036854775807 : Int64)))) = (q0 &&& (9223372036854775807 : Int64)) then (1 : Int32) else (0 : Int32)))
def f0_k (q0 : Int64) : Int32 := (if (v0_k_99_s0) = (0 : Int32) then (0 : Int32) else (if (v0_k_125_s0 q0) = (0 : Int32) then (0 : Int32) else (if (v0_k_151_s0 q0) = (0 : Int32) then (0 : Int32) else (1 : Int32))))
set_option maxRecDepth 65536 in
set_option maxHeartbeats 40000000 in
theorem rm0_k (l : Launch) (Z : State) (a0 : Array Value) (hw : ∀ d ∈ tables_1, d.before a0 Z = true) (ws : List Jvm.Cond) (q0 : Int64) (p1 : Int32) (p2 : Int32) (wcs : Int32) (wsf : Value) (h0 : Heap) (n0 : Nat) (Z0 : n0 ≤ h0.size) (I0 : Sta Z h0 "java/lang/String" "COMPACT_STRINGS" "Z" (.int wcs)) (I1 : Sta Z h0 "jdk/internal/util/Preconditions" "SIOOBE_FORMATTER" "Ljava/util/function/BiFunction;" wsf) (hk : ¬ (p1 &&& (1 : Int32)) = (0 : Int32)) (hcs : ¬ (wcs = (0 : Int32))) (hsf : wsf.isRef = true) :
    MetFree l x (head1 (Jvm.Cond.code x code maxLocals ret :: ws) room_1) (fun a U => a = #[(.long q0), (.int p1), (.int p2)] ∧ Z.Warmed39 U.vm ∧ U.heap = h0) (fun _ _ _ _ _ => True) (fun _ U o U' => ∃ v L, o = .returned v ∧ QL (some (.int (f0_k q0))) n0 v U'.heap L ∧ ReturnedEndW U o U' L room_1.cells room_1.slots) := by
  refine MetFree.of_bodySF (plainFor_of_name pn_0) hisR ?_
  intro p e s m args below meth c s₁ Bd hml0 hP hK
  obtain ⟨rfl, hZ, hh⟩ := hP
  have hx := Bd.exec
  have hby := Bd.bytes
  have hml : c.maxLocals = 14 := hml0
  have hown : s.vm.findClass "com/example/oncemark/oncemark/OutgoingMessageHasSequenceIdPinLaw" = some m.cls := findClass_of_methodNamed Bd.named
  have hnm := (name_of_methodNamed Bd.named Bd.method).1
  have X0 : Stand p l e room_1 (s.setVm s.vm) m #[(.long q0), (.int p1), (.int p2)] below meth c s₁ [] 0 0 := by rw [State.setVm_self]; exact Stand.of_body Bd
  have hS0 : s.Since s.vm h0.size := (State.WarmedH.refl s).since _
  have kS0 : h0.size ≤ h0.size := Nat.le_refl _
  have hZ : Z.Warmed39 (s.setVm s.vm).vm := hZ
  have hown : (s.setVm s.vm).vm.findClass "com/example/oncemark/oncemark/OutgoingMessageHasSequenceIdPinLaw" = some m.cls := hown
  have e0 : s₁.heap = h0 := by rw [← hh, Bd.state]; rfl
  have N0 := Fr.nil n0
  have K0 : Keep h0 h0 [] := Keep.refl _ _
  have pre0 : ∀ t, Steps p.tables e below (s₁.setTop (mkF m 0 #[.val (.long q0), .second, .val (.int p1), .val (.int p2), .unset, .unset, .unset, .unset, .unset, .unset, .unset, .unset, .unset, .unset] [])) t → Steps p.tables e below (s₁.setTop (entryFrame m #[(.long q0), (.int p1), (.int p2)] maxLocals)) t := fun t k => castTop (ef_0 m q0 p1 p2) k
  have pre10 : ∀ t, Steps p.tables e below (s₁.setTop (mkF m 19 #[.val (.long q0), .second, .val (.int p1), .val (.int p2), .val (.long (q0 &&& (9223372036854775807 : Int64))), .second, .unset, .unset, .unset, .unset, .unset, .unset, .unset, .unset] [(.int ((p2 &&& (255 : Int32)).toUInt32.toUInt16.toUInt32.toInt32))])) t → Steps p.tables e below (s₁.setTop (entryFrame m #[(.long q0), (.int p1), (.int p2)] maxLocals)) t := fun t k => pre0 t (by
    show Steps p.tables e below (s₁.setTop (mkF m 0 #[.val (.long q0), .second, .val (.int p1), .val (.int p2), .unset, .unset, .unset, .unset, .unset, .unset, .unset, .unset, .unset, .unset] [])) _
    refine XS.lloadN X0.here hx rfl (hb hby at_0) rfl ?_
    show Steps p.tables e below (s₁.setTop (mkF m 1 #[.val (.long q0), .second, .val (.int p1), .val (.int p2), .unset, .unset, .unset, .unset, .unset, .unset, .unset, .unset, .unset, .unset] [(.long q0)])) _
    refine X0.ldc2Long hx hown (mvT hZ (hw _ (List.mem_of_getElem? (i := 0) rfl))) (g := (mkF m 1 #[.val (.long q0), .second, .val (.int p1), .val (.int p2), .unset, .unset, .unset, .unset, .unset, .unset, .unset, .unset, .unset, .unset] [(.long q0)])) rfl (hb hby at_1) _ ?_
    show Steps p.tables e below (s₁.setTop (mkF m 4 #[.val (.long q0), .second, .val (.int p1), .val (.int p2), .unset, .unset, .unset, .unset, .unset, .unset, .unset, .unset, .unset, .unset] [(.long (9223372036854775807 : Int64)), (.long q0)])) _
    refine XS.land X0.here hx rfl (hb hby at_4) rfl ?_
    show Steps p.tables e below (s₁.setTop (mkF m 5 #[.val (.long q0), .second, .val (.int p1), .val (.int p2), .unset, .unset, .unset, .unset, .unset, .unset, .unset, .unset, .unset, .unset] [(.long (q0 &&& (9223372036854775807 : Int64)))])) _
    refine XS.lstore X0.here hx rfl (hb hby at_5) rfl (l' := #[.val (.long q0), .second, .val (.int p1), .val (.int p2), .val (.long (q0 &&& (9223372036854775807 : Int64))), .second, .unset, .unset, .unset, .unset, .unset, .unset, .unset, .unset]) rfl ?_
    show Steps p.tables e below (s₁.setTop (mkF m 7 #[.val (.long q0), .second, .val (.int p1), .val (.int p2), .val (.long (q0 &&& (9223372036854775807 : Int64))), .second, .unset, .unset, .unset, .unset, .unset, .unset, .unset, .unset] [])) _
    refine XS.iloadN X0.here hx rfl (hb hby at_7) rfl ?_
    show Steps p.tables e below (s₁.setTop (mkF m 8 #[.val (.long q0), .second, .val (.int p1), .val (.int p2), .val (.long (q0 &&& (9223372036854775807 : Int64))), .second, .unset, .unset, .unset, .unset, .unset, .unset, .unset, .unset] [(.int p1)])) _
    refine XS.iconst X0.here hx rfl (hb hby at_8) ?_
    show Steps p.tables e below (s₁.setTop (mkF m 9 #[.val (.long q0), .second, .val (.int p1), .val (.int p2), .val (.long (q0 &&& (9223372036854775807 : Int64))), .second, .unset, .unset, .unset, .unset, .unset, .unset, .unset, .unset] [(.int (1 : Int32)), (.int p1)])) _
    refine XS.iand X0.here hx rfl (hb hby at_9) rfl ?_
    show Steps p.tables e below (s₁.setTop (mkF m 10 #[.val (.long q0), .second, .val (.int p1), .val (.int p2), .val (.long (q0 &&& (9223372036854775807 : Int64))), .second, .unset, .unset, .unset, .unset, .unset, .unset, .unset, .unset] [(.int (p1 &&& (1 : Int32)))])) _
    refine XS.ifNo X0.here hx rfl (hb hby at_10) rfl ((if0 _ _).trans (feq hk).1) ?_
    show Steps p.tables e below (s₁.setTop (mkF m 13 #[.val (.long q0), .second, .val (.int p1), .val (.int p2), .val (.long (q0 &&& (9223372036854775807 : Int64))), .second, .unset, .unset, .unset, .unset, .unset, .unset, .unset, .unset] [])) _
    refine XS.iloadN X0.here hx rfl (hb hby at_13) rfl ?_
    show Steps p.tables e below (s₁.setTop (mkF m 14 #[.val (.long q0), .second, .val (.int p1), .val (.int p2), .val (.long (q0 &&& (9223372036854775807 : Int64))), .second, .unset, .unset, .unset, .unset, .unset, .unset, .unset, .unset] [(.int p2)])) _
    refine XS.sipush X0.here hx rfl (hb hby at_14) ?_
    show Steps p.tables e below (s₁.setTop (mkF m 17 #[.val (.long q0), .second, .val (.int p1), .val (.int p2), .val (.long (q0 &&& (9223372036854775807 : Int64))), .second, .unset, .unset, .unset, .unset, .unset, .unset, .unset, .unset] [(.int (255 : Int32)), (.int p2)])) _
    refine XS.iand X0.here hx rfl (hb hby at_17) rfl ?_
    show Steps p.tables e below (s₁.setTop (mkF m 18 #[.val (.long q0), .second, .val (.int p1), .val (.int p2), .val (.long (q0 &&& (9223372036854775807 : Int64))), .second, .unset, .unset, .unset, .unset, .unset, .unset, .unset, .unset] [(.int (p2 &&& (255 : Int32)))])) _
    refine XS.i2c X0.here hx rfl (hb hby at_18) rfl ?_
    exact k)
  obtain ⟨_, _, ⟨T11, L11, k11, n11⟩, -, X11, ⟨Lc11, hQ11, l11, y11, z11⟩, st11⟩ := Jvm.LawKit.callS X0 hx (y := (⟨"java/lang/String", "valueOf", "(C)Ljava/lang/String;"⟩ : MethodName)) hown (mvT hZ (hw _ (List.mem_of_getElem? (i := 57) rfl))) (mvT hZ (hw _ (List.mem_of_getElem? (i := 58) rfl))) (mvT hZ (hw _ (List.mem_of_getElem? (i := 16) rfl))) (mvT hZ (hw _ (List.mem_of_getElem? (i := 59) rfl))) (by decide) (backOf (W := 0) (rm10 l Z a0 hw [] ((p2 &&& (255 : Int32)).toUInt32.toUInt16.toUInt32.toInt32) wcs h0 n0 Z0 I0 hcs (own_c p2)) hZ (hw _ (List.mem_of_getElem? (i := 59) rfl)) (hw _ (List.mem_of_getElem? (i := 16) rfl)) (by decide) (by decide)) (g := (mkF m 19 #[.val (.long q0), .second, .val (.int p1), .val (.int p2), .val (.long (q0 &&& (9223372036854775807 : Int64))), .second, .unset, .unset, .unset, .unset, .unset, .unset, .unset, .unset] [(.int ((p2 &&& (255 : Int32)).toUInt32.toUInt16.toUInt32.toInt32))])) rfl (by rw [hml]; rfl) (argsL := [(.int ((p2 &&& (255 : Int32)).toUInt32.toUInt16.toUInt32.toInt32))]) (rest := []) (lenOf pd__C_Ljava_lang_String_ rfl) rfl (by show 2 * 0 + _ ≤ _; exact Nat.le_of_eq rfl) (hb hby at_19) (fun _ _ => ⟨rfl, e0, (by decide : 0 + 2 ≤ _), (by decide : 0 + 5 ≤ _)⟩)
  dsimp only [Pt.U, Pt.locs, Pt.cells, Pt.slots] at X11 l11 y11 z11 st11 hQ11
  subst l11 y11 z11
  obtain ⟨b19_0, b19_1, k_b18_0_11, rfl, Nq11, Kq11, gz11_b19_0, gz11_b19_1, o11_0, o11_1, o11_2, o11_3⟩ := hQ11
  have N11 := Fr.app N0 Nq11
  have K11 : Keep h0 T11.heap [] := K0.trans Kq11 all0
  have Z11 : n0 ≤ T11.heap.size := Nat.le_trans Z0 Kq11.1
  have x12 := own_staK I0 Kq11 all0
  have x13 := own_staK I1 Kq11 all0
  have gg11_b19_0 : n0 ≤ b19_0 := Nat.le_trans Z0 gz11_b19_0
  have sz11_b19_0 : h0.size ≤ b19_0 := Nat.le_trans K0.1 gz11_b19_0
  have gg11_b19_1 : n0 ≤ b19_1 := Nat.le_trans Z0 gz11_b19_1
  have sz11_b19_1 : h0.size ≤ b19_1 := Nat.le_trans K0.1 gz11_b19_1
  have pre14 : ∀ t, Steps p.tables e below (T11.setTop (mkF m 22 #[.val (.long q0), .second, .val (.int p1), .val (.int p2), .val (.long (q0 &&& (9223372036854775807 : Int64))), .second, .unset, .unset, .unset, .unset, .unset, .unset, .unset, .unset] [(.ref b19_0)])) t → Steps p.tables e below (s₁.setTop (entryFrame m #[(.long q0), (.int p1), (.int p2)] maxLocals)) t := fun t k => pre10 t (st11 _ k)
  have kS11 : _ ≤ T11.heap.size := Nat.le_trans kS0 Kq11.1
  have pre15 : ∀ t, Steps p.tables e below (T11.setTop (mkF m 33 #[.val (.long q0), .second, .val (.int p1), .val (.int p2), .val (.long (q0 &&& (9223372036854775807 : Int64))), .second, .val (.ref b19_0), .unset, .unset, .unset, .unset, .unset, .unset, .unset] [(.int (((p1.toUInt32 >>> ((1 : Int32) &&& 31).toUInt32).toInt32) &&& (3 : Int32)))])) t → Steps p.tables e below (s₁.setTop (entryFrame m #[(.long q0), (.int p1), (.int p2)] maxLocals)) t := fun t k => pre14 t (by
    show Steps p.tables e below (T11.setTop (mkF m 22 #[.val (.long q0), .second, .val (.int p1), .val (.int p2), .val (.long (q0 &&& (9223372036854775807 : Int64))), .second, .unset, .unset, .unset, .unset, .unset, .unset, .unset, .unset] [(.ref b19_0)])) _
    refine XS.goto X11.here hx rfl (pc0 := 22) (pc' := 26) rfl (hb hby at_22) (by decide) (by decide) ?_
    show Steps p.tables e below (T11.setTop (mkF m 26 #[.val (.long q0), .second, .val (.int p1), .val (.int p2), .val (.long (q0 &&& (9223372036854775807 : Int64))), .second, .unset, .unset, .unset, .unset, .unset, .unset, .unset, .unset] [(.ref b19_0)])) _
    refine XS.astore X11.here hx rfl (hb hby at_26) rfl rfl (l' := #[.val (.long q0), .second, .val (.int p1), .val (.int p2), .val (.long (q0 &&& (9223372036854775807 : Int64))), .second, .val (.ref b19_0), .unset, .unset, .unset, .unset, .unset, .unset, .unset]) rfl ?_
    show Steps p.tables e below (T11.setTop (mkF m 28 #[.val (.long q0), .second, .val (.int p1), .val (.int p2), .val (.long (q0 &&& (9223372036854775807 : Int64))), .second, .val (.ref b19_0), .unset, .unset, .unset, .unset, .unset, .unset, .unset] [])) _
    refine XS.iloadN X11.here hx rfl (hb hby at_28) rfl ?_
    show Steps p.tables e below (T11.setTop (mkF m 29 #[.val (.long q0), .second, .val (.int p1), .val (.int p2), .val (.long (q0 &&& (9223372036854775807 : Int64))), .second, .val (.ref b19_0), .unset, .unset, .unset, .unset, .unset, .unset, .unset] [(.int p1)])) _
    refine XS.iconst X11.here hx rfl (hb hby at_29) ?_
    show Steps p.tables e below (T11.setTop (mkF m 30 #[.val (.long q0), .second, .val (.int p1), .val (.int p2), .val (.long (q0 &&& (9223372036854775807 : Int64))), .second, .val (.ref b19_0), .unset, .unset, .unset, .unset, .unset, .unset, .unset] [(.int (1 : Int32)), (.int p1)])) _
    refine XS.iushr X11.here hx rfl (hb hby at_30) rfl ?_
    show Steps p.tables e below (T11.setTop (mkF m 31 #[.val (.long q0), .second, .val (.int p1), .val (.int p2), .val (.long (q0 &&& (9223372036854775807 : Int64))), .second, .val (.ref b19_0), .unset, .unset, .unset, .unset, .unset, .unset, .unset] [(.int ((p1.toUInt32 >>> ((1 : Int32) &&& 31).toUInt32).toInt32))])) _
    refine XS.iconst X11.here hx rfl (hb hby at_31) ?_
    show Steps p.tables e below (T11.setTop (mkF m 32 #[.val (.long q0), .second, .val (.int p1), .val (.int p2), .val (.long (q0 &&& (9223372036854775807 : Int64))), .second, .val (.ref b19_0), .unset, .unset, .unset, .unset, .unset, .unset, .unset] [(.int (3 : Int32)), (.int ((p1.toUInt32 >>> ((1 : Int32) &&& 31).toUInt32).toInt32))])) _
    refine XS.iand X11.here hx rfl (hb hby at_32) rfl ?_
    exact k)
  obtain ⟨T16, h16, k16, X16, e16, E16, A16, st16⟩ := newP X11 hx hZ (hw _ (List.mem_of_getElem? (i := 1) rfl)) rfl (g := (mkF m 33 #[.val (.long q0), .second, .val (.int p1), .val (.int p2), .val (.long (q0 &&& (9223372036854775807 : Int64))), .second, .val (.ref b19_0), .unset, .unset, .unset, .unset, .unset, .unset, .unset] [(.int (((p1.toUInt32 >>> ((1 : Int32) &&& 31).toUInt32).toInt32) &&& (3 : Int32)))])) rfl (hb hby at_33) rfl (own_len p1).1 (cap := 3) (own_len p1).2.1 (by decide) (by decide) (by decide)
  obtain ⟨b33, g16⟩ : ∃ z, z = T11.heap.size := ⟨_, rfl⟩
  rw [← g16] at A16 st16
  have gg16 : n0 ≤ b33 := Nat.le_trans Z11 (Nat.le_of_eq g16.symm)
  have sz16 : h0.size ≤ b33 := Nat.le_trans K11.1 (Nat.le_of_eq g16.symm)
  have K16 : Keep h0 h16 [] := K11.ext E16
  have Z16 : n0 ≤ h16.size := Nat.le_trans Z11 E16.1
  have V16 : Arh Z h16 b33 k16 .byte (((p1.toUInt32 >>> ((1 : Int32) &&& 31).toUInt32).toInt32) &&& (3 : Int32)) [] [] (.int (0 : Int32)) := (Arv.new A16 (own_len p1).1).arh
  have ne16_b19_0 : b19_0 ≠ b33 := Nat.ne_of_lt (Nat.lt_of_lt_of_le o11_0.lt (Nat.le_of_eq g16.symm))
  have ne16_b19_1 : b19_1 ≠ b33 := Nat.ne_of_lt (Nat.lt_of_lt_of_le o11_3.lt (Nat.le_of_eq g16.symm))
  have x17 := x12.ext E16
  have x18 := x13.ext E16
  have x19 := o11_0.ext E16
  have x20 := o11_1.ext E16
  have x21 := o11_2.ext E16
  have x22 := o11_3.ext E16
  have pre23 : ∀ t, Steps p.tables e below (T16.setTop (mkF m 35 #[.val (.long q0), .second, .val (.int p1), .val (.int p2), .val (.long (q0 &&& (9223372036854775807 : Int64))), .second, .val (.ref b19_0), .unset, .unset, .unset, .unset, .unset, .unset, .unset] [(.ref b33)])) t → Steps p.tables e below (s₁.setTop (entryFrame m #[(.long q0), (.int p1), (.int p2)] maxLocals)) t := fun t k => pre15 t (st16 _ k)
  have kS16 : _ ≤ h16.size := Nat.le_trans kS11 E16.1
  have pre24 : ∀ t, Steps p.tables e below (T16.setTop (mkF m 37 #[.val (.long q0), .second, .val (.int p1), .val (.int p2), .val (.long (q0 &&& (9223372036854775807 : Int64))), .second, .val (.ref b19_0), .val (.ref b33), .unset, .unset, .unset, .unset, .unset, .unset] [])) t → Steps p.tables e below (s₁.setTop (entryFrame m #[(.long q0), (.int p1), (.int p2)] maxLocals)) t := fun t k => pre23 t (by
    show Steps p.tables e below (T16.setTop (mkF m 35 #[.val (.long q0), .second, .val (.int p1), .val (.int p2), .val (.long (q0 &&& (9223372036854775807 : Int64))), .second, .val (.ref b19_0), .unset, .unset, .unset, .unset, .unset, .unset, .unset] [(.ref b33)])) _
    refine XS.astore X16.here hx rfl (hb hby at_35) rfl rfl (l' := #[.val (.long q0), .second, .val (.int p1), .val (.int p2), .val (.long (q0 &&& (9223372036854775807 : Int64))), .second, .val (.ref b19_0), .val (.ref b33), .unset, .unset, .unset, .unset, .unset, .unset]) rfl ?_
    exact k)
  obtain ⟨T25, h25, X25, e25, E25, A25, D25, -, st25⟩ := newO X16 hx hZ hown (hw _ (List.mem_of_getElem? (i := 2) rfl)) (hw _ (List.mem_of_getElem? (i := 3) rfl)) (hw _ (List.mem_of_getElem? (i := 4) rfl)) e16 (g := (mkF m 37 #[.val (.long q0), .second, .val (.int p1), .val (.int p2), .val (.long (q0 &&& (9223372036854775807 : Int64))), .second, .val (.ref b19_0), .val (.ref b33), .unset, .unset, .unset, .unset, .unset, .unset] [])) rfl (hb hby at_37) (by decide) (by decide)
  obtain ⟨b37, g25⟩ : ∃ z, z = h16.size := ⟨_, rfl⟩
  rw [← g25] at A25 D25 st25
  have gg25 : n0 ≤ b37 := Nat.le_trans Z16 (Nat.le_of_eq g25.symm)
  have sz25 : h0.size ≤ b37 := Nat.le_trans K16.1 (Nat.le_of_eq g25.symm)
  have K25 : Keep h0 h25 [] := K16.ext E25
  have Z25 : n0 ≤ h25.size := Nat.le_trans Z16 E25.1
  have ne25_b19_0 : b19_0 ≠ b37 := Nat.ne_of_lt (Nat.lt_of_lt_of_le x19.lt (Nat.le_of_eq g25.symm))
  have ne25_b19_1 : b19_1 ≠ b37 := Nat.ne_of_lt (Nat.lt_of_lt_of_le x22.lt (Nat.le_of_eq g25.symm))
  have ne25_b33 : b33 ≠ b37 := Nat.ne_of_lt (Nat.lt_of_lt_of_le V16.lt (Nat.le_of_eq g25.symm))
  have x26 := x17.ext E25
  have x27 := x18.ext E25
  have x28 := x19.ext E25
  have x29 := x20.ext E25
  have x30 := x21.ext E25
  have x31 := x22.ext E25
  have x32 := V16.ext E25
  have Fn25_sequenceId : Fld Z h25 b37 "com/example/oncemark/oncemark/OutgoingMessage" "sequenceId" "J" (.long (0 : Int64)) := D25 (Or.inr (hw _ (List.mem_of_getElem? (i := 28) rfl))) (ty := .long) (by decide)
  have Fn25_key : Fld Z h25 b37 "com/example/oncemark/oncemark/OutgoingMessage" "key" "Ljava/lang/String;" .null := D25 (Or.inr (hw _ (List.mem_of_getElem? (i := 30) rfl))) (ty := (.object "java/lang/String")) (by decide)
  have Fn25_payload : Fld Z h25 b37 "com/example/oncemark/oncemark/OutgoingMessage" "payload" "[B" .null := D25 (Or.inr (hw _ (List.mem_of_getElem? (i := 32) rfl))) (ty := (.array .byte)) (by decide)
  have pre33 : ∀ t, Steps p.tables e below (T25.setTop (mkF m 40 #[.val (.long q0), .second, .val (.int p1), .val (.int p2), .val (.long (q0 &&& (9223372036854775807 : Int64))), .second, .val (.ref b19_0), .val (.ref b33), .unset, .unset, .unset, .unset, .unset, .unset] [(.ref b37)])) t → Steps p.tables e below (s₁.setTop (entryFrame m #[(.long q0), (.int p1), (.int p2)] maxLocals)) t := fun t k => pre24 t (st25 _ k)
  have kS25 : _ ≤ h25.size := Nat.le_trans kS16 E25.1
  have pre34 : ∀ t, Steps p.tables e below (T25.setTop (mkF m 45 #[.val (.long q0), .second, .val (.int p1), .val (.int p2), .val (.long (q0 &&& (9223372036854775807 : Int64))), .second, .val (.ref b19_0), .val (.ref b33), .unset, .unset, .unset, .unset, .unset, .unset] [(.ref b33), (.ref b19_0), (.ref b37), (.ref b37)])) t → Steps p.tables e below (s₁.setTop (entryFrame m #[(.long q0), (.int p1), (.int p2)] maxLocals)) t := fun t k => pre33 t (by
    show Steps p.tables e below (T25.setTop (mkF m 40 #[.val (.long q0), .second, .val (.int p1), .val (.int p2), .val (.long (q0 &&& (9223372036854775807 : Int64))), .second, .val (.ref b19_0), .val (.ref b33), .unset, .unset, .unset, .unset, .unset, .unset] [(.ref b37)])) _
    refine XS.dup X25.here hx rfl (hb hby at_40) rfl rfl ?_
    show Steps p.tables e below (T25.setTop (mkF m 41 #[.val (.long q0), .second, .val (.int p1), .val (.int p2), .val (.long (q0 &&& (9223372036854775807 : Int64))), .second, .val (.ref b19_0), .val (.ref b33), .unset, .unset, .unset, .unset, .unset, .unset] [(.ref b37), (.ref b37)])) _
    refine XS.aload X25.here hx rfl (hb hby at_41) rfl rfl ?_
    show Steps p.tables e below (T25.setTop (mkF m 43 #[.val (.long q0), .second, .val (.int p1), .val (.int p2), .val (.long (q0 &&& (9223372036854775807 : Int64))), .second, .val (.ref b19_0), .val (.ref b33), .unset, .unset, .unset, .unset, .unset, .unset] [(.ref b19_0), (.ref b37), (.ref b37)])) _
    refine XS.aload X25.here hx rfl (hb hby at_43) rfl rfl ?_
    exact k)
  obtain ⟨_, _, ⟨T35, L35, k35, n35⟩, -, X35, hSn35, hgn35, ⟨Lc35, hQ35, l35, y35, z35⟩, st35⟩ := X25.specialBackS hx (y := (⟨"com/example/oncemark/oncemark/OutgoingMessage", "<init>", "(Ljava/lang/String;[B)V"⟩ : MethodName)) rfl hown (mvT hZ (hw _ (List.mem_of_getElem? (i := 5) rfl))) (mvT hZ (hw _ (List.mem_of_getElem? (i := 6) rfl))) (mvT hZ (hw _ (List.mem_of_getElem? (i := 7) rfl))) (by decide) (backOfS (W := 1) (rm1_k l Z a0 hw [] b37 b19_0 b33 _ (((p1.toUInt32 >>> ((1 : Int32) &&& 31).toUInt32).toInt32) &&& (3 : Int32)) wcs wsf b19_1 _ ((((p2 &&& (255 : Int32)).toUInt32.toUInt16.toUInt32.toInt32).toInt8.toInt32).toInt8.toInt32) h25 n0 Z25 A25 Fn25_sequenceId Fn25_key Fn25_payload x32 x26 x27 x28 x29 x30 x31 gg25 ne25_b33 ne25_b19_0 ne25_b19_1 (own_len p1).2.2 hcs hsf) hZ (hw _ (List.mem_of_getElem? (i := 7) rfl)) (hw _ (List.mem_of_getElem? (i := 4) rfl)) (by decide) (by decide)) (g := (mkF m 45 #[.val (.long q0), .second, .val (.int p1), .val (.int p2), .val (.long (q0 &&& (9223372036854775807 : Int64))), .second, .val (.ref b19_0), .val (.ref b33), .unset, .unset, .unset, .unset, .unset, .unset] [(.ref b33), (.ref b19_0), (.ref b37), (.ref b37)])) rfl (by rw [hml]; rfl) (Steps.refl _) (a := b37) (argsL := [(.ref b19_0), (.ref b33)]) (rest := [(.ref b37)]) (lenOf pd__Ljava_lang_String__B_V rfl) rfl (by show 2 * 0 + _ ≤ _; exact Nat.le_of_eq rfl) (hb hby at_45) (fun _ _ => ⟨rfl, e25, (by decide : 4 + 2 ≤ _), (by decide : 11 + 32 ≤ _)⟩)
  dsimp only [Pt.U, Pt.locs, Pt.cells, Pt.slots] at X35 l35 y35 z35 st35 hQ35 hSn35 hgn35
  subst l35 y35 z35
  obtain ⟨X35, hS35, hZ, hown⟩ := rebS hS0 (by rw [e25]; exact kS25) X35 hSn35 hgn35 hZ hown
  obtain ⟨rfl, Nq35, Kq35, o35_0, o35_1, o35_2, o35_3⟩ := hQ35
  have N35 := Fr.app N11 Nq35
  have K35 : Keep h0 T35.heap [] := K25.trans Kq35 (allS (Or.inr sz25) all0)
  have Z35 : n0 ≤ T35.heap.size := Nat.le_trans Z25 Kq35.1
  have x36 := own_staK x26 Kq35 (allS (own_plE A25) all0)
  have x37 := own_staK x27 Kq35 (allS (own_plE A25) all0)
  have x38 := x28.keep Kq35
  have x39 := x29.keep Kq35 (ninS ne25_b19_0 nin0)
  have x40 := x30.keep Kq35 (ninS ne25_b19_0 nin0)
  have x41 := x31.keep Kq35 (ninS ne25_b19_1 nin0)
  have x42 := x32.keep Kq35 (ninS ne25_b33 nin0)
  have x43 := A25.keep Kq35
  have pre44 : ∀ t, Steps p.tables e below (T35.setTop (mkF m 48 #[.val (.long q0), .second, .val (.int p1), .val (.int p2), .val (.long (q0 &&& (9223372036854775807 : Int64))), .second, .val (.ref b19_0), .val (.ref b33), .unset, .unset, .unset, .unset, .unset, .unset] [(.ref b37)])) t → Steps p.tables e below (s₁.setTop (entryFrame m #[(.long q0), (.int p1), (.int p2)] maxLocals)) t := fun t k => pre34 t (st35.trans k)
  have pre45 : ∀ t, Steps p.tables e below (T35.setTop (mkF m 50 #[.val (.long q0), .second, .val (.int p1), .val (.int p2), .val (.long (q0 &&& (9223372036854775807 : Int64))), .second, .val (.ref b19_0), .val (.ref b33), .val (.ref b37), .unset, .unset, .unset, .unset, .unset] [])) t → Steps p.tables e below (s₁.setTop (entryFrame m #[(.long q0), (.int p1), (.int p2)] maxLocals)) t := fun t k => pre44 t (by
    show Steps p.tables e below (T35.setTop (mkF m 48 #[.val (.long q0), .second, .val (.int p1), .val (.int p2), .val (.long (q0 &&& (9223372036854775807 : Int64))), .second, .val (.ref b19_0), .val (.ref b33), .unset, .unset, .unset, .unset, .unset, .unset] [(.ref b37)])) _
    refine XS.astore X35.here hx rfl (hb hby at_48) rfl rfl (l' := #[.val (.long q0), .second, .val (.int p1), .val (.int p2), .val (.long (q0 &&& (9223372036854775807 : Int64))), .second, .val (.ref b19_0), .val (.ref b33), .val (.ref b37), .unset, .unset, .unset, .unset, .unset]) rfl ?_
    exact k)
  obtain ⟨T46, h46, X46, e46, E46, A46, D46, -, st46⟩ := newO X35 hx hZ hown (hw _ (List.mem_of_getElem? (i := 2) rfl)) (hw _ (List.mem_of_getElem? (i := 3) rfl)) (hw _ (List.mem_of_getElem? (i := 4) rfl)) rfl (g := (mkF m 50 #[.val (.long q0), .second, .val (.int p1), .val (.int p2), .val (.long (q0 &&& (9223372036854775807 : Int64))), .second, .val (.ref b19_0), .val (.ref b33), .val (.ref b37), .unset, .unset, .unset, .unset, .unset] [])) rfl (hb hby at_50) (by decide) (by decide)
  obtain ⟨b50, g46⟩ : ∃ z, z = T35.heap.size := ⟨_, rfl⟩
  rw [← g46] at A46 D46 st46
  have gg46 : n0 ≤ b50 := Nat.le_trans Z35 (Nat.le_of_eq g46.symm)
  have sz46 : h0.size ≤ b50 := Nat.le_trans K35.1 (Nat.le_of_eq g46.symm)
  have K46 : Keep h0 h46 [] := K35.ext E46
  have Z46 : n0 ≤ h46.size := Nat.le_trans Z35 E46.1
  have ne46_b19_0 : b19_0 ≠ b50 := Nat.ne_of_lt (Nat.lt_of_lt_of_le x38.lt (Nat.le_of_eq g46.symm))
  have ne46_b19_1 : b19_1 ≠ b50 := Nat.ne_of_lt (Nat.lt_of_lt_of_le x41.lt (Nat.le_of_eq g46.symm))
  have ne46_b33 : b33 ≠ b50 := Nat.ne_of_lt (Nat.lt_of_lt_of_le x42.lt (Nat.le_of_eq g46.symm))
  have ne46_b37 : b37 ≠ b50 := Nat.ne_of_lt (Nat.lt_of_lt_of_le o35_0.lt (Nat.le_of_eq g46.symm))
  have x47 := x36.ext E46
  have x48 := x37.ext E46
  have x49 := x38.ext E46
  have x50 := x39.ext E46
  have x51 := x40.ext E46
  have x52 := x41.ext E46
  have x53 := x42.ext E46
  have x54 := o35_0.ext E46
  have x55 := o35_1.ext E46
  have x56 := o35_2.ext E46
  have x57 := o35_3.ext E46
  have Fn46_sequenceId : Fld Z h46 b50 "com/example/oncemark/oncemark/OutgoingMessage" "sequenceId" "J" (.long (0 : Int64)) := D46 (Or.inr (hw _ (List.mem_of_getElem? (i := 28) rfl))) (ty := .long) (by decide)
  have Fn46_key : Fld Z h46 b50 "com/example/oncemark/oncemark/OutgoingMessage" "key" "Ljava/lang/String;" .null := D46 (Or.inr (hw _ (List.mem_of_getElem? (i := 30) rfl))) (ty := (.object "java/lang/String")) (by decide)
  have Fn46_payload : Fld Z h46 b50 "com/example/oncemark/oncemark/OutgoingMessage" "payload" "[B" .null := D46 (Or.inr (hw _ (List.mem_of_getElem? (i := 32) rfl))) (ty := (.array .byte)) (by decide)
  have pre58 : ∀ t, Steps p.tables e below (T46.setTop (mkF m 53 #[.val (.long q0), .second, .val (.int p1), .val (.int p2), .val (.long (q0 &&& (9223372036854775807 : Int64))), .second, .val (.ref b19_0), .val (.ref b33), .val (.ref b37), .unset, .unset, .unset, .unset, .unset] [(.ref b50)])) t → Steps p.tables e below (s₁.setTop (entryFrame m #[(.long q0), (.int p1), (.int p2)] maxLocals)) t := fun t k => pre45 t (st46 _ k)
  have kS46 : _ ≤ h46.size := Nat.le_trans (Nat.le_refl _) E46.1
  have pre59 : ∀ t, Steps p.tables e below (T46.setTop (mkF m 60 #[.val (.long q0), .second, .val (.int p1), .val (.int p2), .val (.long (q0 &&& (9223372036854775807 : Int64))), .second, .val (.ref b19_0), .val (.ref b33), .val (.ref b37), .unset, .unset, .unset, .unset, .unset] [(.ref b33), (.ref b19_0), (.long (q0 &&& (9223372036854775807 : Int64))), (.ref b50), (.ref b50)])) t → Steps p.tables e below (s₁.setTop (entryFrame m #[(.long q0), (.int p1), (.int p2)] maxLocals)) t := fun t k => pre58 t (by
    show Steps p.tables e below (T46.setTop (mkF m 53 #[.val (.long q0), .second, .val (.int p1), .val (.int p2), .val (.long (q0 &&& (9223372036854775807 : Int64))), .second, .val (.ref b19_0), .val (.ref b33), .val (.ref b37), .unset, .unset, .unset, .unset, .unset] [(.ref b50)])) _
    refine XS.dup X46.here hx rfl (hb hby at_53) rfl rfl ?_
    show Steps p.tables e below (T46.setTop (mkF m 54 #[.val (.long q0), .second, .val (.int p1), .val (.int p2), .val (.long (q0 &&& (9223372036854775807 : Int64))), .second, .val (.ref b19_0), .val (.ref b33), .val (.ref b37), .unset, .unset, .unset, .unset, .unset] [(.ref b50), (.ref b50)])) _
    refine XS.lload X46.here hx rfl (hb hby at_54) rfl ?_
    show Steps p.tables e below (T46.setTop (mkF m 56 #[.val (.long q0), .second, .val (.int p1), .val (.int p2), .val (.long (q0 &&& (9223372036854775807 : Int64))), .second, .val (.ref b19_0), .val (.ref b33), .val (.ref b37), .unset, .unset, .unset, .unset, .unset] [(.long (q0 &&& (9223372036854775807 : Int64))), (.ref b50), (.ref b50)])) _
    refine XS.aload X46.here hx rfl (hb hby at_56) rfl rfl ?_
    show Steps p.tables e below (T46.setTop (mkF m 58 #[.val (.long q0), .second, .val (.int p1), .val (.int p2), .val (.long (q0 &&& (9223372036854775807 : Int64))), .second, .val (.ref b19_0), .val (.ref b33), .val (.ref b37), .unset, .unset, .unset, .unset, .unset] [(.ref b19_0), (.long (q0 &&& (9223372036854775807 : Int64))), (.ref b50), (.ref b50)])) _
    refine XS.aload X46.here hx rfl (hb hby at_58) rfl rfl ?_
    exact k)
  obtain ⟨_, _, ⟨T60, L60, k60, n60⟩, -, X60, hSn60, hgn60, ⟨Lc60, hQ60, l60, y60, z60⟩, st60⟩ := X46.specialBackS hx (y := (⟨"com/example/oncemark/oncemark/OutgoingMessage", "<init>", "(JLjava/lang/String;[B)V"⟩ : MethodName)) rfl hown (mvT hZ (hw _ (List.mem_of_getElem? (i := 33) rfl))) (mvT hZ (hw _ (List.mem_of_getElem? (i := 34) rfl))) (mvT hZ (hw _ (List.mem_of_getElem? (i := 35) rfl))) (by decide) (backOfS (W := 1) (rm5_k l Z a0 hw [] b50 (q0 &&& (9223372036854775807 : Int64)) b19_0 b33 _ (((p1.toUInt32 >>> ((1 : Int32) &&& 31).toUInt32).toInt32) &&& (3 : Int32)) wcs wsf b19_1 _ ((((p2 &&& (255 : Int32)).toUInt32.toUInt16.toUInt32.toInt32).toInt8.toInt32).toInt8.toInt32) h46 n0 Z46 A46 Fn46_sequenceId Fn46_key Fn46_payload x53 x47 x48 x49 x50 x51 x52 gg46 ne46_b33 ne46_b19_0 ne46_b19_1 (own_q q0) (own_len p1).2.2 hcs hsf) hZ (hw _ (List.mem_of_getElem? (i := 35) rfl)) (hw _ (List.mem_of_getElem? (i := 4) rfl)) (by decide) (by decide)) (g := (mkF m 60 #[.val (.long q0), .second, .val (.int p1), .val (.int p2), .val (.long (q0 &&& (9223372036854775807 : Int64))), .second, .val (.ref b19_0), .val (.ref b33), .val (.ref b37), .unset, .unset, .unset, .unset, .unset] [(.ref b33), (.ref b19_0), (.long (q0 &&& (9223372036854775807 : Int64))), (.ref b50), (.ref b50)])) rfl (by rw [hml]; rfl) (Steps.refl _) (a := b50) (argsL := [(.long (q0 &&& (9223372036854775807 : Int64))), (.ref b19_0), (.ref b33)]) (rest := [(.ref b50)]) (lenOf pd__JLjava_lang_String__B_V rfl) rfl (by show 2 * 0 + _ ≤ _; exact Nat.le_of_eq rfl) (hb hby at_60) (fun _ _ => ⟨rfl, e46, (by decide : 7 + 2 ≤ _), (by decide : 46 + 32 ≤ _)⟩)
  dsimp only [Pt.U, Pt.locs, Pt.cells, Pt.slots] at X60 l60 y60 z60 st60 hQ60 hSn60 hgn60
  subst l60 y60 z60
  obtain ⟨X60, hS60, hZ, hown⟩ := rebS hS35 (by rw [e46]; exact kS46) X60 hSn60 hgn60 hZ hown
  obtain ⟨rfl, Nq60, Kq60, o60_0, o60_1, o60_2, o60_3⟩ := hQ60
  have N60 := Fr.app N35 Nq60
  have K60 : Keep h0 T60.heap [] := K46.trans Kq60 (allS (Or.inr sz46) all0)
  have Z60 : n0 ≤ T60.heap.size := Nat.le_trans Z46 Kq60.1
  have x61 := own_staK x47 Kq60 (allS (own_plE A46) all0)
  have x62 := own_staK x48 Kq60 (allS (own_plE A46) all0)
  have x63 := x49.keep Kq60
  have x64 := x50.keep Kq60 (ninS ne46_b19_0 nin0)
  have x65 := x51.keep Kq60 (ninS ne46_b19_0 nin0)
  have x66 := x52.keep Kq60 (ninS ne46_b19_1 nin0)
  have x67 := x53.keep Kq60 (ninS ne46_b33 nin0)
  have x68 := x54.keep Kq60
  have x69 := x55.keep Kq60 (ninS ne46_b37 nin0)
  have x70 := x56.keep Kq60 (ninS ne46_b37 nin0)
  have x71 := x57.keep Kq60 (ninS ne46_b37 nin0)
  have x72 := A46.keep Kq60
  have pre73 : ∀ t, Steps p.tables e below (T60.setTop (mkF m 63 #[.val (.long q0), .second, .val (.int p1), .val (.int p2), .val (.long (q0 &&& (9223372036854775807 : Int64))), .second, .val (.ref b19_0), .val (.ref b33), .val (.ref b37), .unset, .unset, .unset, .unset, .unset] [(.ref b50)])) t → Steps p.tables e below (s₁.setTop (entryFrame m #[(.long q0), (.int p1), (.int p2)] maxLocals)) t := fun t k => pre59 t (st60.trans k)
  have pre74 : ∀ t, Steps p.tables e below (T60.setTop (mkF m 69 #[.val (.long q0), .second, .val (.int p1), .val (.int p2), .val (.long (q0 &&& (9223372036854775807 : Int64))), .second, .val (.ref b19_0), .val (.ref b33), .val (.ref b37), .val (.ref b50), .unset, .unset, .unset, .unset] [(.long (q0 &&& (9223372036854775807 : Int64))), (.ref b37)])) t → Steps p.tables e below (s₁.setTop (entryFrame m #[(.long q0), (.int p1), (.int p2)] maxLocals)) t := fun t k => pre73 t (by
    show Steps p.tables e below (T60.setTop (mkF m 63 #[.val (.long q0), .second, .val (.int p1), .val (.int p2), .val (.long (q0 &&& (9223372036854775807 : Int64))), .second, .val (.ref b19_0), .val (.ref b33), .val (.ref b37), .unset, .unset, .unset, .unset, .unset] [(.ref b50)])) _
    refine XS.astore X60.here hx rfl (hb hby at_63) rfl rfl (l' := #[.val (.long q0), .second, .val (.int p1), .val (.int p2), .val (.long (q0 &&& (9223372036854775807 : Int64))), .second, .val (.ref b19_0), .val (.ref b33), .val (.ref b37), .val (.ref b50), .unset, .unset, .unset, .unset]) rfl ?_
    show Steps p.tables e below (T60.setTop (mkF m 65 #[.val (.long q0), .second, .val (.int p1), .val (.int p2), .val (.long (q0 &&& (9223372036854775807 : Int64))), .second, .val (.ref b19_0), .val (.ref b33), .val (.ref b37), .val (.ref b50), .unset, .unset, .unset, .unset] [])) _
    refine XS.aload X60.here hx rfl (hb hby at_65) rfl rfl ?_
    show Steps p.tables e below (T60.setTop (mkF m 67 #[.val (.long q0), .second, .val (.int p1), .val (.int p2), .val (.long (q0 &&& (9223372036854775807 : Int64))), .second, .val (.ref b19_0), .val (.ref b33), .val (.ref b37), .val (.ref b50), .unset, .unset, .unset, .unset] [(.ref b37)])) _
    refine XS.lload X60.here hx rfl (hb hby at_67) rfl ?_
    exact k)
  obtain ⟨cq75, kq75, q75a, q75b, q75c⟩ := isOf hZ rfl x68
  obtain ⟨_, _, ⟨T75, L75, k75, n75⟩, -, X75, hSn75, hgn75, ⟨Lc75, hQ75, l75, y75, z75⟩, st75⟩ := X60.virtualBackS hx (y := (⟨"com/example/oncemark/oncemark/OutgoingMessage", "numbered", "(J)Lcom/example/oncemark/oncemark/OutgoingMessage;"⟩ : MethodName)) (z := (⟨"com/example/oncemark/oncemark/OutgoingMessage", "numbered", "(J)Lcom/example/oncemark/oncemark/OutgoingMessage;"⟩ : MethodName)) hown (mvT hZ (hw _ (List.mem_of_getElem? (i := 39) rfl))) (mvT hZ (hw _ (List.mem_of_getElem? (i := 40) rfl))) (notFace_of_selects (args := #[]) (mvT hZ (hw _ (List.mem_of_getElem? (i := 42) rfl)))) (mvT hZ (hw _ (List.mem_of_getElem? (i := 42) rfl))) (mvT hZ (hw _ (List.mem_of_getElem? (i := 41) rfl))) (by decide) (backOfS (W := 0) (rm7_k l Z a0 hw [] b37 (q0 &&& (9223372036854775807 : Int64)) b19_0 b33 _ (((p1.toUInt32 >>> ((1 : Int32) &&& 31).toUInt32).toInt32) &&& (3 : Int32)) wcs wsf b19_1 _ ((((p2 &&& (255 : Int32)).toUInt32.toUInt16.toUInt32.toInt32).toInt8.toInt32).toInt8.toInt32) T60.heap n0 Z60 x70 x71 x67 x61 x62 x63 x64 x65 x66 (own_q q0) (own_len p1).2.2 hcs hsf) hZ (hw _ (List.mem_of_getElem? (i := 43) rfl)) (hw _ (List.mem_of_getElem? (i := 4) rfl)) (by decide) (by decide)) q75a q75c (g := (mkF m 69 #[.val (.long q0), .second, .val (.int p1), .val (.int p2), .val (.long (q0 &&& (9223372036854775807 : Int64))), .second, .val (.ref b19_0), .val (.ref b33), .val (.ref b37), .val (.ref b50), .unset, .unset, .unset, .unset] [(.long (q0 &&& (9223372036854775807 : Int64))), (.ref b37)])) rfl (by rw [hml]; rfl) (Steps.refl _) (argsL := [(.long (q0 &&& (9223372036854775807 : Int64)))]) (rest := []) (lenOf pd__J_Lcom_example_oncemark_oncemark_OutgoingMessage_ rfl) rfl (by show 2 * 0 + _ ≤ _; exact Nat.le_of_eq rfl) (hb hby at_69) (fun _ _ => ⟨rfl, rfl, (by decide : 9 + 3 ≤ _), (by decide : 78 + 35 ≤ _)⟩)
  dsimp only [Pt.U, Pt.locs, Pt.cells, Pt.slots] at X75 l75 y75 z75 st75 hQ75 hSn75 hgn75
  subst l75 y75 z75
  obtain ⟨X75, hS75, hZ, hown⟩ := rebS hS60 (Nat.le_refl _) X75 hSn75 hgn75 hZ hown
  obtain ⟨b69_0, rfl, Nq75, Kq75, gz75_b69_0, o75_0, o75_1⟩ := hQ75
  have N75 := Fr.app N60 Nq75
  have K75 : Keep h0 T75.heap [] := K60.trans Kq75 all0
  have Z75 : n0 ≤ T75.heap.size := Nat.le_trans Z60 Kq75.1
  have x76 := own_staK x61 Kq75 all0
  have x77 := own_staK x62 Kq75 all0
  have x78 := x63.keep Kq75
  have x79 := x64.keep Kq75 nin0
  have x80 := x65.keep Kq75 nin0
  have x81 := x66.keep Kq75 nin0
  have x82 := x67.keep Kq75 nin0
  have x83 := x68.keep Kq75
  have x84 := x69.keep Kq75 nin0
  have x85 := x70.keep Kq75 nin0
  have x86 := x71.keep Kq75 nin0
  have x87 := o60_0.keep Kq75
  have x88 := o60_1.keep Kq75 nin0
  have x89 := o60_2.keep Kq75 nin0
  have x90 := o60_3.keep Kq75 nin0
  have gg75_b69_0 : n0 ≤ b69_0 := Nat.le_trans Z60 gz75_b69_0
  have sz75_b69_0 : h0.size ≤ b69_0 := Nat.le_trans K60.1 gz75_b69_0
  have ne75_b19_0_b69_0 : b19_0 ≠ b69_0 := Nat.ne_of_lt (Nat.lt_of_lt_of_le x63.lt gz75_b69_0)
  have ne75_b19_1_b69_0 : b19_1 ≠ b69_0 := Nat.ne_of_lt (Nat.lt_of_lt_of_le x66.lt gz75_b69_0)
  have ne75_b33_b69_0 : b33 ≠ b69_0 := Nat.ne_of_lt (Nat.lt_of_lt_of_le x67.lt gz75_b69_0)
  have ne75_b37_b69_0 : b37 ≠ b69_0 := Nat.ne_of_lt (Nat.lt_of_lt_of_le x68.lt gz75_b69_0)
  have ne75_b50_b69_0 : b50 ≠ b69_0 := Nat.ne_of_lt (Nat.lt_of_lt_of_le o60_0.lt gz75_b69_0)
  have pre91 : ∀ t, Steps p.tables e below (T75.setTop (mkF m 72 #[.val (.long q0), .second, .val (.int p1), .val (.int p2), .val (.long (q0 &&& (9223372036854775807 : Int64))), .second, .val (.ref b19_0), .val (.ref b33), .val (.ref b37), .val (.ref b50), .unset, .unset, .unset, .unset] [(.ref b69_0)])) t → Steps p.tables e below (s₁.setTop (entryFrame m #[(.long q0), (.int p1), (.int p2)] maxLocals)) t := fun t k => pre74 t (st75.trans k)
  have pre92 : ∀ t, Steps p.tables e below (T75.setTop (mkF m 76 #[.val (.long q0), .second, .val (.int p1), .val (.int p2), .val (.long (q0 &&& (9223372036854775807 : Int64))), .second, .val (.ref b19_0), .val (.ref b33), .val (.ref b37), .val (.ref b50), .val (.ref b69_0), .unset, .unset, .unset] [(.ref b37)])) t → Steps p.tables e below (s₁.setTop (entryFrame m #[(.long q0), (.int p1), (.int p2)] maxLocals)) t := fun t k => pre91 t (by
    show Steps p.tables e below (T75.setTop (mkF m 72 #[.val (.long q0), .second, .val (.int p1), .val (.int p2), .val (.long (q0 &&& (9223372036854775807 : Int64))), .second, .val (.ref b19_0), .val (.ref b33), .val (.ref b37), .val (.ref b50), .unset, .unset, .unset, .unset] [(.ref b69_0)])) _
    refine XS.astore X75.here hx rfl (hb hby at_72) rfl rfl (l' := #[.val (.long q0), .second, .val (.int p1), .val (.int p2), .val (.long (q0 &&& (9223372036854775807 : Int64))), .second, .val (.ref b19_0), .val (.ref b33), .val (.ref b37), .val (.ref b50), .val (.ref b69_0), .unset, .unset, .unset]) rfl ?_
    show Steps p.tables e below (T75.setTop (mkF m 74 #[.val (.long q0), .second, .val (.int p1), .val (.int p2), .val (.long (q0 &&& (9223372036854775807 : Int64))), .second, .val (.ref b19_0), .val (.ref b33), .val (.ref b37), .val (.ref b50), .val (.ref b69_0), .unset, .unset, .unset] [])) _
    refine XS.aload X75.here hx rfl (hb hby at_74) rfl rfl ?_
    exact k)
  obtain ⟨cq93, kq93, q93a, q93b, q93c⟩ := isOf hZ rfl x83
  obtain ⟨_, _, ⟨T93, L93, k93, n93⟩, -, X93, ⟨Lc93, hQ93, l93, y93, z93⟩, st93⟩ := X75.virtualBack hx (y := (⟨"com/example/oncemark/oncemark/OutgoingMessage", "hasSequenceId", "()Z"⟩ : MethodName)) (z := (⟨"com/example/oncemark/oncemark/OutgoingMessage", "hasSequenceId", "()Z"⟩ : MethodName)) hown (mvT hZ (hw _ (List.mem_of_getElem? (i := 46) rfl))) (mvT hZ (hw _ (List.mem_of_getElem? (i := 47) rfl))) (notFace_of_selects (args := #[]) (mvT hZ (hw _ (List.mem_of_getElem? (i := 49) rfl)))) (mvT hZ (hw _ (List.mem_of_getElem? (i := 49) rfl))) (mvT hZ (hw _ (List.mem_of_getElem? (i := 48) rfl))) (by decide) (backOf (W := 0) (rm8 l Z a0 hw [] b37 (-1 : Int64) T75.heap n0 Z75 x84) hZ (hw _ (List.mem_of_getElem? (i := 50) rfl)) (hw _ (List.mem_of_getElem? (i := 4) rfl)) (by decide) (by decide)) q93a q93c (g := (mkF m 76 #[.val (.long q0), .second, .val (.int p1), .val (.int p2), .val (.long (q0 &&& (9223372036854775807 : Int64))), .second, .val (.ref b19_0), .val (.ref b33), .val (.ref b37), .val (.ref b50), .val (.ref b69_0), .unset, .unset, .unset] [(.ref b37)])) rfl (by rw [hml]; rfl) (Steps.refl _) (argsL := []) (rest := []) (lenOf pd___Z rfl) rfl (by show 2 * 0 + _ ≤ _; exact Nat.le_of_eq rfl) (hb hby at_76) (fun _ _ => ⟨rfl, rfl, (by decide : 12 + 0 ≤ _), (by decide : 113 + 0 ≤ _)⟩)
  dsimp only [Pt.U, Pt.locs, Pt.cells, Pt.slots] at X93 l93 y93 z93 st93 hQ93
  subst l93 y93 z93
  obtain ⟨rfl, Nq93, e93⟩ := hQ93
  have N93 := Fr.app N75 Nq93
  have pre94 : ∀ t, Steps p.tables e below (T93.setTop (mkF m 79 #[.val (.long q0), .second, .val (.int p1), .val (.int p2), .val (.long (q0 &&& (9223372036854775807 : Int64))), .second, .val (.ref b19_0), .val (.ref b33), .val (.ref b37), .val (.ref b50), .val (.ref b69_0), .unset, .unset, .unset] [(.int (f8 (-1 : Int64)))])) t → Steps p.tables e below (s₁.setTop (entryFrame m #[(.long q0), (.int p1), (.int p2)] maxLocals)) t := fun t k => pre92 t (st93.trans k)
  obtain ⟨T95, L95, X95, e95, N95, pre95⟩ : ∃ (T' : State) (L' : List Loc), Stand p l e room_1 (s.setVm T75.vm) m #[(.long q0), (.int p1), (.int p2)] below meth c T' L' 12 113 ∧ T'.heap = T75.heap ∧ Fr n0 L' ∧ ∀ t, Steps p.tables e below (T'.setTop (mkF m 99 #[.val (.long q0), .second, .val (.int p1), .val (.int p2), .val (.long (q0 &&& (9223372036854775807 : Int64))), .second, .val (.ref b19_0), .val (.ref b33), .val (.ref b37), .val (.ref b50), .val (.ref b69_0), .unset, .unset, .unset] [(.int (v0_k_99_s0))])) t → Steps p.tables e below (s₁.setTop (entryFrame m #[(.long q0), (.int p1), (.int p2)] maxLocals)) t := by
    by_cases hc79_1 : (f8 (-1 : Int64)) = (0 : Int32)
    · have pre96 : ∀ t, Steps p.tables e below (T93.setTop (mkF m 84 #[.val (.long q0), .second, .val (.int p1), .val (.int p2), .val (.long (q0 &&& (9223372036854775807 : Int64))), .second, .val (.ref b19_0), .val (.ref b33), .val (.ref b37), .val (.ref b50), .val (.ref b69_0), .unset, .unset, .unset] [(.ref b37)])) t → Steps p.tables e below (s₁.setTop (entryFrame m #[(.long q0), (.int p1), (.int p2)] maxLocals)) t := fun t k => pre94 t (by
        show Steps p.tables e below (T93.setTop (mkF m 79 #[.val (.long q0), .second, .val (.int p1), .val (.int p2), .val (.long (q0 &&& (9223372036854775807 : Int64))), .second, .val (.ref b19_0), .val (.ref b33), .val (.ref b37), .val (.ref b50), .val (.ref b69_0), .unset, .unset, .unset] [(.int (f8 (-1 : Int64)))])) _
        refine XS.ifNo X93.here hx rfl (hb hby at_79) rfl ((if0 _ _).trans (teq hc79_1).2) ?_
        show Steps p.tables e below (T93.setTop (mkF m 82 #[.val (.long q0), .second, .val (.int p1), .val (.int p2), .val (.long (q0 &&& (9223372036854775807 : Int64))), .second, .val (.ref b19_0), .val (.ref b33), .val (.ref b37), .val (.ref b50), .val (.ref b69_0), .unset, .unset, .unset] [])) _
        refine XS.aload X93.here hx rfl (hb hby at_82) rfl rfl ?_
        exact k)
      obtain ⟨cq97, kq97, q97a, q97b, q97c⟩ := isOf hZ e93 x83
      obtain ⟨_, _, ⟨T97, L97, k97, n97⟩, -, X97, ⟨Lc97, hQ97, l97, y97, z97⟩, st97⟩ := X93.virtualBack hx (y := (⟨"com/example/oncemark/oncemark/OutgoingMessage", "sequenceId", "()J"⟩ : MethodName)) (z := (⟨"com/example/oncemark/oncemark/OutgoingMessage", "sequenceId", "()J"⟩ : MethodName)) hown (mvT hZ (hw _ (List.mem_of_getElem? (i := 51) rfl))) (mvT hZ (hw _ (List.mem_of_getElem? (i := 52) rfl))) (notFace_of_selects (args := #[]) (mvT hZ (hw _ (List.mem_of_getElem? (i := 54) rfl)))) (mvT hZ (hw _ (List.mem_of_getElem? (i := 54) rfl))) (mvT hZ (hw _ (List.mem_of_getElem? (i := 53) rfl))) (by decide) (backOf (W := 0) (rm9 l Z a0 hw [] b37 (-1 : Int64) T75.heap n0 Z75 x84) hZ (hw _ (List.mem_of_getElem? (i := 55) rfl)) (hw _ (List.mem_of_getElem? (i := 4) rfl)) (by decide) (by decide)) q97a q97c (g := (mkF m 84 #[.val (.long q0), .second, .val (.int p1), .val (.int p2), .val (.long (q0 &&& (9223372036854775807 : Int64))), .second, .val (.ref b19_0), .val (.ref b33), .val (.ref b37), .val (.ref b50), .val (.ref b69_0), .unset, .unset, .unset] [(.ref b37)])) rfl (by rw [hml]; rfl) (Steps.refl _) (argsL := []) (rest := []) (lenOf pd___J rfl) rfl (by show 2 * 0 + _ ≤ _; exact Nat.le_of_eq rfl) (hb hby at_84) (fun _ _ => ⟨rfl, e93, (by decide : 12 + 0 ≤ _), (by decide : 113 + 0 ≤ _)⟩)
      dsimp only [Pt.U, Pt.locs, Pt.cells, Pt.slots] at X97 l97 y97 z97 st97 hQ97
      subst l97 y97 z97
      obtain ⟨rfl, Nq97, e97⟩ := hQ97
      have N97 := Fr.app N93 Nq97
      have pre98 : ∀ t, Steps p.tables e below (T97.setTop (mkF m 87 #[.val (.long q0), .second, .val (.int p1), .val (.int p2), .val (.long (q0 &&& (9223372036854775807 : Int64))), .second, .val (.ref b19_0), .val (.ref b33), .val (.ref b37), .val (.ref b50), .val (.ref b69_0), .unset, .unset, .unset] [(.long (f9 (-1 : Int64)))])) t → Steps p.tables e below (s₁.setTop (entryFrame m #[(.long q0), (.int p1), (.int p2)] maxLocals)) t := fun t k => pre96 t (st97.trans k)
      have pre99 : ∀ t, Steps p.tables e below (T97.setTop (mkF m 91 #[.val (.long q0), .second, .val (.int p1), .val (.int p2), .val (.long (q0 &&& (9223372036854775807 : Int64))), .second, .val (.ref b19_0), .val (.ref b33), .val (.ref b37), .val (.ref b50), .val (.ref b69_0), .unset, .unset, .unset] [(.int (lcmpW (f9 (-1 : Int64)) (-1 : Int64)))])) t → Steps p.tables e below (s₁.setTop (entryFrame m #[(.long q0), (.int p1), (.int p2)] maxLocals)) t := fun t k => pre98 t (by
        show Steps p.tables e below (T97.setTop (mkF m 87 #[.val (.long q0), .second, .val (.int p1), .val (.int p2), .val (.long (q0 &&& (9223372036854775807 : Int64))), .second, .val (.ref b19_0), .val (.ref b33), .val (.ref b37), .val (.ref b50), .val (.ref b69_0), .unset, .unset, .unset] [(.long (f9 (-1 : Int64)))])) _
        refine X97.ldc2Long hx hown (mvT hZ (hw _ (List.mem_of_getElem? (i := 56) rfl))) (g := (mkF m 87 #[.val (.long q0), .second, .val (.int p1), .val (.int p2), .val (.long (q0 &&& (9223372036854775807 : Int64))), .second, .val (.ref b19_0), .val (.ref b33), .val (.ref b37), .val (.ref b50), .val (.ref b69_0), .unset, .unset, .unset] [(.long (f9 (-1 : Int64)))])) rfl (hb hby at_87) _ ?_
        show Steps p.tables e below (T97.setTop (mkF m 90 #[.val (.long q0), .second, .val (.int p1), .val (.int p2), .val (.long (q0 &&& (9223372036854775807 : Int64))), .second, .val (.ref b19_0), .val (.ref b33), .val (.ref b37), .val (.ref b50), .val (.ref b69_0), .unset, .unset, .unset] [(.long (-1 : Int64)), (.long (f9 (-1 : Int64)))])) _
        refine XS.lcmp X97.here hx rfl (hb hby at_90) rfl ?_
        exact k)
      by_cases hc91_2 : (f9 (-1 : Int64)) = (-1 : Int64)
      · have pre100 : ∀ t, Steps p.tables e below (T97.setTop (mkF m 99 #[.val (.long q0), .second, .val (.int p1), .val (.int p2), .val (.long (q0 &&& (9223372036854775807 : Int64))), .second, .val (.ref b19_0), .val (.ref b33), .val (.ref b37), .val (.ref b50), .val (.ref b69_0), .unset, .unset, .unset] [(.int (1 : Int32))])) t → Steps p.tables e below (s₁.setTop (entryFrame m #[(.long q0), (.int p1), (.int p2)] maxLocals)) t := fun t k => pre99 t (by
          show Steps p.tables e below (T97.setTop (mkF m 91 #[.val (.long q0), .second, .val (.int p1), .val (.int p2), .val (.long (q0 &&& (9223372036854775807 : Int64))), .second, .val (.ref b19_0), .val (.ref b33), .val (.ref b37), .val (.ref b50), .val (.ref b69_0), .unset, .unset, .unset] [(.int (lcmpW (f9 (-1 : Int64)) (-1 : Int64)))])) _
          refine XS.ifNo X97.here hx rfl (hb hby at_91) rfl ((if0 _ _).trans (teq ((lw_eq _ _).mpr hc91_2)).2) ?_
          show Steps p.tables e below (T97.setTop (mkF m 94 #[.val (.long q0), .second, .val (.int p1), .val (.int p2), .val (.long (q0 &&& (9223372036854775807 : Int64))), .second, .val (.ref b19_0), .val (.ref b33), .val (.ref b37), .val (.ref b50), .val (.ref b69_0), .unset, .unset, .unset] [])) _
          refine XS.iconst X97.here hx rfl (hb hby at_94) ?_
          show Steps p.tables e below (T97.setTop (mkF m 95 #[.val (.long q0), .second, .val (.int p1), .val (.int p2), .val (.long (q0 &&& (9223372036854775807 : Int64))), .second, .val (.ref b19_0), .val (.ref b33), .val (.ref b37), .val (.ref b50), .val (.ref b69_0), .unset, .unset, .unset] [(.int (1 : Int32))])) _
          refine XS.goto X97.here hx rfl (pc0 := 95) (pc' := 99) rfl (hb hby at_95) (by decide) (by decide) ?_
          exact k)
        exact ⟨T97, _, X97, e97, N97, fun t k => pre100 t (by simpa only [v0_k_99_s0, if_pos hc79_1, if_pos hc91_2] using k)⟩
      · have pre101 : ∀ t, Steps p.tables e below (T97.setTop (mkF m 99 #[.val (.long q0), .second, .val (.int p1), .val (.int p2), .val (.long (q0 &&& (9223372036854775807 : Int64))), .second, .val (.ref b19_0), .val (.ref b33), .val (.ref b37), .val (.ref b50), .val (.ref b69_0), .unset, .unset, .unset] [(.int (0 : Int32))])) t → Steps p.tables e below (s₁.setTop (entryFrame m #[(.long q0), (.int p1), (.int p2)] maxLocals)) t := fun t k => pre99 t (by
          show Steps p.tables e below (T97.setTop (mkF m 91 #[.val (.long q0), .second, .val (.int p1), .val (.int p2), .val (.long (q0 &&& (9223372036854775807 : Int64))), .second, .val (.ref b19_0), .val (.ref b33), .val (.ref b37), .val (.ref b50), .val (.ref b69_0), .unset, .unset, .unset] [(.int (lcmpW (f9 (-1 : Int64)) (-1 : Int64)))])) _
          refine XS.ifYes X97.here hx rfl (pc0 := 91) (pc' := 98) rfl (hb hby at_91) rfl ((if0 _ _).trans (feq (fun q => hc91_2 ((lw_eq _ _).mp q))).2) (by decide) (by decide) ?_
          show Steps p.tables e below (T97.setTop (mkF m 98 #[.val (.long q0), .second, .val (.int p1), .val (.int p2), .val (.long (q0 &&& (9223372036854775807 : Int64))), .second, .val (.ref b19_0), .val (.ref b33), .val (.ref b37), .val (.ref b50), .val (.ref b69_0), .unset, .unset, .unset] [])) _
          refine XS.iconst X97.here hx rfl (hb hby at_98) ?_
          exact k)
        exact ⟨T97, _, X97, e97, N97, fun t k => pre101 t (by simpa only [v0_k_99_s0, if_pos hc79_1, if_neg hc91_2] using k)⟩
    · have pre102 : ∀ t, Steps p.tables e below (T93.setTop (mkF m 99 #[.val (.long q0), .second, .val (.int p1), .val (.int p2), .val (.long (q0 &&& (9223372036854775807 : Int64))), .second, .val (.ref b19_0), .val (.ref b33), .val (.ref b37), .val (.ref b50), .val (.ref b69_0), .unset, .unset, .unset] [(.int (0 : Int32))])) t → Steps p.tables e below (s₁.setTop (entryFrame m #[(.long q0), (.int p1), (.int p2)] maxLocals)) t := fun t k => pre94 t (by
        show Steps p.tables e below (T93.setTop (mkF m 79 #[.val (.long q0), .second, .val (.int p1), .val (.int p2), .val (.long (q0 &&& (9223372036854775807 : Int64))), .second, .val (.ref b19_0), .val (.ref b33), .val (.ref b37), .val (.ref b50), .val (.ref b69_0), .unset, .unset, .unset] [(.int (f8 (-1 : Int64)))])) _
        refine XS.ifYes X93.here hx rfl (pc0 := 79) (pc' := 98) rfl (hb hby at_79) rfl ((if0 _ _).trans (feq hc79_1).2) (by decide) (by decide) ?_
        show Steps p.tables e below (T93.setTop (mkF m 98 #[.val (.long q0), .second, .val (.int p1), .val (.int p2), .val (.long (q0 &&& (9223372036854775807 : Int64))), .second, .val (.ref b19_0), .val (.ref b33), .val (.ref b37), .val (.ref b50), .val (.ref b69_0), .unset, .unset, .unset] [])) _
        refine XS.iconst X93.here hx rfl (hb hby at_98) ?_
        exact k)
      exact ⟨T93, _, X93, e93, N93, fun t k => pre102 t (by simpa only [v0_k_99_s0, if_neg hc79_1] using k)⟩
  have pre103 : ∀ t, Steps p.tables e below (T95.setTop (mkF m 103 #[.val (.long q0), .second, .val (.int p1), .val (.int p2), .val (.long (q0 &&& (9223372036854775807 : Int64))), .second, .val (.ref b19_0), .val (.ref b33), .val (.ref b37), .val (.ref b50), .val (.ref b69_0), .val (.int (v0_k_99_s0)), .unset, .unset] [(.ref b50)])) t → Steps p.tables e below (s₁.setTop (entryFrame m #[(.long q0), (.int p1), (.int p2)] maxLocals)) t := fun t k => pre95 t (by
    show Steps p.tables e below (T95.setTop (mkF m 99 #[.val (.long q0), .second, .val (.int p1), .val (.int p2), .val (.long (q0 &&& (9223372036854775807 : Int64))), .second, .val (.ref b19_0), .val (.ref b33), .val (.ref b37), .val (.ref b50), .val (.ref b69_0), .unset, .unset, .unset] [(.int (v0_k_99_s0))])) _
    refine XS.istore X95.here hx rfl (hb hby at_99) rfl (l' := #[.val (.long q0), .second, .val (.int p1), .val (.int p2), .val (.long (q0 &&& (9223372036854775807 : Int64))), .second, .val (.ref b19_0), .val (.ref b33), .val (.ref b37), .val (.ref b50), .val (.ref b69_0), .val (.int (v0_k_99_s0)), .unset, .unset]) rfl ?_
    show Steps p.tables e below (T95.setTop (mkF m 101 #[.val (.long q0), .second, .val (.int p1), .val (.int p2), .val (.long (q0 &&& (9223372036854775807 : Int64))), .second, .val (.ref b19_0), .val (.ref b33), .val (.ref b37), .val (.ref b50), .val (.ref b69_0), .val (.int (v0_k_99_s0)), .unset, .unset] [])) _
    refine XS.aload X95.here hx rfl (hb hby at_101) rfl rfl ?_
    exact k)
  obtain ⟨cq104, kq104, q104a, q104b, q104c⟩ := isOf hZ e95 x87
  obtain ⟨_, _, ⟨T104, L104, k104, n104⟩, -, X104, ⟨Lc104, hQ104, l104, y104, z104⟩, st104⟩ := X95.virtualBack hx (y := (⟨"com/example/oncemark/oncemark/OutgoingMessage", "hasSequenceId", "()Z"⟩ : MethodName)) (z := (⟨"com/example/oncemark/oncemark/OutgoingMessage", "hasSequenceId", "()Z"⟩ : MethodName)) hown (mvT hZ (hw _ (List.mem_of_getElem? (i := 46) rfl))) (mvT hZ (hw _ (List.mem_of_getElem? (i := 47) rfl))) (notFace_of_selects (args := #[]) (mvT hZ (hw _ (List.mem_of_getElem? (i := 49) rfl)))) (mvT hZ (hw _ (List.mem_of_getElem? (i := 49) rfl))) (mvT hZ (hw _ (List.mem_of_getElem? (i := 48) rfl))) (by decide) (backOf (W := 0) (rm8 l Z a0 hw [] b50 (f6 (q0 &&& (9223372036854775807 : Int64))) T75.heap n0 Z75 x88) hZ (hw _ (List.mem_of_getElem? (i := 50) rfl)) (hw _ (List.mem_of_getElem? (i := 4) rfl)) (by decide) (by decide)) q104a q104c (g := (mkF m 103 #[.val (.long q0), .second, .val (.int p1), .val (.int p2), .val (.long (q0 &&& (9223372036854775807 : Int64))), .second, .val (.ref b19_0), .val (.ref b33), .val (.ref b37), .val (.ref b50), .val (.ref b69_0), .val (.int (v0_k_99_s0)), .unset, .unset] [(.ref b50)])) rfl (by rw [hml]; rfl) (Steps.refl _) (argsL := []) (rest := []) (lenOf pd___Z rfl) rfl (by show 2 * 0 + _ ≤ _; exact Nat.le_of_eq rfl) (hb hby at_103) (fun _ _ => ⟨rfl, e95, (by decide : 12 + 0 ≤ _), (by decide : 113 + 0 ≤ _)⟩)
  dsimp only [Pt.U, Pt.locs, Pt.cells, Pt.slots] at X104 l104 y104 z104 st104 hQ104
  subst l104 y104 z104
  obtain ⟨rfl, Nq104, e104⟩ := hQ104
  have N104 := Fr.app N95 Nq104
  have pre105 : ∀ t, Steps p.tables e below (T104.setTop (mkF m 106 #[.val (.long q0), .second, .val (.int p1), .val (.int p2), .val (.long (q0 &&& (9223372036854775807 : Int64))), .second, .val (.ref b19_0), .val (.ref b33), .val (.ref b37), .val (.ref b50), .val (.ref b69_0), .val (.int (v0_k_99_s0)), .unset, .unset] [(.int (f8 (f6 (q0 &&& (9223372036854775807 : Int64)))))])) t → Steps p.tables e below (s₁.setTop (entryFrame m #[(.long q0), (.int p1), (.int p2)] maxLocals)) t := fun t k => pre103 t (st104.trans k)
  obtain ⟨T106, L106, X106, e106, N106, pre106⟩ : ∃ (T' : State) (L' : List Loc), Stand p l e room_1 (s.setVm T75.vm) m #[(.long q0), (.int p1), (.int p2)] below meth c T' L' 12 113 ∧ T'.heap = T75.heap ∧ Fr n0 L' ∧ ∀ t, Steps p.tables e below (T'.setTop (mkF m 125 #[.val (.long q0), .second, .val (.int p1), .val (.int p2), .val (.long (q0 &&& (9223372036854775807 : Int64))), .second, .val (.ref b19_0), .val (.ref b33), .val (.ref b37), .val (.ref b50), .val (.ref b69_0), .val (.int (v0_k_99_s0)), .unset, .unset] [(.int (v0_k_125_s0 q0))])) t → Steps p.tables e below (s₁.setTop (entryFrame m #[(.long q0), (.int p1), (.int p2)] maxLocals)) t := by
    by_cases hc106_3 : (f8 (f6 (q0 &&& (9223372036854775807 : Int64)))) = (0 : Int32)
    · have pre107 : ∀ t, Steps p.tables e below (T104.setTop (mkF m 125 #[.val (.long q0), .second, .val (.int p1), .val (.int p2), .val (.long (q0 &&& (9223372036854775807 : Int64))), .second, .val (.ref b19_0), .val (.ref b33), .val (.ref b37), .val (.ref b50), .val (.ref b69_0), .val (.int (v0_k_99_s0)), .unset, .unset] [(.int (0 : Int32))])) t → Steps p.tables e below (s₁.setTop (entryFrame m #[(.long q0), (.int p1), (.int p2)] maxLocals)) t := fun t k => pre105 t (by
        show Steps p.tables e below (T104.setTop (mkF m 106 #[.val (.long q0), .second, .val (.int p1), .val (.int p2), .val (.long (q0 &&& (9223372036854775807 : Int64))), .second, .val (.ref b19_0), .val (.ref b33), .val (.ref b37), .val (.ref b50), .val (.ref b69_0), .val (.int (v0_k_99_s0)), .unset, .unset] [(.int (f8 (f6 (q0 &&& (9223372036854775807 : Int64)))))])) _
        refine XS.ifYes X104.here hx rfl (pc0 := 106) (pc' := 124) rfl (hb hby at_106) rfl ((if0 _ _).trans (teq hc106_3).1) (by decide) (by decide) ?_
        show Steps p.tables e below (T104.setTop (mkF m 124 #[.val (.long q0), .second, .val (.int p1), .val (.int p2), .val (.long (q0 &&& (9223372036854775807 : Int64))), .second, .val (.ref b19_0), .val (.ref b33), .val (.ref b37), .val (.ref b50), .val (.ref b69_0), .val (.int (v0_k_99_s0)), .unset, .unset] [])) _
        refine XS.iconst X104.here hx rfl (hb hby at_124) ?_
        exact k)
      exact ⟨T104, _, X104, e104, N104, fun t k => pre107 t (by simpa only [v0_k_125_s0, if_pos hc106_3] using k)⟩
    · have pre108 : ∀ t, Steps p.tables e below (T104.setTop (mkF m 111 #[.val (.long q0), .second, .val (.int p1), .val (.int p2), .val (.long (q0 &&& (9223372036854775807 : Int64))), .second, .val (.ref b19_0), .val (.ref b33), .val (.ref b37), .val (.ref b50), .val (.ref b69_0), .val (.int (v0_k_99_s0)), .unset, .unset] [(.ref b50)])) t → Steps p.tables e below (s₁.setTop (entryFrame m #[(.long q0), (.int p1), (.int p2)] maxLocals)) t := fun t k => pre105 t (by
        show Steps p.tables e below (T104.setTop (mkF m 106 #[.val (.long q0), .second, .val (.int p1), .val (.int p2), .val (.long (q0 &&& (9223372036854775807 : Int64))), .second, .val (.ref b19_0), .val (.ref b33), .val (.ref b37), .val (.ref b50), .val (.ref b69_0), .val (.int (v0_k_99_s0)), .unset, .unset] [(.int (f8 (f6 (q0 &&& (9223372036854775807 : Int64)))))])) _
        refine XS.ifNo X104.here hx rfl (hb hby at_106) rfl ((if0 _ _).trans (feq hc106_3).1) ?_
        show Steps p.tables e below (T104.setTop (mkF m 109 #[.val (.long q0), .second, .val (.int p1), .val (.int p2), .val (.long (q0 &&& (9223372036854775807 : Int64))), .second, .val (.ref b19_0), .val (.ref b33), .val (.ref b37), .val (.ref b50), .val (.ref b69_0), .val (.int (v0_k_99_s0)), .unset, .unset] [])) _
        refine XS.aload X104.here hx rfl (hb hby at_109) rfl rfl ?_
        exact k)
      obtain ⟨cq109, kq109, q109a, q109b, q109c⟩ := isOf hZ e104 x87
      obtain ⟨_, _, ⟨T109, L109, k109, n109⟩, -, X109, ⟨Lc109, hQ109, l109, y109, z109⟩, st109⟩ := X104.virtualBack hx (y := (⟨"com/example/oncemark/oncemark/OutgoingMessage", "sequenceId", "()J"⟩ : MethodName)) (z := (⟨"com/example/oncemark/oncemark/OutgoingMessage", "sequenceId", "()J"⟩ : MethodName)) hown (mvT hZ (hw _ (List.mem_of_getElem? (i := 51) rfl))) (mvT hZ (hw _ (List.mem_of_getElem? (i := 52) rfl))) (notFace_of_selects (args := #[]) (mvT hZ (hw _ (List.mem_of_getElem? (i := 54) rfl)))) (mvT hZ (hw _ (List.mem_of_getElem? (i := 54) rfl))) (mvT hZ (hw _ (List.mem_of_getElem? (i := 53) rfl))) (by decide) (backOf (W := 0) (rm9 l Z a0 hw [] b50 (f6 (q0 &&& (9223372036854775807 : Int64))) T75.heap n0 Z75 x88) hZ (hw _ (List.mem_of_getElem? (i := 55) rfl)) (hw _ (List.mem_of_getElem? (i := 4) rfl)) (by decide) (by decide)) q109a q109c (g := (mkF m 111 #[.val (.long q0), .second, .val (.int p1), .val (.int p2), .val (.long (q0 &&& (9223372036854775807 : Int64))), .second, .val (.ref b19_0), .val (.ref b33), .val (.ref b37), .val (.ref b50), .val (.ref b69_0), .val (.int (v0_k_99_s0)), .unset, .unset] [(.ref b50)])) rfl (by rw [hml]; rfl) (Steps.refl _) (argsL := []) (rest := []) (lenOf pd___J rfl) rfl (by show 2 * 0 + _ ≤ _; exact Nat.le_of_eq rfl) (hb hby at_111) (fun _ _ => ⟨rfl, e104, (by decide : 12 + 0 ≤ _), (by decide : 113 + 0 ≤ _)⟩)
      dsimp only [Pt.U, Pt.locs, Pt.cells, Pt.slots] at X109 l109 y109 z109 st109 hQ109
      subst l109 y109 z109
      obtain ⟨rfl, Nq109, e109⟩ := hQ109
      have N109 := Fr.app N104 Nq109
      have pre110 : ∀ t, Steps p.tables e below (T109.setTop (mkF m 114 #[.val (.long q0), .second, .val (.int p1), .val (.int p2), .val (.long (q0 &&& (9223372036854775807 : Int64))), .second, .val (.ref b19_0), .val (.ref b33), .val (.ref b37), .val (.ref b50), .val (.ref b69_0), .val (.int (v0_k_99_s0)), .unset, .unset] [(.long (f9 (f6 (q0 &&& (9223372036854775807 : Int64)))))])) t → Steps p.tables e below (s₁.setTop (entryFrame m #[(.long q0), (.int p1), (.int p2)] maxLocals)) t := fun t k => pre108 t (st109.trans k)
      have pre111 : ∀ t, Steps p.tables e below (T109.setTop (mkF m 117 #[.val (.long q0), .second, .val (.int p1), .val (.int p2), .val (.long (q0 &&& (9223372036854775807 : Int64))), .second, .val (.ref b19_0), .val (.ref b33), .val (.ref b37), .val (.ref b50), .val (.ref b69_0), .val (.int (v0_k_99_s0)), .unset, .unset] [(.int (lcmpW (f9 (f6 (q0 &&& (9223372036854775807 : Int64)))) (q0 &&& (9223372036854775807 : Int64))))])) t → Steps p.tables e below (s₁.setTop (entryFrame m #[(.long q0), (.int p1), (.int p2)] maxLocals)) t := fun t k => pre110 t (by
        show Steps p.tables e below (T109.setTop (mkF m 114 #[.val (.long q0), .second, .val (.int p1), .val (.int p2), .val (.long (q0 &&& (9223372036854775807 : Int64))), .second, .val (.ref b19_0), .val (.ref b33), .val (.ref b37), .val (.ref b50), .val (.ref b69_0), .val (.int (v0_k_99_s0)), .unset, .unset] [(.long (f9 (f6 (q0 &&& (9223372036854775807 : Int64)))))])) _
        refine XS.lload X109.here hx rfl (hb hby at_114) rfl ?_
        show Steps p.tables e below (T109.setTop (mkF m 116 #[.val (.long q0), .second, .val (.int p1), .val (.int p2), .val (.long (q0 &&& (9223372036854775807 : Int64))), .second, .val (.ref b19_0), .val (.ref b33), .val (.ref b37), .val (.ref b50), .val (.ref b69_0), .val (.int (v0_k_99_s0)), .unset, .unset] [(.long (q0 &&& (9223372036854775807 : Int64))), (.long (f9 (f6 (q0 &&& (9223372036854775807 : Int64)))))])) _
        refine XS.lcmp X109.here hx rfl (hb hby at_116) rfl ?_
        exact k)
      by_cases hc117_4 : (f9 (f6 (q0 &&& (9223372036854775807 : Int64)))) = (q0 &&& (9223372036854775807 : Int64))
      · have pre112 : ∀ t, Steps p.tables e below (T109.setTop (mkF m 125 #[.val (.long q0), .second, .val (.int p1), .val (.int p2), .val (.long (q0 &&& (9223372036854775807 : Int64))), .second, .val (.ref b19_0), .val (.ref b33), .val (.ref b37), .val (.ref b50), .val (.ref b69_0), .val (.int (v0_k_99_s0)), .unset, .unset] [(.int (1 : Int32))])) t → Steps p.tables e below (s₁.setTop (entryFrame m #[(.long q0), (.int p1), (.int p2)] maxLocals)) t := fun t k => pre111 t (by
          show Steps p.tables e below (T109.setTop (mkF m 117 #[.val (.long q0), .second, .val (.int p1), .val (.int p2), .val (.long (q0 &&& (9223372036854775807 : Int64))), .second, .val (.ref b19_0), .val (.ref b33), .val (.ref b37), .val (.ref b50), .val (.ref b69_0), .val (.int (v0_k_99_s0)), .unset, .unset] [(.int (lcmpW (f9 (f6 (q0 &&& (9223372036854775807 : Int64)))) (q0 &&& (9223372036854775807 : Int64))))])) _
          refine XS.ifNo X109.here hx rfl (hb hby at_117) rfl ((if0 _ _).trans (teq ((lw_eq _ _).mpr hc117_4)).2) ?_
          show Steps p.tables e below (T109.setTop (mkF m 120 #[.val (.long q0), .second, .val (.int p1), .val (.int p2), .val (.long (q0 &&& (9223372036854775807 : Int64))), .second, .val (.ref b19_0), .val (.ref b33), .val (.ref b37), .val (.ref b50), .val (.ref b69_0), .val (.int (v0_k_99_s0)), .unset, .unset] [])) _
          refine XS.iconst X109.here hx rfl (hb hby at_120) ?_
          show Steps p.tables e below (T109.setTop (mkF m 121 #[.val (.long q0), .second, .val (.int p1), .val (.int p2), .val (.long (q0 &&& (9223372036854775807 : Int64))), .second, .val (.ref b19_0), .val (.ref b33), .val (.ref b37), .val (.ref b50), .val (.ref b69_0), .val (.int (v0_k_99_s0)), .unset, .unset] [(.int (1 : Int32))])) _
          refine XS.goto X109.here hx rfl (pc0 := 121) (pc' := 125) rfl (hb hby at_121) (by decide) (by decide) ?_
          exact k)
        exact ⟨T109, _, X109, e109, N109, fun t k => pre112 t (by simpa only [v0_k_125_s0, if_neg hc106_3, if_pos hc117_4] using k)⟩
      · have pre113 : ∀ t, Steps p.tables e below (T109.setTop (mkF m 125 #[.val (.long q0), .second, .val (.int p1), .val (.int p2), .val (.long (q0 &&& (9223372036854775807 : Int64))), .second, .val (.ref b19_0), .val (.ref b33), .val (.ref b37), .val (.ref b50), .val (.ref b69_0), .val (.int (v0_k_99_s0)), .unset, .unset] [(.int (0 : Int32))])) t → Steps p.tables e below (s₁.setTop (entryFrame m #[(.long q0), (.int p1), (.int p2)] maxLocals)) t := fun t k => pre111 t (by
          show Steps p.tables e below (T109.setTop (mkF m 117 #[.val (.long q0), .second, .val (.int p1), .val (.int p2), .val (.long (q0 &&& (9223372036854775807 : Int64))), .second, .val (.ref b19_0), .val (.ref b33), .val (.ref b37), .val (.ref b50), .val (.ref b69_0), .val (.int (v0_k_99_s0)), .unset, .unset] [(.int (lcmpW (f9 (f6 (q0 &&& (9223372036854775807 : Int64)))) (q0 &&& (9223372036854775807 : Int64))))])) _
          refine XS.ifYes X109.here hx rfl (pc0 := 117) (pc' := 124) rfl (hb hby at_117) rfl ((if0 _ _).trans (feq (fun q => hc117_4 ((lw_eq _ _).mp q))).2) (by decide) (by decide) ?_
          show Steps p.tables e below (T109.setTop (mkF m 124 #[.val (.long q0), .second, .val (.int p1), .val (.int p2), .val (.long (q0 &&& (9223372036854775807 : Int64))), .second, .val (.ref b19_0), .val (.ref b33), .val (.ref b37), .val (.ref b50), .val (.ref b69_0), .val (.int (v0_k_99_s0)), .unset, .unset] [])) _
          refine XS.iconst X109.here hx rfl (hb hby at_124) ?_
          exact k)
        exact ⟨T109, _, X109, e109, N109, fun t k => pre113 t (by simpa only [v0_k_125_s0, if_neg hc106_3, if_neg hc117_4] using k)⟩
  have pre114 : ∀ t, Steps p.tables e below (T106.setTop (mkF m 129 #[.val (.long q0), .second, .val (.int p1), .val (.int p2), .val (.long (q0 &&& (9223372036854775807 : Int64))), .second, .val (.ref b19_0), .val (.ref b33), .val (.ref b37), .val (.ref b50), .val (.ref b69_0), .val (.int (v0_k_99_s0)), .val (.int (v0_k_125_s0 q0)), .unset] [(.ref b69_0)])) t → Steps p.tables e below (s₁.setTop (entryFrame m #[(.long q0), (.int p1), (.int p2)] maxLocals)) t := fun t k => pre106 t (by
    show Steps p.tables e below (T106.setTop (mkF m 125 #[.val (.long q0), .second, .val (.int p1), .val (.int p2), .val (.long (q0 &&& (9223372036854775807 : Int64))), .second, .val (.ref b19_0), .val (.ref b33), .val (.ref b37), .val (.ref b50), .val (.ref b69_0), .val (.int (v0_k_99_s0)), .unset, .unset] [(.int (v0_k_125_s0 q0))])) _
    refine XS.istore X106.here hx rfl (hb hby at_125) rfl (l' := #[.val (.long q0), .second, .val (.int p1), .val (.int p2), .val (.long (q0 &&& (9223372036854775807 : Int64))), .second, .val (.ref b19_0), .val (.ref b33), .val (.ref b37), .val (.ref b50), .val (.ref b69_0), .val (.int (v0_k_99_s0)), .val (.int (v0_k_125_s0 q0)), .unset]) rfl ?_
    show Steps p.tables e below (T106.setTop (mkF m 127 #[.val (.long q0), .second, .val (.int p1), .val (.int p2), .val (.long (q0 &&& (9223372036854775807 : Int64))), .second, .val (.ref b19_0), .val (.ref b33), .val (.ref b37), .val (.ref b50), .val (.ref b69_0), .val (.int (v0_k_99_s0)), .val (.int (v0_k_125_s0 q0)), .unset] [])) _
    refine XS.aload X106.here hx rfl (hb hby at_127) rfl rfl ?_
    exact k)
  obtain ⟨cq115, kq115, q115a, q115b, q115c⟩ := isOf hZ e106 o75_0
  obtain ⟨_, _, ⟨T115, L115, k115, n115⟩, -, X115, ⟨Lc115, hQ115, l115, y115, z115⟩, st115⟩ := X106.virtualBack hx (y := (⟨"com/example/oncemark/oncemark/OutgoingMessage", "hasSequenceId", "()Z"⟩ : MethodName)) (z := (⟨"com/example/oncemark/oncemark/OutgoingMessage", "hasSequenceId", "()Z"⟩ : MethodName)) hown (mvT hZ (hw _ (List.mem_of_getElem? (i := 46) rfl))) (mvT hZ (hw _ (List.mem_of_getElem? (i := 47) rfl))) (notFace_of_selects (args := #[]) (mvT hZ (hw _ (List.mem_of_getElem? (i := 49) rfl)))) (mvT hZ (hw _ (List.mem_of_getElem? (i := 49) rfl))) (mvT hZ (hw _ (List.mem_of_getElem? (i := 48) rfl))) (by decide) (backOf (W := 0) (rm8 l Z a0 hw [] b69_0 (f6 (q0 &&& (9223372036854775807 : Int64))) T75.heap n0 Z75 o75_1) hZ (hw _ (List.mem_of_getElem? (i := 50) rfl)) (hw _ (List.mem_of_getElem? (i := 4) rfl)) (by decide) (by decide)) q115a q115c (g := (mkF m 129 #[.val (.long q0), .second, .val (.int p1), .val (.int p2), .val (.long (q0 &&& (9223372036854775807 : Int64))), .second, .val (.ref b19_0), .val (.ref b33), .val (.ref b37), .val (.ref b50), .val (.ref b69_0), .val (.int (v0_k_99_s0)), .val (.int (v0_k_125_s0 q0)), .unset] [(.ref b69_0)])) rfl (by rw [hml]; rfl) (Steps.refl _) (argsL := []) (rest := []) (lenOf pd___Z rfl) rfl (by show 2 * 0 + _ ≤ _; exact Nat.le_of_eq rfl) (hb hby at_129) (fun _ _ => ⟨rfl, e106, (by decide : 12 + 0 ≤ _), (by decide : 113 + 0 ≤ _)⟩)
  dsimp only [Pt.U, Pt.locs, Pt.cells, Pt.slots] at X115 l115 y115 z115 st115 hQ115
  subst l115 y115 z115
  obtain ⟨rfl, Nq115, e115⟩ := hQ115
  have N115 := Fr.app N106 Nq115
  have pre116 : ∀ t, Steps p.tables e below (T115.setTop (mkF m 132 #[.val (.long q0), .second, .val (.int p1), .val (.int p2), .val (.long (q0 &&& (9223372036854775807 : Int64))), .second, .val (.ref b19_0), .val (.ref b33), .val (.ref b37), .val (.ref b50), .val (.ref b69_0), .val (.int (v0_k_99_s0)), .val (.int (v0_k_125_s0 q0)), .unset] [(.int (f8 (f6 (q0 &&& (9223372036854775807 : Int64)))))])) t → Steps p.tables e below (s₁.setTop (entryFrame m #[(.long q0), (.int p1), (.int p2)] maxLocals)) t := fun t k => pre114 t (st115.trans k)
  obtain ⟨T117, L117, X117, e117, N117, pre117⟩ : ∃ (T' : State) (L' : List Loc), Stand p l e room_1 (s.setVm T75.vm) m #[(.long q0), (.int p1), (.int p2)] below meth c T' L' 12 113 ∧ T'.heap = T75.heap ∧ Fr n0 L' ∧ ∀ t, Steps p.tables e below (T'.setTop (mkF m 151 #[.val (.long q0), .second, .val (.int p1), .val (.int p2), .val (.long (q0 &&& (9223372036854775807 : Int64))), .second, .val (.ref b19_0), .val (.ref b33), .val (.ref b37), .val (.ref b50), .val (.ref b69_0), .val (.int (v0_k_99_s0)), .val (.int (v0_k_125_s0 q0)), .unset] [(.int (v0_k_151_s0 q0))])) t → Steps p.tables e below (s₁.setTop (entryFrame m #[(.long q0), (.int p1), (.int p2)] maxLocals)) t := by
    by_cases hc132_5 : (f8 (f6 (q0 &&& (9223372036854775807 : Int64)))) = (0 : Int32)
    · have pre118 : ∀ t, Steps p.tables e below (T115.setTop (mkF m 151 #[.val (.long q0), .second, .val (.int p1), .val (.int p2), .val (.long (q0 &&& (9223372036854775807 : Int64))), .second, .val (.ref b19_0), .val (.ref b33), .val (.ref b37), .val (.ref b50), .val (.ref b69_0), .val (.int (v0_k_99_s0)), .val (.int (v0_k_125_s0 q0)), .unset] [(.int (0 : Int32))])) t → Steps p.tables e below (s₁.setTop (entryFrame m #[(.long q0), (.int p1), (.int p2)] maxLocals)) t := fun t k => pre116 t (by
        show Steps p.tables e below (T115.setTop (mkF m 132 #[.val (.long q0), .second, .val (.int p1), .val (.int p2), .val (.long (q0 &&& (9223372036854775807 : Int64))), .second, .val (.ref b19_0), .val (.ref b33), .val (.ref b37), .val (.ref b50), .val (.ref b69_0), .val (.int (v0_k_99_s0)), .val (.int (v0_k_125_s0 q0)), .unset] [(.int (f8 (f6 (q0 &&& (9223372036854775807 : Int64)))))])) _
        refine XS.ifYes X115.here hx rfl (pc0 := 132) (pc' := 150) rfl (hb hby at_132) rfl ((if0 _ _).trans (teq hc132_5).1) (by decide) (by decide) ?_
        show Steps p.tables e below (T115.setTop (mkF m 150 #[.val (.long q0), .second, .val (.int p1), .val (.int p2), .val (.long (q0 &&& (9223372036854775807 : Int64))), .second, .val (.ref b19_0), .val (.ref b33), .val (.ref b37), .val (.ref b50), .val (.ref b69_0), .val (.int (v0_k_99_s0)), .val (.int (v0_k_125_s0 q0)), .unset] [])) _
        refine XS.iconst X115.here hx rfl (hb hby at_150) ?_
        exact k)
      exact ⟨T115, _, X115, e115, N115, fun t k => pre118 t (by simpa only [v0_k_151_s0, if_pos hc132_5] using k)⟩
    · have pre119 : ∀ t, Steps p.tables e below (T115.setTop (mkF m 137 #[.val (.long q0), .second, .val (.int p1), .val (.int p2), .val (.long (q0 &&& (9223372036854775807 : Int64))), .second, .val (.ref b19_0), .val (.ref b33), .val (.ref b37), .val (.ref b50), .val (.ref b69_0), .val (.int (v0_k_99_s0)), .val (.int (v0_k_125_s0 q0)), .unset] [(.ref b69_0)])) t → Steps p.tables e below (s₁.setTop (entryFrame m #[(.long q0), (.int p1), (.int p2)] maxLocals)) t := fun t k => pre116 t (by
        show Steps p.tables e below (T115.setTop (mkF m 132 #[.val (.long q0), .second, .val (.int p1), .val (.int p2), .val (.long (q0 &&& (9223372036854775807 : Int64))), .second, .val (.ref b19_0), .val (.ref b33), .val (.ref b37), .val (.ref b50), .val (.ref b69_0), .val (.int (v0_k_99_s0)), .val (.int (v0_k_125_s0 q0)), .unset] [(.int (f8 (f6 (q0 &&& (9223372036854775807 : Int64)))))])) _
        refine XS.ifNo X115.here hx rfl (hb hby at_132) rfl ((if0 _ _).trans (feq hc132_5).1) ?_
        show Steps p.tables e below (T115.setTop (mkF m 135 #[.val (.long q0), .second, .val (.int p1), .val (.int p2), .val (.long (q0 &&& (9223372036854775807 : Int64))), .second, .val (.ref b19_0), .val (.ref b33), .val (.ref b37), .val (.ref b50), .val (.ref b69_0), .val (.int (v0_k_99_s0)), .val (.int (v0_k_125_s0 q0)), .unset] [])) _
        refine XS.aload X115.here hx rfl (hb hby at_135) rfl rfl ?_
        exact k)
      obtain ⟨cq120, kq120, q120a, q120b, q120c⟩ := isOf hZ e115 o75_0
      obtain ⟨_, _, ⟨T120, L120, k120, n120⟩, -, X120, ⟨Lc120, hQ120, l120, y120, z120⟩, st120⟩ := X115.virtualBack hx (y := (⟨"com/example/oncemark/oncemark/OutgoingMessage", "sequenceId", "()J"⟩ : MethodName)) (z := (⟨"com/example/oncemark/oncemark/OutgoingMessage", "sequenceId", "()J"⟩ : MethodName)) hown (mvT hZ (hw _ (List.mem_of_getElem? (i := 51) rfl))) (mvT hZ (hw _ (List.mem_of_getElem? (i := 52) rfl))) (notFace_of_selects (args := #[]) (mvT hZ (hw _ (List.mem_of_getElem? (i := 54) rfl)))) (mvT hZ (hw _ (List.mem_of_getElem? (i := 54) rfl))) (mvT hZ (hw _ (List.mem_of_getElem? (i := 53) rfl))) (by decide) (backOf (W := 0) (rm9 l Z a0 hw [] b69_0 (f6 (q0 &&& (9223372036854775807 : Int64))) T75.heap n0 Z75 o75_1) hZ (hw _ (List.mem_of_getElem? (i := 55) rfl)) (hw _ (List.mem_of_getElem? (i := 4) rfl)) (by decide) (by decide)) q120a q120c (g := (mkF m 137 #[.val (.long q0), .second, .val (.int p1), .val (.int p2), .val (.long (q0 &&& (9223372036854775807 : Int64))), .second, .val (.ref b19_0), .val (.ref b33), .val (.ref b37), .val (.ref b50), .val (.ref b69_0), .val (.int (v0_k_99_s0)), .val (.int (v0_k_125_s0 q0)), .unset] [(.ref b69_0)])) rfl (by rw [hml]; rfl) (Steps.refl _) (argsL := []) (rest := []) (lenOf pd___J rfl) rfl (by show 2 * 0 + _ ≤ _; exact Nat.le_of_eq rfl) (hb hby at_137) (fun _ _ => ⟨rfl, e115, (by decide : 12 + 0 ≤ _), (by decide : 113 + 0 ≤ _)⟩)
      dsimp only [Pt.U, Pt.locs, Pt.cells, Pt.slots] at X120 l120 y120 z120 st120 hQ120
      subst l120 y120 z120
      obtain ⟨rfl, Nq120, e120⟩ := hQ120
      have N120 := Fr.app N115 Nq120
      have pre121 : ∀ t, Steps p.tables e below (T120.setTop (mkF m 140 #[.val (.long q0), .second, .val (.int p1), .val (.int p2), .val (.long (q0 &&& (9223372036854775807 : Int64))), .second, .val (.ref b19_0), .val (.ref b33), .val (.ref b37), .val (.ref b50), .val (.ref b69_0), .val (.int (v0_k_99_s0)), .val (.int (v0_k_125_s0 q0)), .unset] [(.long (f9 (f6 (q0 &&& (9223372036854775807 : Int64)))))])) t → Steps p.tables e below (s₁.setTop (entryFrame m #[(.long q0), (.int p1), (.int p2)] maxLocals)) t := fun t k => pre119 t (st120.trans k)
      have pre122 : ∀ t, Steps p.tables e below (T120.setTop (mkF m 143 #[.val (.long q0), .second, .val (.int p1), .val (.int p2), .val (.long (q0 &&& (9223372036854775807 : Int64))), .second, .val (.ref b19_0), .val (.ref b33), .val (.ref b37), .val (.ref b50), .val (.ref b69_0), .val (.int (v0_k_99_s0)), .val (.int (v0_k_125_s0 q0)), .unset] [(.int (lcmpW (f9 (f6 (q0 &&& (9223372036854775807 : Int64)))) (q0 &&& (9223372036854775807 : Int64))))])) t → Steps p.tables e below (s₁.setTop (entryFrame m #[(.long q0), (.int p1), (.int p2)] maxLocals)) t := fun t k => pre121 t (by
        show Steps p.tables e below (T120.setTop (mkF m 140 #[.val (.long q0), .second, .val (.int p1), .val (.int p2), .val (.long (q0 &&& (9223372036854775807 : Int64))), .second, .val (.ref b19_0), .val (.ref b33), .val (.ref b37), .val (.ref b50), .val (.ref b69_0), .val (.int (v0_k_99_s0)), .val (.int (v0_k_125_s0 q0)), .unset] [(.long (f9 (f6 (q0 &&& (9223372036854775807 : Int64)))))])) _
        refine XS.lload X120.here hx rfl (hb hby at_140) rfl ?_
        show Steps p.tables e below (T120.setTop (mkF m 142 #[.val (.long q0), .second, .val (.int p1), .val (.int p2), .val (.long (q0 &&& (9223372036854775807 : Int64))), .second, .val (.ref b19_0), .val (.ref b33), .val (.ref b37), .val (.ref b50), .val (.ref b69_0), .val (.int (v0_k_99_s0)), .val (.int (v0_k_125_s0 q0)), .unset] [(.long (q0 &&& (9223372036854775807 : Int64))), (.long (f9 (f6 (q0 &&& (9223372036854775807 : Int64)))))])) _
        refine XS.lcmp X120.here hx rfl (hb hby at_142) rfl ?_
        exact k)
      by_cases hc143_6 : (f9 (f6 (q0 &&& (9223372036854775807 : Int64)))) = (q0 &&& (9223372036854775807 : Int64))
      · have pre123 : ∀ t, Steps p.tables e below (T120.setTop (mkF m 151 #[.val (.long q0), .second, .val (.int p1), .val (.int p2), .val (.long (q0 &&& (9223372036854775807 : Int64))), .second, .val (.ref b19_0), .val (.ref b33), .val (.ref b37), .val (.ref b50), .val (.ref b69_0), .val (.int (v0_k_99_s0)), .val (.int (v0_k_125_s0 q0)), .unset] [(.int (1 : Int32))])) t → Steps p.tables e below (s₁.setTop (entryFrame m #[(.long q0), (.int p1), (.int p2)] maxLocals)) t := fun t k => pre122 t (by
          show Steps p.tables e below (T120.setTop (mkF m 143 #[.val (.long q0), .second, .val (.int p1), .val (.int p2), .val (.long (q0 &&& (9223372036854775807 : Int64))), .second, .val (.ref b19_0), .val (.ref b33), .val (.ref b37), .val (.ref b50), .val (.ref b69_0), .val (.int (v0_k_99_s0)), .val (.int (v0_k_125_s0 q0)), .unset] [(.int (lcmpW (f9 (f6 (q0 &&& (9223372036854775807 : Int64)))) (q0 &&& (9223372036854775807 : Int64))))])) _
          refine XS.ifNo X120.here hx rfl (hb hby at_143) rfl ((if0 _ _).trans (teq ((lw_eq _ _).mpr hc143_6)).2) ?_
          show Steps p.tables e below (T120.setTop (mkF m 146 #[.val (.long q0), .second, .val (.int p1), .val (.int p2), .val (.long (q0 &&& (9223372036854775807 : Int64))), .second, .val (.ref b19_0), .val (.ref b33), .val (.ref b37), .val (.ref b50), .val (.ref b69_0), .val (.int (v0_k_99_s0)), .val (.int (v0_k_125_s0 q0)), .unset] [])) _
          refine XS.iconst X120.here hx rfl (hb hby at_146) ?_
          show Steps p.tables e below (T120.setTop (mkF m 147 #[.val (.long q0), .second, .val (.int p1), .val (.int p2), .val (.long (q0 &&& (9223372036854775807 : Int64))), .second, .val (.ref b19_0), .val (.ref b33), .val (.ref b37), .val (.ref b50), .val (.ref b69_0), .val (.int (v0_k_99_s0)), .val (.int (v0_k_125_s0 q0)), .unset] [(.int (1 : Int32))])) _
          refine XS.goto X120.here hx rfl (pc0 := 147) (pc' := 151) rfl (hb hby at_147) (by decide) (by decide) ?_
          exact k)
        exact ⟨T120, _, X120, e120, N120, fun t k => pre123 t (by simpa only [v0_k_151_s0, if_neg hc132_5, if_pos hc143_6] using k)⟩
      · have pre124 : ∀ t, Steps p.tables e below (T120.setTop (mkF m 151 #[.val (.long q0), .second, .val (.int p1), .val (.int p2), .val (.long (q0 &&& (9223372036854775807 : Int64))), .second, .val (.ref b19_0), .val (.ref b33), .val (.ref b37), .val (.ref b50), .val (.ref b69_0), .val (.int (v0_k_99_s0)), .val (.int (v0_k_125_s0 q0)), .unset] [(.int (0 : Int32))])) t → Steps p.tables e below (s₁.setTop (entryFrame m #[(.long q0), (.int p1), (.int p2)] maxLocals)) t := fun t k => pre122 t (by
          show Steps p.tables e below (T120.setTop (mkF m 143 #[.val (.long q0), .second, .val (.int p1), .val (.int p2), .val (.long (q0 &&& (9223372036854775807 : Int64))), .second, .val (.ref b19_0), .val (.ref b33), .val (.ref b37), .val (.ref b50), .val (.ref b69_0), .val (.int (v0_k_99_s0)), .val (.int (v0_k_125_s0 q0)), .unset] [(.int (lcmpW (f9 (f6 (q0 &&& (9223372036854775807 : Int64)))) (q0 &&& (9223372036854775807 : Int64))))])) _
          refine XS.ifYes X120.here hx rfl (pc0 := 143) (pc' := 150) rfl (hb hby at_143) rfl ((if0 _ _).trans (feq (fun q => hc143_6 ((lw_eq _ _).mp q))).2) (by decide) (by decide) ?_
          show Steps p.tables e below (T120.setTop (mkF m 150 #[.val (.long q0), .second, .val (.int p1), .val (.int p2), .val (.long (q0 &&& (9223372036854775807 : Int64))), .second, .val (.ref b19_0), .val (.ref b33), .val (.ref b37), .val (.ref b50), .val (.ref b69_0), .val (.int (v0_k_99_s0)), .val (.int (v0_k_125_s0 q0)), .unset] [])) _
          refine XS.iconst X120.here hx rfl (hb hby at_150) ?_
          exact k)
        exact ⟨T120, _, X120, e120, N120, fun t k => pre124 t (by simpa only [v0_k_151_s0, if_neg hc132_5, if_neg hc143_6] using k)⟩
  have pre125 : ∀ t, Steps p.tables e below (T117.setTop (mkF m 155 #[.val (.long q0), .second, .val (.int p1), .val (.int p2), .val (.long (q0 &&& (9223372036854775807 : Int64))), .second, .val (.ref b19_0), .val (.ref b33), .val (.ref b37), .val (.ref b50), .val (.ref b69_0), .val (.int (v0_k_99_s0)), .val (.int (v0_k_125_s0 q0)), .val (.int (v0_k_151_s0 q0))] [(.int (v0_k_99_s0))])) t → Steps p.tables e below (s₁.setTop (entryFrame m #[(.long q0), (.int p1), (.int p2)] maxLocals)) t := fun t k => pre117 t (by
    show Steps p.tables e below (T117.setTop (mkF m 151 #[.val (.long q0), .second, .val (.int p1), .val (.int p2), .val (.long (q0 &&& (9223372036854775807 : Int64))), .second, .val (.ref b19_0), .val (.ref b33), .val (.ref b37), .val (.ref b50), .val (.ref b69_0), .val (.int (v0_k_99_s0)), .val (.int (v0_k_125_s0 q0)), .unset] [(.int (v0_k_151_s0 q0))])) _
    refine XS.istore X117.here hx rfl (hb hby at_151) rfl (l' := #[.val (.long q0), .second, .val (.int p1), .val (.int p2), .val (.long (q0 &&& (9223372036854775807 : Int64))), .second, .val (.ref b19_0), .val (.ref b33), .val (.ref b37), .val (.ref b50), .val (.ref b69_0), .val (.int (v0_k_99_s0)), .val (.int (v0_k_125_s0 q0)), .val (.int (v0_k_151_s0 q0))]) rfl ?_
    show Steps p.tables e below (T117.setTop (mkF m 153 #[.val (.long q0), .second, .val (.int p1), .val (.int p2), .val (.long (q0 &&& (9223372036854775807 : Int64))), .second, .val (.ref b19_0), .val (.ref b33), .val (.ref b37), .val (.ref b50), .val (.ref b69_0), .val (.int (v0_k_99_s0)), .val (.int (v0_k_125_s0 q0)), .val (.int (v0_k_151_s0 q0))] [])) _
    refine XS.iload X117.here hx rfl (hb hby at_153) rfl ?_
    exact k)
  by_cases hc155_7 : (v0_k_99_s0) = (0 : Int32)
  · have pre126 : ∀ t, Steps p.tables e below (T117.setTop (mkF m 173 #[.val (.long q0), .second, .val (.int p1), .val (.int p2), .val (.long (q0 &&& (9223372036854775807 : Int64))), .second, .val (.ref b19_0), .val (.ref b33), .val (.ref b37), .val (.ref b50), .val (.ref b69_0), .val (.int (v0_k_99_s0)), .val (.int (v0_k_125_s0 q0)), .val (.int (v0_k_151_s0 q0))] [(.int (0 : Int32))])) t → Steps p.tables e below (s₁.setTop (entryFrame m #[(.long q0), (.int p1), (.int p2)] maxLocals)) t := fun t k => pre125 t (by
      show Steps p.tables e below (T117.setTop (mkF m 155 #[.val (.long q0), .second, .val (.int p1), .val (.int p2), .val (.long (q0 &&& (9223372036854775807 : Int64))), .second, .val (.ref b19_0), .val (.ref b33), .val (.ref b37), .val (.ref b50), .val (.ref b69_0), .val (.int (v0_k_99_s0)), .val (.int (v0_k_125_s0 q0)), .val (.int (v0_k_151_s0 q0))] [(.int (v0_k_99_s0))])) _
      refine XS.ifYes X117.here hx rfl (pc0 := 155) (pc' := 172) rfl (hb hby at_155) rfl ((if0 _ _).trans (teq hc155_7).1) (by decide) (by decide) ?_
      show Steps p.tables e below (T117.setTop (mkF m 172 #[.val (.long q0), .second, .val (.int p1), .val (.int p2), .val (.long (q0 &&& (9223372036854775807 : Int64))), .second, .val (.ref b19_0), .val (.ref b33), .val (.ref b37), .val (.ref b50), .val (.ref b69_0), .val (.int (v0_k_99_s0)), .val (.int (v0_k_125_s0 q0)), .val (.int (v0_k_151_s0 q0))] [])) _
      refine XS.iconst X117.here hx rfl (hb hby at_172) ?_
      exact k)
    obtain ⟨fs, hr, hrun, hended, hE⟩ := X117.leaveW hS75 (by rw [e117]; exact (Nat.le_refl _)) (v := some (.int (0 : Int32))) (fun h => by rw [Bd.returns] at h; cases h)
    refine ⟨_, _, ?_, hrun, hended, _, _, rfl, ?_, hE.1, hE.2.1, hE.2.2.1, hE.2.2.2.mono (by decide) (by decide)⟩
    · exact pre126 _ (retN X117 hx (t := .boolean) Bd.returns (by simp) (hb hby at_173) hr)
    · exact ⟨by simp only [f0_k, if_pos hc155_7], N117, trivial⟩
  · have pre127 : ∀ t, Steps p.tables e below (T117.setTop (mkF m 160 #[.val (.long q0), .second, .val (.int p1), .val (.int p2), .val (.long (q0 &&& (9223372036854775807 : Int64))), .second, .val (.ref b19_0), .val (.ref b33), .val (.ref b37), .val (.ref b50), .val (.ref b69_0), .val (.int (v0_k_99_s0)), .val (.int (v0_k_125_s0 q0)), .val (.int (v0_k_151_s0 q0))] [(.int (v0_k_125_s0 q0))])) t → Steps p.tables e below (s₁.setTop (entryFrame m #[(.long q0), (.int p1), (.int p2)] maxLocals)) t := fun t k => pre125 t (by
      show Steps p.tables e below (T117.setTop (mkF m 155 #[.val (.long q0), .second, .val (.int p1), .val (.int p2), .val (.long (q0 &&& (9223372036854775807 : Int64))), .second, .val (.ref b19_0), .val (.ref b33), .val (.ref b37), .val (.ref b50), .val (.ref b69_0), .val (.int (v0_k_99_s0)), .val (.int (v0_k_125_s0 q0)), .val (.int (v0_k_151_s0 q0))] [(.int (v0_k_99_s0))])) _
      refine XS.ifNo X117.here hx rfl (hb hby at_155) rfl ((if0 _ _).trans (feq hc155_7).1) ?_
      show Steps p.tables e below (T117.setTop (mkF m 158 #[.val (.long q0), .second, .val (.int p1), .val (.int p2), .val (.long (q0 &&& (9223372036854775807 : Int64))), .second, .val (.ref b19_0), .val (.ref b33), .val (.ref b37), .val (.ref b50), .val (.ref b69_0), .val (.int (v0_k_99_s0)), .val (.int (v0_k_125_s0 q0)), .val (.int (v0_k_151_s0 q0))] [])) _
      refine XS.iload X117.here hx rfl (hb hby at_158) rfl ?_
      exact k)
    by_cases hc160_8 : (v0_k_125_s0 q0) = (0 : Int32)
    · have pre128 : ∀ t, Steps p.tables e below (T117.setTop (mkF m 173 #[.val (.long q0), .second, .val (.int p1), .val (.int p2), .val (.long (q0 &&& (9223372036854775807 : Int64))), .second, .val (.ref b19_0), .val (.ref b33), .val (.ref b37), .val (.ref b50), .val (.ref b69_0), .val (.int (v0_k_99_s0)), .val (.int (v0_k_125_s0 q0)), .val (.int (v0_k_151_s0 q0))] [(.int (0 : Int32))])) t → Steps p.tables e below (s₁.setTop (entryFrame m #[(.long q0), (.int p1), (.int p2)] maxLocals)) t := fun t k => pre127 t (by
        show Steps p.tables e below (T117.setTop (mkF m 160 #[.val (.long q0), .second, .val (.int p1), .val (.int p2), .val (.long (q0 &&& (9223372036854775807 : Int64))), .second, .val (.ref b19_0), .val (.ref b33), .val (.ref b37), .val (.ref b50), .val (.ref b69_0), .val (.int (v0_k_99_s0)), .val (.int (v0_k_125_s0 q0)), .val (.int (v0_k_151_s0 q0))] [(.int (v0_k_125_s0 q0))])) _
        refine XS.ifYes X117.here hx rfl (pc0 := 160) (pc' := 172) rfl (hb hby at_160) rfl ((if0 _ _).trans (teq hc160_8).1) (by decide) (by decide) ?_
        show Steps p.tables e below (T117.setTop (mkF m 172 #[.val (.long q0), .second, .val (.int p1), .val (.int p2), .val (.long (q0 &&& (9223372036854775807 : Int64))), .second, .val (.ref b19_0), .val (.ref b33), .val (.ref b37), .val (.ref b50), .val (.ref b69_0), .val (.int (v0_k_99_s0)), .val (.int (v0_k_125_s0 q0)), .val (.int (v0_k_151_s0 q0))] [])) _
        refine XS.iconst X117.here hx rfl (hb hby at_172) ?_
        exact k)
      obtain ⟨fs, hr, hrun, hended, hE⟩ := X117.leaveW hS75 (by rw [e117]; exact (Nat.le_refl _)) (v := some (.int (0 : Int32))) (fun h => by rw [Bd.returns] at h; cases h)
      refine ⟨_, _, ?_, hrun, hended, _, _, rfl, ?_, hE.1, hE.2.1, hE.2.2.1, hE.2.2.2.mono (by decide) (by decide)⟩
      · exact pre128 _ (retN X117 hx (t := .boolean) Bd.returns (by simp) (hb hby at_173) hr)
      · exact ⟨by simp only [f0_k, if_neg hc155_7, if_pos hc160_8], N117, trivial⟩
    · have pre129 : ∀ t, Steps p.tables e below (T117.setTop (mkF m 165 #[.val (.long q0), .second, .val (.int p1), .val (.int p2), .val (.long (q0 &&& (9223372036854775807 : Int64))), .second, .val (.ref b19_0), .val (.ref b33), .val (.ref b37), .val (.ref b50), .val (.ref b69_0), .val (.int (v0_k_99_s0)), .val (.int (v0_k_125_s0 q0)), .val (.int (v0_k_151_s0 q0))] [(.int (v0_k_151_s0 q0))])) t → Steps p.tables e below (s₁.setTop (entryFrame m #[(.long q0), (.int p1), (.int p2)] maxLocals)) t := fun t k => pre127 t (by
        show Steps p.tables e below (T117.setTop (mkF m 160 #[.val (.long q0), .second, .val (.int p1), .val (.int p2), .val (.long (q0 &&& (9223372036854775807 : Int64))), .second, .val (.ref b19_0), .val (.ref b33), .val (.ref b37), .val (.ref b50), .val (.ref b69_0), .val (.int (v0_k_99_s0)), .val (.int (v0_k_125_s0 q0)), .val (.int (v0_k_151_s0 q0))] [(.int (v0_k_125_s0 q0))])) _
        refine XS.ifNo X117.here hx rfl (hb hby at_160) rfl ((if0 _ _).trans (feq hc160_8).1) ?_
        show Steps p.tables e below (T117.setTop (mkF m 163 #[.val (.long q0), .second, .val (.int p1), .val (.int p2), .val (.long (q0 &&& (9223372036854775807 : Int64))), .second, .val (.ref b19_0), .val (.ref b33), .val (.ref b37), .val (.ref b50), .val (.ref b69_0), .val (.int (v0_k_99_s0)), .val (.int (v0_k_125_s0 q0)), .val (.int (v0_k_151_s0 q0))] [])) _
        refine XS.iload X117.here hx rfl (hb hby at_163) rfl ?_
        exact k)
      by_cases hc165_9 : (v0_k_151_s0 q0) = (0 : Int32)
      · have pre130 : ∀ t, Steps p.tables e below (T117.setTop (mkF m 173 #[.val (.long q0), .second, .val (.int p1), .val (.int p2), .val (.long (q0 &&& (9223372036854775807 : Int64))), .second, .val (.ref b19_0), .val (.ref b33), .val (.ref b37), .val (.ref b50), .val (.ref b69_0), .val (.int (v0_k_99_s0)), .val (.int (v0_k_125_s0 q0)), .val (.int (v0_k_151_s0 q0))] [(.int (0 : Int32))])) t → Steps p.tables e below (s₁.setTop (entryFrame m #[(.long q0), (.int p1), (.int p2)] maxLocals)) t := fun t k => pre129 t (by
          show Steps p.tables e below (T117.setTop (mkF m 165 #[.val (.long q0), .second, .val (.int p1), .val (.int p2), .val (.long (q0 &&& (9223372036854775807 : Int64))), .second, .val (.ref b19_0), .val (.ref b33), .val (.ref b37), .val (.ref b50), .val (.ref b69_0), .val (.int (v0_k_99_s0)), .val (.int (v0_k_125_s0 q0)), .val (.int (v0_k_151_s0 q0))] [(.int (v0_k_151_s0 q0))])) _
          refine XS.ifYes X117.here hx rfl (pc0 := 165) (pc' := 172) rfl (hb hby at_165) rfl ((if0 _ _).trans (teq hc165_9).1) (by decide) (by decide) ?_
          show Steps p.tables e below (T117.setTop (mkF m 172 #[.val (.long q0), .second, .val (.int p1), .val (.int p2), .val (.long (q0 &&& (9223372036854775807 : Int64))), .second, .val (.ref b19_0), .val (.ref b33), .val (.ref b37), .val (.ref b50), .val (.ref b69_0), .val (.int (v0_k_99_s0)), .val (.int (v0_k_125_s0 q0)), .val (.int (v0_k_151_s0 q0))] [])) _
          refine XS.iconst X117.here hx rfl (hb hby at_172) ?_
          exact k)
        obtain ⟨fs, hr, hrun, hended, hE⟩ := X117.leaveW hS75 (by rw [e117]; exact (Nat.le_refl _)) (v := some (.int (0 : Int32))) (fun h => by rw [Bd.returns] at h; cases h)
        refine ⟨_, _, ?_, hrun, hended, _, _, rfl, ?_, hE.1, hE.2.1, hE.2.2.1, hE.2.2.2.mono (by decide) (by decide)⟩
        · exact pre130 _ (retN X117 hx (t := .boolean) Bd.returns (by simp) (hb hby at_173) hr)
        · exact ⟨by simp only [f0_k, if_neg hc155_7, if_neg hc160_8, if_pos hc165_9], N117, trivial⟩
      · have pre131 : ∀ t, Steps p.tables e below (T117.setTop (mkF m 173 #[.val (.long q0), .second, .val (.int p1), .val (.int p2), .val (.long (q0 &&& (9223372036854775807 : Int64))), .second, .val (.ref b19_0), .val (.ref b33), .val (.ref b37), .val (.ref b50), .val (.ref b69_0), .val (.int (v0_k_99_s0)), .val (.int (v0_k_125_s0 q0)), .val (.int (v0_k_151_s0 q0))] [(.int (1 : Int32))])) t → Steps p.tables e below (s₁.setTop (entryFrame m #[(.long q0), (.int p1), (.int p2)] maxLocals)) t := fun t k => pre129 t (by
          show Steps p.tables e below (T117.setTop (mkF m 165 #[.val (.long q0), .second, .val (.int p1), .val (.int p2), .val (.long (q0 &&& (9223372036854775807 : Int64))), .second, .val (.ref b19_0), .val (.ref b33), .val (.ref b37), .val (.ref b50), .val (.ref b69_0), .val (.int (v0_k_99_s0)), .val (.int (v0_k_125_s0 q0)), .val (.int (v0_k_151_s0 q0))] [(.int (v0_k_151_s0 q0))])) _
          refine XS.ifNo X117.here hx rfl (hb hby at_165) rfl ((if0 _ _).trans (feq hc165_9).1) ?_
          show Steps p.tables e below (T117.setTop (mkF m 168 #[.val (.long q0), .second, .val (.int p1), .val (.int p2), .val (.long (q0 &&& (9223372036854775807 : Int64))), .second, .val (.ref b19_0), .val (.ref b33), .val (.ref b37), .val (.ref b50), .val (.ref b69_0), .val (.int (v0_k_99_s0)), .val (.int (v0_k_125_s0 q0)), .val (.int (v0_k_151_s0 q0))] [])) _
          refine XS.iconst X117.here hx rfl (hb hby at_168) ?_
          show Steps p.tables e below (T117.setTop (mkF m 169 #[.val (.long q0), .second, .val (.int p1), .val (.int p2), .val (.long (q0 &&& (9223372036854775807 : Int64))), .second, .val (.ref b19_0), .val (.ref b33), .val (.ref b37), .val (.ref b50), .val (.ref b69_0), .val (.int (v0_k_99_s0)), .val (.int (v0_k_125_s0 q0)), .val (.int (v0_k_151_s0 q0))] [(.int (1 : Int32))])) _
          refine XS.goto X117.here hx rfl (pc0 := 169) (pc' := 173) rfl (hb hby at_169) (by decide) (by decide) ?_
          exact k)
        obtain ⟨fs, hr, hrun, hended, hE⟩ := X117.leaveW hS75 (by rw [e117]; exact (Nat.le_refl _)) (v := some (.int (1 : Int32))) (fun h => by rw [Bd.returns] at h; cases h)
        refine ⟨_, _, ?_, hrun, hended, _, _, rfl, ?_, hE.1, hE.2.1, hE.2.2.1, hE.2.2.2.mono (by decide) (by decide)⟩
        · exact pre131 _ (retN X117 hx (t := .boolean) Bd.returns (by simp) (hb hby at_173) hr)
        · exact ⟨by simp only [f0_k, if_neg hc155_7, if_neg hc160_8, if_neg hc165_9], N117, trivial⟩
theorem own_law_n (i0 : Int64) : f0_n i0 = 1 := by
  have q := own_q i0
  have e1 : v0_n_99_s0 = 1 := by decide
  have hne : ¬ ((i0 &&& (9223372036854775807 : Int64)) = (-1 : Int64)) := fun h => by rw [h] at q; exact q (by decide)
  have e2 : v0_n_125_s0 i0 = 1 := by
    show (if (if (i0 &&& (9223372036854775807 : Int64)) = (-1 : Int64) then (0 : Int32) else (1 : Int32)) = (0 : Int32) then (0 : Int32) else (if (i0 &&& (9223372036854775807 : Int64)) = (i0 &&& (9223372036854775807 : Int64)) then (1 : Int32) else (0 : Int32))) = 1
    rw [if_neg hne, if_neg (by decide), if_pos rfl]
  have e3 : v0_n_151_s0 i0 = 1 := e2
  unfold f0_n
  rw [e1, e2, e3]
  decide
theorem own_law_k (i0 : Int64) : f0_k i0 = 1 := by
  have q := own_q i0
  have e1 : v0_k_99_s0 = 1 := by decide
  have hne : ¬ ((i0 &&& (9223372036854775807 : Int64)) = (-1 : Int64)) := fun h => by rw [h] at q; exact q (by decide)
  have e2 : v0_k_125_s0 i0 = 1 := by
    show (if (if (i0 &&& (9223372036854775807 : Int64)) = (-1 : Int64) then (0 : Int32) else (1 : Int32)) = (0 : Int32) then (0 : Int32) else (if (i0 &&& (9223372036854775807 : Int64)) = (i0 &&& (9223372036854775807 : Int64)) then (1 : Int32) else (0 : Int32))) = 1
    rw [if_neg hne, if_neg (by decide), if_pos rfl]
  have e3 : v0_k_151_s0 i0 = 1 := e2
  unfold f0_k
  rw [e1, e2, e3]
  decide
set_option maxRecDepth 65536 in
theorem rm0 (l : Launch) (Z : State) (a0 : Array Value) (hw : ∀ d ∈ tables_1, d.before a0 Z = true) (ws : List Jvm.Cond) (q0 : Int64) (p1 : Int32) (p2 : Int32) (wcs : Int32) (wsf : Value) (h0 : Heap) (n0 : Nat) (Z0 : n0 ≤ h0.size) (I0 : Sta Z h0 "java/lang/String" "COMPACT_STRINGS" "Z" (.int wcs)) (I1 : Sta Z h0 "jdk/internal/util/Preconditions" "SIOOBE_FORMATTER" "Ljava/util/function/BiFunction;" wsf) (hcs : ¬ (wcs = (0 : Int32))) (hsf : wsf.isRef = true) :
    MetFree l x (head1 (Jvm.Cond.code x code maxLocals ret :: ws) room_1) (fun a U => a = #[(.long q0), (.int p1), (.int p2)] ∧ Z.Warmed39 U.vm ∧ U.heap = h0) (fun _ _ _ _ _ => True) (fun _ U o U' => ∃ v L, o = .returned v ∧ QL (some (.int (1 : Int32))) n0 v U'.heap L ∧ ReturnedEndW U o U' L room_1.cells room_1.slots) := by
  rcases Decidable.em ((p1 &&& (1 : Int32)) = (0 : Int32)) with hk | hk
  · have q := rm0_n l Z a0 hw ws q0 p1 p2 wcs wsf h0 n0 Z0 I0 I1 hk hcs hsf
    rw [own_law_n q0] at q
    exact q
  · have q := rm0_k l Z a0 hw ws q0 p1 p2 wcs wsf h0 n0 Z0 I0 I1 hk hcs hsf
    rw [own_law_k q0] at q
    exact q
set_option maxRecDepth 65536 in
set_option maxHeartbeats 40000000 in
theorem comes_1 {Post : Tables → Env → Array Value → State → Outcome → State → Prop} (hpost : ∀ tb e args s v u, (limb_1_1.after args s (.returned v) u = true ∧ limb_1_2.after args s (.returned v) u = true ∧ True) → ReturnedEndW s (.returned v) u (Jvm.fieldLocs frame_1_writes args s ++ Jvm.arrayLocs frame_1_arrays args s ++ Jvm.staticLocs frame_1_statics s) 24 1152 → Post tb e args s (.returned v) u) :
    ArmFor flags0 classFile x code maxLocals ret World_1 tables_1 room_1 Calls_1 rest_1 Pre_1 Post := by
  intro l hfl _ _ p e ha hc hk s m args below hf hA hF happ hP
  obtain ⟨hcalls, hrest, hpre⟩ := hP
  obtain ⟨-, -, -, hnamed, -, -, -, hat⟩ := (Spec.applies_iff hf).mp happ
  obtain ⟨hg, hn⟩ := and_e (Cond.before_iff.mp (show (Jvm.Cond.and given_1 narrow_1).before args s = true from hpre))
  obtain ⟨g1, g2⟩ := and_e hg
  obtain ⟨g3, g4⟩ := and_e g2
  obtain ⟨g5, g6⟩ := and_e g4
  obtain ⟨w0, w1, w2, rfl⟩ : ∃ w0 w1 w2 : Value, args = #[w0, w1, w2] := by
    have hs : args.size = 3 := by simpa [Cond.value, given_1] using g1
    obtain ⟨L⟩ := args
    match L, hs with
    | [w0, w1, w2], _ => exact ⟨w0, w1, w2, rfl⟩
  have hw := fun d (hd : d ∈ tables_1) => atoms_spec (ws := Jvm.Cond.code x code maxLocals ret :: tables_1) hat d (List.mem_cons_of_mem _ hd)
  obtain ⟨hsets, hown0⟩ := atoms_of _ (rest_1_c_eq ▸ (show rest_1_c.before _ s = true from hrest))
  have hr0 := Cond.before_iff.mp hown0
  obtain ⟨i0, ei0⟩ := isL_v g3
  obtain rfl : w0 = (.long i0) := Option.some.inj ei0
  obtain ⟨i1, ei1⟩ := is_v g5
  obtain rfl : w1 = (.int i1) := Option.some.inj ei1
  obtain ⟨i2, ei2⟩ := is_v g6
  obtain rfl : w2 = (.int i2) := Option.some.inj ei2
  have n5 := not_v (Cond.before_iff.mp (hsets _ (List.mem_of_getElem? (i := 2) rfl)))
  obtain ⟨wcs, e10⟩ := is_v (Cond.before_iff.mp (hsets _ (List.mem_of_getElem? (i := 1) rfl)))
  have S12 : Sta s s.heap "java/lang/String" "COMPACT_STRINGS" "Z" (.int wcs) := Sta.start e10 (Or.inl (hsets _ (List.mem_of_getElem? (i := 0) rfl)))
  obtain ⟨wsf, e14, r15⟩ := isR_v (Cond.before_iff.mp (hsets _ (List.mem_of_getElem? (i := 8) rfl)))
  have S16 : Sta s s.heap "jdk/internal/util/Preconditions" "SIOOBE_FORMATTER" "Ljava/util/function/BiFunction;" wsf := Sta.start e14 (Or.inl (hsets _ (List.mem_of_getElem? (i := 7) rfl)))
  have c17 : ¬ (wcs = (0 : Int32)) := gotF (Cond.eq_ints e10 (Term.int_eval (0))) n5
  obtain ⟨n, o, h1, h2, h3, _, L, rfl, ⟨rfl, N, -⟩, hq⟩ := rm0 l s _ hw tables_1 i0 i1 i2 wcs wsf s.heap s.heap.size (Nat.le_refl _) S12 S16 c17 r15 p e ha hc hk s m _ below hf ((Spec.applies_iff_loose hf).mp happ).1 ⟨rfl, State.Warmed39.refl s, rfl⟩ trivial
  refine ⟨n, _, h1, h2, h3, hpost _ _ _ _ _ _ ⟨Cond.after_iff.mpr rfl, Cond.after_iff.mpr (eq_i res_at (Term.int_eval (1)) rfl), trivial⟩ ⟨hq.1, hq.2.1, hq.2.2.1, (hq.2.2.2.sift fun y hy => Or.inr (N y hy)).mono (by decide) (by decide)⟩⟩
theorem main_1_1 : Claimed_1_1 := comes_1 fun _ _ _ _ _ _ h hF => ⟨h.1, hF⟩
theorem main_1_2 : Claimed_1_2 := comes_1 fun _ _ _ _ _ _ h hF => ⟨h.2.1, hF⟩
end Jvm.Pilot.@@N@@
namespace Jvm.Pilot.@@N@@
open Jvm Jvm.ClassFile Sem Op Lib Jvm.Free Jvm.Stand Jvm.Pilot.@@N@@.Jvm.D
/-! MADE BY PROGRAM (witnessworld.py) out of the Statement's table words and the real class files: 19 classes; the members and pool entries that the words name. The judged class is class 1, her method 1. -/
namespace start1
open Jvm.ClassFile
def u (s : String) : CpInfo := .utf8 (stringToUtf16 s)
/-- a pool by its gaps: so many unusable entries, then the entry; so many at the end -/
def gap : Nat → List CpInfo → List CpInfo
  | 0, r => r
  | n + 1, r => .unusable :: gap n r
def poolList (es : List (Nat × CpInfo)) (last : Nat) : List CpInfo := es.foldr (fun e r => gap e.1 (e.2 :: r)) (gap last [])
def pool (es : List (Nat × CpInfo)) (last : Nat) : Array CpInfo := ⟨poolList es last⟩
def fileOf (pool : Array CpInfo) (this : Nat) (attrs : Array Attribute := #[]) (ms : Array MethodInfo := #[]) (fl : Nat := 33) (sup : Nat := 0) (ifs : Array Nat := #[]) (fds : Array FieldInfo := #[]) : ClassFile where
  minorVersion := 0
  majorVersion := 65
  constantPool := pool
  accessFlags := fl
  thisClass := this
  superClass := sup
  interfaces := ifs
  fields := fds
  methods := ms
  attributes := attrs
def plain (name : String) (sup : Option ClassId) : Class where
  name := name
  kind := .ordinary
  loader := none
  accessFlags := 33
  super := sup
  interfaces := #[]
  cf := none
  fields := #[]
  methods := #[]
  instanceTypes := #[]
  staticTypes := #[]
  resolved := #[]
  callSites := []
  init := .initialized
  statics := none
  mirror := none

def pool0 : Array CpInfo := pool [(5, u "<init>"), (0, u "()V"), (1, .class_ 10), (1, u "java/lang/Object")] 113

def k0c0 : Code := { maxStack := 0, maxLocals := 1, code := object_method_1_code, exceptionTable := #[], attributes := #[] }
def k0m0 : Method := { name := "<init>", desc := "()V", sig := { parameters := [], returnType := none }, accessFlags := 1, code := some k0c0 }
/-- java/lang/Object -/
def k0 : Class := { plain "java/lang/Object" none with
  accessFlags := 33
  interfaces := #[]
  cf := some (fileOf pool0 8 #[] #[{ accessFlags := 1, nameIndex := 5, descriptorIndex := 6, attributes := #[] }] 33 0 #[] #[])
  fields := #[]
  methods := #[k0m0]
  instanceTypes := #[]
  staticTypes := #[]
  resolved := Array.replicate 124 none
  statics := none }

def pool1 : Array CpInfo := pool [(2, .class_ 4), (1, u "java/lang/Object"), (0, u "<init>"), (0, u "()V"), (2, .long 9223372036854775807), (1, .methodref 12 13), (0, .class_ 14), (0, .nameAndType 15 16), (0, u "java/lang/String"), (0, u "valueOf"), (0, u "(C)Ljava/lang/String;"), (0, .class_ 18), (0, u "com/example/oncemark/oncemark/OutgoingMessage"), (0, .methodref 17 20), (0, .nameAndType 5 21), (0, u "(Ljava/lang/String;[B)V"), (0, .methodref 17 23), (0, .nameAndType 5 24), (0, u "(JLjava/lang/String;[B)V"), (0, .methodref 17 26), (0, .nameAndType 27 28), (0, u "numbered"), (0, u "(J)Lcom/example/oncemark/oncemark/OutgoingMessage;"), (0, .methodref 17 30), (0, .nameAndType 31 32), (0, u "hasSequenceId"), (0, u "()Z"), (0, .methodref 17 34), (0, .nameAndType 35 36), (0, u "sequenceId"), (0, u "()J"), (0, .long 18446744073709551615), (1, .class_ 40), (0, u "com/example/oncemark/oncemark/OutgoingMessageHasSequenceIdPinLaw"), (2, u "law"), (0, u "(JII)Z")] 5

def k1m0 : Method := { name := "<init>", desc := "()V", sig := { parameters := [], returnType := none }, accessFlags := 2, code := none }
def k1c1 : Code := { maxStack := 6, maxLocals := 14, code := code, exceptionTable := #[], attributes := #[] }
def k1m1 : Method := { name := "law", desc := "(JII)Z", sig := { parameters := [.long, .int, .int], returnType := some .boolean }, accessFlags := 9, code := some k1c1 }
/-- com/example/oncemark/oncemark/OutgoingMessageHasSequenceIdPinLaw -/
def k1 : Class := { plain "com/example/oncemark/oncemark/OutgoingMessageHasSequenceIdPinLaw" (some 0) with
  accessFlags := 49
  interfaces := #[]
  cf := some (fileOf pool1 39 #[] #[{ accessFlags := 2, nameIndex := 5, descriptorIndex := 6, attributes := #[] }, { accessFlags := 9, nameIndex := 43, descriptorIndex := 44, attributes := #[] }] 49 2 #[] #[])
  fields := #[]
  methods := #[k1m0, k1m1]
  instanceTypes := #[]
  staticTypes := #[]
  resolved := Array.replicate 50 none
  statics := none }

def pool2 : Array CpInfo := pool [(1, .methodref 2 3), (0, .class_ 4), (0, .nameAndType 5 6), (0, u "com/example/oncemark/oncemark/OutgoingMessage"), (0, u "checkedSequenceId"), (0, u "(J)J"), (0, .methodref 2 8), (0, .nameAndType 9 10), (0, u "<init>"), (0, u "(Ljava/lang/String;[BJ)V"), (0, .long 18446744073709551615), (1, .methodref 14 15), (0, .class_ 16), (0, .nameAndType 9 17), (0, u "java/lang/Object"), (0, u "()V"), (0, .string 19), (0, u "payload"), (0, .methodref 21 22), (0, .class_ 23), (0, .nameAndType 24 25), (0, u "java/util/Objects"), (0, u "requireNonNull"), (0, u "(Ljava/lang/Object;Ljava/lang/String;)Ljava/lang/Object;"), (2, .integer 1048576), (4, .methodref 34 35), (0, .class_ 36), (0, .nameAndType 37 38), (0, u "com/example/oncemark/oncemark/LogFormat"), (0, u "utf8Length"), (0, u "(Ljava/lang/String;)I"), (7, .integer 65535), (1, u "key"), (0, .fieldref 2 50), (0, .nameAndType 51 52), (0, u "sequenceId"), (0, u "J"), (0, .fieldref 2 54), (0, .nameAndType 48 55), (0, u "Ljava/lang/String;"), (0, .fieldref 2 57), (0, .nameAndType 19 58), (0, u "[B"), (0, .methodref 2 60), (0, .nameAndType 9 61), (0, u "(JLjava/lang/String;[B)V"), (7, u "NO_SEQUENCE_ID"), (3, u "(Ljava/lang/String;[B)V"), (4, u "hasSequenceId"), (0, u "()Z"), (0, u "()J"), (2, u "numbered"), (0, u "(J)Lcom/example/oncemark/oncemark/OutgoingMessage;")] 19

def k2c0 : Code := { maxStack := 5, maxLocals := 5, code := prog_18_method_1_code, exceptionTable := #[], attributes := #[] }
def k2m0 : Method := { name := "<init>", desc := "(JLjava/lang/String;[B)V", sig := { parameters := [.long, (.object "java/lang/String"), (.array .byte)], returnType := none }, accessFlags := 1, code := some k2c0 }
def k2c1 : Code := { maxStack := 5, maxLocals := 3, code := prog_18_method_2_code, exceptionTable := #[], attributes := #[] }
def k2m1 : Method := { name := "<init>", desc := "(Ljava/lang/String;[B)V", sig := { parameters := [(.object "java/lang/String"), (.array .byte)], returnType := none }, accessFlags := 1, code := some k2c1 }
def k2c2 : Code := { maxStack := 3, maxLocals := 6, code := prog_18_method_3_code, exceptionTable := #[], attributes := #[] }
def k2m2 : Method := { name := "<init>", desc := "(Ljava/lang/String;[BJ)V", sig := { parameters := [(.object "java/lang/String"), (.array .byte), .long], returnType := none }, accessFlags := 2, code := some k2c2 }
def k2c3 : Code := { maxStack := 4, maxLocals := 1, code := prog_18_method_4_code, exceptionTable := #[], attributes := #[] }
def k2m3 : Method := { name := "hasSequenceId", desc := "()Z", sig := { parameters := [], returnType := some .boolean }, accessFlags := 1, code := some k2c3 }
def k2c4 : Code := { maxStack := 2, maxLocals := 1, code := prog_18_method_5_code, exceptionTable := #[], attributes := #[] }
def k2m4 : Method := { name := "sequenceId", desc := "()J", sig := { parameters := [], returnType := some .long }, accessFlags := 1, code := some k2c4 }
def k2c5 : Code := { maxStack := 6, maxLocals := 3, code := prog_18_method_8_code, exceptionTable := #[], attributes := #[] }
def k2m5 : Method := { name := "numbered", desc := "(J)Lcom/example/oncemark/oncemark/OutgoingMessage;", sig := { parameters := [.long], returnType := some (.object "com/example/oncemark/oncemark/OutgoingMessage") }, accessFlags := 0, code := some k2c5 }
def k2c6 : Code := { maxStack := 4, maxLocals := 2, code := prog_18_method_9_code, exceptionTable := #[], attributes := #[] }
def k2m6 : Method := { name := "checkedSequenceId", desc := "(J)J", sig := { parameters := [.long], returnType := some .long }, accessFlags := 10, code := some k2c6 }
/-- com/example/oncemark/oncemark/OutgoingMessage -/
def k2 : Class := { plain "com/example/oncemark/oncemark/OutgoingMessage" (some 0) with
  accessFlags := 49
  interfaces := #[]
  cf := some (fileOf pool2 2 #[] #[{ accessFlags := 1, nameIndex := 9, descriptorIndex := 61, attributes := #[] }, { accessFlags := 1, nameIndex := 9, descriptorIndex := 73, attributes := #[] }, { accessFlags := 2, nameIndex := 9, descriptorIndex := 10, attributes := #[] }, { accessFlags := 1, nameIndex := 78, descriptorIndex := 79, attributes := #[] }, { accessFlags := 1, nameIndex := 51, descriptorIndex := 80, attributes := #[] }, { accessFlags := 0, nameIndex := 83, descriptorIndex := 84, attributes := #[] }, { accessFlags := 10, nameIndex := 5, descriptorIndex := 6, attributes := #[] }] 49 14 #[] #[{ accessFlags := 25, nameIndex := 69, descriptorIndex := 52, attributes := #[] }, { accessFlags := 18, nameIndex := 51, descriptorIndex := 52, attributes := #[] }, { accessFlags := 18, nameIndex := 48, descriptorIndex := 55, attributes := #[] }, { accessFlags := 18, nameIndex := 19, descriptorIndex := 58, attributes := #[] }])
  fields := #[{ name := "NO_SEQUENCE_ID", type := .long, accessFlags := 25, slot := 0, constantValue := 0 }, { name := "sequenceId", type := .long, accessFlags := 18, slot := 0, constantValue := 0 }, { name := "key", type := (.object "java/lang/String"), accessFlags := 18, slot := 1, constantValue := 0 }, { name := "payload", type := (.array .byte), accessFlags := 18, slot := 2, constantValue := 0 }]
  methods := #[k2m0, k2m1, k2m2, k2m3, k2m4, k2m5, k2m6]
  instanceTypes := #[.long, (.object "java/lang/String"), (.array .byte)]
  staticTypes := #[.long]
  resolved := Array.replicate 104 none
  statics := none }

def pool3 : Array CpInfo := pool [(1, .class_ 2), (0, u "java/io/Serializable"), (0, .class_ 4), (0, u "java/lang/Object")] 2

/-- java/io/Serializable -/
def k3 : Class := { plain "java/io/Serializable" (some 0) with
  accessFlags := 1537
  interfaces := #[]
  cf := some (fileOf pool3 1 #[] #[] 1537 3 #[] #[])
  fields := #[]
  methods := #[]
  instanceTypes := #[]
  staticTypes := #[]
  resolved := Array.replicate 7 none
  statics := none }

def pool4 : Array CpInfo := pool [(1, .class_ 2), (0, u "java/lang/Comparable"), (0, .class_ 4), (0, u "java/lang/Object")] 7

/-- java/lang/Comparable -/
def k4 : Class := { plain "java/lang/Comparable" (some 0) with
  accessFlags := 1537
  interfaces := #[]
  cf := some (fileOf pool4 1 #[] #[] 1537 3 #[] #[])
  fields := #[]
  methods := #[]
  instanceTypes := #[]
  staticTypes := #[]
  resolved := Array.replicate 12 none
  statics := none }

def pool5 : Array CpInfo := pool [(2, .class_ 4), (1, u "java/lang/CharSequence"), (42, .class_ 48), (0, u "java/lang/CharSequence$1CodePointIterator"), (10, .class_ 60), (0, u "java/lang/CharSequence$1CharIterator"), (5, .class_ 67), (0, u "java/lang/Object")] 63

/-- java/lang/CharSequence -/
def k5 : Class := { plain "java/lang/CharSequence" (some 0) with
  accessFlags := 1537
  interfaces := #[]
  cf := some (fileOf pool5 2 #[.nestMembers #[47, 59]] #[] 1537 66 #[] #[])
  fields := #[]
  methods := #[]
  instanceTypes := #[]
  staticTypes := #[]
  resolved := Array.replicate 131 none
  statics := none }

def pool6 : Array CpInfo := pool [(1, .class_ 2), (0, u "java/lang/constant/Constable"), (0, .class_ 4), (0, u "java/lang/Object")] 6

/-- java/lang/constant/Constable -/
def k6 : Class := { plain "java/lang/constant/Constable" (some 0) with
  accessFlags := 1537
  interfaces := #[]
  cf := some (fileOf pool6 1 #[] #[] 1537 3 #[] #[])
  fields := #[]
  methods := #[]
  instanceTypes := #[]
  staticTypes := #[]
  resolved := Array.replicate 11 none
  statics := none }

def pool7 : Array CpInfo := pool [(1, .class_ 2), (0, u "java/lang/constant/ConstantDesc"), (0, .class_ 4), (0, u "java/lang/Object")] 32

/-- java/lang/constant/ConstantDesc -/
def k7 : Class := { plain "java/lang/constant/ConstantDesc" (some 0) with
  accessFlags := 1537
  interfaces := #[]
  cf := some (fileOf pool7 1 #[] #[] 1537 3 #[] #[])
  fields := #[]
  methods := #[]
  instanceTypes := #[]
  staticTypes := #[]
  resolved := Array.replicate 37 none
  statics := none }

def pool8 : Array CpInfo := pool [(1, .methodref 2 3), (0, .class_ 4), (0, .nameAndType 5 6), (0, u "java/lang/Object"), (0, u "<init>"), (0, u "()V"), (2, .fieldref 10 11), (0, .class_ 12), (0, .nameAndType 13 14), (0, u "java/lang/String"), (0, u "value"), (0, u "[B"), (0, .fieldref 10 16), (0, .nameAndType 17 18), (0, u "coder"), (0, u "B"), (2, u "hash"), (0, u "I"), (2, u "hashIsZero"), (0, u "Z"), (11, .fieldref 10 39), (0, .nameAndType 40 26), (0, u "COMPACT_STRINGS"), (12, u "toBytes"), (53, .class_ 109), (1, u "java/lang/StringLatin1"), (32, u "()Z"), (66, .methodref 10 210), (0, .nameAndType 5 211), (0, u "([BB)V"), (122, u "()I"), (0, .methodref 10 336), (0, .nameAndType 17 337), (0, u "()B"), (25, u "([BI)C"), (5, u "(C)Z"), (21, u "(II)V"), (35, u "(I)C"), (64, .methodref 10 493), (0, .nameAndType 494 142), (0, u "isLatin1"), (0, .methodref 107 496), (0, .nameAndType 497 363), (0, u "charAt"), (3, u "checkIndex"), (5, u "length"), (67, .class_ 576), (0, u "java/lang/CharSequence"), (22, u "CASE_INSENSITIVE_ORDER"), (0, u "Ljava/util/Comparator;"), (181, u "valueOf"), (0, u "(C)Ljava/lang/String;"), (231, .methodref 107 1016), (0, .nameAndType 1017 369), (0, u "canEncode"), (0, .methodref 107 1019), (0, .nameAndType 53 1020), (0, u "(C)[B"), (32, .fieldref 1054 1055), (0, .class_ 1056), (0, .nameAndType 1057 1058), (0, u "jdk/internal/util/Preconditions"), (0, u "SIOOBE_FORMATTER"), (0, u "Ljava/util/function/BiFunction;"), (0, .methodref 1054 1060), (0, .nameAndType 501 1061), (0, u "(IILjava/util/function/BiFunction;)I"), (39, u "serialPersistentFields"), (0, u "[Ljava/io/ObjectStreamField;"), (0, .class_ 1104), (0, u "java/lang/String$CaseInsensitiveComparator"), (1, .class_ 1107), (0, u "java/io/Serializable"), (0, .class_ 1109), (0, u "java/lang/Comparable"), (0, .class_ 1111), (0, u "java/lang/constant/Constable"), (0, .class_ 1113), (0, u "java/lang/constant/ConstantDesc"), (2, u "serialVersionUID"), (0, u "J"), (3, u "REPL"), (0, u "C"), (2, u "LATIN1"), (1, u "UTF16")] 323

def k8m0 : Method := { name := "<init>", desc := "()V", sig := { parameters := [], returnType := none }, accessFlags := 1, code := none }
def k8c1 : Code := { maxStack := 2, maxLocals := 1, code := jdk_42_method_54_code, exceptionTable := #[], attributes := #[] }
def k8m1 : Method := { name := "length", desc := "()I", sig := { parameters := [], returnType := some .int }, accessFlags := 1, code := some k8c1 }
def k8c2 : Code := { maxStack := 2, maxLocals := 2, code := jdk_42_method_56_code, exceptionTable := #[], attributes := #[] }
def k8m2 : Method := { name := "charAt", desc := "(I)C", sig := { parameters := [.int], returnType := some .char }, accessFlags := 1, code := some k8c2 }
def k8c3 : Code := { maxStack := 4, maxLocals := 1, code := jdk_42_method_139_code, exceptionTable := #[], attributes := #[] }
def k8m3 : Method := { name := "valueOf", desc := "(C)Ljava/lang/String;", sig := { parameters := [.char], returnType := some (.object "java/lang/String") }, accessFlags := 9, code := some k8c3 }
def k8c4 : Code := { maxStack := 2, maxLocals := 3, code := jdk_42_method_151_code, exceptionTable := #[], attributes := #[] }
def k8m4 : Method := { name := "<init>", desc := "([BB)V", sig := { parameters := [(.array .byte), .byte], returnType := none }, accessFlags := 0, code := some k8c4 }
def k8c5 : Code := { maxStack := 1, maxLocals := 1, code := jdk_42_method_152_code, exceptionTable := #[], attributes := #[] }
def k8m5 : Method := { name := "coder", desc := "()B", sig := { parameters := [], returnType := some .byte }, accessFlags := 0, code := some k8c5 }
def k8c6 : Code := { maxStack := 1, maxLocals := 1, code := jdk_42_method_154_code, exceptionTable := #[], attributes := #[] }
def k8m6 : Method := { name := "isLatin1", desc := "()Z", sig := { parameters := [], returnType := some .boolean }, accessFlags := 0, code := some k8c6 }
def k8c7 : Code := { maxStack := 3, maxLocals := 2, code := jdk_42_method_155_code, exceptionTable := #[], attributes := #[] }
def k8m7 : Method := { name := "checkIndex", desc := "(II)V", sig := { parameters := [.int, .int], returnType := none }, accessFlags := 8, code := some k8c7 }
/-- java/lang/String -/
def k8 : Class := { plain "java/lang/String" (some 0) with
  accessFlags := 49
  interfaces := #[3, 4, 5, 6, 7]
  cf := some (fileOf pool8 10 #[.nestMembers #[1103]] #[{ accessFlags := 1, nameIndex := 5, descriptorIndex := 6, attributes := #[] }, { accessFlags := 1, nameIndex := 507, descriptorIndex := 334, attributes := #[] }, { accessFlags := 1, nameIndex := 497, descriptorIndex := 427, attributes := #[] }, { accessFlags := 9, nameIndex := 782, descriptorIndex := 783, attributes := #[] }, { accessFlags := 0, nameIndex := 5, descriptorIndex := 211, attributes := #[] }, { accessFlags := 0, nameIndex := 17, descriptorIndex := 337, attributes := #[] }, { accessFlags := 0, nameIndex := 494, descriptorIndex := 142, attributes := #[] }, { accessFlags := 8, nameIndex := 501, descriptorIndex := 391, attributes := #[] }] 49 2 #[1106, 1108, 575, 1110, 1112] #[{ accessFlags := 18, nameIndex := 13, descriptorIndex := 14, attributes := #[] }, { accessFlags := 18, nameIndex := 17, descriptorIndex := 18, attributes := #[] }, { accessFlags := 2, nameIndex := 21, descriptorIndex := 22, attributes := #[] }, { accessFlags := 2, nameIndex := 25, descriptorIndex := 26, attributes := #[] }, { accessFlags := 26, nameIndex := 1116, descriptorIndex := 1117, attributes := #[] }, { accessFlags := 24, nameIndex := 40, descriptorIndex := 26, attributes := #[] }, { accessFlags := 26, nameIndex := 1101, descriptorIndex := 1102, attributes := #[] }, { accessFlags := 26, nameIndex := 1121, descriptorIndex := 1122, attributes := #[] }, { accessFlags := 25, nameIndex := 599, descriptorIndex := 600, attributes := #[] }, { accessFlags := 24, nameIndex := 1125, descriptorIndex := 18, attributes := #[] }, { accessFlags := 24, nameIndex := 1127, descriptorIndex := 18, attributes := #[] }])
  fields := #[{ name := "value", type := (.array .byte), accessFlags := 18, slot := 0, constantValue := 0 }, { name := "coder", type := .byte, accessFlags := 18, slot := 1, constantValue := 0 }, { name := "hash", type := .int, accessFlags := 2, slot := 2, constantValue := 0 }, { name := "hashIsZero", type := .boolean, accessFlags := 2, slot := 3, constantValue := 0 }, { name := "serialVersionUID", type := .long, accessFlags := 26, slot := 0, constantValue := 0 }, { name := "COMPACT_STRINGS", type := .boolean, accessFlags := 24, slot := 1, constantValue := 0 }, { name := "serialPersistentFields", type := (.array (.object "java/io/ObjectStreamField")), accessFlags := 26, slot := 2, constantValue := 0 }, { name := "REPL", type := .char, accessFlags := 26, slot := 3, constantValue := 0 }, { name := "CASE_INSENSITIVE_ORDER", type := (.object "java/util/Comparator"), accessFlags := 25, slot := 4, constantValue := 0 }, { name := "LATIN1", type := .byte, accessFlags := 24, slot := 5, constantValue := 0 }, { name := "UTF16", type := .byte, accessFlags := 24, slot := 6, constantValue := 0 }]
  methods := #[k8m0, k8m1, k8m2, k8m3, k8m4, k8m5, k8m6, k8m7]
  instanceTypes := #[(.array .byte), .byte, .int, .boolean]
  staticTypes := #[.long, .boolean, (.array (.object "java/io/ObjectStreamField")), .char, (.object "java/util/Comparator"), .byte, .byte]
  resolved := Array.replicate 1451 none
  statics := some 0 }

def pool9 : Array CpInfo := pool [(2, .class_ 4), (1, u "java/lang/Object"), (0, u "<init>"), (0, u "()V"), (35, .class_ 44), (1, u "java/util/Objects"), (0, u "requireNonNull"), (48, u "(Ljava/lang/Object;Ljava/lang/String;)Ljava/lang/Object;")] 89

def k9m0 : Method := { name := "<init>", desc := "()V", sig := { parameters := [], returnType := none }, accessFlags := 2, code := none }
def k9c1 : Code := { maxStack := 3, maxLocals := 2, code := jdk_31_method_11_code, exceptionTable := #[], attributes := #[] }
def k9m1 : Method := { name := "requireNonNull", desc := "(Ljava/lang/Object;Ljava/lang/String;)Ljava/lang/Object;", sig := { parameters := [(.object "java/lang/Object"), (.object "java/lang/String")], returnType := some (.object "java/lang/Object") }, accessFlags := 9, code := some k9c1 }
/-- java/util/Objects -/
def k9 : Class := { plain "java/util/Objects" (some 0) with
  accessFlags := 49
  interfaces := #[]
  cf := some (fileOf pool9 42 #[] #[{ accessFlags := 2, nameIndex := 5, descriptorIndex := 6, attributes := #[] }, { accessFlags := 9, nameIndex := 45, descriptorIndex := 94, attributes := #[] }] 49 2 #[] #[])
  fields := #[]
  methods := #[k9m0, k9m1]
  instanceTypes := #[]
  staticTypes := #[]
  resolved := Array.replicate 184 none
  statics := none }

def pool10 : Array CpInfo := pool [(1, .class_ 2), (0, u "java/lang/String"), (1, .class_ 6), (1, u "java/lang/Object"), (0, u "<init>"), (0, u "()V"), (0, .methodref 1 10), (0, .nameAndType 11 12), (0, u "checkIndex"), (0, u "(II)V"), (1, .class_ 16), (1, u "java/lang/StringLatin1"), (36, u "([BI)C"), (36, u "canEncode"), (14, u "(C)Z"), (15, u "$assertionsDisabled"), (0, u "Z"), (98, .class_ 223), (1, u "java/lang/StringLatin1$LinesSpliterator"), (28, u "charAt"), (127, u "toBytes"), (1, u "(C)[B"), (7, .class_ 391), (0, u "java/lang/StringLatin1$CharsSpliterator")] 3

def k10m0 : Method := { name := "<init>", desc := "()V", sig := { parameters := [], returnType := none }, accessFlags := 0, code := none }
def k10c1 : Code := { maxStack := 2, maxLocals := 2, code := jdk_43_method_2_code, exceptionTable := #[], attributes := #[] }
def k10m1 : Method := { name := "charAt", desc := "([BI)C", sig := { parameters := [(.array .byte), .int], returnType := some .char }, accessFlags := 9, code := some k10c1 }
def k10c2 : Code := { maxStack := 2, maxLocals := 1, code := jdk_43_method_3_code, exceptionTable := #[], attributes := #[] }
def k10m2 : Method := { name := "canEncode", desc := "(C)Z", sig := { parameters := [.char], returnType := some .boolean }, accessFlags := 9, code := some k10c2 }
def k10c3 : Code := { maxStack := 4, maxLocals := 1, code := jdk_43_method_46_code, exceptionTable := #[], attributes := #[] }
def k10m3 : Method := { name := "toBytes", desc := "(C)[B", sig := { parameters := [.char], returnType := some (.array .byte) }, accessFlags := 9, code := some k10c3 }
/-- java/lang/StringLatin1 -/
def k10 : Class := { plain "java/lang/StringLatin1" (some 0) with
  accessFlags := 48
  interfaces := #[]
  cf := some (fileOf pool10 14 #[.nestMembers #[390, 221]] #[{ accessFlags := 0, nameIndex := 7, descriptorIndex := 8, attributes := #[] }, { accessFlags := 9, nameIndex := 252, descriptorIndex := 53, attributes := #[] }, { accessFlags := 9, nameIndex := 90, descriptorIndex := 105, attributes := #[] }, { accessFlags := 9, nameIndex := 380, descriptorIndex := 382, attributes := #[] }] 48 4 #[] #[{ accessFlags := 4120, nameIndex := 121, descriptorIndex := 122, attributes := #[] }])
  fields := #[{ name := "$assertionsDisabled", type := .boolean, accessFlags := 4120, slot := 0, constantValue := 0 }]
  methods := #[k10m0, k10m1, k10m2, k10m3]
  instanceTypes := #[]
  staticTypes := #[.boolean]
  resolved := Array.replicate 395 none
  statics := none }

def pool11 : Array CpInfo := pool [(1, .class_ 2), (0, u "com/example/oncemark/oncemark/LogFormat"), (3, .class_ 8), (1, u "java/lang/Object"), (0, u "<init>"), (0, u "()V"), (9, u "()I"), (54, .class_ 76), (0, u "java/lang/String"), (20, .methodref 75 98), (0, .nameAndType 99 20), (0, u "length"), (0, .methodref 75 101), (0, .nameAndType 102 103), (0, u "charAt"), (0, u "(I)C"), (25, u "HEADER"), (0, u "[B"), (0, u "ENTRY_HEADER_BYTES"), (0, u "I"), (2, u "ID_END_BYTES"), (1, u "BODY_CHECKSUM_AT"), (1, u "HEADER_CHECKSUM_AT"), (1, u "FIXED_BODY_BYTES"), (1, u "NO_KEY"), (1, u "MIN_BODY_BYTES"), (1, u "MAX_BODY_BYTES"), (13, u "utf8Length"), (0, u "(Ljava/lang/String;)I")] 3

def k11m0 : Method := { name := "<init>", desc := "()V", sig := { parameters := [], returnType := none }, accessFlags := 2, code := none }
def k11c1 : Code := { maxStack := 3, maxLocals := 4, code := prog_13_method_8_code, exceptionTable := #[], attributes := #[] }
def k11m1 : Method := { name := "utf8Length", desc := "(Ljava/lang/String;)I", sig := { parameters := [(.object "java/lang/String")], returnType := some .int }, accessFlags := 8, code := some k11c1 }
/-- com/example/oncemark/oncemark/LogFormat -/
def k11 : Class := { plain "com/example/oncemark/oncemark/LogFormat" (some 0) with
  accessFlags := 48
  interfaces := #[]
  cf := some (fileOf pool11 1 #[] #[{ accessFlags := 2, nameIndex := 9, descriptorIndex := 10, attributes := #[] }, { accessFlags := 8, nameIndex := 161, descriptorIndex := 162, attributes := #[] }] 48 6 #[] #[{ accessFlags := 24, nameIndex := 129, descriptorIndex := 130, attributes := #[] }, { accessFlags := 24, nameIndex := 131, descriptorIndex := 132, attributes := #[] }, { accessFlags := 24, nameIndex := 135, descriptorIndex := 132, attributes := #[] }, { accessFlags := 26, nameIndex := 137, descriptorIndex := 132, attributes := #[] }, { accessFlags := 26, nameIndex := 139, descriptorIndex := 132, attributes := #[] }, { accessFlags := 26, nameIndex := 141, descriptorIndex := 132, attributes := #[] }, { accessFlags := 26, nameIndex := 143, descriptorIndex := 132, attributes := #[] }, { accessFlags := 26, nameIndex := 145, descriptorIndex := 132, attributes := #[] }, { accessFlags := 24, nameIndex := 147, descriptorIndex := 132, attributes := #[] }])
  fields := #[{ name := "HEADER", type := (.array .byte), accessFlags := 24, slot := 0, constantValue := 0 }, { name := "ENTRY_HEADER_BYTES", type := .int, accessFlags := 24, slot := 1, constantValue := 0 }, { name := "ID_END_BYTES", type := .int, accessFlags := 24, slot := 2, constantValue := 0 }, { name := "BODY_CHECKSUM_AT", type := .int, accessFlags := 26, slot := 3, constantValue := 0 }, { name := "HEADER_CHECKSUM_AT", type := .int, accessFlags := 26, slot := 4, constantValue := 0 }, { name := "FIXED_BODY_BYTES", type := .int, accessFlags := 26, slot := 5, constantValue := 0 }, { name := "NO_KEY", type := .int, accessFlags := 26, slot := 6, constantValue := 0 }, { name := "MIN_BODY_BYTES", type := .int, accessFlags := 26, slot := 7, constantValue := 0 }, { name := "MAX_BODY_BYTES", type := .int, accessFlags := 24, slot := 8, constantValue := 0 }]
  methods := #[k11m0, k11m1]
  instanceTypes := #[]
  staticTypes := #[(.array .byte), .int, .int, .int, .int, .int, .int, .int, .int]
  resolved := Array.replicate 166 none
  statics := none }

def pool12 : Array CpInfo := pool [(2, .class_ 4), (1, u "java/lang/Object"), (0, u "<init>"), (0, u "()V"), (17, .class_ 26), (1, u "jdk/internal/util/Preconditions"), (6, u "checkIndex"), (21, .class_ 56), (0, u "jdk/internal/util/Preconditions$4"), (57, .class_ 115), (0, u "jdk/internal/util/Preconditions$1"), (7, u "SIOOBE_FORMATTER"), (0, u "Ljava/util/function/BiFunction;"), (0, .class_ 126), (0, u "jdk/internal/util/Preconditions$2"), (3, u "AIOOBE_FORMATTER"), (0, .class_ 132), (0, u "jdk/internal/util/Preconditions$3"), (3, u "IOOBE_FORMATTER"), (41, u "(IILjava/util/function/BiFunction;)I")] 15

def k12m0 : Method := { name := "<init>", desc := "()V", sig := { parameters := [], returnType := none }, accessFlags := 1, code := none }
def k12c1 : Code := { maxStack := 3, maxLocals := 3, code := jdk_41_method_11_code, exceptionTable := #[], attributes := #[] }
def k12m1 : Method := { name := "checkIndex", desc := "(IILjava/util/function/BiFunction;)I", sig := { parameters := [.int, .int, (.object "java/util/function/BiFunction")], returnType := some .int }, accessFlags := 9, code := some k12c1 }
/-- jdk/internal/util/Preconditions -/
def k12 : Class := { plain "jdk/internal/util/Preconditions" (some 0) with
  accessFlags := 33
  interfaces := #[]
  cf := some (fileOf pool12 24 #[.nestMembers #[55, 131, 125, 114]] #[{ accessFlags := 1, nameIndex := 5, descriptorIndex := 6, attributes := #[] }, { accessFlags := 9, nameIndex := 33, descriptorIndex := 178, attributes := #[] }] 33 2 #[] #[{ accessFlags := 25, nameIndex := 123, descriptorIndex := 124, attributes := #[] }, { accessFlags := 25, nameIndex := 130, descriptorIndex := 124, attributes := #[] }, { accessFlags := 25, nameIndex := 136, descriptorIndex := 124, attributes := #[] }])
  fields := #[{ name := "SIOOBE_FORMATTER", type := (.object "java/util/function/BiFunction"), accessFlags := 25, slot := 0, constantValue := 0 }, { name := "AIOOBE_FORMATTER", type := (.object "java/util/function/BiFunction"), accessFlags := 25, slot := 1, constantValue := 0 }, { name := "IOOBE_FORMATTER", type := (.object "java/util/function/BiFunction"), accessFlags := 25, slot := 2, constantValue := 0 }]
  methods := #[k12m0, k12m1]
  instanceTypes := #[]
  staticTypes := #[(.object "java/util/function/BiFunction"), (.object "java/util/function/BiFunction"), (.object "java/util/function/BiFunction")]
  resolved := Array.replicate 194 none
  statics := some 1 }

def pool13 : Array CpInfo := pool [(9, u "<init>"), (6, .class_ 18), (1, u "java/lang/Object"), (0, u "()V"), (1, .class_ 23), (1, u "jdk/internal/util/ArraysSupport"), (0, u "LOG2_ARRAY_LONG_INDEX_SCALE"), (0, u "I"), (2, u "U"), (0, u "Ljdk/internal/misc/Unsafe;"), (8, u "BIG_ENDIAN"), (0, u "Z"), (8, u "LOG2_BYTE_BIT_SIZE"), (4, u "LOG2_ARRAY_INT_INDEX_SCALE"), (54, u "JLA"), (0, u "Ljdk/internal/access/JavaLangAccess;"), (11, u "LOG2_ARRAY_BOOLEAN_INDEX_SCALE"), (9, u "LOG2_ARRAY_BYTE_INDEX_SCALE"), (5, u "LOG2_ARRAY_CHAR_INDEX_SCALE"), (5, u "LOG2_ARRAY_SHORT_INDEX_SCALE"), (18, u "LOG2_ARRAY_FLOAT_INDEX_SCALE"), (24, u "LOG2_ARRAY_DOUBLE_INDEX_SCALE"), (89, u "T_BOOLEAN"), (2, u "T_CHAR"), (1, u "T_FLOAT"), (1, u "T_DOUBLE"), (1, u "T_BYTE"), (1, u "T_SHORT"), (1, u "T_INT"), (1, u "T_LONG"), (1, u "SOFT_MAX_ARRAY_LENGTH")] 83

def k13m0 : Method := { name := "<init>", desc := "()V", sig := { parameters := [], returnType := none }, accessFlags := 2, code := none }
/-- jdk/internal/util/ArraysSupport -/
def k13 : Class := { plain "jdk/internal/util/ArraysSupport" (some 0) with
  accessFlags := 33
  interfaces := #[]
  cf := some (fileOf pool13 21 #[] #[{ accessFlags := 2, nameIndex := 9, descriptorIndex := 19, attributes := #[] }] 33 16 #[] #[{ accessFlags := 24, nameIndex := 28, descriptorIndex := 29, attributes := #[] }, { accessFlags := 26, nameIndex := 38, descriptorIndex := 39, attributes := #[] }, { accessFlags := 25, nameIndex := 121, descriptorIndex := 25, attributes := #[] }, { accessFlags := 25, nameIndex := 131, descriptorIndex := 25, attributes := #[] }, { accessFlags := 25, nameIndex := 137, descriptorIndex := 25, attributes := #[] }, { accessFlags := 25, nameIndex := 143, descriptorIndex := 25, attributes := #[] }, { accessFlags := 25, nameIndex := 53, descriptorIndex := 25, attributes := #[] }, { accessFlags := 25, nameIndex := 24, descriptorIndex := 25, attributes := #[] }, { accessFlags := 25, nameIndex := 162, descriptorIndex := 25, attributes := #[] }, { accessFlags := 25, nameIndex := 187, descriptorIndex := 25, attributes := #[] }, { accessFlags := 26, nameIndex := 48, descriptorIndex := 25, attributes := #[] }, { accessFlags := 25, nameIndex := 277, descriptorIndex := 25, attributes := #[] }, { accessFlags := 25, nameIndex := 280, descriptorIndex := 25, attributes := #[] }, { accessFlags := 25, nameIndex := 282, descriptorIndex := 25, attributes := #[] }, { accessFlags := 25, nameIndex := 284, descriptorIndex := 25, attributes := #[] }, { accessFlags := 25, nameIndex := 286, descriptorIndex := 25, attributes := #[] }, { accessFlags := 25, nameIndex := 288, descriptorIndex := 25, attributes := #[] }, { accessFlags := 25, nameIndex := 290, descriptorIndex := 25, attributes := #[] }, { accessFlags := 25, nameIndex := 292, descriptorIndex := 25, attributes := #[] }, { accessFlags := 26, nameIndex := 108, descriptorIndex := 109, attributes := #[] }, { accessFlags := 25, nameIndex := 294, descriptorIndex := 25, attributes := #[] }])
  fields := #[{ name := "U", type := (.object "jdk/internal/misc/Unsafe"), accessFlags := 24, slot := 0, constantValue := 0 }, { name := "BIG_ENDIAN", type := .boolean, accessFlags := 26, slot := 1, constantValue := 0 }, { name := "LOG2_ARRAY_BOOLEAN_INDEX_SCALE", type := .int, accessFlags := 25, slot := 2, constantValue := 0 }, { name := "LOG2_ARRAY_BYTE_INDEX_SCALE", type := .int, accessFlags := 25, slot := 3, constantValue := 0 }, { name := "LOG2_ARRAY_CHAR_INDEX_SCALE", type := .int, accessFlags := 25, slot := 4, constantValue := 0 }, { name := "LOG2_ARRAY_SHORT_INDEX_SCALE", type := .int, accessFlags := 25, slot := 5, constantValue := 0 }, { name := "LOG2_ARRAY_INT_INDEX_SCALE", type := .int, accessFlags := 25, slot := 6, constantValue := 0 }, { name := "LOG2_ARRAY_LONG_INDEX_SCALE", type := .int, accessFlags := 25, slot := 7, constantValue := 0 }, { name := "LOG2_ARRAY_FLOAT_INDEX_SCALE", type := .int, accessFlags := 25, slot := 8, constantValue := 0 }, { name := "LOG2_ARRAY_DOUBLE_INDEX_SCALE", type := .int, accessFlags := 25, slot := 9, constantValue := 0 }, { name := "LOG2_BYTE_BIT_SIZE", type := .int, accessFlags := 26, slot := 10, constantValue := 0 }, { name := "T_BOOLEAN", type := .int, accessFlags := 25, slot := 11, constantValue := 0 }, { name := "T_CHAR", type := .int, accessFlags := 25, slot := 12, constantValue := 0 }, { name := "T_FLOAT", type := .int, accessFlags := 25, slot := 13, constantValue := 0 }, { name := "T_DOUBLE", type := .int, accessFlags := 25, slot := 14, constantValue := 0 }, { name := "T_BYTE", type := .int, accessFlags := 25, slot := 15, constantValue := 0 }, { name := "T_SHORT", type := .int, accessFlags := 25, slot := 16, constantValue := 0 }, { name := "T_INT", type := .int, accessFlags := 25, slot := 17, constantValue := 0 }, { name := "T_LONG", type := .int, accessFlags := 25, slot := 18, constantValue := 0 }, { name := "JLA", type := (.object "jdk/internal/access/JavaLangAccess"), accessFlags := 26, slot := 19, constantValue := 0 }, { name := "SOFT_MAX_ARRAY_LENGTH", type := .int, accessFlags := 25, slot := 20, constantValue := 0 }]
  methods := #[k13m0]
  instanceTypes := #[]
  staticTypes := #[(.object "jdk/internal/misc/Unsafe"), .boolean, .int, .int, .int, .int, .int, .int, .int, .int, .int, .int, .int, .int, .int, .int, .int, .int, .int, (.object "jdk/internal/access/JavaLangAccess"), .int]
  resolved := Array.replicate 378 none
  statics := none }

def pool14 : Array CpInfo := pool [(1, u "java/lang/Cloneable"), (0, .class_ 1), (0, u "java/lang/Object"), (0, .class_ 3)] 3

/-- java/lang/Cloneable -/
def k14 : Class := { plain "java/lang/Cloneable" (some 0) with
  accessFlags := 1537
  interfaces := #[]
  cf := some (fileOf pool14 2 #[] #[] 1537 4 #[] #[])
  fields := #[]
  methods := #[]
  instanceTypes := #[]
  staticTypes := #[]
  resolved := Array.replicate 8 none
  statics := none }

/-- the primitive byte -/
def k15 : Class := { plain "byte" none with kind := .primitive 'B', accessFlags := 0x411 }
/-- [B -/
def k16 : Class := { plain "[B" (some 0) with kind := .array 15 .byte, interfaces := #[14, 3], accessFlags := 1041 }

/-- the primitive int -/
def k17 : Class := { plain "int" none with kind := .primitive 'I', accessFlags := 0x411 }
/-- [I -/
def k18 : Class := { plain "[I" (some 0) with kind := .array 17 .int, interfaces := #[14, 3], accessFlags := 1041 }

def heap : Heap := #[{ cls := 8, slots := #[.long 0, .int 1, .null, .int 0, .null, .int 0, .int 0], vm := .statics 8 },
  { cls := 12, slots := #[.null, .null, .null], vm := .statics 12 }]
def classes : Array Class := #[k0, k1, k2, k3, k4, k5, k6, k7, k8, k9, k10, k11, k12, k13, k14, k15, k16, k17, k18]
def interned : List (Array UInt16 × Addr) := []
def slotsUsed : Nat := 10
def theMethod : MethodId := ⟨1, 1⟩
def args0 : Array Value := #[.long 3, .int 7, .int 65]
def aboutOver (below : List Frame) : State where
  vm := { classes := classes, interned := interned.toArray }
  heap := heap
  slotsUsed := slotsUsed
  threads := #[{ frames := .invoking theMethod args0 :: below }]
def below0 : List Frame := [.native { method := ⟨0, 0⟩, args := #[] }]
def about1 : State := aboutOver below0
def p0 : Program := .bare "" "" ""
def e0 : Env := launch0.env 0 0 0
theorem w_frames : about1.frames = Frame.invoking theMethod args0 :: below0 := rfl
set_option maxRecDepth 65536 in
theorem w_args : argsFit about1.vm theMethod args0 = true := by decide +kernel
set_option maxRecDepth 65536 in
theorem w_heap : heapFits about1 = true := by decide +kernel
set_option maxRecDepth 65536 in
theorem w_runnable : about1.curStatus? = some .runnable := by decide +kernel
set_option maxRecDepth 65536 in
theorem w_alone : about1.alone = true := by decide +kernel
set_option maxRecDepth 65536 in
theorem w_named : about1.methodNamed? x = some theMethod := by decide +kernel
set_option maxRecDepth 65536 in
theorem w_hears : about1.hears theMethod below0 = true := by decide +kernel
set_option maxRecDepth 65536 in
theorem w_ripe : about1.ripe theMethod args0 below0 = true := by decide +kernel
theorem w_running : about1.status = .running := rfl
set_option maxRecDepth 65536 in
theorem w_room : about1.hasRoom e0.platform room_1 = true :=
  launch0.hasRoom_least _ room_1 (by decide +kernel) (by decide +kernel) (by decide +kernel) (by decide +kernel) (by decide +kernel) (by decide +kernel)
theorem allAtoms_all (ts : List Jvm.Cond) (a : Array Jvm.Value) (st : Jvm.State) : (allAtoms ts).before a st = ts.all (fun c => c.before a st) := by
  induction ts with
  | nil => rfl
  | cons c t ih =>
    show (Jvm.Cond.and c (allAtoms t)).before a st = _
    rw [Jvm.Cond.before_and, ih, List.all_cons]
def words1 : List Jvm.Cond := Jvm.Cond.code x code maxLocals ret :: tables_1
/-- a 'code' word, met by the world's own term for the bytes: nothing is compared byte by byte -/
theorem code_word {y : MethodName} {bytes : ByteArray} {mx : Nat} {rt : Option FieldType} {a : Array Value} {s : State} {m : MethodId} {meth : Method} {c : Code} (h1 : s.methodNamed? y = some m) (h2 : s.vm.method? m = some meth) (h3 : meth.code = some c) (h4 : c.code = bytes)
    (h5 : (c.maxLocals == mx && c.exceptionTable.isEmpty && decide (c.maxStack ≤ mostOperands) && decide (meth.sig.returnType = rt) && !meth.locks && decide (parseMethodDescriptor y.desc = some meth.sig)) = true) : (Jvm.Cond.code y bytes mx rt).before a s = true := by
  simp only [Bool.and_eq_true, beq_iff_eq, Bool.not_eq_true', decide_eq_true_eq] at h5
  obtain ⟨⟨⟨⟨⟨g1, g2⟩, g3⟩, g4⟩, g5⟩, g6⟩ := h5
  simp [Cond.before, Cond.holds, Cond.value, h1, h2, h3, h4, g1, g2, g3, g4, g5, g6]
def isCode : Jvm.Cond → Bool
  | .code _ _ _ _ => true
  | _ => false
theorem all_split {L : List Jvm.Cond} {P : Jvm.Cond → Bool} (h1 : L.all (fun c => isCode c || P c) = true) (h2 : ∀ c ∈ L.filter isCode, P c = true) : L.all P = true := by
  refine List.all_eq_true.mpr fun c hc => ?_
  have h := List.all_eq_true.mp h1 c hc
  rcases Bool.eq_false_or_eq_true (isCode c) with hi | hi
  · exact h2 c (List.mem_filter.mpr ⟨hc, hi⟩)
  · simpa [hi] using h
set_option maxRecDepth 65536 in
theorem w_c0 : (Jvm.Cond.code x code maxLocals ret).before args0 about1 = true := code_word (m := ⟨1, 1⟩) (meth := k1m1) (c := k1c1) (by decide +kernel) rfl rfl rfl (by decide +kernel)
set_option maxRecDepth 65536 in
theorem w_c1 : (Jvm.Cond.code ({ cls := "com/example/oncemark/oncemark/OutgoingMessage", name := "<init>", desc := "(Ljava/lang/String;[B)V" } : Jvm.MethodName) prog_18_method_2_code (3 : Nat) (Option.none : Option Jvm.ClassFile.FieldType)).before args0 about1 = true := code_word (m := ⟨2, 1⟩) (meth := k2m1) (c := k2c1) (by decide +kernel) rfl rfl rfl (by decide +kernel)
set_option maxRecDepth 65536 in
theorem w_c2 : (Jvm.Cond.code ({ cls := "com/example/oncemark/oncemark/OutgoingMessage", name := "<init>", desc := "(Ljava/lang/String;[BJ)V" } : Jvm.MethodName) prog_18_method_3_code (6 : Nat) (Option.none : Option Jvm.ClassFile.FieldType)).before args0 about1 = true := code_word (m := ⟨2, 2⟩) (meth := k2m2) (c := k2c2) (by decide +kernel) rfl rfl rfl (by decide +kernel)
set_option maxRecDepth 65536 in
theorem w_c3 : (Jvm.Cond.code ({ cls := "java/lang/Object", name := "<init>", desc := "()V" } : Jvm.MethodName) object_method_1_code (1 : Nat) (Option.none : Option Jvm.ClassFile.FieldType)).before args0 about1 = true := code_word (m := ⟨0, 0⟩) (meth := k0m0) (c := k0c0) (by decide +kernel) rfl rfl rfl (by decide +kernel)
set_option maxRecDepth 65536 in
theorem w_c4 : (Jvm.Cond.code ({ cls := "java/util/Objects", name := "requireNonNull", desc := "(Ljava/lang/Object;Ljava/lang/String;)Ljava/lang/Object;" } : Jvm.MethodName) jdk_31_method_11_code (2 : Nat) (Option.some (Jvm.ClassFile.FieldType.object "java/lang/Object"))).before args0 about1 = true := code_word (m := ⟨9, 1⟩) (meth := k9m1) (c := k9c1) (by decide +kernel) rfl rfl rfl (by decide +kernel)
set_option maxRecDepth 65536 in
theorem w_c5 : (Jvm.Cond.code ({ cls := "com/example/oncemark/oncemark/OutgoingMessage", name := "<init>", desc := "(JLjava/lang/String;[B)V" } : Jvm.MethodName) prog_18_method_1_code (5 : Nat) (Option.none : Option Jvm.ClassFile.FieldType)).before args0 about1 = true := code_word (m := ⟨2, 0⟩) (meth := k2m0) (c := k2c0) (by decide +kernel) rfl rfl rfl (by decide +kernel)
set_option maxRecDepth 65536 in
theorem w_c6 : (Jvm.Cond.code ({ cls := "com/example/oncemark/oncemark/OutgoingMessage", name := "checkedSequenceId", desc := "(J)J" } : Jvm.MethodName) prog_18_method_9_code (2 : Nat) (Option.some Jvm.ClassFile.FieldType.long)).before args0 about1 = true := code_word (m := ⟨2, 6⟩) (meth := k2m6) (c := k2c6) (by decide +kernel) rfl rfl rfl (by decide +kernel)
set_option maxRecDepth 65536 in
theorem w_c7 : (Jvm.Cond.code ({ cls := "com/example/oncemark/oncemark/OutgoingMessage", name := "numbered", desc := "(J)Lcom/example/oncemark/oncemark/OutgoingMessage;" } : Jvm.MethodName) prog_18_method_8_code (3 : Nat) (Option.some (Jvm.ClassFile.FieldType.object "com/example/oncemark/oncemark/OutgoingMessage"))).before args0 about1 = true := code_word (m := ⟨2, 5⟩) (meth := k2m5) (c := k2c5) (by decide +kernel) rfl rfl rfl (by decide +kernel)
set_option maxRecDepth 65536 in
theorem w_c8 : (Jvm.Cond.code ({ cls := "com/example/oncemark/oncemark/OutgoingMessage", name := "hasSequenceId", desc := "()Z" } : Jvm.MethodName) prog_18_method_4_code (1 : Nat) (Option.some Jvm.ClassFile.FieldType.boolean)).before args0 about1 = true := code_word (m := ⟨2, 3⟩) (meth := k2m3) (c := k2c3) (by decide +kernel) rfl rfl rfl (by decide +kernel)
set_option maxRecDepth 65536 in
theorem w_c9 : (Jvm.Cond.code ({ cls := "com/example/oncemark/oncemark/OutgoingMessage", name := "sequenceId", desc := "()J" } : Jvm.MethodName) prog_18_method_5_code (1 : Nat) (Option.some Jvm.ClassFile.FieldType.long)).before args0 about1 = true := code_word (m := ⟨2, 4⟩) (meth := k2m4) (c := k2c4) (by decide +kernel) rfl rfl rfl (by decide +kernel)
set_option maxRecDepth 65536 in
theorem w_c10 : (Jvm.Cond.code ({ cls := "java/lang/String", name := "valueOf", desc := "(C)Ljava/lang/String;" } : Jvm.MethodName) jdk_42_method_139_code (1 : Nat) (Option.some (Jvm.ClassFile.FieldType.object "java/lang/String"))).before args0 about1 = true := code_word (m := ⟨8, 3⟩) (meth := k8m3) (c := k8c3) (by decide +kernel) rfl rfl rfl (by decide +kernel)
set_option maxRecDepth 65536 in
theorem w_c11 : (Jvm.Cond.code ({ cls := "java/lang/StringLatin1", name := "canEncode", desc := "(C)Z" } : Jvm.MethodName) jdk_43_method_3_code (1 : Nat) (Option.some Jvm.ClassFile.FieldType.boolean)).before args0 about1 = true := code_word (m := ⟨10, 2⟩) (meth := k10m2) (c := k10c2) (by decide +kernel) rfl rfl rfl (by decide +kernel)
set_option maxRecDepth 65536 in
theorem w_c12 : (Jvm.Cond.code ({ cls := "java/lang/StringLatin1", name := "toBytes", desc := "(C)[B" } : Jvm.MethodName) jdk_43_method_46_code (1 : Nat) (Option.some (Jvm.ClassFile.FieldType.array Jvm.ClassFile.FieldType.byte))).before args0 about1 = true := code_word (m := ⟨10, 3⟩) (meth := k10m3) (c := k10c3) (by decide +kernel) rfl rfl rfl (by decide +kernel)
set_option maxRecDepth 65536 in
theorem w_c13 : (Jvm.Cond.code ({ cls := "java/lang/String", name := "<init>", desc := "([BB)V" } : Jvm.MethodName) jdk_42_method_151_code (3 : Nat) (Option.none : Option Jvm.ClassFile.FieldType)).before args0 about1 = true := code_word (m := ⟨8, 4⟩) (meth := k8m4) (c := k8c4) (by decide +kernel) rfl rfl rfl (by decide +kernel)
set_option maxRecDepth 65536 in
theorem w_c14 : (Jvm.Cond.code ({ cls := "com/example/oncemark/oncemark/LogFormat", name := "utf8Length", desc := "(Ljava/lang/String;)I" } : Jvm.MethodName) prog_13_method_8_code (4 : Nat) (Option.some Jvm.ClassFile.FieldType.int)).before args0 about1 = true := code_word (m := ⟨11, 1⟩) (meth := k11m1) (c := k11c1) (by decide +kernel) rfl rfl rfl (by decide +kernel)
set_option maxRecDepth 65536 in
theorem w_c15 : (Jvm.Cond.code ({ cls := "java/lang/String", name := "length", desc := "()I" } : Jvm.MethodName) jdk_42_method_54_code (1 : Nat) (Option.some Jvm.ClassFile.FieldType.int)).before args0 about1 = true := code_word (m := ⟨8, 1⟩) (meth := k8m1) (c := k8c1) (by decide +kernel) rfl rfl rfl (by decide +kernel)
set_option maxRecDepth 65536 in
theorem w_c16 : (Jvm.Cond.code ({ cls := "java/lang/String", name := "coder", desc := "()B" } : Jvm.MethodName) jdk_42_method_152_code (1 : Nat) (Option.some Jvm.ClassFile.FieldType.byte)).before args0 about1 = true := code_word (m := ⟨8, 5⟩) (meth := k8m5) (c := k8c5) (by decide +kernel) rfl rfl rfl (by decide +kernel)
set_option maxRecDepth 65536 in
theorem w_c17 : (Jvm.Cond.code ({ cls := "java/lang/String", name := "charAt", desc := "(I)C" } : Jvm.MethodName) jdk_42_method_56_code (2 : Nat) (Option.some Jvm.ClassFile.FieldType.char)).before args0 about1 = true := code_word (m := ⟨8, 2⟩) (meth := k8m2) (c := k8c2) (by decide +kernel) rfl rfl rfl (by decide +kernel)
set_option maxRecDepth 65536 in
theorem w_c18 : (Jvm.Cond.code ({ cls := "java/lang/String", name := "isLatin1", desc := "()Z" } : Jvm.MethodName) jdk_42_method_154_code (1 : Nat) (Option.some Jvm.ClassFile.FieldType.boolean)).before args0 about1 = true := code_word (m := ⟨8, 6⟩) (meth := k8m6) (c := k8c6) (by decide +kernel) rfl rfl rfl (by decide +kernel)
set_option maxRecDepth 65536 in
theorem w_c19 : (Jvm.Cond.code ({ cls := "java/lang/StringLatin1", name := "charAt", desc := "([BI)C" } : Jvm.MethodName) jdk_43_method_2_code (2 : Nat) (Option.some Jvm.ClassFile.FieldType.char)).before args0 about1 = true := code_word (m := ⟨10, 1⟩) (meth := k10m1) (c := k10c1) (by decide +kernel) rfl rfl rfl (by decide +kernel)
set_option maxRecDepth 65536 in
theorem w_c20 : (Jvm.Cond.code ({ cls := "java/lang/String", name := "checkIndex", desc := "(II)V" } : Jvm.MethodName) jdk_42_method_155_code (2 : Nat) (Option.none : Option Jvm.ClassFile.FieldType)).before args0 about1 = true := code_word (m := ⟨8, 7⟩) (meth := k8m7) (c := k8c7) (by decide +kernel) rfl rfl rfl (by decide +kernel)
set_option maxRecDepth 65536 in
theorem w_c21 : (Jvm.Cond.code ({ cls := "jdk/internal/util/Preconditions", name := "checkIndex", desc := "(IILjava/util/function/BiFunction;)I" } : Jvm.MethodName) jdk_41_method_11_code (3 : Nat) (Option.some Jvm.ClassFile.FieldType.int)).before args0 about1 = true := code_word (m := ⟨12, 1⟩) (meth := k12m1) (c := k12c1) (by decide +kernel) rfl rfl rfl (by decide +kernel)
def codes1 : List Jvm.Cond := [Jvm.Cond.code x code maxLocals ret, Jvm.Cond.code ({ cls := "com/example/oncemark/oncemark/OutgoingMessage", name := "<init>", desc := "(Ljava/lang/String;[B)V" } : Jvm.MethodName) prog_18_method_2_code (3 : Nat) (Option.none : Option Jvm.ClassFile.FieldType), Jvm.Cond.code ({ cls := "com/example/oncemark/oncemark/OutgoingMessage", name := "<init>", desc := "(Ljava/lang/String;[BJ)V" } : Jvm.MethodName) prog_18_method_3_code (6 : Nat) (Option.none : Option Jvm.ClassFile.FieldType), Jvm.Cond.code ({ cls := "java/lang/Object", name := "<init>", desc := "()V" } : Jvm.MethodName) object_method_1_code (1 : Nat) (Option.none : Option Jvm.ClassFile.FieldType), Jvm.Cond.code ({ cls := "java/util/Objects", name := "requireNonNull", desc := "(Ljava/lang/Object;Ljava/lang/String;)Ljava/lang/Object;" } : Jvm.MethodName) jdk_31_method_11_code (2 : Nat) (Option.some (Jvm.ClassFile.FieldType.object "java/lang/Object")), Jvm.Cond.code ({ cls := "com/example/oncemark/oncemark/OutgoingMessage", name := "<init>", desc := "(JLjava/lang/String;[B)V" } : Jvm.MethodName) prog_18_method_1_code (5 : Nat) (Option.none : Option Jvm.ClassFile.FieldType), Jvm.Cond.code ({ cls := "com/example/oncemark/oncemark/OutgoingMessage", name := "checkedSequenceId", desc := "(J)J" } : Jvm.MethodName) prog_18_method_9_code (2 : Nat) (Option.some Jvm.ClassFile.FieldType.long), Jvm.Cond.code ({ cls := "com/example/oncemark/oncemark/OutgoingMessage", name := "numbered", desc := "(J)Lcom/example/oncemark/oncemark/OutgoingMessage;" } : Jvm.MethodName) prog_18_method_8_code (3 : Nat) (Option.some (Jvm.ClassFile.FieldType.object "com/example/oncemark/oncemark/OutgoingMessage")), Jvm.Cond.code ({ cls := "com/example/oncemark/oncemark/OutgoingMessage", name := "hasSequenceId", desc := "()Z" } : Jvm.MethodName) prog_18_method_4_code (1 : Nat) (Option.some Jvm.ClassFile.FieldType.boolean), Jvm.Cond.code ({ cls := "com/example/oncemark/oncemark/OutgoingMessage", name := "sequenceId", desc := "()J" } : Jvm.MethodName) prog_18_method_5_code (1 : Nat) (Option.some Jvm.ClassFile.FieldType.long), Jvm.Cond.code ({ cls := "java/lang/String", name := "valueOf", desc := "(C)Ljava/lang/String;" } : Jvm.MethodName) jdk_42_method_139_code (1 : Nat) (Option.some (Jvm.ClassFile.FieldType.object "java/lang/String")), Jvm.Cond.code ({ cls := "java/lang/StringLatin1", name := "canEncode", desc := "(C)Z" } : Jvm.MethodName) jdk_43_method_3_code (1 : Nat) (Option.some Jvm.ClassFile.FieldType.boolean), Jvm.Cond.code ({ cls := "java/lang/StringLatin1", name := "toBytes", desc := "(C)[B" } : Jvm.MethodName) jdk_43_method_46_code (1 : Nat) (Option.some (Jvm.ClassFile.FieldType.array Jvm.ClassFile.FieldType.byte)), Jvm.Cond.code ({ cls := "java/lang/String", name := "<init>", desc := "([BB)V" } : Jvm.MethodName) jdk_42_method_151_code (3 : Nat) (Option.none : Option Jvm.ClassFile.FieldType), Jvm.Cond.code ({ cls := "com/example/oncemark/oncemark/LogFormat", name := "utf8Length", desc := "(Ljava/lang/String;)I" } : Jvm.MethodName) prog_13_method_8_code (4 : Nat) (Option.some Jvm.ClassFile.FieldType.int), Jvm.Cond.code ({ cls := "java/lang/String", name := "length", desc := "()I" } : Jvm.MethodName) jdk_42_method_54_code (1 : Nat) (Option.some Jvm.ClassFile.FieldType.int), Jvm.Cond.code ({ cls := "java/lang/String", name := "coder", desc := "()B" } : Jvm.MethodName) jdk_42_method_152_code (1 : Nat) (Option.some Jvm.ClassFile.FieldType.byte), Jvm.Cond.code ({ cls := "java/lang/String", name := "charAt", desc := "(I)C" } : Jvm.MethodName) jdk_42_method_56_code (2 : Nat) (Option.some Jvm.ClassFile.FieldType.char), Jvm.Cond.code ({ cls := "java/lang/String", name := "isLatin1", desc := "()Z" } : Jvm.MethodName) jdk_42_method_154_code (1 : Nat) (Option.some Jvm.ClassFile.FieldType.boolean), Jvm.Cond.code ({ cls := "java/lang/StringLatin1", name := "charAt", desc := "([BI)C" } : Jvm.MethodName) jdk_43_method_2_code (2 : Nat) (Option.some Jvm.ClassFile.FieldType.char), Jvm.Cond.code ({ cls := "java/lang/String", name := "checkIndex", desc := "(II)V" } : Jvm.MethodName) jdk_42_method_155_code (2 : Nat) (Option.none : Option Jvm.ClassFile.FieldType), Jvm.Cond.code ({ cls := "jdk/internal/util/Preconditions", name := "checkIndex", desc := "(IILjava/util/function/BiFunction;)I" } : Jvm.MethodName) jdk_41_method_11_code (3 : Nat) (Option.some Jvm.ClassFile.FieldType.int)]
set_option maxRecDepth 65536 in
theorem codes_eq : words1.filter isCode = codes1 := rfl
theorem w_codes : ∀ c ∈ words1.filter isCode, c.before args0 about1 = true := by
  rw [codes_eq]
  intro c hc
  simp only [codes1, List.mem_cons, List.not_mem_nil, or_false] at hc
  rcases hc with rfl | rfl | rfl | rfl | rfl | rfl | rfl | rfl | rfl | rfl | rfl | rfl | rfl | rfl | rfl | rfl | rfl | rfl | rfl | rfl | rfl | rfl
  · exact w_c0
  · exact w_c1
  · exact w_c2
  · exact w_c3
  · exact w_c4
  · exact w_c5
  · exact w_c6
  · exact w_c7
  · exact w_c8
  · exact w_c9
  · exact w_c10
  · exact w_c11
  · exact w_c12
  · exact w_c13
  · exact w_c14
  · exact w_c15
  · exact w_c16
  · exact w_c17
  · exact w_c18
  · exact w_c19
  · exact w_c20
  · exact w_c21
set_option maxRecDepth 65536 in
theorem w_t1 : (words1.take 24).all (fun c => isCode c || c.before args0 about1) = true := by decide +kernel
set_option maxRecDepth 65536 in
theorem w_t2 : ((words1.drop 24).take 24).all (fun c => isCode c || c.before args0 about1) = true := by decide +kernel
set_option maxRecDepth 65536 in
theorem w_t3 : (((words1.drop 24).drop 24).take 24).all (fun c => isCode c || c.before args0 about1) = true := by decide +kernel
set_option maxRecDepth 65536 in
theorem w_t4 : ((((words1.drop 24).drop 24).drop 24).take 24).all (fun c => isCode c || c.before args0 about1) = true := by decide +kernel
set_option maxRecDepth 65536 in
theorem w_t5 : ((((words1.drop 24).drop 24).drop 24).drop 24).all (fun c => isCode c || c.before args0 about1) = true := by decide +kernel
theorem w_tables : (allAtoms (Jvm.Cond.code x code maxLocals ret :: tables_1)).before args0 about1 = true := by
  rw [allAtoms_all]
  show words1.all (fun c => c.before args0 about1) = true
  refine all_split ?_ w_codes
  rw [← List.take_append_drop 24 words1, List.all_append, w_t1, ← List.take_append_drop 24 (words1.drop 24), List.all_append, w_t2, ← List.take_append_drop 24 ((words1.drop 24).drop 24), List.all_append, w_t3, ← List.take_append_drop 24 (((words1.drop 24).drop 24).drop 24), List.all_append, w_t4, w_t5]
  rfl
set_option maxRecDepth 65536 in
theorem w_rest : rest_1_c.before args0 about1 = true := by decide +kernel
set_option maxRecDepth 65536 in
theorem w_case : (Jvm.Cond.and given_1 narrow_1).before args0 about1 = true := by decide +kernel
theorem w_applies : (headSpec (Jvm.Cond.code x code maxLocals ret :: tables_1) room_1).applies x e0.platform about1 = true :=
  (Spec.applies_iff w_frames).mpr ⟨w_running, w_runnable, w_alone, w_named, w_hears, w_ripe, w_room, w_tables⟩
theorem atStart : AtStart classFile x code maxLocals ret World_1 tables_1 room_1 Calls_1 rest_1 Pre_1 launch0 p0 e0 about1 theMethod args0 below0 :=
  ⟨lists_1, trivial, launch0.admits_env _ _ _, launch0.least_env, fairChoices_fair.cas, fairChoices_fair.clock, w_frames, w_args, w_heap, w_applies, trivial, w_rest, w_case⟩
end start1
theorem witness_1 : WitnessClaimed_1 := ⟨start1.p0, start1.e0, start1.about1, start1.theMethod, start1.args0, start1.below0, start1.atStart⟩
end Jvm.Pilot.@@N@@
