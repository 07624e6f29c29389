import JvmDerived
import JvmDerived.Pilot.@@N@@Statement
import JvmDerived.Pilot.@@N@@Code
set_option linter.unusedVariables false
set_option linter.unusedSimpArgs false
namespace Jvm.RoadKit
open Sem ClassFile Op Lib Jvm.Stand Jvm.Free Jvm.LawKit
section New
variable {p : Program} {l : Launch} {e : Env} {R : Room} {s : State} {m : MethodId} {args : Array Value} {below : List Frame} {meth : Method} {c : Code} {T : State} {locs : List Loc} {cells slots : Nat}
theorem retI (X : Stand p l e R s m args below meth c T locs cells slots) (hx : p.tables.exec = Jvm.exec) {pc : Nat} {Ls : Array Slot} {z : Int32} {rest : List Value} (hret : meth.sig.returnType = some .int) (hd : decode c.code pc = .ok (.ireturn, 1)) {fs : List Frame}
    (hl : ∀ (f : JFrame) (acts : List Action), f.method = m → f.locked = none → f.entered = [] → (doReturn e (T.setTop f) acts (some (.int z))).1 = T.setFrames fs) : Steps p.tables e below (T.setTop (mkF m pc Ls (.int z :: rest))) (T.setFrames fs) := by
  have hm' : T.vm.method? m = some meth := X.method'
  have hn : narrow .int (.int z) = .int z := rfl
  show Steps p.tables e below (T.setTop { method := m, pc := pc, locals := Ls, stack := _ :: rest, locked := none }) _
  jvm_step X.here [X.here.top, hx, hd, hm', hret, hn]
  first | (intro acts; rw [hl _ acts rfl rfl rfl]) | rw [hl _ _ rfl rfl rfl]
  exact Steps.refl _
end New
end Jvm.RoadKit
namespace Jvm.Pilot.@@N@@
open Jvm Jvm.ClassFile Sem Op Lib Jvm.Free Jvm.Stand Jvm.LawKit Jvm.RoadKit Bundle Jvm.Pilot.@@N@@.Jvm.D
theorem wq {a0 : Array Value} {Z : State} (hw : ∀ d ∈ tables_1, d.before a0 Z = true) (i : Nat) {d : Jvm.Cond} (h : tables_1[i]? = some d) : d.before a0 Z = true := hw _ (List.mem_of_getElem? h)
abbrev Go (p : Program) (e : Env) (below : List Frame) (T B : State) (F E : JFrame) : Prop := ∀ t, Steps p.tables e below (T.setTop F) t → Steps p.tables e below (B.setTop E) t
theorem Go.thn {p : Program} {e : Env} {below : List Frame} {T T2 B : State} {F F2 E : JFrame} (G : Go p e below T B F E) (h : ∀ t, Steps p.tables e below (T2.setTop F2) t → Steps p.tables e below (T.setTop F) t) : Go p e below T2 B F2 E := fun t k => G t (h t k)
theorem Go.trn {p : Program} {e : Env} {below : List Frame} {T T2 B : State} {F F2 E : JFrame} (G : Go p e below T B F E) (h : Steps p.tables e below (T.setTop F) (T2.setTop F2)) : Go p e below T2 B F2 E := fun t k => G t (h.trans k)
theorem w00 {a b : Nat} (h : a = b) : 2 * 0 + a ≤ b := by omega
abbrev Met1 (l : Launch) (y : MethodName) (co : Jvm.Cond) (ws : List Jvm.Cond) (rm : Room) (as : Array Value) (Z : State) (h0 : Heap) (Q : Option Value → Heap → List Loc → Prop) : Prop := MetFree l y (head1 (co :: ws) rm) (fun a U => a = as ∧ Z.Warmed39 U.vm ∧ U.heap = h0) (fun _ _ _ _ _ => True) (fun _ U o U' => ∃ v L, o = .returned v ∧ Q v U'.heap L ∧ FrameEnd U o U' L rm.cells rm.slots)
abbrev own_b0 (w : Int32) : Int32 := (((w >>> ((0 : Int32) &&& 31)).toInt8.toInt32).toInt8.toInt32)
abbrev own_b8 (w : Int32) : Int32 := (((w >>> ((8 : Int32) &&& 31)).toInt8.toInt32).toInt8.toInt32)
abbrev rom (a b c d : Nat) : Room := { frames := a, cells := b, slots := c, locals := d }
abbrev Nm_0 : MethodName := (⟨"com/example/stint/stint/WholeNumberLeadingDigitsPinLaw", "ch", "(I)C"⟩ : MethodName)
abbrev Nm_1 : MethodName := (⟨"com/example/stint/stint/WholeNumberLeadingDigitsPinLaw", "dig", "(C)Z"⟩ : MethodName)
abbrev Nm_2 : MethodName := (⟨"com/example/stint/stint/WholeNumber", "isAsciiDigit", "(C)Z"⟩ : MethodName)
abbrev Nm_3 : MethodName := (⟨"java/lang/String", "coder", "()B"⟩ : MethodName)
abbrev Nm_4 : MethodName := (⟨"java/lang/String", "length", "()I"⟩ : MethodName)
abbrev Nm_5 : MethodName := (⟨"java/lang/String", "isLatin1", "()Z"⟩ : MethodName)
abbrev Nm_6 : MethodName := (⟨"jdk/internal/util/Preconditions", "checkIndex", "(IILjava/util/function/BiFunction;)I"⟩ : MethodName)
abbrev Nm_7 : MethodName := (⟨"java/lang/String", "checkIndex", "(II)V"⟩ : MethodName)
abbrev Nm_8 : MethodName := (⟨"java/lang/StringLatin1", "charAt", "([BI)C"⟩ : MethodName)
abbrev Nm_9 : MethodName := (⟨"java/lang/StringUTF16", "getChar", "([BI)C"⟩ : MethodName)
abbrev Nm_10 : MethodName := (⟨"java/lang/StringUTF16", "length", "([B)I"⟩ : MethodName)
abbrev Nm_11 : MethodName := (⟨"java/lang/StringUTF16", "checkIndex", "(I[B)V"⟩ : MethodName)
abbrev Nm_12 : MethodName := (⟨"java/lang/StringUTF16", "charAt", "([BI)C"⟩ : MethodName)
abbrev Nm_13 : MethodName := (⟨"java/lang/String", "charAt", "(I)C"⟩ : MethodName)
abbrev Nm_14 : MethodName := (⟨"com/example/stint/stint/WholeNumber", "leadingDigits", "(Ljava/lang/String;)I"⟩ : MethodName)
abbrev Nm_15 : MethodName := (⟨"java/lang/StringUTF16", "coderFromArrayLen", "([BI)B"⟩ : MethodName)
abbrev Nm_16 : MethodName := (⟨"java/lang/StringUTF16", "newBytesLength", "(I)I"⟩ : MethodName)
abbrev Nm_17 : MethodName := (⟨"java/lang/StringUTF16", "newBytesFor", "(I)[B"⟩ : MethodName)
abbrev Nm_18 : MethodName := (⟨"java/lang/StringUTF16", "putChar", "([BII)V"⟩ : MethodName)
abbrev Nm_19 : MethodName := (⟨"java/lang/StringUTF16", "toBytes", "([CII)[B"⟩ : MethodName)
abbrev Nm_20 : MethodName := (⟨"java/lang/StringUTF16", "compress", "([CI[BII)I"⟩ : MethodName)
abbrev Nm_21 : MethodName := (⟨"java/lang/StringUTF16", "compress", "([CII)[B"⟩ : MethodName)
abbrev Nm_22 : MethodName := (⟨"java/lang/String", "<init>", "([CIILjava/lang/Void;)V"⟩ : MethodName)
abbrev Nm_23 : MethodName := (⟨"java/lang/String", "<init>", "([C)V"⟩ : MethodName)
def QP (w : Option Value) (h0 : Heap) (n0 : Nat) (v : Option Value) (h : Heap) (L : List Loc) : Prop := v = w ∧ Fr n0 L ∧ h = h0
def QL (w : Option Value) (n0 : Nat) (v : Option Value) (h : Heap) (L : List Loc) : Prop := v = w ∧ Fr n0 L ∧ True
theorem own_fldne {Z : State} {h : Heap} {a b : Addr} {C n d : String} {v w : Value} (F : Fld Z h a C n d v) (G : Fld Z h b C n d w) (q : v ≠ w) : a ≠ b := fun e => by
  subst e
  obtain ⟨c1, cf1, k1, i1, f1, e1, g1, -, -, -, -, s1⟩ := F
  obtain ⟨c2, cf2, k2, i2, f2, e2, g2, -, -, -, -, s2⟩ := G
  cases e1.symm.trans e2
  cases g1.symm.trans g2
  cases s1.symm.trans s2
  exact q rfl
theorem own_ib {Z : State} {vm vm' : Vm} {Ts : List String} (I : IB Z vm Ts) (h : vm'.interned = vm.interned) : IB Z vm' Ts := by
  obtain ⟨more, e, q⟩ := I
  exact ⟨more, h.trans e, q⟩
theorem own_backIB {p : Program} {l : Launch} {e : Env} {R : Room} {s : State} {args : Array Value} {below : List Frame} {Z : State} {a0 : Array Value} {h : Heap} {y : MethodName} {bytes : ByteArray} {maxL : Nat} {ret : Option FieldType} {rm : Room} {len W : Nat} {as' : Array Value} {Q : Option Value → Heap → List Loc → Prop} {Ts : List String} (I : IB Z s.vm Ts)
    (hM : MetFree l y (head1 [Jvm.Cond.code y bytes maxL ret] rm) (fun a U => a = as' ∧ Z.Warmed39 U.vm ∧ U.heap = h ∧ IB Z U.vm Ts) (fun _ _ _ _ _ => True) (fun _ U o U' => ∃ v L, o = .returned v ∧ Q v U'.heap L ∧ ReturnedEndW U o U' L rm.cells rm.slots))
    (hZ : Z.Warmed39 s.vm) (wc : (Jvm.Cond.code y bytes maxL ret).before a0 Z = true) (wz : (Jvm.Cond.initialized y.cls).before a0 Z = true) (hf : rm.frames + 1 ≤ R.frames) (hl : W + (maxL + 11) + rm.locals ≤ R.locals) :
    BackS l R p e below s args y len W (fun A a => a = as' ∧ A.U.heap = h ∧ A.cells + rm.cells ≤ R.cells ∧ A.slots + rm.slots ≤ R.slots)
      (fun A _ v B => ∃ L, Q v B.U.heap L ∧ B.locs = A.locs ++ L ∧ B.cells = A.cells + rm.cells ∧ B.slots = A.slots + rm.slots) :=
  BackS.of_freeW (bytes := bytes) (maxL := maxL) (ret := ret) (E := fun _ _ o t L k n => k = rm.cells ∧ n = rm.slots ∧ ∃ v, o = .returned v ∧ Q v t.heap L) hM hf hl
    (fun m meth c A a Y hp => have hU : Z.Warmed39 A.U.vm := wtrans hZ Y.warmed
      ⟨by show (Jvm.Cond.and _ .tt).before a A.U = true; rw [Cond.before_and, mv hU wc]; rfl, mv hU wc, mv hU wz, hp.2.2.1, hp.2.2.2⟩)
    (fun m meth c A a g mk Y hp => ⟨hp.1, wtrans hZ Y.warmed, hp.2.1, own_ib I Y.warmed.interned_eq⟩) (fun _ _ _ _ _ _ _ _ _ => trivial)
    (fun _ _ _ _ ⟨v, L, h1, h2, h3⟩ => ⟨L, _, _, h3, rfl, rfl, v, h1, h2⟩)
    (fun m meth c A a g mk v t L k n Y hp _ _ ⟨e1, e2, v', e3, e4⟩ => by cases e3; subst e1 e2; exact ⟨L, e4, rfl, rfl, rfl⟩)
def own_at (L : List Int32) (j : Int32) : Int32 := L.getD j.toNatClampNeg 0
theorem own_getD (L : List Int32) (j : Int32) : (L.map Value.int).getD j.toNatClampNeg (.int 0) = .int (own_at L j) := by
  unfold own_at
  generalize j.toNatClampNeg = k
  induction L generalizing k with
  | nil => rfl
  | cons a L ih =>
    cases k with
    | zero => rfl
    | succ k => exact ih k
theorem own_plE {Z : State} {h : Heap} {a : Addr} {C : String} (E : Exa Z h a C) : ∃ c : Cell, h[a]? = some c ∧ c.vm.isStatics = false := by
  obtain ⟨c, k, h1, -, -, h4, -⟩ := E
  exact ⟨c, h1, h4⟩
theorem own_plV {Z : State} {h : Heap} {a : Addr} {k : ClassId} {ty : FieldType} {n : Int32} {vs : List Value} {d : Value} (F : Arv Z h a k ty n vs d) : ∃ c : Cell, h[a]? = some c ∧ c.vm.isStatics = false := by
  obtain ⟨c, A, -⟩ := F
  exact ⟨c, A.1, A.plain⟩
theorem own_staK {Z : State} {h h' : Heap} {C n d : String} {v : Value} {ws : List Addr} (F : Sta Z h C n d v) (K : Keep h h' ws) (q : ∀ x ∈ ws, ∃ c : Cell, h[x]? = some c ∧ c.vm.isStatics = false) : Sta Z h' C n d v := by
  obtain ⟨cf, i, k, f, st, cell, h1, h2, h3, h4, h5, h6, h7⟩ := F
  refine ⟨cf, i, k, f, st, cell, h1, h2, h3, h4, K.2.1 st cell h5 fun hm => ?_, h6, h7⟩
  obtain ⟨c, e1, e2⟩ := q st hm
  rw [h5] at e1
  cases e1
  rw [h6] at e2
  cases e2
theorem own_wS {a0 : Array Value} {Z : State} (hw : ∀ d ∈ tables_1, d.before a0 Z = true) : ∀ a ∈ Bundle.stringAtoms, a.before a0 Z = true := by
  intro a ha
  simp only [Bundle.stringAtoms, Bundle.sN, List.mem_cons, List.not_mem_nil, or_false] at ha
  rcases ha with rfl | rfl | rfl | rfl | rfl | rfl | rfl
  · exact hw _ (List.mem_of_getElem? (i := 8) rfl)
  · exact hw _ (List.mem_of_getElem? (i := 7) rfl)
  · exact hw _ (List.mem_of_getElem? (i := 21) rfl)
  · exact hw _ (List.mem_of_getElem? (i := 22) rfl)
  · exact hw _ (List.mem_of_getElem? (i := 23) rfl)
  · exact hw _ (List.mem_of_getElem? (i := 24) rfl)
  · exact hw _ (List.mem_of_getElem? (i := 25) rfl)
theorem d1_0 : decode method_2_code 0 = .ok (.iload_n 0, 1) := by decide +kernel
theorem d1_1 : decode method_2_code 1 = .ok (.bipush 16, 2) := by decide +kernel
theorem d1_3 : decode method_2_code 3 = .ok (.iushr, 1) := by decide +kernel
theorem d1_4 : decode method_2_code 4 = .ok (.iconst 3, 1) := by decide +kernel
theorem d1_5 : decode method_2_code 5 = .ok (.iand, 1) := by decide +kernel
theorem d1_6 : decode method_2_code 6 = .ok (.istore_n 1, 1) := by decide +kernel
theorem d1_7 : decode method_2_code 7 = .ok (.iload_n 1, 1) := by decide +kernel
theorem d1_8 : decode method_2_code 8 = .ok (.ifCond .ne 9, 3) := by decide +kernel
theorem d1_11 : decode method_2_code 11 = .ok (.iload_n 0, 1) := by decide +kernel
theorem d1_12 : decode method_2_code 12 = .ok (.ldc 7, 2) := by decide +kernel
theorem d1_14 : decode method_2_code 14 = .ok (.iand, 1) := by decide +kernel
theorem d1_15 : decode method_2_code 15 = .ok (.i2c, 1) := by decide +kernel
theorem d1_16 : decode method_2_code 16 = .ok (.ireturn, 1) := by decide +kernel
theorem d1_17 : decode method_2_code 17 = .ok (.iload_n 1, 1) := by decide +kernel
theorem d1_18 : decode method_2_code 18 = .ok (.iconst 1, 1) := by decide +kernel
theorem d1_19 : decode method_2_code 19 = .ok (.if_icmp .ne 12, 3) := by decide +kernel
theorem d1_22 : decode method_2_code 22 = .ok (.bipush 46, 2) := by decide +kernel
theorem d1_24 : decode method_2_code 24 = .ok (.iload_n 0, 1) := by decide +kernel
theorem d1_25 : decode method_2_code 25 = .ok (.bipush 15, 2) := by decide +kernel
theorem d1_27 : decode method_2_code 27 = .ok (.iand, 1) := by decide +kernel
theorem d1_28 : decode method_2_code 28 = .ok (.iadd, 1) := by decide +kernel
theorem d1_29 : decode method_2_code 29 = .ok (.i2c, 1) := by decide +kernel
theorem d1_30 : decode method_2_code 30 = .ok (.ireturn, 1) := by decide +kernel
theorem d1_31 : decode method_2_code 31 = .ok (.iload_n 0, 1) := by decide +kernel
theorem d1_32 : decode method_2_code 32 = .ok (.sipush 255, 3) := by decide +kernel
theorem d1_35 : decode method_2_code 35 = .ok (.iand, 1) := by decide +kernel
theorem d1_36 : decode method_2_code 36 = .ok (.i2c, 1) := by decide +kernel
theorem d1_37 : decode method_2_code 37 = .ok (.ireturn, 1) := by decide +kernel
theorem pn_1 : plainName "com/example/stint/stint/WholeNumberLeadingDigitsPinLaw" = true := by first | (simp [plainName, overriddenIn]; done) | decide +kernel
theorem ef_1 (m : MethodId) (x0 : Int32) : entryFrame m #[(.int x0)] 2 = mkF m 0 #[.val (.int x0), .unset] [] := by first | (simp [entryFrame, mkF, argsToLocals, Value.category]; done) | rfl
def v1_6 (p0 : Int32) : Int32 := (((p0.toUInt32 >>> ((16 : Int32) &&& 31).toUInt32).toInt32) &&& (3 : Int32))
def f1 (p0 : Int32) : Int32 := (if (v1_6 p0) = (0 : Int32) then (nar .char ((p0 &&& (65535 : Int32)).toUInt32.toUInt16.toUInt32.toInt32)) else (if (v1_6 p0) = (1 : Int32) then (nar .char (((46 : Int32) + (p0 &&& (15 : Int32))).toUInt32.toUInt16.toUInt32.toInt32)) else (nar .char ((p0 &&& (255 : Int32)).toUInt32.toUInt16.toUInt32.toInt32))))
set_option maxRecDepth 65536 in
set_option maxHeartbeats 40000000 in
theorem rm1 (l : Launch) (Z : State) (a0 : Array Value) (hw : ∀ d ∈ tables_1, d.before a0 Z = true) (ws : List Jvm.Cond) (p0 : Int32) (h0 : Heap) (n0 : Nat) (Z0 : n0 ≤ h0.size) :
    Met1 l Nm_0 (Jvm.Cond.code Nm_0 method_2_code 2 (some .char)) ws (rom 0 0 0 0) #[(.int p0)] Z h0 (QP (some (.int (f1 p0))) h0 n0) := by
  refine MetFree.of_bodySF (plainFor_of_name pn_1) hisR ?_
  intro p e s m args below meth c s₁ Bd hml0 hP hK
  obtain ⟨rfl, hZ, hh⟩ := hP
  have hx := Bd.exec
  have hby := Bd.bytes
  have hml : c.maxLocals = 2 := hml0
  have hown : s.vm.findClass "com/example/stint/stint/WholeNumberLeadingDigitsPinLaw" = some m.cls := findClass_of_methodNamed Bd.named
  have X0 : Stand p l e (rom 0 0 0 0) s m _ _ _ _ _ [] 0 0 := Stand.of_body Bd
  have e0 : s₁.heap = h0 := by rw [← hh, Bd.state]; rfl
  have N0 := Fr.nil n0
  have K0 : Keep h0 h0 [] := Keep.refl _ _
  have pre0 : Go p e below s₁ _ (mkF m 0 #[.val (.int p0), .unset] []) _ := fun t k => castTop (ef_1 m p0) k
  have pre3 : Go p e below s₁ _ (mkF m 8 #[.val (.int p0), .val (.int (v1_6 p0))] [(.int (v1_6 p0))]) _ := fun t k => pre0 t (by
    refine XS.iloadN X0.here hx rfl (hb hby d1_0) rfl ?_
    refine XS.bipush X0.here hx rfl (hb hby d1_1) ?_
    refine XS.iushr X0.here hx rfl (hb hby d1_3) rfl ?_
    refine XS.iconst X0.here hx rfl (hb hby d1_4) ?_
    refine XS.iand X0.here hx rfl (hb hby d1_5) rfl ?_
    refine XS.istoreN X0.here hx rfl (hb hby d1_6) rfl (l' := #[.val (.int p0), .val (.int (v1_6 p0))]) rfl ?_
    refine XS.iloadN X0.here hx rfl (hb hby d1_7) rfl ?_
    exact k)
  by_cases hc8_1 : (v1_6 p0) = (0 : Int32)
  · have pre4 : Go p e below s₁ _ (mkF m 16 #[.val (.int p0), .val (.int (v1_6 p0))] [(.int ((p0 &&& (65535 : Int32)).toUInt32.toUInt16.toUInt32.toInt32))]) _ := fun t k => pre3 t (by
      refine XS.ifNo X0.here hx rfl (hb hby d1_8) rfl ((if0 _ _).trans (teq hc8_1).2) ?_
      refine XS.iloadN X0.here hx rfl (hb hby d1_11) rfl ?_
      refine X0.ldcInt hx hown (mvT hZ (wq hw 5 rfl)) (g := (mkF m 12 #[.val (.int p0), .val (.int (v1_6 p0))] [(.int p0)])) rfl (hb hby d1_12) _ ?_
      refine XS.iand X0.here hx rfl (hb hby d1_14) rfl ?_
      refine XS.i2c X0.here hx rfl (hb hby d1_15) rfl ?_
      exact k)
    obtain ⟨fs, hr, hrun, hended, hW, hsame⟩ := X0.leave (v := some (.int (nar .char ((p0 &&& (65535 : Int32)).toUInt32.toUInt16.toUInt32.toInt32)))) (fun h => by rw [Bd.returns] at h; cases h)
    refine ⟨_, _, ?_, hrun, hended, _, _, rfl, ?_, ⟨_, rfl⟩, hW, hsame.mono (by decide) (by decide)⟩
    · exact pre4 _ (retN X0 hx (t := .char) Bd.returns (by simp) (hb hby d1_16) hr)
    · exact ⟨by simp only [f1, if_pos hc8_1], N0, e0⟩
  · have pre5 : Go p e below s₁ _ (mkF m 19 #[.val (.int p0), .val (.int (v1_6 p0))] [(.int 1), (.int (v1_6 p0))]) _ := fun t k => pre3 t (by
      refine XS.ifYes X0.here hx rfl (pc0 := 8) (pc' := 17) rfl (hb hby d1_8) rfl ((if0 _ _).trans (feq hc8_1).2) (by decide) (by decide) ?_
      refine XS.iloadN X0.here hx rfl (hb hby d1_17) rfl ?_
      refine XS.iconst X0.here hx rfl (hb hby d1_18) ?_
      exact k)
    by_cases hc19_2 : (v1_6 p0) = (1 : Int32)
    · have pre6 : Go p e below s₁ _ (mkF m 30 #[.val (.int p0), .val (.int (v1_6 p0))] [(.int (((46 : Int32) + (p0 &&& (15 : Int32))).toUInt32.toUInt16.toUInt32.toInt32))]) _ := fun t k => pre5 t (by
        refine XS.icmpNo X0.here hx rfl (hb hby d1_19) rfl (teq hc19_2).2 ?_
        refine XS.bipush X0.here hx rfl (hb hby d1_22) ?_
        refine XS.iloadN X0.here hx rfl (hb hby d1_24) rfl ?_
        refine XS.bipush X0.here hx rfl (hb hby d1_25) ?_
        refine XS.iand X0.here hx rfl (hb hby d1_27) rfl ?_
        refine XS.iadd X0.here hx rfl (hb hby d1_28) rfl ?_
        refine XS.i2c X0.here hx rfl (hb hby d1_29) rfl ?_
        exact k)
      obtain ⟨fs, hr, hrun, hended, hW, hsame⟩ := X0.leave (v := some (.int (nar .char (((46 : Int32) + (p0 &&& (15 : Int32))).toUInt32.toUInt16.toUInt32.toInt32)))) (fun h => by rw [Bd.returns] at h; cases h)
      refine ⟨_, _, ?_, hrun, hended, _, _, rfl, ?_, ⟨_, rfl⟩, hW, hsame.mono (by decide) (by decide)⟩
      · exact pre6 _ (retN X0 hx (t := .char) Bd.returns (by simp) (hb hby d1_30) hr)
      · exact ⟨by simp only [f1, if_neg hc8_1, if_pos hc19_2], N0, e0⟩
    · have pre7 : Go p e below s₁ _ (mkF m 37 #[.val (.int p0), .val (.int (v1_6 p0))] [(.int ((p0 &&& (255 : Int32)).toUInt32.toUInt16.toUInt32.toInt32))]) _ := fun t k => pre5 t (by
        refine XS.icmpYes X0.here hx rfl (pc0 := 19) (pc' := 31) rfl (hb hby d1_19) rfl (feq hc19_2).2 (by decide) (by decide) ?_
        refine XS.iloadN X0.here hx rfl (hb hby d1_31) rfl ?_
        refine XS.sipush X0.here hx rfl (hb hby d1_32) ?_
        refine XS.iand X0.here hx rfl (hb hby d1_35) rfl ?_
        refine XS.i2c X0.here hx rfl (hb hby d1_36) rfl ?_
        exact k)
      obtain ⟨fs, hr, hrun, hended, hW, hsame⟩ := X0.leave (v := some (.int (nar .char ((p0 &&& (255 : Int32)).toUInt32.toUInt16.toUInt32.toInt32)))) (fun h => by rw [Bd.returns] at h; cases h)
      refine ⟨_, _, ?_, hrun, hended, _, _, rfl, ?_, ⟨_, rfl⟩, hW, hsame.mono (by decide) (by decide)⟩
      · exact pre7 _ (retN X0 hx (t := .char) Bd.returns (by simp) (hb hby d1_37) hr)
      · exact ⟨by simp only [f1, if_neg hc8_1, if_neg hc19_2], N0, e0⟩
theorem d11_0 : decode method_3_code 0 = .ok (.iload_n 0, 1) := by decide +kernel
theorem d11_1 : decode method_3_code 1 = .ok (.bipush 48, 2) := by decide +kernel
theorem d11_3 : decode method_3_code 3 = .ok (.if_icmp .lt 13, 3) := by decide +kernel
theorem d11_6 : decode method_3_code 6 = .ok (.iload_n 0, 1) := by decide +kernel
theorem d11_7 : decode method_3_code 7 = .ok (.bipush 57, 2) := by decide +kernel
theorem d11_9 : decode method_3_code 9 = .ok (.if_icmp .gt 7, 3) := by decide +kernel
theorem d11_12 : decode method_3_code 12 = .ok (.iconst 1, 1) := by decide +kernel
theorem d11_13 : decode method_3_code 13 = .ok (.goto 4, 3) := by decide +kernel
theorem d11_16 : decode method_3_code 16 = .ok (.iconst 0, 1) := by decide +kernel
theorem d11_17 : decode method_3_code 17 = .ok (.ireturn, 1) := by decide +kernel
theorem pn_11 : plainName "com/example/stint/stint/WholeNumberLeadingDigitsPinLaw" = true := by first | (simp [plainName, overriddenIn]; done) | decide +kernel
theorem ef_11 (m : MethodId) (x0 : Int32) : entryFrame m #[(.int x0)] 1 = mkF m 0 #[.val (.int x0)] [] := by first | (simp [entryFrame, mkF, argsToLocals, Value.category]; done) | rfl
def f11 (p0 : Int32) : Int32 := (if p0 < (48 : Int32) then (0 : Int32) else (if (57 : Int32) < p0 then (0 : Int32) else (1 : Int32)))
set_option maxRecDepth 65536 in
set_option maxHeartbeats 40000000 in
theorem rm11 (l : Launch) (Z : State) (a0 : Array Value) (hw : ∀ d ∈ tables_1, d.before a0 Z = true) (ws : List Jvm.Cond) (p0 : Int32) (h0 : Heap) (n0 : Nat) (Z0 : n0 ≤ h0.size) :
    Met1 l Nm_1 (Jvm.Cond.code Nm_1 method_3_code 1 (some .boolean)) ws (rom 0 0 0 0) #[(.int p0)] Z h0 (QP (some (.int (f11 p0))) h0 n0) := by
  refine MetFree.of_bodySF (plainFor_of_name pn_11) hisR ?_
  intro p e s m args below meth c s₁ Bd hml0 hP hK
  obtain ⟨rfl, hZ, hh⟩ := hP
  have hx := Bd.exec
  have hby := Bd.bytes
  have hml : c.maxLocals = 1 := hml0
  have hown : s.vm.findClass "com/example/stint/stint/WholeNumberLeadingDigitsPinLaw" = some m.cls := findClass_of_methodNamed Bd.named
  have X0 : Stand p l e (rom 0 0 0 0) s m _ _ _ _ _ [] 0 0 := Stand.of_body Bd
  have e0 : s₁.heap = h0 := by rw [← hh, Bd.state]; rfl
  have N0 := Fr.nil n0
  have K0 : Keep h0 h0 [] := Keep.refl _ _
  have pre0 : Go p e below s₁ _ (mkF m 0 #[.val (.int p0)] []) _ := fun t k => castTop (ef_11 m p0) k
  have pre3 : Go p e below s₁ _ (mkF m 3 #[.val (.int p0)] [(.int 48), (.int p0)]) _ := fun t k => pre0 t (by
    refine XS.iloadN X0.here hx rfl (hb hby d11_0) rfl ?_
    refine XS.bipush X0.here hx rfl (hb hby d11_1) ?_
    exact k)
  by_cases hc3_1 : p0 < (48 : Int32)
  · have pre4 : Go p e below s₁ _ (mkF m 17 #[.val (.int p0)] [(.int 0)]) _ := fun t k => pre3 t (by
      refine XS.icmpYes X0.here hx rfl (pc0 := 3) (pc' := 16) rfl (hb hby d11_3) rfl (tlt hc3_1).1 (by decide) (by decide) ?_
      refine XS.iconst X0.here hx rfl (hb hby d11_16) ?_
      exact k)
    obtain ⟨fs, hr, hrun, hended, hW, hsame⟩ := X0.leave (v := some (.int 0)) (fun h => by rw [Bd.returns] at h; cases h)
    refine ⟨_, _, ?_, hrun, hended, _, _, rfl, ?_, ⟨_, rfl⟩, hW, hsame.mono (by decide) (by decide)⟩
    · exact pre4 _ (retN X0 hx (t := .boolean) Bd.returns (by simp) (hb hby d11_17) hr)
    · exact ⟨by simp only [f11, if_pos hc3_1], N0, e0⟩
  · have pre5 : Go p e below s₁ _ (mkF m 9 #[.val (.int p0)] [(.int 57), (.int p0)]) _ := fun t k => pre3 t (by
      refine XS.icmpNo X0.here hx rfl (hb hby d11_3) rfl (flt hc3_1).1 ?_
      refine XS.iloadN X0.here hx rfl (hb hby d11_6) rfl ?_
      refine XS.bipush X0.here hx rfl (hb hby d11_7) ?_
      exact k)
    by_cases hc9_2 : (57 : Int32) < p0
    · have pre6 : Go p e below s₁ _ (mkF m 17 #[.val (.int p0)] [(.int 0)]) _ := fun t k => pre5 t (by
        refine XS.icmpYes X0.here hx rfl (pc0 := 9) (pc' := 16) rfl (hb hby d11_9) rfl (tlt hc9_2).2.2.1 (by decide) (by decide) ?_
        refine XS.iconst X0.here hx rfl (hb hby d11_16) ?_
        exact k)
      obtain ⟨fs, hr, hrun, hended, hW, hsame⟩ := X0.leave (v := some (.int 0)) (fun h => by rw [Bd.returns] at h; cases h)
      refine ⟨_, _, ?_, hrun, hended, _, _, rfl, ?_, ⟨_, rfl⟩, hW, hsame.mono (by decide) (by decide)⟩
      · exact pre6 _ (retN X0 hx (t := .boolean) Bd.returns (by simp) (hb hby d11_17) hr)
      · exact ⟨by simp only [f11, if_neg hc3_1, if_pos hc9_2], N0, e0⟩
    · have pre7 : Go p e below s₁ _ (mkF m 17 #[.val (.int p0)] [(.int 1)]) _ := fun t k => pre5 t (by
        refine XS.icmpNo X0.here hx rfl (hb hby d11_9) rfl (flt hc9_2).2.2.1 ?_
        refine XS.iconst X0.here hx rfl (hb hby d11_12) ?_
        refine XS.goto X0.here hx rfl (pc0 := 13) (pc' := 17) rfl (hb hby d11_13) (by decide) (by decide) ?_
        exact k)
      obtain ⟨fs, hr, hrun, hended, hW, hsame⟩ := X0.leave (v := some (.int 1)) (fun h => by rw [Bd.returns] at h; cases h)
      refine ⟨_, _, ?_, hrun, hended, _, _, rfl, ?_, ⟨_, rfl⟩, hW, hsame.mono (by decide) (by decide)⟩
      · exact pre7 _ (retN X0 hx (t := .boolean) Bd.returns (by simp) (hb hby d11_17) hr)
      · exact ⟨by simp only [f11, if_neg hc3_1, if_neg hc9_2], N0, e0⟩
theorem d17_0 : decode prog_8_method_5_code 0 = .ok (.iload_n 0, 1) := by decide +kernel
theorem d17_1 : decode prog_8_method_5_code 1 = .ok (.bipush 48, 2) := by decide +kernel
theorem d17_3 : decode prog_8_method_5_code 3 = .ok (.if_icmp .lt 13, 3) := by decide +kernel
theorem d17_6 : decode prog_8_method_5_code 6 = .ok (.iload_n 0, 1) := by decide +kernel
theorem d17_7 : decode prog_8_method_5_code 7 = .ok (.bipush 57, 2) := by decide +kernel
theorem d17_9 : decode prog_8_method_5_code 9 = .ok (.if_icmp .gt 7, 3) := by decide +kernel
theorem d17_12 : decode prog_8_method_5_code 12 = .ok (.iconst 1, 1) := by decide +kernel
theorem d17_13 : decode prog_8_method_5_code 13 = .ok (.goto 4, 3) := by decide +kernel
theorem d17_16 : decode prog_8_method_5_code 16 = .ok (.iconst 0, 1) := by decide +kernel
theorem d17_17 : decode prog_8_method_5_code 17 = .ok (.ireturn, 1) := by decide +kernel
theorem pn_17 : plainName "com/example/stint/stint/WholeNumber" = true := by first | (simp [plainName, overriddenIn]; done) | decide +kernel
theorem ef_17 (m : MethodId) (x0 : Int32) : entryFrame m #[(.int x0)] 1 = mkF m 0 #[.val (.int x0)] [] := by first | (simp [entryFrame, mkF, argsToLocals, Value.category]; done) | rfl
def f17 (p0 : Int32) : Int32 := (if p0 < (48 : Int32) then (0 : Int32) else (if (57 : Int32) < p0 then (0 : Int32) else (1 : Int32)))
set_option maxRecDepth 65536 in
set_option maxHeartbeats 40000000 in
theorem rm17 (l : Launch) (Z : State) (a0 : Array Value) (hw : ∀ d ∈ tables_1, d.before a0 Z = true) (ws : List Jvm.Cond) (p0 : Int32) (h0 : Heap) (n0 : Nat) (Z0 : n0 ≤ h0.size) :
    Met1 l Nm_2 (Jvm.Cond.code Nm_2 prog_8_method_5_code 1 (some .boolean)) ws (rom 0 0 0 0) #[(.int p0)] Z h0 (QP (some (.int (f17 p0))) h0 n0) := by
  refine MetFree.of_bodySF (plainFor_of_name pn_17) hisR ?_
  intro p e s m args below meth c s₁ Bd hml0 hP hK
  obtain ⟨rfl, hZ, hh⟩ := hP
  have hx := Bd.exec
  have hby := Bd.bytes
  have hml : c.maxLocals = 1 := hml0
  have hown : s.vm.findClass "com/example/stint/stint/WholeNumber" = some m.cls := findClass_of_methodNamed Bd.named
  have X0 : Stand p l e (rom 0 0 0 0) s m _ _ _ _ _ [] 0 0 := Stand.of_body Bd
  have e0 : s₁.heap = h0 := by rw [← hh, Bd.state]; rfl
  have N0 := Fr.nil n0
  have K0 : Keep h0 h0 [] := Keep.refl _ _
  have pre0 : Go p e below s₁ _ (mkF m 0 #[.val (.int p0)] []) _ := fun t k => castTop (ef_17 m p0) k
  have pre3 : Go p e below s₁ _ (mkF m 3 #[.val (.int p0)] [(.int 48), (.int p0)]) _ := fun t k => pre0 t (by
    refine XS.iloadN X0.here hx rfl (hb hby d17_0) rfl ?_
    refine XS.bipush X0.here hx rfl (hb hby d17_1) ?_
    exact k)
  by_cases hc3_1 : p0 < (48 : Int32)
  · have pre4 : Go p e below s₁ _ (mkF m 17 #[.val (.int p0)] [(.int 0)]) _ := fun t k => pre3 t (by
      refine XS.icmpYes X0.here hx rfl (pc0 := 3) (pc' := 16) rfl (hb hby d17_3) rfl (tlt hc3_1).1 (by decide) (by decide) ?_
      refine XS.iconst X0.here hx rfl (hb hby d17_16) ?_
      exact k)
    obtain ⟨fs, hr, hrun, hended, hW, hsame⟩ := X0.leave (v := some (.int 0)) (fun h => by rw [Bd.returns] at h; cases h)
    refine ⟨_, _, ?_, hrun, hended, _, _, rfl, ?_, ⟨_, rfl⟩, hW, hsame.mono (by decide) (by decide)⟩
    · exact pre4 _ (retN X0 hx (t := .boolean) Bd.returns (by simp) (hb hby d17_17) hr)
    · exact ⟨by simp only [f17, if_pos hc3_1], N0, e0⟩
  · have pre5 : Go p e below s₁ _ (mkF m 9 #[.val (.int p0)] [(.int 57), (.int p0)]) _ := fun t k => pre3 t (by
      refine XS.icmpNo X0.here hx rfl (hb hby d17_3) rfl (flt hc3_1).1 ?_
      refine XS.iloadN X0.here hx rfl (hb hby d17_6) rfl ?_
      refine XS.bipush X0.here hx rfl (hb hby d17_7) ?_
      exact k)
    by_cases hc9_2 : (57 : Int32) < p0
    · have pre6 : Go p e below s₁ _ (mkF m 17 #[.val (.int p0)] [(.int 0)]) _ := fun t k => pre5 t (by
        refine XS.icmpYes X0.here hx rfl (pc0 := 9) (pc' := 16) rfl (hb hby d17_9) rfl (tlt hc9_2).2.2.1 (by decide) (by decide) ?_
        refine XS.iconst X0.here hx rfl (hb hby d17_16) ?_
        exact k)
      obtain ⟨fs, hr, hrun, hended, hW, hsame⟩ := X0.leave (v := some (.int 0)) (fun h => by rw [Bd.returns] at h; cases h)
      refine ⟨_, _, ?_, hrun, hended, _, _, rfl, ?_, ⟨_, rfl⟩, hW, hsame.mono (by decide) (by decide)⟩
      · exact pre6 _ (retN X0 hx (t := .boolean) Bd.returns (by simp) (hb hby d17_17) hr)
      · exact ⟨by simp only [f17, if_neg hc3_1, if_pos hc9_2], N0, e0⟩
    · have pre7 : Go p e below s₁ _ (mkF m 17 #[.val (.int p0)] [(.int 1)]) _ := fun t k => pre5 t (by
        refine XS.icmpNo X0.here hx rfl (hb hby d17_9) rfl (flt hc9_2).2.2.1 ?_
        refine XS.iconst X0.here hx rfl (hb hby d17_12) ?_
        refine XS.goto X0.here hx rfl (pc0 := 13) (pc' := 17) rfl (hb hby d17_13) (by decide) (by decide) ?_
        exact k)
      obtain ⟨fs, hr, hrun, hended, hW, hsame⟩ := X0.leave (v := some (.int 1)) (fun h => by rw [Bd.returns] at h; cases h)
      refine ⟨_, _, ?_, hrun, hended, _, _, rfl, ?_, ⟨_, rfl⟩, hW, hsame.mono (by decide) (by decide)⟩
      · exact pre7 _ (retN X0 hx (t := .boolean) Bd.returns (by simp) (hb hby d17_17) hr)
      · exact ⟨by simp only [f17, if_neg hc3_1, if_neg hc9_2], N0, e0⟩
theorem d7_0 : decode jdk_42_method_152_code 0 = .ok (.getstatic 38, 3) := by decide +kernel
theorem d7_3 : decode jdk_42_method_152_code 3 = .ok (.ifCond .eq 10, 3) := by decide +kernel
theorem d7_6 : decode jdk_42_method_152_code 6 = .ok (.aload_n 0, 1) := by decide +kernel
theorem d7_7 : decode jdk_42_method_152_code 7 = .ok (.getfield 15, 3) := by decide +kernel
theorem d7_10 : decode jdk_42_method_152_code 10 = .ok (.goto 4, 3) := by decide +kernel
theorem d7_14 : decode jdk_42_method_152_code 14 = .ok (.ireturn, 1) := by decide +kernel
theorem pn_7 : plainName "java/lang/String" = true := by first | (simp [plainName, overriddenIn]; done) | decide +kernel
theorem ef_7_L (m : MethodId) (x0 : Addr) : entryFrame m #[(.ref x0)] 1 = mkF m 0 #[.val (.ref x0)] [] := by first | (simp [entryFrame, mkF, argsToLocals, Value.category]; done) | rfl
def f7_L : Int32 := (0 : Int32)
set_option maxRecDepth 65536 in
set_option maxHeartbeats 40000000 in
theorem rm7_L (l : Launch) (Z : State) (a0 : Array Value) (hw : ∀ d ∈ tables_1, d.before a0 Z = true) (ws : List Jvm.Cond) (o0 : Addr) (wcs : Int32) (h0 : Heap) (n0 : Nat) (Z0 : n0 ≤ h0.size) (I0 : Sta Z h0 "java/lang/String" "COMPACT_STRINGS" "Z" (.int wcs)) (I1 : Fld Z h0 o0 "java/lang/String" "coder" "B" (.int 0)) (hcs : ¬ (wcs = (0 : Int32))) :
    Met1 l Nm_3 (Jvm.Cond.code Nm_3 jdk_42_method_152_code 1 (some .byte)) ws (rom 0 0 0 0) #[(.ref o0)] Z h0 (QP (some (.int (f7_L))) h0 n0) := by
  refine MetFree.of_bodySF (plainFor_of_name pn_7) hisR ?_
  intro p e s m args below meth c s₁ Bd hml0 hP hK
  obtain ⟨rfl, hZ, hh⟩ := hP
  have hx := Bd.exec
  have hby := Bd.bytes
  have hml : c.maxLocals = 1 := hml0
  have hown : s.vm.findClass "java/lang/String" = some m.cls := findClass_of_methodNamed Bd.named
  have X0 : Stand p l e (rom 0 0 0 0) s m _ _ _ _ _ [] 0 0 := Stand.of_body Bd
  have e0 : s₁.heap = h0 := by rw [← hh, Bd.state]; rfl
  have N0 := Fr.nil n0
  have K0 : Keep h0 h0 [] := Keep.refl _ _
  have pre0 : Go p e below s₁ _ (mkF m 0 #[.val (.ref o0)] []) _ := fun t k => castTop (ef_7_L m o0) k
  obtain ⟨T1, X1, e1, st1⟩ := getS2 X0 hx hZ hown (host := "") (Or.inl (wq hw 42 rfl)) Via.refl e0 I0 (g := (mkF m 0 #[.val (.ref o0)] [])) rfl (hb hby d7_0)
  have pre2 := Go.thn pre0 st1
  have pre3 : Go p e below T1 _ (mkF m 7 #[.val (.ref o0)] [(.ref o0)]) _ := fun t k => pre2 t (by
    refine XS.ifNo X1.here hx rfl (hb hby d7_3) rfl ((if0 _ _).trans (feq hcs).1) ?_
    refine XS.aloadN X1.here hx rfl (hb hby d7_6) rfl rfl ?_
    exact k)
  obtain ⟨T4, X4, e4, st4⟩ := getF X1 hx hZ hown (host := "") (Or.inl (wq hw 27 rfl)) Via.refl e1 I1 (g := (mkF m 7 #[.val (.ref o0)] [(.ref o0)])) rfl rfl (hb hby d7_7)
  have pre5 := Go.thn pre3 st4
  have pre6 : Go p e below T4 _ (mkF m 14 #[.val (.ref o0)] [(.int 0)]) _ := fun t k => pre5 t (by
    refine XS.goto X4.here hx rfl (pc0 := 10) (pc' := 14) rfl (hb hby d7_10) (by decide) (by decide) ?_
    exact k)
  obtain ⟨fs, hr, hrun, hended, hW, hsame⟩ := X4.leave (v := some (.int 0)) (fun h => by rw [Bd.returns] at h; cases h)
  refine ⟨_, _, ?_, hrun, hended, _, _, rfl, ?_, ⟨_, rfl⟩, hW, hsame.mono (by decide) (by decide)⟩
  · exact pre6 _ (retN X4 hx (t := .byte) Bd.returns (by simp) (hb hby d7_14) hr)
  · exact ⟨by simp only [f7_L], N0, e4⟩
theorem d6_0 : decode jdk_42_method_54_code 0 = .ok (.aload_n 0, 1) := by decide +kernel
theorem d6_1 : decode jdk_42_method_54_code 1 = .ok (.getfield 9, 3) := by decide +kernel
theorem d6_4 : decode jdk_42_method_54_code 4 = .ok (.arraylength, 1) := by decide +kernel
theorem d6_5 : decode jdk_42_method_54_code 5 = .ok (.aload_n 0, 1) := by decide +kernel
theorem d6_6 : decode jdk_42_method_54_code 6 = .ok (.invokevirtual 335, 3) := by decide +kernel
theorem d6_9 : decode jdk_42_method_54_code 9 = .ok (.ishr, 1) := by decide +kernel
theorem d6_10 : decode jdk_42_method_54_code 10 = .ok (.ireturn, 1) := by decide +kernel
theorem pn_6 : plainName "java/lang/String" = true := by first | (simp [plainName, overriddenIn]; done) | decide +kernel
theorem pd___B : parseMethodDescriptor "()B" = some ⟨[], some .byte⟩ := by decide +kernel
theorem ef_6_L (m : MethodId) (x0 : Addr) : entryFrame m #[(.ref x0)] 1 = mkF m 0 #[.val (.ref x0)] [] := by first | (simp [entryFrame, mkF, argsToLocals, Value.category]; done) | rfl
def f6_L (n : Int32) : Int32 := (n >>> ((f7_L) &&& 31))
set_option maxRecDepth 65536 in
set_option maxHeartbeats 40000000 in
theorem rm6_L (l : Launch) (Z : State) (a0 : Array Value) (hw : ∀ d ∈ tables_1, d.before a0 Z = true) (ws : List Jvm.Cond) (o0 : Addr) (wcs : Int32) (oa : Addr) (ka : ClassId) (n : Int32) (Ls : List Int32) (h0 : Heap) (n0 : Nat) (Z0 : n0 ≤ h0.size) (I0 : Sta Z h0 "java/lang/String" "COMPACT_STRINGS" "Z" (.int wcs)) (I1 : Exa Z h0 o0 "java/lang/String") (I2 : Fld Z h0 o0 "java/lang/String" "value" "[B" (.ref oa)) (I3 : Fld Z h0 o0 "java/lang/String" "coder" "B" (.int 0)) (I4 : Arv Z h0 oa ka .byte n (Ls.map Value.int) (.int 0)) (hcs : ¬ (wcs = (0 : Int32))) :
    Met1 l Nm_4 (Jvm.Cond.code Nm_4 jdk_42_method_54_code 1 (some .int)) ws (rom 1 0 0 13) #[(.ref o0)] Z h0 (QP (some (.int (f6_L n))) h0 n0) := by
  refine MetFree.of_bodySF (plainFor_of_name pn_6) hisR ?_
  intro p e s m args below meth c s₁ Bd hml0 hP hK
  obtain ⟨rfl, hZ, hh⟩ := hP
  have hx := Bd.exec
  have hby := Bd.bytes
  have hml : c.maxLocals = 1 := hml0
  have hown : s.vm.findClass "java/lang/String" = some m.cls := findClass_of_methodNamed Bd.named
  have X0 : Stand p l e (rom 1 0 0 13) s m _ _ _ _ _ [] 0 0 := Stand.of_body Bd
  have e0 : s₁.heap = h0 := by rw [← hh, Bd.state]; rfl
  have N0 := Fr.nil n0
  have K0 : Keep h0 h0 [] := Keep.refl _ _
  have pre0 : Go p e below s₁ _ (mkF m 0 #[.val (.ref o0)] []) _ := fun t k => castTop (ef_6_L m o0) k
  have pre1 : Go p e below s₁ _ (mkF m 1 #[.val (.ref o0)] [(.ref o0)]) _ := fun t k => pre0 t (by
    refine XS.aloadN X0.here hx rfl (hb hby d6_0) rfl rfl ?_
    exact k)
  obtain ⟨T2, X2, e2, st2⟩ := getF X0 hx hZ hown (host := "") (Or.inl (wq hw 26 rfl)) Via.refl e0 I2 (g := (mkF m 1 #[.val (.ref o0)] [(.ref o0)])) rfl rfl (hb hby d6_1)
  have pre3 := Go.thn pre1 st2
  obtain ⟨cl4, Ar4, -, Sz4, Mn4, Hs4, -⟩ := id I4
  have pre5 : Go p e below T2 _ (mkF m 5 #[.val (.ref o0)] [(.int n)]) _ := fun t k => pre3 t (by
    show Steps p.tables e below (T2.setTop (mkF m 4 #[.val (.ref o0)] [(.ref oa)])) _
    refine X2.arraylength hx (by rw [e2]; exact Ar4.1) (State.isArrayOf_alike hZ.alike Ar4.2.1) (g := (mkF m 4 #[.val (.ref o0)] [(.ref oa)])) rfl rfl (hb hby d6_4) _ ?_
    rw [len_of Sz4 Mn4]
    exact k)
  have pre6 : Go p e below T2 _ (mkF m 6 #[.val (.ref o0)] [(.ref o0), (.int n)]) _ := fun t k => pre5 t (by
    refine XS.aloadN X2.here hx rfl (hb hby d6_5) rfl rfl ?_
    exact k)
  obtain ⟨cq7, kq7, q7a, q7b, q7c⟩ := isOf hZ e2 I1
  obtain ⟨_, _, ⟨T7, L7, k7, n7⟩, -, X7, ⟨Lc7, hQ7, l7, y7, z7⟩, st7⟩ := X2.virtualBack hx (y := Nm_3) (z := Nm_3) hown (mvT hZ (wq hw 37 rfl)) (mvT hZ (wq hw 38 rfl)) (notFace_of_selects (args := #[]) (mvT hZ (wq hw 40 rfl))) (mvT hZ (wq hw 40 rfl)) (mvT hZ (wq hw 39 rfl)) (by decide) (backOf (W := 1) (rm7_L l Z a0 hw [] o0 wcs h0 n0 Z0 I0 I3 hcs) hZ (wq hw 41 rfl) (wq hw 8 rfl) (by decide) (by decide)) q7a q7c (g := (mkF m 6 #[.val (.ref o0)] [(.ref o0), (.int n)])) rfl (by rw [hml]; rfl) (Steps.refl _) (argsL := []) (rest := [(.int n)]) (lenOf pd___B rfl) rfl (w00 rfl) (hb hby d6_6) (fun _ _ => ⟨rfl, e2, (by decide : 0 + 0 ≤ _), (by decide : 0 + 0 ≤ _)⟩)
  dsimp only [Pt.U, Pt.locs, Pt.cells, Pt.slots] at X7 l7 y7 z7 st7 hQ7
  subst l7 y7 z7
  obtain ⟨rfl, Nq7, e7⟩ := hQ7
  have N7 := Fr.app N0 Nq7
  have pre8 := Go.trn pre6 st7
  have pre9 : Go p e below T7 _ (mkF m 10 #[.val (.ref o0)] [(.int (n >>> ((f7_L) &&& 31)))]) _ := fun t k => pre8 t (by
    refine XS.ishr X7.here hx rfl (hb hby d6_9) rfl ?_
    exact k)
  obtain ⟨fs, hr, hrun, hended, hW, hsame⟩ := X7.leave (v := some (.int (n >>> ((f7_L) &&& 31)))) (fun h => by rw [Bd.returns] at h; cases h)
  refine ⟨_, _, ?_, hrun, hended, _, _, rfl, ?_, ⟨_, rfl⟩, hW, hsame.mono (by decide) (by decide)⟩
  · exact pre9 _ (retI X7 hx Bd.returns (hb hby d6_10) hr)
  · exact ⟨by simp only [f6_L], N7, e7⟩
theorem d13_0 : decode jdk_42_method_154_code 0 = .ok (.getstatic 38, 3) := by decide +kernel
theorem d13_3 : decode jdk_42_method_154_code 3 = .ok (.ifCond .eq 14, 3) := by decide +kernel
theorem d13_6 : decode jdk_42_method_154_code 6 = .ok (.aload_n 0, 1) := by decide +kernel
theorem d13_7 : decode jdk_42_method_154_code 7 = .ok (.getfield 15, 3) := by decide +kernel
theorem d13_10 : decode jdk_42_method_154_code 10 = .ok (.ifCond .ne 7, 3) := by decide +kernel
theorem d13_13 : decode jdk_42_method_154_code 13 = .ok (.iconst 1, 1) := by decide +kernel
theorem d13_14 : decode jdk_42_method_154_code 14 = .ok (.goto 4, 3) := by decide +kernel
theorem d13_18 : decode jdk_42_method_154_code 18 = .ok (.ireturn, 1) := by decide +kernel
theorem pn_13 : plainName "java/lang/String" = true := by first | (simp [plainName, overriddenIn]; done) | decide +kernel
theorem ef_13_L (m : MethodId) (x0 : Addr) : entryFrame m #[(.ref x0)] 1 = mkF m 0 #[.val (.ref x0)] [] := by first | (simp [entryFrame, mkF, argsToLocals, Value.category]; done) | rfl
def f13_L : Int32 := (1 : Int32)
set_option maxRecDepth 65536 in
set_option maxHeartbeats 40000000 in
theorem rm13_L (l : Launch) (Z : State) (a0 : Array Value) (hw : ∀ d ∈ tables_1, d.before a0 Z = true) (ws : List Jvm.Cond) (o0 : Addr) (wcs : Int32) (h0 : Heap) (n0 : Nat) (Z0 : n0 ≤ h0.size) (I0 : Sta Z h0 "java/lang/String" "COMPACT_STRINGS" "Z" (.int wcs)) (I1 : Fld Z h0 o0 "java/lang/String" "coder" "B" (.int 0)) (hcs : ¬ (wcs = (0 : Int32))) :
    Met1 l Nm_5 (Jvm.Cond.code Nm_5 jdk_42_method_154_code 1 (some .boolean)) ws (rom 0 0 0 0) #[(.ref o0)] Z h0 (QP (some (.int (f13_L))) h0 n0) := by
  refine MetFree.of_bodySF (plainFor_of_name pn_13) hisR ?_
  intro p e s m args below meth c s₁ Bd hml0 hP hK
  obtain ⟨rfl, hZ, hh⟩ := hP
  have hx := Bd.exec
  have hby := Bd.bytes
  have hml : c.maxLocals = 1 := hml0
  have hown : s.vm.findClass "java/lang/String" = some m.cls := findClass_of_methodNamed Bd.named
  have X0 : Stand p l e (rom 0 0 0 0) s m _ _ _ _ _ [] 0 0 := Stand.of_body Bd
  have e0 : s₁.heap = h0 := by rw [← hh, Bd.state]; rfl
  have N0 := Fr.nil n0
  have K0 : Keep h0 h0 [] := Keep.refl _ _
  have pre0 : Go p e below s₁ _ (mkF m 0 #[.val (.ref o0)] []) _ := fun t k => castTop (ef_13_L m o0) k
  obtain ⟨T1, X1, e1, st1⟩ := getS2 X0 hx hZ hown (host := "") (Or.inl (wq hw 42 rfl)) Via.refl e0 I0 (g := (mkF m 0 #[.val (.ref o0)] [])) rfl (hb hby d13_0)
  have pre2 := Go.thn pre0 st1
  have pre3 : Go p e below T1 _ (mkF m 7 #[.val (.ref o0)] [(.ref o0)]) _ := fun t k => pre2 t (by
    refine XS.ifNo X1.here hx rfl (hb hby d13_3) rfl ((if0 _ _).trans (feq hcs).1) ?_
    refine XS.aloadN X1.here hx rfl (hb hby d13_6) rfl rfl ?_
    exact k)
  obtain ⟨T4, X4, e4, st4⟩ := getF X1 hx hZ hown (host := "") (Or.inl (wq hw 27 rfl)) Via.refl e1 I1 (g := (mkF m 7 #[.val (.ref o0)] [(.ref o0)])) rfl rfl (hb hby d13_7)
  have pre5 := Go.thn pre3 st4
  have pre6 : Go p e below T4 _ (mkF m 18 #[.val (.ref o0)] [(.int 1)]) _ := fun t k => pre5 t (by
    refine XS.ifNo X4.here hx rfl (hb hby d13_10) rfl (by decide) ?_
    refine XS.iconst X4.here hx rfl (hb hby d13_13) ?_
    refine XS.goto X4.here hx rfl (pc0 := 14) (pc' := 18) rfl (hb hby d13_14) (by decide) (by decide) ?_
    exact k)
  obtain ⟨fs, hr, hrun, hended, hW, hsame⟩ := X4.leave (v := some (.int 1)) (fun h => by rw [Bd.returns] at h; cases h)
  refine ⟨_, _, ?_, hrun, hended, _, _, rfl, ?_, ⟨_, rfl⟩, hW, hsame.mono (by decide) (by decide)⟩
  · exact pre6 _ (retN X4 hx (t := .boolean) Bd.returns (by simp) (hb hby d13_18) hr)
  · exact ⟨by simp only [f13_L], N0, e4⟩
def f7_U : Int32 := (1 : Int32)
set_option maxRecDepth 65536 in
set_option maxHeartbeats 40000000 in
theorem rm7_U (l : Launch) (Z : State) (a0 : Array Value) (hw : ∀ d ∈ tables_1, d.before a0 Z = true) (ws : List Jvm.Cond) (o0 : Addr) (wcs : Int32) (h0 : Heap) (n0 : Nat) (Z0 : n0 ≤ h0.size) (I0 : Sta Z h0 "java/lang/String" "COMPACT_STRINGS" "Z" (.int wcs)) (I1 : Fld Z h0 o0 "java/lang/String" "coder" "B" (.int 1)) (hcs : ¬ (wcs = (0 : Int32))) :
    Met1 l Nm_3 (Jvm.Cond.code Nm_3 jdk_42_method_152_code 1 (some .byte)) ws (rom 0 0 0 0) #[(.ref o0)] Z h0 (QP (some (.int (f7_U))) h0 n0) := by
  refine MetFree.of_bodySF (plainFor_of_name pn_7) hisR ?_
  intro p e s m args below meth c s₁ Bd hml0 hP hK
  obtain ⟨rfl, hZ, hh⟩ := hP
  have hx := Bd.exec
  have hby := Bd.bytes
  have hml : c.maxLocals = 1 := hml0
  have hown : s.vm.findClass "java/lang/String" = some m.cls := findClass_of_methodNamed Bd.named
  have X0 : Stand p l e (rom 0 0 0 0) s m _ _ _ _ _ [] 0 0 := Stand.of_body Bd
  have e0 : s₁.heap = h0 := by rw [← hh, Bd.state]; rfl
  have N0 := Fr.nil n0
  have K0 : Keep h0 h0 [] := Keep.refl _ _
  have pre0 : Go p e below s₁ _ (mkF m 0 #[.val (.ref o0)] []) _ := fun t k => castTop (ef_7_L m o0) k
  obtain ⟨T1, X1, e1, st1⟩ := getS2 X0 hx hZ hown (host := "") (Or.inl (wq hw 42 rfl)) Via.refl e0 I0 (g := (mkF m 0 #[.val (.ref o0)] [])) rfl (hb hby d7_0)
  have pre2 := Go.thn pre0 st1
  have pre3 : Go p e below T1 _ (mkF m 7 #[.val (.ref o0)] [(.ref o0)]) _ := fun t k => pre2 t (by
    refine XS.ifNo X1.here hx rfl (hb hby d7_3) rfl ((if0 _ _).trans (feq hcs).1) ?_
    refine XS.aloadN X1.here hx rfl (hb hby d7_6) rfl rfl ?_
    exact k)
  obtain ⟨T4, X4, e4, st4⟩ := getF X1 hx hZ hown (host := "") (Or.inl (wq hw 27 rfl)) Via.refl e1 I1 (g := (mkF m 7 #[.val (.ref o0)] [(.ref o0)])) rfl rfl (hb hby d7_7)
  have pre5 := Go.thn pre3 st4
  have pre6 : Go p e below T4 _ (mkF m 14 #[.val (.ref o0)] [(.int 1)]) _ := fun t k => pre5 t (by
    refine XS.goto X4.here hx rfl (pc0 := 10) (pc' := 14) rfl (hb hby d7_10) (by decide) (by decide) ?_
    exact k)
  obtain ⟨fs, hr, hrun, hended, hW, hsame⟩ := X4.leave (v := some (.int 1)) (fun h => by rw [Bd.returns] at h; cases h)
  refine ⟨_, _, ?_, hrun, hended, _, _, rfl, ?_, ⟨_, rfl⟩, hW, hsame.mono (by decide) (by decide)⟩
  · exact pre6 _ (retN X4 hx (t := .byte) Bd.returns (by simp) (hb hby d7_14) hr)
  · exact ⟨by simp only [f7_U], N0, e4⟩
def f6_U (n : Int32) : Int32 := (n >>> ((f7_U) &&& 31))
set_option maxRecDepth 65536 in
set_option maxHeartbeats 40000000 in
theorem rm6_U (l : Launch) (Z : State) (a0 : Array Value) (hw : ∀ d ∈ tables_1, d.before a0 Z = true) (ws : List Jvm.Cond) (o0 : Addr) (wcs : Int32) (oa : Addr) (ka : ClassId) (n : Int32) (Ls : List Int32) (h0 : Heap) (n0 : Nat) (Z0 : n0 ≤ h0.size) (I0 : Sta Z h0 "java/lang/String" "COMPACT_STRINGS" "Z" (.int wcs)) (I1 : Exa Z h0 o0 "java/lang/String") (I2 : Fld Z h0 o0 "java/lang/String" "value" "[B" (.ref oa)) (I3 : Fld Z h0 o0 "java/lang/String" "coder" "B" (.int 1)) (I4 : Arv Z h0 oa ka .byte n (Ls.map Value.int) (.int 0)) (hcs : ¬ (wcs = (0 : Int32))) :
    Met1 l Nm_4 (Jvm.Cond.code Nm_4 jdk_42_method_54_code 1 (some .int)) ws (rom 1 0 0 13) #[(.ref o0)] Z h0 (QP (some (.int (f6_U n))) h0 n0) := by
  refine MetFree.of_bodySF (plainFor_of_name pn_6) hisR ?_
  intro p e s m args below meth c s₁ Bd hml0 hP hK
  obtain ⟨rfl, hZ, hh⟩ := hP
  have hx := Bd.exec
  have hby := Bd.bytes
  have hml : c.maxLocals = 1 := hml0
  have hown : s.vm.findClass "java/lang/String" = some m.cls := findClass_of_methodNamed Bd.named
  have X0 : Stand p l e (rom 1 0 0 13) s m _ _ _ _ _ [] 0 0 := Stand.of_body Bd
  have e0 : s₁.heap = h0 := by rw [← hh, Bd.state]; rfl
  have N0 := Fr.nil n0
  have K0 : Keep h0 h0 [] := Keep.refl _ _
  have pre0 : Go p e below s₁ _ (mkF m 0 #[.val (.ref o0)] []) _ := fun t k => castTop (ef_6_L m o0) k
  have pre1 : Go p e below s₁ _ (mkF m 1 #[.val (.ref o0)] [(.ref o0)]) _ := fun t k => pre0 t (by
    refine XS.aloadN X0.here hx rfl (hb hby d6_0) rfl rfl ?_
    exact k)
  obtain ⟨T2, X2, e2, st2⟩ := getF X0 hx hZ hown (host := "") (Or.inl (wq hw 26 rfl)) Via.refl e0 I2 (g := (mkF m 1 #[.val (.ref o0)] [(.ref o0)])) rfl rfl (hb hby d6_1)
  have pre3 := Go.thn pre1 st2
  obtain ⟨cl4, Ar4, -, Sz4, Mn4, Hs4, -⟩ := id I4
  have pre5 : Go p e below T2 _ (mkF m 5 #[.val (.ref o0)] [(.int n)]) _ := fun t k => pre3 t (by
    show Steps p.tables e below (T2.setTop (mkF m 4 #[.val (.ref o0)] [(.ref oa)])) _
    refine X2.arraylength hx (by rw [e2]; exact Ar4.1) (State.isArrayOf_alike hZ.alike Ar4.2.1) (g := (mkF m 4 #[.val (.ref o0)] [(.ref oa)])) rfl rfl (hb hby d6_4) _ ?_
    rw [len_of Sz4 Mn4]
    exact k)
  have pre6 : Go p e below T2 _ (mkF m 6 #[.val (.ref o0)] [(.ref o0), (.int n)]) _ := fun t k => pre5 t (by
    refine XS.aloadN X2.here hx rfl (hb hby d6_5) rfl rfl ?_
    exact k)
  obtain ⟨cq7, kq7, q7a, q7b, q7c⟩ := isOf hZ e2 I1
  obtain ⟨_, _, ⟨T7, L7, k7, n7⟩, -, X7, ⟨Lc7, hQ7, l7, y7, z7⟩, st7⟩ := X2.virtualBack hx (y := Nm_3) (z := Nm_3) hown (mvT hZ (wq hw 37 rfl)) (mvT hZ (wq hw 38 rfl)) (notFace_of_selects (args := #[]) (mvT hZ (wq hw 40 rfl))) (mvT hZ (wq hw 40 rfl)) (mvT hZ (wq hw 39 rfl)) (by decide) (backOf (W := 1) (rm7_U l Z a0 hw [] o0 wcs h0 n0 Z0 I0 I3 hcs) hZ (wq hw 41 rfl) (wq hw 8 rfl) (by decide) (by decide)) q7a q7c (g := (mkF m 6 #[.val (.ref o0)] [(.ref o0), (.int n)])) rfl (by rw [hml]; rfl) (Steps.refl _) (argsL := []) (rest := [(.int n)]) (lenOf pd___B rfl) rfl (w00 rfl) (hb hby d6_6) (fun _ _ => ⟨rfl, e2, (by decide : 0 + 0 ≤ _), (by decide : 0 + 0 ≤ _)⟩)
  dsimp only [Pt.U, Pt.locs, Pt.cells, Pt.slots] at X7 l7 y7 z7 st7 hQ7
  subst l7 y7 z7
  obtain ⟨rfl, Nq7, e7⟩ := hQ7
  have N7 := Fr.app N0 Nq7
  have pre8 := Go.trn pre6 st7
  have pre9 : Go p e below T7 _ (mkF m 10 #[.val (.ref o0)] [(.int (n >>> ((f7_U) &&& 31)))]) _ := fun t k => pre8 t (by
    refine XS.ishr X7.here hx rfl (hb hby d6_9) rfl ?_
    exact k)
  obtain ⟨fs, hr, hrun, hended, hW, hsame⟩ := X7.leave (v := some (.int (n >>> ((f7_U) &&& 31)))) (fun h => by rw [Bd.returns] at h; cases h)
  refine ⟨_, _, ?_, hrun, hended, _, _, rfl, ?_, ⟨_, rfl⟩, hW, hsame.mono (by decide) (by decide)⟩
  · exact pre9 _ (retI X7 hx Bd.returns (hb hby d6_10) hr)
  · exact ⟨by simp only [f6_U], N7, e7⟩
theorem d13_17 : decode jdk_42_method_154_code 17 = .ok (.iconst 0, 1) := by decide +kernel
def f13_U : Int32 := (0 : Int32)
set_option maxRecDepth 65536 in
set_option maxHeartbeats 40000000 in
theorem rm13_U (l : Launch) (Z : State) (a0 : Array Value) (hw : ∀ d ∈ tables_1, d.before a0 Z = true) (ws : List Jvm.Cond) (o0 : Addr) (wcs : Int32) (h0 : Heap) (n0 : Nat) (Z0 : n0 ≤ h0.size) (I0 : Sta Z h0 "java/lang/String" "COMPACT_STRINGS" "Z" (.int wcs)) (I1 : Fld Z h0 o0 "java/lang/String" "coder" "B" (.int 1)) (hcs : ¬ (wcs = (0 : Int32))) :
    Met1 l Nm_5 (Jvm.Cond.code Nm_5 jdk_42_method_154_code 1 (some .boolean)) ws (rom 0 0 0 0) #[(.ref o0)] Z h0 (QP (some (.int (f13_U))) h0 n0) := by
  refine MetFree.of_bodySF (plainFor_of_name pn_13) hisR ?_
  intro p e s m args below meth c s₁ Bd hml0 hP hK
  obtain ⟨rfl, hZ, hh⟩ := hP
  have hx := Bd.exec
  have hby := Bd.bytes
  have hml : c.maxLocals = 1 := hml0
  have hown : s.vm.findClass "java/lang/String" = some m.cls := findClass_of_methodNamed Bd.named
  have X0 : Stand p l e (rom 0 0 0 0) s m _ _ _ _ _ [] 0 0 := Stand.of_body Bd
  have e0 : s₁.heap = h0 := by rw [← hh, Bd.state]; rfl
  have N0 := Fr.nil n0
  have K0 : Keep h0 h0 [] := Keep.refl _ _
  have pre0 : Go p e below s₁ _ (mkF m 0 #[.val (.ref o0)] []) _ := fun t k => castTop (ef_13_L m o0) k
  obtain ⟨T1, X1, e1, st1⟩ := getS2 X0 hx hZ hown (host := "") (Or.inl (wq hw 42 rfl)) Via.refl e0 I0 (g := (mkF m 0 #[.val (.ref o0)] [])) rfl (hb hby d13_0)
  have pre2 := Go.thn pre0 st1
  have pre3 : Go p e below T1 _ (mkF m 7 #[.val (.ref o0)] [(.ref o0)]) _ := fun t k => pre2 t (by
    refine XS.ifNo X1.here hx rfl (hb hby d13_3) rfl ((if0 _ _).trans (feq hcs).1) ?_
    refine XS.aloadN X1.here hx rfl (hb hby d13_6) rfl rfl ?_
    exact k)
  obtain ⟨T4, X4, e4, st4⟩ := getF X1 hx hZ hown (host := "") (Or.inl (wq hw 27 rfl)) Via.refl e1 I1 (g := (mkF m 7 #[.val (.ref o0)] [(.ref o0)])) rfl rfl (hb hby d13_7)
  have pre5 := Go.thn pre3 st4
  have pre6 : Go p e below T4 _ (mkF m 18 #[.val (.ref o0)] [(.int 0)]) _ := fun t k => pre5 t (by
    refine XS.ifYes X4.here hx rfl (pc0 := 10) (pc' := 17) rfl (hb hby d13_10) rfl (by decide) (by decide) (by decide) ?_
    refine XS.iconst X4.here hx rfl (hb hby d13_17) ?_
    exact k)
  obtain ⟨fs, hr, hrun, hended, hW, hsame⟩ := X4.leave (v := some (.int 0)) (fun h => by rw [Bd.returns] at h; cases h)
  refine ⟨_, _, ?_, hrun, hended, _, _, rfl, ?_, ⟨_, rfl⟩, hW, hsame.mono (by decide) (by decide)⟩
  · exact pre6 _ (retN X4 hx (t := .boolean) Bd.returns (by simp) (hb hby d13_18) hr)
  · exact ⟨by simp only [f13_U], N0, e4⟩
theorem d16_0 : decode jdk_41_method_11_code 0 = .ok (.iload_n 0, 1) := by decide +kernel
theorem d16_1 : decode jdk_41_method_11_code 1 = .ok (.ifCond .lt 8, 3) := by decide +kernel
theorem d16_4 : decode jdk_41_method_11_code 4 = .ok (.iload_n 0, 1) := by decide +kernel
theorem d16_5 : decode jdk_41_method_11_code 5 = .ok (.iload_n 1, 1) := by decide +kernel
theorem d16_6 : decode jdk_41_method_11_code 6 = .ok (.if_icmp .lt 10, 3) := by decide +kernel
theorem d16_16 : decode jdk_41_method_11_code 16 = .ok (.iload_n 0, 1) := by decide +kernel
theorem d16_17 : decode jdk_41_method_11_code 17 = .ok (.ireturn, 1) := by decide +kernel
theorem pn_16 : plainName "jdk/internal/util/Preconditions" = true := by first | (simp [plainName, overriddenIn]; done) | decide +kernel
theorem ef_16 (m : MethodId) (x0 : Int32) (x1 : Int32) (x2 : Value) (h2 : x2.isRef = true) : entryFrame m #[(.int x0), (.int x1), x2] 3 = mkF m 0 #[.val (.int x0), .val (.int x1), .val x2] [] := by rcases ref_cases h2 with rfl | ⟨y2, rfl⟩ <;> first | (simp [entryFrame, mkF, argsToLocals, Value.category]; done) | rfl
def f16 (p0 : Int32) : Int32 := p0
set_option maxRecDepth 65536 in
set_option maxHeartbeats 40000000 in
theorem rm16 (l : Launch) (Z : State) (a0 : Array Value) (hw : ∀ d ∈ tables_1, d.before a0 Z = true) (ws : List Jvm.Cond) (p0 : Int32) (p1 : Int32) (o2 : Value) (h0 : Heap) (n0 : Nat) (Z0 : n0 ≤ h0.size) (isref_o2 : o2.isRef = true) (hi0 : ¬ (p0 < (0 : Int32))) (hi1 : p0 < p1) :
    Met1 l Nm_6 (Jvm.Cond.code Nm_6 jdk_41_method_11_code 3 (some .int)) ws (rom 0 0 0 0) #[(.int p0), (.int p1), o2] Z h0 (QP (some (.int (f16 p0))) h0 n0) := by
  refine MetFree.of_bodySF (plainFor_of_name pn_16) hisR ?_
  intro p e s m args below meth c s₁ Bd hml0 hP hK
  obtain ⟨rfl, hZ, hh⟩ := hP
  have hx := Bd.exec
  have hby := Bd.bytes
  have hml : c.maxLocals = 3 := hml0
  have hown : s.vm.findClass "jdk/internal/util/Preconditions" = some m.cls := findClass_of_methodNamed Bd.named
  have X0 : Stand p l e (rom 0 0 0 0) s m _ _ _ _ _ [] 0 0 := Stand.of_body Bd
  have e0 : s₁.heap = h0 := by rw [← hh, Bd.state]; rfl
  have N0 := Fr.nil n0
  have K0 : Keep h0 h0 [] := Keep.refl _ _
  have pre0 : Go p e below s₁ _ (mkF m 0 #[.val (.int p0), .val (.int p1), .val o2] []) _ := fun t k => castTop (ef_16 m p0 p1 o2 isref_o2) k
  have pre1 : Go p e below s₁ _ (mkF m 17 #[.val (.int p0), .val (.int p1), .val o2] [(.int p0)]) _ := fun t k => pre0 t (by
    refine XS.iloadN X0.here hx rfl (hb hby d16_0) rfl ?_
    refine XS.ifNo X0.here hx rfl (hb hby d16_1) rfl ((if0 _ _).trans (flt hi0).1) ?_
    refine XS.iloadN X0.here hx rfl (hb hby d16_4) rfl ?_
    refine XS.iloadN X0.here hx rfl (hb hby d16_5) rfl ?_
    refine XS.icmpYes X0.here hx rfl (pc0 := 6) (pc' := 16) rfl (hb hby d16_6) rfl (tlt hi1).1 (by decide) (by decide) ?_
    refine XS.iloadN X0.here hx rfl (hb hby d16_16) rfl ?_
    exact k)
  obtain ⟨fs, hr, hrun, hended, hW, hsame⟩ := X0.leave (v := some (.int p0)) (fun h => by rw [Bd.returns] at h; cases h)
  refine ⟨_, _, ?_, hrun, hended, _, _, rfl, ?_, ⟨_, rfl⟩, hW, hsame.mono (by decide) (by decide)⟩
  · exact pre1 _ (retI X0 hx Bd.returns (hb hby d16_17) hr)
  · exact ⟨by simp only [f16], N0, e0⟩
theorem d15_0 : decode jdk_42_method_155_code 0 = .ok (.iload_n 0, 1) := by decide +kernel
theorem d15_1 : decode jdk_42_method_155_code 1 = .ok (.iload_n 1, 1) := by decide +kernel
theorem d15_2 : decode jdk_42_method_155_code 2 = .ok (.getstatic 1053, 3) := by decide +kernel
theorem d15_5 : decode jdk_42_method_155_code 5 = .ok (.invokestatic 1059, 3) := by decide +kernel
theorem d15_8 : decode jdk_42_method_155_code 8 = .ok (.pop, 1) := by decide +kernel
theorem d15_9 : decode jdk_42_method_155_code 9 = .ok (.return_, 1) := by decide +kernel
theorem pn_15 : plainName "java/lang/String" = true := by first | (simp [plainName, overriddenIn]; done) | decide +kernel
theorem pd__IILjava_util_function_BiFunction__I : parseMethodDescriptor "(IILjava/util/function/BiFunction;)I" = some ⟨[.int, .int, (.object "java/util/function/BiFunction")], some .int⟩ := by decide +kernel
theorem ef_15 (m : MethodId) (x0 : Int32) (x1 : Int32) : entryFrame m #[(.int x0), (.int x1)] 2 = mkF m 0 #[.val (.int x0), .val (.int x1)] [] := by first | (simp [entryFrame, mkF, argsToLocals, Value.category]; done) | rfl
set_option maxRecDepth 65536 in
set_option maxHeartbeats 40000000 in
theorem rm15 (l : Launch) (Z : State) (a0 : Array Value) (hw : ∀ d ∈ tables_1, d.before a0 Z = true) (ws : List Jvm.Cond) (p0 : Int32) (p1 : Int32) (wsf : Value) (h0 : Heap) (n0 : Nat) (Z0 : n0 ≤ h0.size) (I0 : Sta Z h0 "jdk/internal/util/Preconditions" "SIOOBE_FORMATTER" "Ljava/util/function/BiFunction;" wsf) (hsf : wsf.isRef = true) (hi0 : ¬ (p0 < (0 : Int32))) (hi1 : p0 < p1) :
    Met1 l Nm_7 (Jvm.Cond.code Nm_7 jdk_42_method_155_code 2 none) ws (rom 1 0 0 14) #[(.int p0), (.int p1)] Z h0 (QP none h0 n0) := by
  refine MetFree.of_bodySF (plainFor_of_name pn_15) hisR ?_
  intro p e s m args below meth c s₁ Bd hml0 hP hK
  obtain ⟨rfl, hZ, hh⟩ := hP
  have hx := Bd.exec
  have hby := Bd.bytes
  have hml : c.maxLocals = 2 := hml0
  have hown : s.vm.findClass "java/lang/String" = some m.cls := findClass_of_methodNamed Bd.named
  have X0 : Stand p l e (rom 1 0 0 14) s m _ _ _ _ _ [] 0 0 := Stand.of_body Bd
  have e0 : s₁.heap = h0 := by rw [← hh, Bd.state]; rfl
  have N0 := Fr.nil n0
  have K0 : Keep h0 h0 [] := Keep.refl _ _
  have pre0 : Go p e below s₁ _ (mkF m 0 #[.val (.int p0), .val (.int p1)] []) _ := fun t k => castTop (ef_15 m p0 p1) k
  have pre1 : Go p e below s₁ _ (mkF m 2 #[.val (.int p0), .val (.int p1)] [(.int p1), (.int p0)]) _ := fun t k => pre0 t (by
    refine XS.iloadN X0.here hx rfl (hb hby d15_0) rfl ?_
    refine XS.iloadN X0.here hx rfl (hb hby d15_1) rfl ?_
    exact k)
  obtain ⟨T2, X2, e2, st2⟩ := getS2 X0 hx hZ hown (host := "") (Or.inl (wq hw 73 rfl)) Via.refl e0 I0 (g := (mkF m 2 #[.val (.int p0), .val (.int p1)] [(.int p1), (.int p0)])) rfl (hb hby d15_2)
  have pre3 := Go.thn pre1 st2
  obtain ⟨_, _, ⟨T4, L4, k4, n4⟩, -, X4, ⟨Lc4, hQ4, l4, y4, z4⟩, st4⟩ := Jvm.LawKit.callS X2 hx (y := Nm_6) hown (mvT hZ (wq hw 75 rfl)) (mvT hZ (wq hw 76 rfl)) (mvT hZ (wq hw 74 rfl)) (mvT hZ (wq hw 77 rfl)) (by decide) (backOf (W := 0) (rm16 l Z a0 hw [] p0 p1 wsf h0 n0 Z0 hsf hi0 hi1) hZ (wq hw 77 rfl) (wq hw 74 rfl) (by decide) (by decide)) (g := (mkF m 5 #[.val (.int p0), .val (.int p1)] [wsf, (.int p1), (.int p0)])) rfl (by rw [hml]; rfl) (argsL := [(.int p0), (.int p1), wsf]) (rest := []) (lenOf pd__IILjava_util_function_BiFunction__I rfl) rfl (w00 rfl) (hb hby d15_5) (fun _ _ => ⟨rfl, e2, (by decide : 0 + 0 ≤ _), (by decide : 0 + 0 ≤ _)⟩)
  dsimp only [Pt.U, Pt.locs, Pt.cells, Pt.slots] at X4 l4 y4 z4 st4 hQ4
  subst l4 y4 z4
  obtain ⟨rfl, Nq4, e4⟩ := hQ4
  have N4 := Fr.app N0 Nq4
  have pre5 := Go.thn pre3 st4
  have pre6 : Go p e below T4 _ (mkF m 9 #[.val (.int p0), .val (.int p1)] []) _ := fun t k => pre5 t (by
    refine XS.pop X4.here hx rfl (hb hby d15_8) rfl rfl ?_
    exact k)
  obtain ⟨fs, hr, hrun, hended, hW, hsame⟩ := X4.leave (v := none) (fun _ => rfl)
  refine ⟨_, _, ?_, hrun, hended, _, _, rfl, ?_, ⟨_, rfl⟩, hW, hsame.mono (by decide) (by decide)⟩
  · exact pre6 _ (X4.returnOut hx Bd.returns (hb hby d15_9) hr)
  · exact ⟨rfl, N4, e4⟩
theorem d14_0 : decode jdk_43_method_2_code 0 = .ok (.iload_n 1, 1) := by decide +kernel
theorem d14_1 : decode jdk_43_method_2_code 1 = .ok (.aload_n 0, 1) := by decide +kernel
theorem d14_2 : decode jdk_43_method_2_code 2 = .ok (.arraylength, 1) := by decide +kernel
theorem d14_3 : decode jdk_43_method_2_code 3 = .ok (.invokestatic 9, 3) := by decide +kernel
theorem d14_6 : decode jdk_43_method_2_code 6 = .ok (.aload_n 0, 1) := by decide +kernel
theorem d14_7 : decode jdk_43_method_2_code 7 = .ok (.iload_n 1, 1) := by decide +kernel
theorem d14_8 : decode jdk_43_method_2_code 8 = .ok (.baload, 1) := by decide +kernel
theorem d14_9 : decode jdk_43_method_2_code 9 = .ok (.sipush 255, 3) := by decide +kernel
theorem d14_12 : decode jdk_43_method_2_code 12 = .ok (.iand, 1) := by decide +kernel
theorem d14_13 : decode jdk_43_method_2_code 13 = .ok (.i2c, 1) := by decide +kernel
theorem d14_14 : decode jdk_43_method_2_code 14 = .ok (.ireturn, 1) := by decide +kernel
theorem pn_14 : plainName "java/lang/StringLatin1" = true := by first | (simp [plainName, overriddenIn]; done) | decide +kernel
theorem pd__II_V : parseMethodDescriptor "(II)V" = some ⟨[.int, .int], none⟩ := by decide +kernel
theorem ef_14 (m : MethodId) (x0 : Addr) (x1 : Int32) : entryFrame m #[(.ref x0), (.int x1)] 2 = mkF m 0 #[.val (.ref x0), .val (.int x1)] [] := by first | (simp [entryFrame, mkF, argsToLocals, Value.category]; done) | rfl
def f14 (p1 : Int32) (Ls : List Int32) : Int32 := (nar .char (((own_at Ls p1) &&& (255 : Int32)).toUInt32.toUInt16.toUInt32.toInt32))
set_option maxRecDepth 65536 in
set_option maxHeartbeats 40000000 in
theorem rm14 (l : Launch) (Z : State) (a0 : Array Value) (hw : ∀ d ∈ tables_1, d.before a0 Z = true) (ws : List Jvm.Cond) (o0 : Addr) (p1 : Int32) (wsf : Value) (ka : ClassId) (n : Int32) (Ls : List Int32) (h0 : Heap) (n0 : Nat) (Z0 : n0 ≤ h0.size) (I0 : Sta Z h0 "jdk/internal/util/Preconditions" "SIOOBE_FORMATTER" "Ljava/util/function/BiFunction;" wsf) (I1 : Arv Z h0 o0 ka .byte n (Ls.map Value.int) (.int 0)) (hsf : wsf.isRef = true) (hi0 : ¬ (p1 < (0 : Int32))) (hi1 : p1 < n) :
    Met1 l Nm_8 (Jvm.Cond.code Nm_8 jdk_43_method_2_code 2 (some .char)) ws (rom 2 0 0 27) #[(.ref o0), (.int p1)] Z h0 (QP (some (.int (f14 p1 Ls))) h0 n0) := by
  refine MetFree.of_bodySF (plainFor_of_name pn_14) hisR ?_
  intro p e s m args below meth c s₁ Bd hml0 hP hK
  obtain ⟨rfl, hZ, hh⟩ := hP
  have hx := Bd.exec
  have hby := Bd.bytes
  have hml : c.maxLocals = 2 := hml0
  have hown : s.vm.findClass "java/lang/StringLatin1" = some m.cls := findClass_of_methodNamed Bd.named
  have X0 : Stand p l e (rom 2 0 0 27) s m _ _ _ _ _ [] 0 0 := Stand.of_body Bd
  have e0 : s₁.heap = h0 := by rw [← hh, Bd.state]; rfl
  have N0 := Fr.nil n0
  have K0 : Keep h0 h0 [] := Keep.refl _ _
  have pre0 : Go p e below s₁ _ (mkF m 0 #[.val (.ref o0), .val (.int p1)] []) _ := fun t k => castTop (ef_14 m o0 p1) k
  have pre1 : Go p e below s₁ _ (mkF m 2 #[.val (.ref o0), .val (.int p1)] [(.ref o0), (.int p1)]) _ := fun t k => pre0 t (by
    refine XS.iloadN X0.here hx rfl (hb hby d14_0) rfl ?_
    refine XS.aloadN X0.here hx rfl (hb hby d14_1) rfl rfl ?_
    exact k)
  obtain ⟨cl2, Ar2, -, Sz2, Mn2, Hs2, -⟩ := id I1
  have pre3 : Go p e below s₁ _ (mkF m 3 #[.val (.ref o0), .val (.int p1)] [(.int n), (.int p1)]) _ := fun t k => pre1 t (by
    show Steps p.tables e below (s₁.setTop (mkF m 2 #[.val (.ref o0), .val (.int p1)] [(.ref o0), (.int p1)])) _
    refine X0.arraylength hx (by rw [e0]; exact Ar2.1) (State.isArrayOf_alike hZ.alike Ar2.2.1) (g := (mkF m 2 #[.val (.ref o0), .val (.int p1)] [(.ref o0), (.int p1)])) rfl rfl (hb hby d14_2) _ ?_
    rw [len_of Sz2 Mn2]
    exact k)
  obtain ⟨_, _, ⟨T4, L4, k4, n4⟩, -, X4, ⟨Lc4, hQ4, l4, y4, z4⟩, st4⟩ := Jvm.LawKit.callS X0 hx (y := Nm_7) hown (mvT hZ (wq hw 70 rfl)) (mvT hZ (wq hw 71 rfl)) (mvT hZ (wq hw 8 rfl)) (mvT hZ (wq hw 72 rfl)) (by decide) (backOf (W := 0) (rm15 l Z a0 hw [] p1 n wsf h0 n0 Z0 I0 hsf hi0 hi1) hZ (wq hw 72 rfl) (wq hw 8 rfl) (by decide) (by decide)) (g := (mkF m 3 #[.val (.ref o0), .val (.int p1)] [(.int n), (.int p1)])) rfl (by rw [hml]; rfl) (argsL := [(.int p1), (.int n)]) (rest := []) (lenOf pd__II_V rfl) rfl (w00 rfl) (hb hby d14_3) (fun _ _ => ⟨rfl, e0, (by decide : 0 + 0 ≤ _), (by decide : 0 + 0 ≤ _)⟩)
  dsimp only [Pt.U, Pt.locs, Pt.cells, Pt.slots] at X4 l4 y4 z4 st4 hQ4
  subst l4 y4 z4
  obtain ⟨rfl, Nq4, e4⟩ := hQ4
  have N4 := Fr.app N0 Nq4
  have pre5 := Go.thn pre3 st4
  have pre6 : Go p e below T4 _ (mkF m 8 #[.val (.ref o0), .val (.int p1)] [(.int p1), (.ref o0)]) _ := fun t k => pre5 t (by
    refine XS.aloadN X4.here hx rfl (hb hby d14_6) rfl rfl ?_
    refine XS.iloadN X4.here hx rfl (hb hby d14_7) rfl ?_
    exact k)
  obtain ⟨cl7, Ar7, -, Sz7, Mn7, Hs7, -⟩ := id I1
  have hin7 : ¬ (p1 < 0 ∨ cl7.slots.size ≤ (p1).toNatClampNeg) := inb_of Sz7 ⟨hi0, hi1⟩
  have hat7 : cl7.slots[(p1).toNatClampNeg]? = some (.int (own_at Ls p1)) := Hs7.at hin7 (own_getD _ _)
  have pre8 : Go p e below T4 _ (mkF m 9 #[.val (.ref o0), .val (.int p1)] [(.int (own_at Ls p1))]) _ := fun t k => pre6 t (by
    show Steps p.tables e below (T4.setTop (mkF m 8 #[.val (.ref o0), .val (.int p1)] [(.int p1), (.ref o0)])) _
    refine X4.baloadBytes hx (j := p1) (v := (.int (own_at Ls p1))) (by rw [e4]; exact Ar7.1) (State.isArrayOf_alike hZ.alike Ar7.2.1) Ar7.2.2 hin7 hat7 (g := (mkF m 8 #[.val (.ref o0), .val (.int p1)] [(.int p1), (.ref o0)])) rfl rfl (hb hby d14_8) _ ?_
    exact k)
  have pre9 : Go p e below T4 _ (mkF m 14 #[.val (.ref o0), .val (.int p1)] [(.int (((own_at Ls p1) &&& (255 : Int32)).toUInt32.toUInt16.toUInt32.toInt32))]) _ := fun t k => pre8 t (by
    refine XS.sipush X4.here hx rfl (hb hby d14_9) ?_
    refine XS.iand X4.here hx rfl (hb hby d14_12) rfl ?_
    refine XS.i2c X4.here hx rfl (hb hby d14_13) rfl ?_
    exact k)
  obtain ⟨fs, hr, hrun, hended, hW, hsame⟩ := X4.leave (v := some (.int (nar .char (((own_at Ls p1) &&& (255 : Int32)).toUInt32.toUInt16.toUInt32.toInt32)))) (fun h => by rw [Bd.returns] at h; cases h)
  refine ⟨_, _, ?_, hrun, hended, _, _, rfl, ?_, ⟨_, rfl⟩, hW, hsame.mono (by decide) (by decide)⟩
  · exact pre9 _ (retN X4 hx (t := .char) Bd.returns (by simp) (hb hby d14_14) hr)
  · exact ⟨by simp only [f14], N4, e4⟩
theorem d22_0 : decode jdk_52_method_5_code 0 = .ok (.getstatic 44, 3) := by decide +kernel
theorem d22_3 : decode jdk_52_method_5_code 3 = .ok (.ifCond .ne 25, 3) := by decide +kernel
theorem d22_28 : decode jdk_52_method_5_code 28 = .ok (.iload_n 1, 1) := by decide +kernel
theorem d22_29 : decode jdk_52_method_5_code 29 = .ok (.iconst 1, 1) := by decide +kernel
theorem d22_30 : decode jdk_52_method_5_code 30 = .ok (.ishl, 1) := by decide +kernel
theorem d22_31 : decode jdk_52_method_5_code 31 = .ok (.istore_n 1, 1) := by decide +kernel
theorem d22_32 : decode jdk_52_method_5_code 32 = .ok (.aload_n 0, 1) := by decide +kernel
theorem d22_33 : decode jdk_52_method_5_code 33 = .ok (.iload_n 1, 1) := by decide +kernel
theorem d22_34 : decode jdk_52_method_5_code 34 = .ok (.iinc 1 1, 3) := by decide +kernel
theorem d22_37 : decode jdk_52_method_5_code 37 = .ok (.baload, 1) := by decide +kernel
theorem d22_38 : decode jdk_52_method_5_code 38 = .ok (.sipush 255, 3) := by decide +kernel
theorem d22_41 : decode jdk_52_method_5_code 41 = .ok (.iand, 1) := by decide +kernel
theorem d22_42 : decode jdk_52_method_5_code 42 = .ok (.getstatic 59, 3) := by decide +kernel
theorem d22_45 : decode jdk_52_method_5_code 45 = .ok (.ishl, 1) := by decide +kernel
theorem d22_46 : decode jdk_52_method_5_code 46 = .ok (.aload_n 0, 1) := by decide +kernel
theorem d22_47 : decode jdk_52_method_5_code 47 = .ok (.iload_n 1, 1) := by decide +kernel
theorem d22_48 : decode jdk_52_method_5_code 48 = .ok (.baload, 1) := by decide +kernel
theorem d22_49 : decode jdk_52_method_5_code 49 = .ok (.sipush 255, 3) := by decide +kernel
theorem d22_52 : decode jdk_52_method_5_code 52 = .ok (.iand, 1) := by decide +kernel
theorem d22_53 : decode jdk_52_method_5_code 53 = .ok (.getstatic 63, 3) := by decide +kernel
theorem d22_56 : decode jdk_52_method_5_code 56 = .ok (.ishl, 1) := by decide +kernel
theorem d22_57 : decode jdk_52_method_5_code 57 = .ok (.ior, 1) := by decide +kernel
theorem d22_58 : decode jdk_52_method_5_code 58 = .ok (.i2c, 1) := by decide +kernel
theorem d22_59 : decode jdk_52_method_5_code 59 = .ok (.ireturn, 1) := by decide +kernel
theorem pn_22 : plainName "java/lang/StringUTF16" = true := by first | (simp [plainName, overriddenIn]; done) | decide +kernel
theorem ef_22 (m : MethodId) (x0 : Addr) (x1 : Int32) : entryFrame m #[(.ref x0), (.int x1)] 2 = mkF m 0 #[.val (.ref x0), .val (.int x1)] [] := by first | (simp [entryFrame, mkF, argsToLocals, Value.category]; done) | rfl
def f22 (p1 : Int32) (Ls : List Int32) : Int32 := (nar .char (((((own_at Ls (p1 <<< ((1 : Int32) &&& 31))) &&& (255 : Int32)) <<< ((0 : Int32) &&& 31)) ||| (((own_at Ls ((p1 <<< ((1 : Int32) &&& 31)) + (1 : Int32))) &&& (255 : Int32)) <<< ((8 : Int32) &&& 31))).toUInt32.toUInt16.toUInt32.toInt32))
set_option maxRecDepth 65536 in
set_option maxHeartbeats 40000000 in
theorem rm22 (l : Launch) (Z : State) (a0 : Array Value) (hw : ∀ d ∈ tables_1, d.before a0 Z = true) (ws : List Jvm.Cond) (o0 : Addr) (p1 : Int32) (ka : ClassId) (n : Int32) (Ls : List Int32) (h0 : Heap) (n0 : Nat) (Z0 : n0 ≤ h0.size) (I0 : Sta Z h0 "java/lang/StringUTF16" "$assertionsDisabled" "Z" (.int 1)) (I1 : Sta Z h0 "java/lang/StringUTF16" "HI_BYTE_SHIFT" "I" (.int 0)) (I2 : Sta Z h0 "java/lang/StringUTF16" "LO_BYTE_SHIFT" "I" (.int 8)) (I3 : Arv Z h0 o0 ka .byte n (Ls.map Value.int) (.int 0)) (ha0 : ¬ ((p1 <<< ((1 : Int32) &&& 31)) < (0 : Int32))) (ha1 : (p1 <<< ((1 : Int32) &&& 31)) < n) (hb0 : ¬ (((p1 <<< ((1 : Int32) &&& 31)) + (1 : Int32)) < (0 : Int32))) (hb1 : ((p1 <<< ((1 : Int32) &&& 31)) + (1 : Int32)) < n) :
    Met1 l Nm_9 (Jvm.Cond.code Nm_9 jdk_52_method_5_code 2 (some .char)) ws (rom 0 0 0 0) #[(.ref o0), (.int p1)] Z h0 (QP (some (.int (f22 p1 Ls))) h0 n0) := by
  refine MetFree.of_bodySF (plainFor_of_name pn_22) hisR ?_
  intro p e s m args below meth c s₁ Bd hml0 hP hK
  obtain ⟨rfl, hZ, hh⟩ := hP
  have hx := Bd.exec
  have hby := Bd.bytes
  have hml : c.maxLocals = 2 := hml0
  have hown : s.vm.findClass "java/lang/StringUTF16" = some m.cls := findClass_of_methodNamed Bd.named
  have X0 : Stand p l e (rom 0 0 0 0) s m _ _ _ _ _ [] 0 0 := Stand.of_body Bd
  have e0 : s₁.heap = h0 := by rw [← hh, Bd.state]; rfl
  have N0 := Fr.nil n0
  have K0 : Keep h0 h0 [] := Keep.refl _ _
  have pre0 : Go p e below s₁ _ (mkF m 0 #[.val (.ref o0), .val (.int p1)] []) _ := fun t k => castTop (ef_22 m o0 p1) k
  obtain ⟨T1, X1, e1, st1⟩ := getS2 X0 hx hZ hown (host := "") (Or.inl (wq hw 94 rfl)) Via.refl e0 I0 (g := (mkF m 0 #[.val (.ref o0), .val (.int p1)] [])) rfl (hb hby d22_0)
  have pre2 := Go.thn pre0 st1
  have pre3 : Go p e below T1 _ (mkF m 37 #[.val (.ref o0), .val (.int ((p1 <<< ((1 : Int32) &&& 31)) + (1 : Int32)))] [(.int (p1 <<< ((1 : Int32) &&& 31))), (.ref o0)]) _ := fun t k => pre2 t (by
    refine XS.ifYes X1.here hx rfl (pc0 := 3) (pc' := 28) rfl (hb hby d22_3) rfl (by decide) (by decide) (by decide) ?_
    refine XS.iloadN X1.here hx rfl (hb hby d22_28) rfl ?_
    refine XS.iconst X1.here hx rfl (hb hby d22_29) ?_
    refine XS.ishl X1.here hx rfl (hb hby d22_30) rfl ?_
    refine XS.istoreN X1.here hx rfl (hb hby d22_31) rfl (l' := #[.val (.ref o0), .val (.int (p1 <<< ((1 : Int32) &&& 31)))]) rfl ?_
    refine XS.aloadN X1.here hx rfl (hb hby d22_32) rfl rfl ?_
    refine XS.iloadN X1.here hx rfl (hb hby d22_33) rfl ?_
    refine XS.iinc X1.here hx rfl (hb hby d22_34) rfl (l' := #[.val (.ref o0), .val (.int ((p1 <<< ((1 : Int32) &&& 31)) + (1 : Int32)))]) rfl ?_
    exact k)
  obtain ⟨cl4, Ar4, -, Sz4, Mn4, Hs4, -⟩ := id I3
  have hin4 : ¬ ((p1 <<< ((1 : Int32) &&& 31)) < 0 ∨ cl4.slots.size ≤ ((p1 <<< ((1 : Int32) &&& 31))).toNatClampNeg) := inb_of Sz4 ⟨ha0, ha1⟩
  have hat4 : cl4.slots[((p1 <<< ((1 : Int32) &&& 31))).toNatClampNeg]? = some (.int (own_at Ls (p1 <<< ((1 : Int32) &&& 31)))) := Hs4.at hin4 (own_getD _ _)
  have pre5 : Go p e below T1 _ (mkF m 38 #[.val (.ref o0), .val (.int ((p1 <<< ((1 : Int32) &&& 31)) + (1 : Int32)))] [(.int (own_at Ls (p1 <<< ((1 : Int32) &&& 31))))]) _ := fun t k => pre3 t (by
    show Steps p.tables e below (T1.setTop (mkF m 37 #[.val (.ref o0), .val (.int ((p1 <<< ((1 : Int32) &&& 31)) + (1 : Int32)))] [(.int (p1 <<< ((1 : Int32) &&& 31))), (.ref o0)])) _
    refine X1.baloadBytes hx (j := (p1 <<< ((1 : Int32) &&& 31))) (v := (.int (own_at Ls (p1 <<< ((1 : Int32) &&& 31))))) (by rw [e1]; exact Ar4.1) (State.isArrayOf_alike hZ.alike Ar4.2.1) Ar4.2.2 hin4 hat4 (g := (mkF m 37 #[.val (.ref o0), .val (.int ((p1 <<< ((1 : Int32) &&& 31)) + (1 : Int32)))] [(.int (p1 <<< ((1 : Int32) &&& 31))), (.ref o0)])) rfl rfl (hb hby d22_37) _ ?_
    exact k)
  have pre6 : Go p e below T1 _ (mkF m 42 #[.val (.ref o0), .val (.int ((p1 <<< ((1 : Int32) &&& 31)) + (1 : Int32)))] [(.int ((own_at Ls (p1 <<< ((1 : Int32) &&& 31))) &&& (255 : Int32)))]) _ := fun t k => pre5 t (by
    refine XS.sipush X1.here hx rfl (hb hby d22_38) ?_
    refine XS.iand X1.here hx rfl (hb hby d22_41) rfl ?_
    exact k)
  obtain ⟨T7, X7, e7, st7⟩ := getS2 X1 hx hZ hown (host := "") (Or.inl (wq hw 95 rfl)) Via.refl e1 I1 (g := (mkF m 42 #[.val (.ref o0), .val (.int ((p1 <<< ((1 : Int32) &&& 31)) + (1 : Int32)))] [(.int ((own_at Ls (p1 <<< ((1 : Int32) &&& 31))) &&& (255 : Int32)))])) rfl (hb hby d22_42)
  have pre8 := Go.thn pre6 st7
  have pre9 : Go p e below T7 _ (mkF m 48 #[.val (.ref o0), .val (.int ((p1 <<< ((1 : Int32) &&& 31)) + (1 : Int32)))] [(.int ((p1 <<< ((1 : Int32) &&& 31)) + (1 : Int32))), (.ref o0), (.int (((own_at Ls (p1 <<< ((1 : Int32) &&& 31))) &&& (255 : Int32)) <<< ((0 : Int32) &&& 31)))]) _ := fun t k => pre8 t (by
    refine XS.ishl X7.here hx rfl (hb hby d22_45) rfl ?_
    refine XS.aloadN X7.here hx rfl (hb hby d22_46) rfl rfl ?_
    refine XS.iloadN X7.here hx rfl (hb hby d22_47) rfl ?_
    exact k)
  obtain ⟨cl10, Ar10, -, Sz10, Mn10, Hs10, -⟩ := id I3
  have hin10 : ¬ (((p1 <<< ((1 : Int32) &&& 31)) + (1 : Int32)) < 0 ∨ cl10.slots.size ≤ (((p1 <<< ((1 : Int32) &&& 31)) + (1 : Int32))).toNatClampNeg) := inb_of Sz10 ⟨hb0, hb1⟩
  have hat10 : cl10.slots[(((p1 <<< ((1 : Int32) &&& 31)) + (1 : Int32))).toNatClampNeg]? = some (.int (own_at Ls ((p1 <<< ((1 : Int32) &&& 31)) + (1 : Int32)))) := Hs10.at hin10 (own_getD _ _)
  have pre11 : Go p e below T7 _ (mkF m 49 #[.val (.ref o0), .val (.int ((p1 <<< ((1 : Int32) &&& 31)) + (1 : Int32)))] [(.int (own_at Ls ((p1 <<< ((1 : Int32) &&& 31)) + (1 : Int32)))), (.int (((own_at Ls (p1 <<< ((1 : Int32) &&& 31))) &&& (255 : Int32)) <<< ((0 : Int32) &&& 31)))]) _ := fun t k => pre9 t (by
    show Steps p.tables e below (T7.setTop (mkF m 48 #[.val (.ref o0), .val (.int ((p1 <<< ((1 : Int32) &&& 31)) + (1 : Int32)))] [(.int ((p1 <<< ((1 : Int32) &&& 31)) + (1 : Int32))), (.ref o0), (.int (((own_at Ls (p1 <<< ((1 : Int32) &&& 31))) &&& (255 : Int32)) <<< ((0 : Int32) &&& 31)))])) _
    refine X7.baloadBytes hx (j := ((p1 <<< ((1 : Int32) &&& 31)) + (1 : Int32))) (v := (.int (own_at Ls ((p1 <<< ((1 : Int32) &&& 31)) + (1 : Int32))))) (by rw [e7]; exact Ar10.1) (State.isArrayOf_alike hZ.alike Ar10.2.1) Ar10.2.2 hin10 hat10 (g := (mkF m 48 #[.val (.ref o0), .val (.int ((p1 <<< ((1 : Int32) &&& 31)) + (1 : Int32)))] [(.int ((p1 <<< ((1 : Int32) &&& 31)) + (1 : Int32))), (.ref o0), (.int (((own_at Ls (p1 <<< ((1 : Int32) &&& 31))) &&& (255 : Int32)) <<< ((0 : Int32) &&& 31)))])) rfl rfl (hb hby d22_48) _ ?_
    exact k)
  have pre12 : Go p e below T7 _ (mkF m 53 #[.val (.ref o0), .val (.int ((p1 <<< ((1 : Int32) &&& 31)) + (1 : Int32)))] [(.int ((own_at Ls ((p1 <<< ((1 : Int32) &&& 31)) + (1 : Int32))) &&& (255 : Int32))), (.int (((own_at Ls (p1 <<< ((1 : Int32) &&& 31))) &&& (255 : Int32)) <<< ((0 : Int32) &&& 31)))]) _ := fun t k => pre11 t (by
    refine XS.sipush X7.here hx rfl (hb hby d22_49) ?_
    refine XS.iand X7.here hx rfl (hb hby d22_52) rfl ?_
    exact k)
  obtain ⟨T13, X13, e13, st13⟩ := getS2 X7 hx hZ hown (host := "") (Or.inl (wq hw 96 rfl)) Via.refl e7 I2 (g := (mkF m 53 #[.val (.ref o0), .val (.int ((p1 <<< ((1 : Int32) &&& 31)) + (1 : Int32)))] [(.int ((own_at Ls ((p1 <<< ((1 : Int32) &&& 31)) + (1 : Int32))) &&& (255 : Int32))), (.int (((own_at Ls (p1 <<< ((1 : Int32) &&& 31))) &&& (255 : Int32)) <<< ((0 : Int32) &&& 31)))])) rfl (hb hby d22_53)
  have pre14 := Go.thn pre12 st13
  have pre15 : Go p e below T13 _ (mkF m 59 #[.val (.ref o0), .val (.int ((p1 <<< ((1 : Int32) &&& 31)) + (1 : Int32)))] [(.int (((((own_at Ls (p1 <<< ((1 : Int32) &&& 31))) &&& (255 : Int32)) <<< ((0 : Int32) &&& 31)) ||| (((own_at Ls ((p1 <<< ((1 : Int32) &&& 31)) + (1 : Int32))) &&& (255 : Int32)) <<< ((8 : Int32) &&& 31))).toUInt32.toUInt16.toUInt32.toInt32))]) _ := fun t k => pre14 t (by
    refine XS.ishl X13.here hx rfl (hb hby d22_56) rfl ?_
    refine XS.ior X13.here hx rfl (hb hby d22_57) rfl ?_
    refine XS.i2c X13.here hx rfl (hb hby d22_58) rfl ?_
    exact k)
  obtain ⟨fs, hr, hrun, hended, hW, hsame⟩ := X13.leave (v := some (.int (nar .char (((((own_at Ls (p1 <<< ((1 : Int32) &&& 31))) &&& (255 : Int32)) <<< ((0 : Int32) &&& 31)) ||| (((own_at Ls ((p1 <<< ((1 : Int32) &&& 31)) + (1 : Int32))) &&& (255 : Int32)) <<< ((8 : Int32) &&& 31))).toUInt32.toUInt16.toUInt32.toInt32)))) (fun h => by rw [Bd.returns] at h; cases h)
  refine ⟨_, _, ?_, hrun, hended, _, _, rfl, ?_, ⟨_, rfl⟩, hW, hsame.mono (by decide) (by decide)⟩
  · exact pre15 _ (retN X13 hx (t := .char) Bd.returns (by simp) (hb hby d22_59) hr)
  · exact ⟨by simp only [f22], N0, e13⟩
theorem d25_0 : decode jdk_52_method_6_code 0 = .ok (.aload_n 0, 1) := by decide +kernel
theorem d25_1 : decode jdk_52_method_6_code 1 = .ok (.arraylength, 1) := by decide +kernel
theorem d25_2 : decode jdk_52_method_6_code 2 = .ok (.iconst 1, 1) := by decide +kernel
theorem d25_3 : decode jdk_52_method_6_code 3 = .ok (.ishr, 1) := by decide +kernel
theorem d25_4 : decode jdk_52_method_6_code 4 = .ok (.ireturn, 1) := by decide +kernel
theorem pn_25 : plainName "java/lang/StringUTF16" = true := by first | (simp [plainName, overriddenIn]; done) | decide +kernel
theorem ef_25 (m : MethodId) (x0 : Addr) : entryFrame m #[(.ref x0)] 1 = mkF m 0 #[.val (.ref x0)] [] := by first | (simp [entryFrame, mkF, argsToLocals, Value.category]; done) | rfl
def f25 (n : Int32) : Int32 := (n >>> ((1 : Int32) &&& 31))
set_option maxRecDepth 65536 in
set_option maxHeartbeats 40000000 in
theorem rm25 (l : Launch) (Z : State) (a0 : Array Value) (hw : ∀ d ∈ tables_1, d.before a0 Z = true) (ws : List Jvm.Cond) (o0 : Addr) (ka : ClassId) (n : Int32) (Ls : List Int32) (h0 : Heap) (n0 : Nat) (Z0 : n0 ≤ h0.size) (I0 : Arv Z h0 o0 ka .byte n (Ls.map Value.int) (.int 0)) :
    Met1 l Nm_10 (Jvm.Cond.code Nm_10 jdk_52_method_6_code 1 (some .int)) ws (rom 0 0 0 0) #[(.ref o0)] Z h0 (QP (some (.int (f25 n))) h0 n0) := by
  refine MetFree.of_bodySF (plainFor_of_name pn_25) hisR ?_
  intro p e s m args below meth c s₁ Bd hml0 hP hK
  obtain ⟨rfl, hZ, hh⟩ := hP
  have hx := Bd.exec
  have hby := Bd.bytes
  have hml : c.maxLocals = 1 := hml0
  have hown : s.vm.findClass "java/lang/StringUTF16" = some m.cls := findClass_of_methodNamed Bd.named
  have X0 : Stand p l e (rom 0 0 0 0) s m _ _ _ _ _ [] 0 0 := Stand.of_body Bd
  have e0 : s₁.heap = h0 := by rw [← hh, Bd.state]; rfl
  have N0 := Fr.nil n0
  have K0 : Keep h0 h0 [] := Keep.refl _ _
  have pre0 : Go p e below s₁ _ (mkF m 0 #[.val (.ref o0)] []) _ := fun t k => castTop (ef_25 m o0) k
  have pre1 : Go p e below s₁ _ (mkF m 1 #[.val (.ref o0)] [(.ref o0)]) _ := fun t k => pre0 t (by
    refine XS.aloadN X0.here hx rfl (hb hby d25_0) rfl rfl ?_
    exact k)
  obtain ⟨cl2, Ar2, -, Sz2, Mn2, Hs2, -⟩ := id I0
  have pre3 : Go p e below s₁ _ (mkF m 2 #[.val (.ref o0)] [(.int n)]) _ := fun t k => pre1 t (by
    show Steps p.tables e below (s₁.setTop (mkF m 1 #[.val (.ref o0)] [(.ref o0)])) _
    refine X0.arraylength hx (by rw [e0]; exact Ar2.1) (State.isArrayOf_alike hZ.alike Ar2.2.1) (g := (mkF m 1 #[.val (.ref o0)] [(.ref o0)])) rfl rfl (hb hby d25_1) _ ?_
    rw [len_of Sz2 Mn2]
    exact k)
  have pre4 : Go p e below s₁ _ (mkF m 4 #[.val (.ref o0)] [(.int (n >>> ((1 : Int32) &&& 31)))]) _ := fun t k => pre3 t (by
    refine XS.iconst X0.here hx rfl (hb hby d25_2) ?_
    refine XS.ishr X0.here hx rfl (hb hby d25_3) rfl ?_
    exact k)
  obtain ⟨fs, hr, hrun, hended, hW, hsame⟩ := X0.leave (v := some (.int (n >>> ((1 : Int32) &&& 31)))) (fun h => by rw [Bd.returns] at h; cases h)
  refine ⟨_, _, ?_, hrun, hended, _, _, rfl, ?_, ⟨_, rfl⟩, hW, hsame.mono (by decide) (by decide)⟩
  · exact pre4 _ (retI X0 hx Bd.returns (hb hby d25_4) hr)
  · exact ⟨by simp only [f25], N0, e0⟩
theorem d24_0 : decode jdk_52_method_91_code 0 = .ok (.iload_n 0, 1) := by decide +kernel
theorem d24_1 : decode jdk_52_method_91_code 1 = .ok (.aload_n 1, 1) := by decide +kernel
theorem d24_2 : decode jdk_52_method_91_code 2 = .ok (.invokestatic 48, 3) := by decide +kernel
theorem d24_5 : decode jdk_52_method_91_code 5 = .ok (.invokestatic 414, 3) := by decide +kernel
theorem d24_8 : decode jdk_52_method_91_code 8 = .ok (.return_, 1) := by decide +kernel
theorem pn_24 : plainName "java/lang/StringUTF16" = true := by first | (simp [plainName, overriddenIn]; done) | decide +kernel
theorem pd___B_I : parseMethodDescriptor "([B)I" = some ⟨[(.array .byte)], some .int⟩ := by decide +kernel
theorem ef_24 (m : MethodId) (x0 : Int32) (x1 : Addr) : entryFrame m #[(.int x0), (.ref x1)] 2 = mkF m 0 #[.val (.int x0), .val (.ref x1)] [] := by first | (simp [entryFrame, mkF, argsToLocals, Value.category]; done) | rfl
set_option maxRecDepth 65536 in
set_option maxHeartbeats 40000000 in
theorem rm24 (l : Launch) (Z : State) (a0 : Array Value) (hw : ∀ d ∈ tables_1, d.before a0 Z = true) (ws : List Jvm.Cond) (p0 : Int32) (o1 : Addr) (wsf : Value) (ka : ClassId) (n : Int32) (Ls : List Int32) (h0 : Heap) (n0 : Nat) (Z0 : n0 ≤ h0.size) (I0 : Sta Z h0 "jdk/internal/util/Preconditions" "SIOOBE_FORMATTER" "Ljava/util/function/BiFunction;" wsf) (I1 : Arv Z h0 o1 ka .byte n (Ls.map Value.int) (.int 0)) (hsf : wsf.isRef = true) (hi0 : ¬ (p0 < (0 : Int32))) (hi1 : p0 < (f25 n)) :
    Met1 l Nm_11 (Jvm.Cond.code Nm_11 jdk_52_method_91_code 2 none) ws (rom 2 0 0 27) #[(.int p0), (.ref o1)] Z h0 (QP none h0 n0) := by
  refine MetFree.of_bodySF (plainFor_of_name pn_24) hisR ?_
  intro p e s m args below meth c s₁ Bd hml0 hP hK
  obtain ⟨rfl, hZ, hh⟩ := hP
  have hx := Bd.exec
  have hby := Bd.bytes
  have hml : c.maxLocals = 2 := hml0
  have hown : s.vm.findClass "java/lang/StringUTF16" = some m.cls := findClass_of_methodNamed Bd.named
  have X0 : Stand p l e (rom 2 0 0 27) s m _ _ _ _ _ [] 0 0 := Stand.of_body Bd
  have e0 : s₁.heap = h0 := by rw [← hh, Bd.state]; rfl
  have N0 := Fr.nil n0
  have K0 : Keep h0 h0 [] := Keep.refl _ _
  have pre0 : Go p e below s₁ _ (mkF m 0 #[.val (.int p0), .val (.ref o1)] []) _ := fun t k => castTop (ef_24 m p0 o1) k
  have pre1 : Go p e below s₁ _ (mkF m 2 #[.val (.int p0), .val (.ref o1)] [(.ref o1), (.int p0)]) _ := fun t k => pre0 t (by
    refine XS.iloadN X0.here hx rfl (hb hby d24_0) rfl ?_
    refine XS.aloadN X0.here hx rfl (hb hby d24_1) rfl rfl ?_
    exact k)
  obtain ⟨_, _, ⟨T2, L2, k2, n2⟩, -, X2, ⟨Lc2, hQ2, l2, y2, z2⟩, st2⟩ := Jvm.LawKit.callS X0 hx (y := Nm_10) hown (mvT hZ (wq hw 106 rfl)) (mvT hZ (wq hw 107 rfl)) (mvT hZ (wq hw 45 rfl)) (mvT hZ (wq hw 108 rfl)) (by decide) (backOf (W := 1) (rm25 l Z a0 hw [] o1 _ n Ls h0 n0 Z0 I1) hZ (wq hw 108 rfl) (wq hw 45 rfl) (by decide) (by decide)) (g := (mkF m 2 #[.val (.int p0), .val (.ref o1)] [(.ref o1), (.int p0)])) rfl (by rw [hml]; rfl) (argsL := [(.ref o1)]) (rest := [(.int p0)]) (lenOf pd___B_I rfl) rfl (w00 rfl) (hb hby d24_2) (fun _ _ => ⟨rfl, e0, (by decide : 0 + 0 ≤ _), (by decide : 0 + 0 ≤ _)⟩)
  dsimp only [Pt.U, Pt.locs, Pt.cells, Pt.slots] at X2 l2 y2 z2 st2 hQ2
  subst l2 y2 z2
  obtain ⟨rfl, Nq2, e2⟩ := hQ2
  have N2 := Fr.app N0 Nq2
  have pre3 := Go.thn pre1 st2
  obtain ⟨_, _, ⟨T4, L4, k4, n4⟩, -, X4, ⟨Lc4, hQ4, l4, y4, z4⟩, st4⟩ := Jvm.LawKit.callS X2 hx (y := Nm_7) hown (mvT hZ (wq hw 109 rfl)) (mvT hZ (wq hw 71 rfl)) (mvT hZ (wq hw 8 rfl)) (mvT hZ (wq hw 72 rfl)) (by decide) (backOf (W := 0) (rm15 l Z a0 hw [] p0 (f25 n) wsf h0 n0 Z0 I0 hsf hi0 hi1) hZ (wq hw 72 rfl) (wq hw 8 rfl) (by decide) (by decide)) (g := (mkF m 5 #[.val (.int p0), .val (.ref o1)] [(.int (f25 n)), (.int p0)])) rfl (by rw [hml]; rfl) (argsL := [(.int p0), (.int (f25 n))]) (rest := []) (lenOf pd__II_V rfl) rfl (w00 rfl) (hb hby d24_5) (fun _ _ => ⟨rfl, e2, (by decide : 0 + 0 ≤ _), (by decide : 0 + 0 ≤ _)⟩)
  dsimp only [Pt.U, Pt.locs, Pt.cells, Pt.slots] at X4 l4 y4 z4 st4 hQ4
  subst l4 y4 z4
  obtain ⟨rfl, Nq4, e4⟩ := hQ4
  have N4 := Fr.app N2 Nq4
  have pre5 := Go.thn pre3 st4
  obtain ⟨fs, hr, hrun, hended, hW, hsame⟩ := X4.leave (v := none) (fun _ => rfl)
  refine ⟨_, _, ?_, hrun, hended, _, _, rfl, ?_, ⟨_, rfl⟩, hW, hsame.mono (by decide) (by decide)⟩
  · exact pre5 _ (X4.returnOut hx Bd.returns (hb hby d24_8) hr)
  · exact ⟨rfl, N4, e4⟩
theorem d23_0 : decode jdk_52_method_83_code 0 = .ok (.iload_n 1, 1) := by decide +kernel
theorem d23_1 : decode jdk_52_method_83_code 1 = .ok (.aload_n 0, 1) := by decide +kernel
theorem d23_2 : decode jdk_52_method_83_code 2 = .ok (.invokestatic 67, 3) := by decide +kernel
theorem d23_5 : decode jdk_52_method_83_code 5 = .ok (.aload_n 0, 1) := by decide +kernel
theorem d23_6 : decode jdk_52_method_83_code 6 = .ok (.iload_n 1, 1) := by decide +kernel
theorem d23_7 : decode jdk_52_method_83_code 7 = .ok (.invokestatic 71, 3) := by decide +kernel
theorem d23_10 : decode jdk_52_method_83_code 10 = .ok (.ireturn, 1) := by decide +kernel
theorem pn_23 : plainName "java/lang/StringUTF16" = true := by first | (simp [plainName, overriddenIn]; done) | decide +kernel
theorem pd__I_B_V : parseMethodDescriptor "(I[B)V" = some ⟨[.int, (.array .byte)], none⟩ := by decide +kernel
theorem pd___BI_C : parseMethodDescriptor "([BI)C" = some ⟨[(.array .byte), .int], some .char⟩ := by decide +kernel
theorem ef_23 (m : MethodId) (x0 : Addr) (x1 : Int32) : entryFrame m #[(.ref x0), (.int x1)] 2 = mkF m 0 #[.val (.ref x0), .val (.int x1)] [] := by first | (simp [entryFrame, mkF, argsToLocals, Value.category]; done) | rfl
def f23 (p1 : Int32) (Ls : List Int32) : Int32 := (nar .char (f22 p1 Ls))
set_option maxRecDepth 65536 in
set_option maxHeartbeats 40000000 in
theorem rm23 (l : Launch) (Z : State) (a0 : Array Value) (hw : ∀ d ∈ tables_1, d.before a0 Z = true) (ws : List Jvm.Cond) (o0 : Addr) (p1 : Int32) (wsf : Value) (ka : ClassId) (n : Int32) (Ls : List Int32) (h0 : Heap) (n0 : Nat) (Z0 : n0 ≤ h0.size) (I0 : Sta Z h0 "java/lang/StringUTF16" "$assertionsDisabled" "Z" (.int 1)) (I1 : Sta Z h0 "java/lang/StringUTF16" "HI_BYTE_SHIFT" "I" (.int 0)) (I2 : Sta Z h0 "java/lang/StringUTF16" "LO_BYTE_SHIFT" "I" (.int 8)) (I3 : Sta Z h0 "jdk/internal/util/Preconditions" "SIOOBE_FORMATTER" "Ljava/util/function/BiFunction;" wsf) (I4 : Arv Z h0 o0 ka .byte n (Ls.map Value.int) (.int 0)) (hsf : wsf.isRef = true) (hi0 : ¬ (p1 < (0 : Int32))) (hi1 : p1 < (f25 n)) (ha0 : ¬ ((p1 <<< ((1 : Int32) &&& 31)) < (0 : Int32))) (ha1 : (p1 <<< ((1 : Int32) &&& 31)) < n) (hb0 : ¬ (((p1 <<< ((1 : Int32) &&& 31)) + (1 : Int32)) < (0 : Int32))) (hb1 : ((p1 <<< ((1 : Int32) &&& 31)) + (1 : Int32)) < n) :
    Met1 l Nm_12 (Jvm.Cond.code Nm_12 jdk_52_method_83_code 2 (some .char)) ws (rom 3 0 0 40) #[(.ref o0), (.int p1)] Z h0 (QP (some (.int (f23 p1 Ls))) h0 n0) := by
  refine MetFree.of_bodySF (plainFor_of_name pn_23) hisR ?_
  intro p e s m args below meth c s₁ Bd hml0 hP hK
  obtain ⟨rfl, hZ, hh⟩ := hP
  have hx := Bd.exec
  have hby := Bd.bytes
  have hml : c.maxLocals = 2 := hml0
  have hown : s.vm.findClass "java/lang/StringUTF16" = some m.cls := findClass_of_methodNamed Bd.named
  have X0 : Stand p l e (rom 3 0 0 40) s m _ _ _ _ _ [] 0 0 := Stand.of_body Bd
  have e0 : s₁.heap = h0 := by rw [← hh, Bd.state]; rfl
  have N0 := Fr.nil n0
  have K0 : Keep h0 h0 [] := Keep.refl _ _
  have pre0 : Go p e below s₁ _ (mkF m 0 #[.val (.ref o0), .val (.int p1)] []) _ := fun t k => castTop (ef_23 m o0 p1) k
  have pre1 : Go p e below s₁ _ (mkF m 2 #[.val (.ref o0), .val (.int p1)] [(.ref o0), (.int p1)]) _ := fun t k => pre0 t (by
    refine XS.iloadN X0.here hx rfl (hb hby d23_0) rfl ?_
    refine XS.aloadN X0.here hx rfl (hb hby d23_1) rfl rfl ?_
    exact k)
  obtain ⟨_, _, ⟨T2, L2, k2, n2⟩, -, X2, ⟨Lc2, hQ2, l2, y2, z2⟩, st2⟩ := Jvm.LawKit.callS X0 hx (y := Nm_11) hown (mvT hZ (wq hw 103 rfl)) (mvT hZ (wq hw 104 rfl)) (mvT hZ (wq hw 45 rfl)) (mvT hZ (wq hw 105 rfl)) (by decide) (backOf (W := 0) (rm24 l Z a0 hw [] p1 o0 wsf _ n Ls h0 n0 Z0 I3 I4 hsf hi0 hi1) hZ (wq hw 105 rfl) (wq hw 45 rfl) (by decide) (by decide)) (g := (mkF m 2 #[.val (.ref o0), .val (.int p1)] [(.ref o0), (.int p1)])) rfl (by rw [hml]; rfl) (argsL := [(.int p1), (.ref o0)]) (rest := []) (lenOf pd__I_B_V rfl) rfl (w00 rfl) (hb hby d23_2) (fun _ _ => ⟨rfl, e0, (by decide : 0 + 0 ≤ _), (by decide : 0 + 0 ≤ _)⟩)
  dsimp only [Pt.U, Pt.locs, Pt.cells, Pt.slots] at X2 l2 y2 z2 st2 hQ2
  subst l2 y2 z2
  obtain ⟨rfl, Nq2, e2⟩ := hQ2
  have N2 := Fr.app N0 Nq2
  have pre3 := Go.thn pre1 st2
  have pre4 : Go p e below T2 _ (mkF m 7 #[.val (.ref o0), .val (.int p1)] [(.int p1), (.ref o0)]) _ := fun t k => pre3 t (by
    refine XS.aloadN X2.here hx rfl (hb hby d23_5) rfl rfl ?_
    refine XS.iloadN X2.here hx rfl (hb hby d23_6) rfl ?_
    exact k)
  obtain ⟨_, _, ⟨T5, L5, k5, n5⟩, -, X5, ⟨Lc5, hQ5, l5, y5, z5⟩, st5⟩ := Jvm.LawKit.callS X2 hx (y := Nm_9) hown (mvT hZ (wq hw 97 rfl)) (mvT hZ (wq hw 98 rfl)) (mvT hZ (wq hw 45 rfl)) (mvT hZ (wq hw 99 rfl)) (by decide) (backOf (W := 0) (rm22 l Z a0 hw [] o0 p1 _ n Ls h0 n0 Z0 I0 I1 I2 I4 ha0 ha1 hb0 hb1) hZ (wq hw 99 rfl) (wq hw 45 rfl) (by decide) (by decide)) (g := (mkF m 7 #[.val (.ref o0), .val (.int p1)] [(.int p1), (.ref o0)])) rfl (by rw [hml]; rfl) (argsL := [(.ref o0), (.int p1)]) (rest := []) (lenOf pd___BI_C rfl) rfl (w00 rfl) (hb hby d23_7) (fun _ _ => ⟨rfl, e2, (by decide : 0 + 0 ≤ _), (by decide : 0 + 0 ≤ _)⟩)
  dsimp only [Pt.U, Pt.locs, Pt.cells, Pt.slots] at X5 l5 y5 z5 st5 hQ5
  subst l5 y5 z5
  obtain ⟨rfl, Nq5, e5⟩ := hQ5
  have N5 := Fr.app N2 Nq5
  have pre6 := Go.thn pre4 st5
  obtain ⟨fs, hr, hrun, hended, hW, hsame⟩ := X5.leave (v := some (.int (nar .char (f22 p1 Ls)))) (fun h => by rw [Bd.returns] at h; cases h)
  refine ⟨_, _, ?_, hrun, hended, _, _, rfl, ?_, ⟨_, rfl⟩, hW, hsame.mono (by decide) (by decide)⟩
  · exact pre6 _ (retN X5 hx (t := .char) Bd.returns (by simp) (hb hby d23_10) hr)
  · exact ⟨by simp only [f23], N5, e5⟩
theorem d12_0 : decode jdk_42_method_56_code 0 = .ok (.aload_n 0, 1) := by decide +kernel
theorem d12_1 : decode jdk_42_method_56_code 1 = .ok (.invokevirtual 492, 3) := by decide +kernel
theorem d12_4 : decode jdk_42_method_56_code 4 = .ok (.ifCond .eq 12, 3) := by decide +kernel
theorem d12_7 : decode jdk_42_method_56_code 7 = .ok (.aload_n 0, 1) := by decide +kernel
theorem d12_8 : decode jdk_42_method_56_code 8 = .ok (.getfield 9, 3) := by decide +kernel
theorem d12_11 : decode jdk_42_method_56_code 11 = .ok (.iload_n 1, 1) := by decide +kernel
theorem d12_12 : decode jdk_42_method_56_code 12 = .ok (.invokestatic 495, 3) := by decide +kernel
theorem d12_15 : decode jdk_42_method_56_code 15 = .ok (.ireturn, 1) := by decide +kernel
theorem pn_12 : plainName "java/lang/String" = true := by first | (simp [plainName, overriddenIn]; done) | decide +kernel
theorem pd___Z : parseMethodDescriptor "()Z" = some ⟨[], some .boolean⟩ := by decide +kernel
theorem ef_12_L (m : MethodId) (x0 : Addr) (x1 : Int32) : entryFrame m #[(.ref x0), (.int x1)] 2 = mkF m 0 #[.val (.ref x0), .val (.int x1)] [] := by first | (simp [entryFrame, mkF, argsToLocals, Value.category]; done) | rfl
def f12_L (p1 : Int32) (Ls : List Int32) : Int32 := (nar .char (f14 p1 Ls))
set_option maxRecDepth 65536 in
set_option maxHeartbeats 40000000 in
theorem rm12_L (l : Launch) (Z : State) (a0 : Array Value) (hw : ∀ d ∈ tables_1, d.before a0 Z = true) (ws : List Jvm.Cond) (o0 : Addr) (p1 : Int32) (wcs : Int32) (wsf : Value) (oa : Addr) (ka : ClassId) (n : Int32) (Ls : List Int32) (h0 : Heap) (n0 : Nat) (Z0 : n0 ≤ h0.size) (I0 : Sta Z h0 "java/lang/String" "COMPACT_STRINGS" "Z" (.int wcs)) (I1 : Sta Z h0 "jdk/internal/util/Preconditions" "SIOOBE_FORMATTER" "Ljava/util/function/BiFunction;" wsf) (I2 : Exa Z h0 o0 "java/lang/String") (I3 : Fld Z h0 o0 "java/lang/String" "value" "[B" (.ref oa)) (I4 : Fld Z h0 o0 "java/lang/String" "coder" "B" (.int 0)) (I5 : Arv Z h0 oa ka .byte n (Ls.map Value.int) (.int 0)) (hcs : ¬ (wcs = (0 : Int32))) (hsf : wsf.isRef = true) (hi0 : ¬ (p1 < (0 : Int32))) (hi1 : p1 < n) :
    Met1 l Nm_13 (Jvm.Cond.code Nm_13 jdk_42_method_56_code 2 (some .char)) ws (rom 3 0 0 40) #[(.ref o0), (.int p1)] Z h0 (QP (some (.int (f12_L p1 Ls))) h0 n0) := by
  refine MetFree.of_bodySF (plainFor_of_name pn_12) hisR ?_
  intro p e s m args below meth c s₁ Bd hml0 hP hK
  obtain ⟨rfl, hZ, hh⟩ := hP
  have hx := Bd.exec
  have hby := Bd.bytes
  have hml : c.maxLocals = 2 := hml0
  have hown : s.vm.findClass "java/lang/String" = some m.cls := findClass_of_methodNamed Bd.named
  have X0 : Stand p l e (rom 3 0 0 40) s m _ _ _ _ _ [] 0 0 := Stand.of_body Bd
  have e0 : s₁.heap = h0 := by rw [← hh, Bd.state]; rfl
  have N0 := Fr.nil n0
  have K0 : Keep h0 h0 [] := Keep.refl _ _
  have pre0 : Go p e below s₁ _ (mkF m 0 #[.val (.ref o0), .val (.int p1)] []) _ := fun t k => castTop (ef_12_L m o0 p1) k
  have pre1 : Go p e below s₁ _ (mkF m 1 #[.val (.ref o0), .val (.int p1)] [(.ref o0)]) _ := fun t k => pre0 t (by
    refine XS.aloadN X0.here hx rfl (hb hby d12_0) rfl rfl ?_
    exact k)
  obtain ⟨cq2, kq2, q2a, q2b, q2c⟩ := isOf hZ e0 I2
  obtain ⟨_, _, ⟨T2, L2, k2, n2⟩, -, X2, ⟨Lc2, hQ2, l2, y2, z2⟩, st2⟩ := X0.virtualBack hx (y := Nm_5) (z := Nm_5) hown (mvT hZ (wq hw 61 rfl)) (mvT hZ (wq hw 62 rfl)) (notFace_of_selects (args := #[]) (mvT hZ (wq hw 64 rfl))) (mvT hZ (wq hw 64 rfl)) (mvT hZ (wq hw 63 rfl)) (by decide) (backOf (W := 0) (rm13_L l Z a0 hw [] o0 wcs h0 n0 Z0 I0 I4 hcs) hZ (wq hw 65 rfl) (wq hw 8 rfl) (by decide) (by decide)) q2a q2c (g := (mkF m 1 #[.val (.ref o0), .val (.int p1)] [(.ref o0)])) rfl (by rw [hml]; rfl) (Steps.refl _) (argsL := []) (rest := []) (lenOf pd___Z rfl) rfl (w00 rfl) (hb hby d12_1) (fun _ _ => ⟨rfl, e0, (by decide : 0 + 0 ≤ _), (by decide : 0 + 0 ≤ _)⟩)
  dsimp only [Pt.U, Pt.locs, Pt.cells, Pt.slots] at X2 l2 y2 z2 st2 hQ2
  subst l2 y2 z2
  obtain ⟨rfl, Nq2, e2⟩ := hQ2
  have N2 := Fr.app N0 Nq2
  have pre3 := Go.trn pre1 st2
  have pre4 : Go p e below T2 _ (mkF m 8 #[.val (.ref o0), .val (.int p1)] [(.ref o0)]) _ := fun t k => pre3 t (by
    refine XS.ifNo X2.here hx rfl (hb hby d12_4) rfl ((if0 _ _).trans (feq (by decide)).1) ?_
    refine XS.aloadN X2.here hx rfl (hb hby d12_7) rfl rfl ?_
    exact k)
  obtain ⟨T5, X5, e5, st5⟩ := getF X2 hx hZ hown (host := "") (Or.inl (wq hw 26 rfl)) Via.refl e2 I3 (g := (mkF m 8 #[.val (.ref o0), .val (.int p1)] [(.ref o0)])) rfl rfl (hb hby d12_8)
  have pre6 := Go.thn pre4 st5
  have pre7 : Go p e below T5 _ (mkF m 12 #[.val (.ref o0), .val (.int p1)] [(.int p1), (.ref oa)]) _ := fun t k => pre6 t (by
    refine XS.iloadN X5.here hx rfl (hb hby d12_11) rfl ?_
    exact k)
  obtain ⟨_, _, ⟨T8, L8, k8, n8⟩, -, X8, ⟨Lc8, hQ8, l8, y8, z8⟩, st8⟩ := Jvm.LawKit.callS X5 hx (y := Nm_8) hown (mvT hZ (wq hw 66 rfl)) (mvT hZ (wq hw 67 rfl)) (mvT hZ (wq hw 68 rfl)) (mvT hZ (wq hw 69 rfl)) (by decide) (backOf (W := 0) (rm14 l Z a0 hw [] oa p1 wsf _ n Ls h0 n0 Z0 I1 I5 hsf hi0 hi1) hZ (wq hw 69 rfl) (wq hw 68 rfl) (by decide) (by decide)) (g := (mkF m 12 #[.val (.ref o0), .val (.int p1)] [(.int p1), (.ref oa)])) rfl (by rw [hml]; rfl) (argsL := [(.ref oa), (.int p1)]) (rest := []) (lenOf pd___BI_C rfl) rfl (w00 rfl) (hb hby d12_12) (fun _ _ => ⟨rfl, e5, (by decide : 0 + 0 ≤ _), (by decide : 0 + 0 ≤ _)⟩)
  dsimp only [Pt.U, Pt.locs, Pt.cells, Pt.slots] at X8 l8 y8 z8 st8 hQ8
  subst l8 y8 z8
  obtain ⟨rfl, Nq8, e8⟩ := hQ8
  have N8 := Fr.app N2 Nq8
  have pre9 := Go.thn pre7 st8
  obtain ⟨fs, hr, hrun, hended, hW, hsame⟩ := X8.leave (v := some (.int (nar .char (f14 p1 Ls)))) (fun h => by rw [Bd.returns] at h; cases h)
  refine ⟨_, _, ?_, hrun, hended, _, _, rfl, ?_, ⟨_, rfl⟩, hW, hsame.mono (by decide) (by decide)⟩
  · exact pre9 _ (retN X8 hx (t := .char) Bd.returns (by simp) (hb hby d12_15) hr)
  · exact ⟨by simp only [f12_L], N8, e8⟩
theorem d12_16 : decode jdk_42_method_56_code 16 = .ok (.aload_n 0, 1) := by decide +kernel
theorem d12_17 : decode jdk_42_method_56_code 17 = .ok (.getfield 9, 3) := by decide +kernel
theorem d12_20 : decode jdk_42_method_56_code 20 = .ok (.iload_n 1, 1) := by decide +kernel
theorem d12_21 : decode jdk_42_method_56_code 21 = .ok (.invokestatic 498, 3) := by decide +kernel
theorem d12_24 : decode jdk_42_method_56_code 24 = .ok (.ireturn, 1) := by decide +kernel
def f12_U (p1 : Int32) (Ls : List Int32) : Int32 := (nar .char (f23 p1 Ls))
set_option maxRecDepth 65536 in
set_option maxHeartbeats 40000000 in
theorem rm12_U (l : Launch) (Z : State) (a0 : Array Value) (hw : ∀ d ∈ tables_1, d.before a0 Z = true) (ws : List Jvm.Cond) (o0 : Addr) (p1 : Int32) (wcs : Int32) (wsf : Value) (oa : Addr) (ka : ClassId) (n : Int32) (Ls : List Int32) (h0 : Heap) (n0 : Nat) (Z0 : n0 ≤ h0.size) (I0 : Sta Z h0 "java/lang/String" "COMPACT_STRINGS" "Z" (.int wcs)) (I1 : Sta Z h0 "jdk/internal/util/Preconditions" "SIOOBE_FORMATTER" "Ljava/util/function/BiFunction;" wsf) (I2 : Exa Z h0 o0 "java/lang/String") (I3 : Sta Z h0 "java/lang/StringUTF16" "$assertionsDisabled" "Z" (.int 1)) (I4 : Sta Z h0 "java/lang/StringUTF16" "HI_BYTE_SHIFT" "I" (.int 0)) (I5 : Sta Z h0 "java/lang/StringUTF16" "LO_BYTE_SHIFT" "I" (.int 8)) (I6 : Fld Z h0 o0 "java/lang/String" "value" "[B" (.ref oa)) (I7 : Fld Z h0 o0 "java/lang/String" "coder" "B" (.int 1)) (I8 : Arv Z h0 oa ka .byte n (Ls.map Value.int) (.int 0)) (hcs : ¬ (wcs = (0 : Int32))) (hsf : wsf.isRef = true) (hi0 : ¬ (p1 < (0 : Int32))) (hi1 : p1 < (f25 n)) (ha0 : ¬ ((p1 <<< ((1 : Int32) &&& 31)) < (0 : Int32))) (ha1 : (p1 <<< ((1 : Int32) &&& 31)) < n) (hb0 : ¬ (((p1 <<< ((1 : Int32) &&& 31)) + (1 : Int32)) < (0 : Int32))) (hb1 : ((p1 <<< ((1 : Int32) &&& 31)) + (1 : Int32)) < n) :
    Met1 l Nm_13 (Jvm.Cond.code Nm_13 jdk_42_method_56_code 2 (some .char)) ws (rom 4 0 0 53) #[(.ref o0), (.int p1)] Z h0 (QP (some (.int (f12_U p1 Ls))) h0 n0) := by
  refine MetFree.of_bodySF (plainFor_of_name pn_12) hisR ?_
  intro p e s m args below meth c s₁ Bd hml0 hP hK
  obtain ⟨rfl, hZ, hh⟩ := hP
  have hx := Bd.exec
  have hby := Bd.bytes
  have hml : c.maxLocals = 2 := hml0
  have hown : s.vm.findClass "java/lang/String" = some m.cls := findClass_of_methodNamed Bd.named
  have X0 : Stand p l e (rom 4 0 0 53) s m _ _ _ _ _ [] 0 0 := Stand.of_body Bd
  have e0 : s₁.heap = h0 := by rw [← hh, Bd.state]; rfl
  have N0 := Fr.nil n0
  have K0 : Keep h0 h0 [] := Keep.refl _ _
  have pre0 : Go p e below s₁ _ (mkF m 0 #[.val (.ref o0), .val (.int p1)] []) _ := fun t k => castTop (ef_12_L m o0 p1) k
  have pre1 : Go p e below s₁ _ (mkF m 1 #[.val (.ref o0), .val (.int p1)] [(.ref o0)]) _ := fun t k => pre0 t (by
    refine XS.aloadN X0.here hx rfl (hb hby d12_0) rfl rfl ?_
    exact k)
  obtain ⟨cq2, kq2, q2a, q2b, q2c⟩ := isOf hZ e0 I2
  obtain ⟨_, _, ⟨T2, L2, k2, n2⟩, -, X2, ⟨Lc2, hQ2, l2, y2, z2⟩, st2⟩ := X0.virtualBack hx (y := Nm_5) (z := Nm_5) hown (mvT hZ (wq hw 61 rfl)) (mvT hZ (wq hw 62 rfl)) (notFace_of_selects (args := #[]) (mvT hZ (wq hw 64 rfl))) (mvT hZ (wq hw 64 rfl)) (mvT hZ (wq hw 63 rfl)) (by decide) (backOf (W := 0) (rm13_U l Z a0 hw [] o0 wcs h0 n0 Z0 I0 I7 hcs) hZ (wq hw 65 rfl) (wq hw 8 rfl) (by decide) (by decide)) q2a q2c (g := (mkF m 1 #[.val (.ref o0), .val (.int p1)] [(.ref o0)])) rfl (by rw [hml]; rfl) (Steps.refl _) (argsL := []) (rest := []) (lenOf pd___Z rfl) rfl (w00 rfl) (hb hby d12_1) (fun _ _ => ⟨rfl, e0, (by decide : 0 + 0 ≤ _), (by decide : 0 + 0 ≤ _)⟩)
  dsimp only [Pt.U, Pt.locs, Pt.cells, Pt.slots] at X2 l2 y2 z2 st2 hQ2
  subst l2 y2 z2
  obtain ⟨rfl, Nq2, e2⟩ := hQ2
  have N2 := Fr.app N0 Nq2
  have pre3 := Go.trn pre1 st2
  have pre4 : Go p e below T2 _ (mkF m 17 #[.val (.ref o0), .val (.int p1)] [(.ref o0)]) _ := fun t k => pre3 t (by
    refine XS.ifYes X2.here hx rfl (pc0 := 4) (pc' := 16) rfl (hb hby d12_4) rfl ((if0 _ _).trans (teq (by decide)).1) (by decide) (by decide) ?_
    refine XS.aloadN X2.here hx rfl (hb hby d12_16) rfl rfl ?_
    exact k)
  obtain ⟨T5, X5, e5, st5⟩ := getF X2 hx hZ hown (host := "") (Or.inl (wq hw 26 rfl)) Via.refl e2 I6 (g := (mkF m 17 #[.val (.ref o0), .val (.int p1)] [(.ref o0)])) rfl rfl (hb hby d12_17)
  have pre6 := Go.thn pre4 st5
  have pre7 : Go p e below T5 _ (mkF m 21 #[.val (.ref o0), .val (.int p1)] [(.int p1), (.ref oa)]) _ := fun t k => pre6 t (by
    refine XS.iloadN X5.here hx rfl (hb hby d12_20) rfl ?_
    exact k)
  obtain ⟨_, _, ⟨T8, L8, k8, n8⟩, -, X8, ⟨Lc8, hQ8, l8, y8, z8⟩, st8⟩ := Jvm.LawKit.callS X5 hx (y := Nm_12) hown (mvT hZ (wq hw 100 rfl)) (mvT hZ (wq hw 101 rfl)) (mvT hZ (wq hw 45 rfl)) (mvT hZ (wq hw 102 rfl)) (by decide) (backOf (W := 0) (rm23 l Z a0 hw [] oa p1 wsf _ n Ls h0 n0 Z0 I3 I4 I5 I1 I8 hsf hi0 hi1 ha0 ha1 hb0 hb1) hZ (wq hw 102 rfl) (wq hw 45 rfl) (by decide) (by decide)) (g := (mkF m 21 #[.val (.ref o0), .val (.int p1)] [(.int p1), (.ref oa)])) rfl (by rw [hml]; rfl) (argsL := [(.ref oa), (.int p1)]) (rest := []) (lenOf pd___BI_C rfl) rfl (w00 rfl) (hb hby d12_21) (fun _ _ => ⟨rfl, e5, (by decide : 0 + 0 ≤ _), (by decide : 0 + 0 ≤ _)⟩)
  dsimp only [Pt.U, Pt.locs, Pt.cells, Pt.slots] at X8 l8 y8 z8 st8 hQ8
  subst l8 y8 z8
  obtain ⟨rfl, Nq8, e8⟩ := hQ8
  have N8 := Fr.app N2 Nq8
  have pre9 := Go.thn pre7 st8
  obtain ⟨fs, hr, hrun, hended, hW, hsame⟩ := X8.leave (v := some (.int (nar .char (f23 p1 Ls)))) (fun h => by rw [Bd.returns] at h; cases h)
  refine ⟨_, _, ?_, hrun, hended, _, _, rfl, ?_, ⟨_, rfl⟩, hW, hsame.mono (by decide) (by decide)⟩
  · exact pre9 _ (retN X8 hx (t := .char) Bd.returns (by simp) (hb hby d12_24) hr)
  · exact ⟨by simp only [f12_U], N8, e8⟩
def own_szL (n : Int32) : Prop := n = 0 ∨ n = 1 ∨ n = 2 ∨ n = 3 ∨ n = 4
def own_szU (n : Int32) : Prop := n = 2 ∨ n = 4 ∨ n = 6 ∨ n = 8
theorem own_iL {i n : Int32} (hn : own_szL n) (h : i < f6_L n) : i < n := by
  rcases hn with rfl | rfl | rfl | rfl | rfl <;> exact h
theorem own_iU {i n : Int32} (hn : own_szU n) (h : i < f6_U n) (h0 : ¬ i < 0 := by decide) : i < f25 n ∧ (i <<< ((1 : Int32) &&& 31)) < n ∧ ((i <<< ((1 : Int32) &&& 31)) + (1 : Int32)) < n := by
  have e : f6_U n = f25 n := rfl
  refine ⟨e ▸ h, ?_⟩
  have h1 := Int32.lt_iff_toInt_lt.mp h
  have h2 : ¬ i.toInt < 0 := fun q => h0 (Int32.lt_iff_toInt_lt.mpr q)
  have h3 : (f6_U n).toInt = n.toInt / 2 := c_ishr n 1 1 (by decide)
  have hr : n.toInt = 2 ∨ n.toInt = 4 ∨ n.toInt = 6 ∨ n.toInt = 8 := by rcases hn with rfl | rfl | rfl | rfl <;> decide
  have hi : i = 0 ∨ i = 1 ∨ i = 2 ∨ i = 3 := by
    rcases (show i.toInt = 0 ∨ i.toInt = 1 ∨ i.toInt = 2 ∨ i.toInt = 3 by omega) with q | q | q | q
    · exact Or.inl (Int32.toInt_inj.mp q)
    · exact Or.inr (Or.inl (Int32.toInt_inj.mp q))
    · exact Or.inr (Or.inr (Or.inl (Int32.toInt_inj.mp q)))
    · exact Or.inr (Or.inr (Or.inr (Int32.toInt_inj.mp q)))
  rcases hn with rfl | rfl | rfl | rfl <;> rcases hi with rfl | rfl | rfl | rfl <;> first | decide | exact absurd h (by decide)
theorem d5_0 : decode prog_8_method_3_code 0 = .ok (.iconst 0, 1) := by decide +kernel
theorem d5_1 : decode prog_8_method_3_code 1 = .ok (.istore_n 1, 1) := by decide +kernel
theorem d5_2 : decode prog_8_method_3_code 2 = .ok (.iload_n 1, 1) := by decide +kernel
theorem d5_3 : decode prog_8_method_3_code 3 = .ok (.aload_n 0, 1) := by decide +kernel
theorem d5_4 : decode prog_8_method_3_code 4 = .ok (.invokevirtual 27, 3) := by decide +kernel
theorem d5_7 : decode prog_8_method_3_code 7 = .ok (.if_icmp .ge 20, 3) := by decide +kernel
theorem d5_10 : decode prog_8_method_3_code 10 = .ok (.aload_n 0, 1) := by decide +kernel
theorem d5_11 : decode prog_8_method_3_code 11 = .ok (.iload_n 1, 1) := by decide +kernel
theorem d5_12 : decode prog_8_method_3_code 12 = .ok (.invokevirtual 52, 3) := by decide +kernel
theorem d5_15 : decode prog_8_method_3_code 15 = .ok (.invokestatic 56, 3) := by decide +kernel
theorem d5_18 : decode prog_8_method_3_code 18 = .ok (.ifCond .eq 9, 3) := by decide +kernel
theorem d5_21 : decode prog_8_method_3_code 21 = .ok (.iinc 1 1, 3) := by decide +kernel
theorem d5_24 : decode prog_8_method_3_code 24 = .ok (.goto (-22), 3) := by decide +kernel
theorem d5_27 : decode prog_8_method_3_code 27 = .ok (.iload_n 1, 1) := by decide +kernel
theorem d5_28 : decode prog_8_method_3_code 28 = .ok (.ireturn, 1) := by decide +kernel
theorem pn_5 : plainName "com/example/stint/stint/WholeNumber" = true := by first | (simp [plainName, overriddenIn]; done) | decide +kernel
theorem pd___I : parseMethodDescriptor "()I" = some ⟨[], some .int⟩ := by decide +kernel
theorem pd__I_C : parseMethodDescriptor "(I)C" = some ⟨[.int], some .char⟩ := by decide +kernel
theorem pd__C_Z : parseMethodDescriptor "(C)Z" = some ⟨[.char], some .boolean⟩ := by decide +kernel
theorem ef_5_L (m : MethodId) (x0 : Addr) : entryFrame m #[(.ref x0)] 2 = mkF m 0 #[.val (.ref x0), .unset] [] := by first | (simp [entryFrame, mkF, argsToLocals, Value.category]; done) | rfl
def f5_L (n : Int32) (Ls : List Int32) : Int32 := (if (0 : Int32) < (f6_L n) then (if (f17 (f12_L (0 : Int32) Ls)) = (0 : Int32) then (0 : Int32) else (if (1 : Int32) < (f6_L n) then (if (f17 (f12_L (1 : Int32) Ls)) = (0 : Int32) then (1 : Int32) else (if (2 : Int32) < (f6_L n) then (if (f17 (f12_L (2 : Int32) Ls)) = (0 : Int32) then (2 : Int32) else (if (3 : Int32) < (f6_L n) then (if (f17 (f12_L (3 : Int32) Ls)) = (0 : Int32) then (3 : Int32) else (4 : Int32)) else (3 : Int32))) else (2 : Int32))) else (1 : Int32))) else (0 : Int32))
set_option maxRecDepth 65536 in
set_option maxHeartbeats 40000000 in
theorem rm5_L (l : Launch) (Z : State) (a0 : Array Value) (hw : ∀ d ∈ tables_1, d.before a0 Z = true) (ws : List Jvm.Cond) (o0 : Addr) (wcs : Int32) (wsf : Value) (oa : Addr) (ka : ClassId) (n : Int32) (Ls : List Int32) (h0 : Heap) (n0 : Nat) (Z0 : n0 ≤ h0.size) (I0 : Sta Z h0 "java/lang/String" "COMPACT_STRINGS" "Z" (.int wcs)) (I1 : Sta Z h0 "jdk/internal/util/Preconditions" "SIOOBE_FORMATTER" "Ljava/util/function/BiFunction;" wsf) (I2 : Exa Z h0 o0 "java/lang/String") (I3 : Fld Z h0 o0 "java/lang/String" "value" "[B" (.ref oa)) (I4 : Fld Z h0 o0 "java/lang/String" "coder" "B" (.int 0)) (I5 : Arv Z h0 oa ka .byte n (Ls.map Value.int) (.int 0)) (hcs : ¬ (wcs = (0 : Int32))) (hsf : wsf.isRef = true) (hn : own_szL n) (h4 : ¬ ((4 : Int32) < (f6_L n))) :
    Met1 l Nm_14 (Jvm.Cond.code Nm_14 prog_8_method_3_code 2 (some .int)) ws (rom 4 0 0 53) #[(.ref o0)] Z h0 (QP (some (.int (f5_L n Ls))) h0 n0) := by
  refine MetFree.of_bodySF (plainFor_of_name pn_5) hisR ?_
  intro p e s m args below meth c s₁ Bd hml0 hP hK
  obtain ⟨rfl, hZ, hh⟩ := hP
  have hx := Bd.exec
  have hby := Bd.bytes
  have hml : c.maxLocals = 2 := hml0
  have hown : s.vm.findClass "com/example/stint/stint/WholeNumber" = some m.cls := findClass_of_methodNamed Bd.named
  have X0 : Stand p l e (rom 4 0 0 53) s m _ _ _ _ _ [] 0 0 := Stand.of_body Bd
  have e0 : s₁.heap = h0 := by rw [← hh, Bd.state]; rfl
  have N0 := Fr.nil n0
  have K0 : Keep h0 h0 [] := Keep.refl _ _
  have pre0 : Go p e below s₁ _ (mkF m 0 #[.val (.ref o0), .unset] []) _ := fun t k => castTop (ef_5_L m o0) k
  have pre9 : Go p e below s₁ _ (mkF m 4 #[.val (.ref o0), .val (.int 0)] [(.ref o0), (.int 0)]) _ := fun t k => pre0 t (by
    refine XS.iconst X0.here hx rfl (hb hby d5_0) ?_
    refine XS.istoreN X0.here hx rfl (hb hby d5_1) rfl (l' := #[.val (.ref o0), .val (.int 0)]) rfl ?_
    refine XS.iloadN X0.here hx rfl (hb hby d5_2) rfl ?_
    refine XS.aloadN X0.here hx rfl (hb hby d5_3) rfl rfl ?_
    exact k)
  obtain ⟨cq10, kq10, q10a, q10b, q10c⟩ := isOf hZ e0 I2
  obtain ⟨_, _, ⟨T10, L10, k10, n10⟩, -, X10, ⟨Lc10, hQ10, l10, y10, z10⟩, st10⟩ := X0.virtualBack hx (y := Nm_4) (z := Nm_4) hown (mvT hZ (wq hw 32 rfl)) (mvT hZ (wq hw 33 rfl)) (notFace_of_selects (args := #[]) (mvT hZ (wq hw 35 rfl))) (mvT hZ (wq hw 35 rfl)) (mvT hZ (wq hw 34 rfl)) (by decide) (backOf (W := 1) (rm6_L l Z a0 hw [] o0 wcs oa _ n Ls h0 n0 Z0 I0 I2 I3 I4 I5 hcs) hZ (wq hw 36 rfl) (wq hw 8 rfl) (by decide) (by decide)) q10a q10c (g := (mkF m 4 #[.val (.ref o0), .val (.int 0)] [(.ref o0), (.int 0)])) rfl (by rw [hml]; rfl) (Steps.refl _) (argsL := []) (rest := [(.int 0)]) (lenOf pd___I rfl) rfl (w00 rfl) (hb hby d5_4) (fun _ _ => ⟨rfl, e0, (by decide : 0 + 0 ≤ _), (by decide : 0 + 0 ≤ _)⟩)
  dsimp only [Pt.U, Pt.locs, Pt.cells, Pt.slots] at X10 l10 y10 z10 st10 hQ10
  subst l10 y10 z10
  obtain ⟨rfl, Nq10, e10⟩ := hQ10
  have N10 := Fr.app N0 Nq10
  have pre11 := Go.trn pre9 st10
  by_cases hc7_1 : (0 : Int32) < (f6_L n)
  · have pre12 : Go p e below T10 _ (mkF m 12 #[.val (.ref o0), .val (.int 0)] [(.int 0), (.ref o0)]) _ := fun t k => pre11 t (by
      refine XS.icmpNo X10.here hx rfl (hb hby d5_7) rfl (tlt hc7_1).2.1 ?_
      refine XS.aloadN X10.here hx rfl (hb hby d5_10) rfl rfl ?_
      refine XS.iloadN X10.here hx rfl (hb hby d5_11) rfl ?_
      exact k)
    obtain ⟨cq13, kq13, q13a, q13b, q13c⟩ := isOf hZ e10 I2
    obtain ⟨_, _, ⟨T13, L13, k13, n13⟩, -, X13, ⟨Lc13, hQ13, l13, y13, z13⟩, st13⟩ := X10.virtualBack hx (y := Nm_13) (z := Nm_13) hown (mvT hZ (wq hw 56 rfl)) (mvT hZ (wq hw 57 rfl)) (notFace_of_selects (args := #[]) (mvT hZ (wq hw 59 rfl))) (mvT hZ (wq hw 59 rfl)) (mvT hZ (wq hw 58 rfl)) (by decide) (backOf (W := 0) (rm12_L l Z a0 hw [] o0 (0 : Int32) wcs wsf oa _ n Ls h0 n0 Z0 I0 I1 I2 I3 I4 I5 hcs hsf (by decide) (own_iL hn (by assumption))) hZ (wq hw 60 rfl) (wq hw 8 rfl) (by decide) (by decide)) q13a q13c (g := (mkF m 12 #[.val (.ref o0), .val (.int 0)] [(.int 0), (.ref o0)])) rfl (by rw [hml]; rfl) (Steps.refl _) (argsL := [(.int 0)]) (rest := []) (lenOf pd__I_C rfl) rfl (w00 rfl) (hb hby d5_12) (fun _ _ => ⟨rfl, e10, (by decide : 0 + 0 ≤ _), (by decide : 0 + 0 ≤ _)⟩)
    dsimp only [Pt.U, Pt.locs, Pt.cells, Pt.slots] at X13 l13 y13 z13 st13 hQ13
    subst l13 y13 z13
    obtain ⟨rfl, Nq13, e13⟩ := hQ13
    have N13 := Fr.app N10 Nq13
    have pre14 := Go.trn pre12 st13
    obtain ⟨_, _, ⟨T15, L15, k15, n15⟩, -, X15, ⟨Lc15, hQ15, l15, y15, z15⟩, st15⟩ := Jvm.LawKit.callS X13 hx (y := Nm_2) hown (mvT hZ (wq hw 78 rfl)) (mvT hZ (wq hw 79 rfl)) (mvT hZ (wq hw 30 rfl)) (mvT hZ (wq hw 80 rfl)) (by decide) (backOf (W := 0) (rm17 l Z a0 hw [] (f12_L (0 : Int32) Ls) h0 n0 Z0) hZ (wq hw 80 rfl) (wq hw 30 rfl) (by decide) (by decide)) (g := (mkF m 15 #[.val (.ref o0), .val (.int 0)] [(.int (f12_L (0 : Int32) Ls))])) rfl (by rw [hml]; rfl) (argsL := [(.int (f12_L (0 : Int32) Ls))]) (rest := []) (lenOf pd__C_Z rfl) rfl (w00 rfl) (hb hby d5_15) (fun _ _ => ⟨rfl, e13, (by decide : 0 + 0 ≤ _), (by decide : 0 + 0 ≤ _)⟩)
    dsimp only [Pt.U, Pt.locs, Pt.cells, Pt.slots] at X15 l15 y15 z15 st15 hQ15
    subst l15 y15 z15
    obtain ⟨rfl, Nq15, e15⟩ := hQ15
    have N15 := Fr.app N13 Nq15
    have pre16 := Go.thn pre14 st15
    by_cases hc18_2 : (f17 (f12_L (0 : Int32) Ls)) = (0 : Int32)
    · have pre17 : Go p e below T15 _ (mkF m 28 #[.val (.ref o0), .val (.int 0)] [(.int 0)]) _ := fun t k => pre16 t (by
        refine XS.ifYes X15.here hx rfl (pc0 := 18) (pc' := 27) rfl (hb hby d5_18) rfl ((if0 _ _).trans (teq hc18_2).1) (by decide) (by decide) ?_
        refine XS.iloadN X15.here hx rfl (hb hby d5_27) rfl ?_
        exact k)
      obtain ⟨fs, hr, hrun, hended, hW, hsame⟩ := X15.leave (v := some (.int 0)) (fun h => by rw [Bd.returns] at h; cases h)
      refine ⟨_, _, ?_, hrun, hended, _, _, rfl, ?_, ⟨_, rfl⟩, hW, hsame.mono (by decide) (by decide)⟩
      · exact pre17 _ (retI X15 hx Bd.returns (hb hby d5_28) hr)
      · exact ⟨by simp only [f5_L, if_pos hc7_1, if_pos hc18_2], N15, e15⟩
    · have pre18 : Go p e below T15 _ (mkF m 4 #[.val (.ref o0), .val (.int 1)] [(.ref o0), (.int 1)]) _ := fun t k => pre16 t (by
        refine XS.ifNo X15.here hx rfl (hb hby d5_18) rfl ((if0 _ _).trans (feq hc18_2).1) ?_
        refine XS.iinc X15.here hx rfl (hb hby d5_21) rfl (l' := #[.val (.ref o0), .val (.int 1)]) rfl ?_
        refine XS.goto X15.here hx rfl (pc0 := 24) (pc' := 2) rfl (hb hby d5_24) (by decide) (by decide) ?_
        refine XS.iloadN X15.here hx rfl (hb hby d5_2) rfl ?_
        refine XS.aloadN X15.here hx rfl (hb hby d5_3) rfl rfl ?_
        exact k)
      obtain ⟨cq19, kq19, q19a, q19b, q19c⟩ := isOf hZ e15 I2
      obtain ⟨_, _, ⟨T19, L19, k19, n19⟩, -, X19, ⟨Lc19, hQ19, l19, y19, z19⟩, st19⟩ := X15.virtualBack hx (y := Nm_4) (z := Nm_4) hown (mvT hZ (wq hw 32 rfl)) (mvT hZ (wq hw 33 rfl)) (notFace_of_selects (args := #[]) (mvT hZ (wq hw 35 rfl))) (mvT hZ (wq hw 35 rfl)) (mvT hZ (wq hw 34 rfl)) (by decide) (backOf (W := 1) (rm6_L l Z a0 hw [] o0 wcs oa _ n Ls h0 n0 Z0 I0 I2 I3 I4 I5 hcs) hZ (wq hw 36 rfl) (wq hw 8 rfl) (by decide) (by decide)) q19a q19c (g := (mkF m 4 #[.val (.ref o0), .val (.int 1)] [(.ref o0), (.int 1)])) rfl (by rw [hml]; rfl) (Steps.refl _) (argsL := []) (rest := [(.int 1)]) (lenOf pd___I rfl) rfl (w00 rfl) (hb hby d5_4) (fun _ _ => ⟨rfl, e15, (by decide : 0 + 0 ≤ _), (by decide : 0 + 0 ≤ _)⟩)
      dsimp only [Pt.U, Pt.locs, Pt.cells, Pt.slots] at X19 l19 y19 z19 st19 hQ19
      subst l19 y19 z19
      obtain ⟨rfl, Nq19, e19⟩ := hQ19
      have N19 := Fr.app N15 Nq19
      have pre20 := Go.trn pre18 st19
      by_cases hc7_3 : (1 : Int32) < (f6_L n)
      · have pre21 : Go p e below T19 _ (mkF m 12 #[.val (.ref o0), .val (.int 1)] [(.int 1), (.ref o0)]) _ := fun t k => pre20 t (by
          refine XS.icmpNo X19.here hx rfl (hb hby d5_7) rfl (tlt hc7_3).2.1 ?_
          refine XS.aloadN X19.here hx rfl (hb hby d5_10) rfl rfl ?_
          refine XS.iloadN X19.here hx rfl (hb hby d5_11) rfl ?_
          exact k)
        obtain ⟨cq22, kq22, q22a, q22b, q22c⟩ := isOf hZ e19 I2
        obtain ⟨_, _, ⟨T22, L22, k22, n22⟩, -, X22, ⟨Lc22, hQ22, l22, y22, z22⟩, st22⟩ := X19.virtualBack hx (y := Nm_13) (z := Nm_13) hown (mvT hZ (wq hw 56 rfl)) (mvT hZ (wq hw 57 rfl)) (notFace_of_selects (args := #[]) (mvT hZ (wq hw 59 rfl))) (mvT hZ (wq hw 59 rfl)) (mvT hZ (wq hw 58 rfl)) (by decide) (backOf (W := 0) (rm12_L l Z a0 hw [] o0 (1 : Int32) wcs wsf oa _ n Ls h0 n0 Z0 I0 I1 I2 I3 I4 I5 hcs hsf (by decide) (own_iL hn (by assumption))) hZ (wq hw 60 rfl) (wq hw 8 rfl) (by decide) (by decide)) q22a q22c (g := (mkF m 12 #[.val (.ref o0), .val (.int 1)] [(.int 1), (.ref o0)])) rfl (by rw [hml]; rfl) (Steps.refl _) (argsL := [(.int 1)]) (rest := []) (lenOf pd__I_C rfl) rfl (w00 rfl) (hb hby d5_12) (fun _ _ => ⟨rfl, e19, (by decide : 0 + 0 ≤ _), (by decide : 0 + 0 ≤ _)⟩)
        dsimp only [Pt.U, Pt.locs, Pt.cells, Pt.slots] at X22 l22 y22 z22 st22 hQ22
        subst l22 y22 z22
        obtain ⟨rfl, Nq22, e22⟩ := hQ22
        have N22 := Fr.app N19 Nq22
        have pre23 := Go.trn pre21 st22
        obtain ⟨_, _, ⟨T24, L24, k24, n24⟩, -, X24, ⟨Lc24, hQ24, l24, y24, z24⟩, st24⟩ := Jvm.LawKit.callS X22 hx (y := Nm_2) hown (mvT hZ (wq hw 78 rfl)) (mvT hZ (wq hw 79 rfl)) (mvT hZ (wq hw 30 rfl)) (mvT hZ (wq hw 80 rfl)) (by decide) (backOf (W := 0) (rm17 l Z a0 hw [] (f12_L (1 : Int32) Ls) h0 n0 Z0) hZ (wq hw 80 rfl) (wq hw 30 rfl) (by decide) (by decide)) (g := (mkF m 15 #[.val (.ref o0), .val (.int 1)] [(.int (f12_L (1 : Int32) Ls))])) rfl (by rw [hml]; rfl) (argsL := [(.int (f12_L (1 : Int32) Ls))]) (rest := []) (lenOf pd__C_Z rfl) rfl (w00 rfl) (hb hby d5_15) (fun _ _ => ⟨rfl, e22, (by decide : 0 + 0 ≤ _), (by decide : 0 + 0 ≤ _)⟩)
        dsimp only [Pt.U, Pt.locs, Pt.cells, Pt.slots] at X24 l24 y24 z24 st24 hQ24
        subst l24 y24 z24
        obtain ⟨rfl, Nq24, e24⟩ := hQ24
        have N24 := Fr.app N22 Nq24
        have pre25 := Go.thn pre23 st24
        by_cases hc18_4 : (f17 (f12_L (1 : Int32) Ls)) = (0 : Int32)
        · have pre26 : Go p e below T24 _ (mkF m 28 #[.val (.ref o0), .val (.int 1)] [(.int 1)]) _ := fun t k => pre25 t (by
            refine XS.ifYes X24.here hx rfl (pc0 := 18) (pc' := 27) rfl (hb hby d5_18) rfl ((if0 _ _).trans (teq hc18_4).1) (by decide) (by decide) ?_
            refine XS.iloadN X24.here hx rfl (hb hby d5_27) rfl ?_
            exact k)
          obtain ⟨fs, hr, hrun, hended, hW, hsame⟩ := X24.leave (v := some (.int 1)) (fun h => by rw [Bd.returns] at h; cases h)
          refine ⟨_, _, ?_, hrun, hended, _, _, rfl, ?_, ⟨_, rfl⟩, hW, hsame.mono (by decide) (by decide)⟩
          · exact pre26 _ (retI X24 hx Bd.returns (hb hby d5_28) hr)
          · exact ⟨by simp only [f5_L, if_pos hc7_1, if_neg hc18_2, if_pos hc7_3, if_pos hc18_4], N24, e24⟩
        · have pre27 : Go p e below T24 _ (mkF m 4 #[.val (.ref o0), .val (.int 2)] [(.ref o0), (.int 2)]) _ := fun t k => pre25 t (by
            refine XS.ifNo X24.here hx rfl (hb hby d5_18) rfl ((if0 _ _).trans (feq hc18_4).1) ?_
            refine XS.iinc X24.here hx rfl (hb hby d5_21) rfl (l' := #[.val (.ref o0), .val (.int 2)]) rfl ?_
            refine XS.goto X24.here hx rfl (pc0 := 24) (pc' := 2) rfl (hb hby d5_24) (by decide) (by decide) ?_
            refine XS.iloadN X24.here hx rfl (hb hby d5_2) rfl ?_
            refine XS.aloadN X24.here hx rfl (hb hby d5_3) rfl rfl ?_
            exact k)
          obtain ⟨cq28, kq28, q28a, q28b, q28c⟩ := isOf hZ e24 I2
          obtain ⟨_, _, ⟨T28, L28, k28, n28⟩, -, X28, ⟨Lc28, hQ28, l28, y28, z28⟩, st28⟩ := X24.virtualBack hx (y := Nm_4) (z := Nm_4) hown (mvT hZ (wq hw 32 rfl)) (mvT hZ (wq hw 33 rfl)) (notFace_of_selects (args := #[]) (mvT hZ (wq hw 35 rfl))) (mvT hZ (wq hw 35 rfl)) (mvT hZ (wq hw 34 rfl)) (by decide) (backOf (W := 1) (rm6_L l Z a0 hw [] o0 wcs oa _ n Ls h0 n0 Z0 I0 I2 I3 I4 I5 hcs) hZ (wq hw 36 rfl) (wq hw 8 rfl) (by decide) (by decide)) q28a q28c (g := (mkF m 4 #[.val (.ref o0), .val (.int 2)] [(.ref o0), (.int 2)])) rfl (by rw [hml]; rfl) (Steps.refl _) (argsL := []) (rest := [(.int 2)]) (lenOf pd___I rfl) rfl (w00 rfl) (hb hby d5_4) (fun _ _ => ⟨rfl, e24, (by decide : 0 + 0 ≤ _), (by decide : 0 + 0 ≤ _)⟩)
          dsimp only [Pt.U, Pt.locs, Pt.cells, Pt.slots] at X28 l28 y28 z28 st28 hQ28
          subst l28 y28 z28
          obtain ⟨rfl, Nq28, e28⟩ := hQ28
          have N28 := Fr.app N24 Nq28
          have pre29 := Go.trn pre27 st28
          by_cases hc7_5 : (2 : Int32) < (f6_L n)
          · have pre30 : Go p e below T28 _ (mkF m 12 #[.val (.ref o0), .val (.int 2)] [(.int 2), (.ref o0)]) _ := fun t k => pre29 t (by
              refine XS.icmpNo X28.here hx rfl (hb hby d5_7) rfl (tlt hc7_5).2.1 ?_
              refine XS.aloadN X28.here hx rfl (hb hby d5_10) rfl rfl ?_
              refine XS.iloadN X28.here hx rfl (hb hby d5_11) rfl ?_
              exact k)
            obtain ⟨cq31, kq31, q31a, q31b, q31c⟩ := isOf hZ e28 I2
            obtain ⟨_, _, ⟨T31, L31, k31, n31⟩, -, X31, ⟨Lc31, hQ31, l31, y31, z31⟩, st31⟩ := X28.virtualBack hx (y := Nm_13) (z := Nm_13) hown (mvT hZ (wq hw 56 rfl)) (mvT hZ (wq hw 57 rfl)) (notFace_of_selects (args := #[]) (mvT hZ (wq hw 59 rfl))) (mvT hZ (wq hw 59 rfl)) (mvT hZ (wq hw 58 rfl)) (by decide) (backOf (W := 0) (rm12_L l Z a0 hw [] o0 (2 : Int32) wcs wsf oa _ n Ls h0 n0 Z0 I0 I1 I2 I3 I4 I5 hcs hsf (by decide) (own_iL hn (by assumption))) hZ (wq hw 60 rfl) (wq hw 8 rfl) (by decide) (by decide)) q31a q31c (g := (mkF m 12 #[.val (.ref o0), .val (.int 2)] [(.int 2), (.ref o0)])) rfl (by rw [hml]; rfl) (Steps.refl _) (argsL := [(.int 2)]) (rest := []) (lenOf pd__I_C rfl) rfl (w00 rfl) (hb hby d5_12) (fun _ _ => ⟨rfl, e28, (by decide : 0 + 0 ≤ _), (by decide : 0 + 0 ≤ _)⟩)
            dsimp only [Pt.U, Pt.locs, Pt.cells, Pt.slots] at X31 l31 y31 z31 st31 hQ31
            subst l31 y31 z31
            obtain ⟨rfl, Nq31, e31⟩ := hQ31
            have N31 := Fr.app N28 Nq31
            have pre32 := Go.trn pre30 st31
            obtain ⟨_, _, ⟨T33, L33, k33, n33⟩, -, X33, ⟨Lc33, hQ33, l33, y33, z33⟩, st33⟩ := Jvm.LawKit.callS X31 hx (y := Nm_2) hown (mvT hZ (wq hw 78 rfl)) (mvT hZ (wq hw 79 rfl)) (mvT hZ (wq hw 30 rfl)) (mvT hZ (wq hw 80 rfl)) (by decide) (backOf (W := 0) (rm17 l Z a0 hw [] (f12_L (2 : Int32) Ls) h0 n0 Z0) hZ (wq hw 80 rfl) (wq hw 30 rfl) (by decide) (by decide)) (g := (mkF m 15 #[.val (.ref o0), .val (.int 2)] [(.int (f12_L (2 : Int32) Ls))])) rfl (by rw [hml]; rfl) (argsL := [(.int (f12_L (2 : Int32) Ls))]) (rest := []) (lenOf pd__C_Z rfl) rfl (w00 rfl) (hb hby d5_15) (fun _ _ => ⟨rfl, e31, (by decide : 0 + 0 ≤ _), (by decide : 0 + 0 ≤ _)⟩)
            dsimp only [Pt.U, Pt.locs, Pt.cells, Pt.slots] at X33 l33 y33 z33 st33 hQ33
            subst l33 y33 z33
            obtain ⟨rfl, Nq33, e33⟩ := hQ33
            have N33 := Fr.app N31 Nq33
            have pre34 := Go.thn pre32 st33
            by_cases hc18_6 : (f17 (f12_L (2 : Int32) Ls)) = (0 : Int32)
            · have pre35 : Go p e below T33 _ (mkF m 28 #[.val (.ref o0), .val (.int 2)] [(.int 2)]) _ := fun t k => pre34 t (by
                refine XS.ifYes X33.here hx rfl (pc0 := 18) (pc' := 27) rfl (hb hby d5_18) rfl ((if0 _ _).trans (teq hc18_6).1) (by decide) (by decide) ?_
                refine XS.iloadN X33.here hx rfl (hb hby d5_27) rfl ?_
                exact k)
              obtain ⟨fs, hr, hrun, hended, hW, hsame⟩ := X33.leave (v := some (.int 2)) (fun h => by rw [Bd.returns] at h; cases h)
              refine ⟨_, _, ?_, hrun, hended, _, _, rfl, ?_, ⟨_, rfl⟩, hW, hsame.mono (by decide) (by decide)⟩
              · exact pre35 _ (retI X33 hx Bd.returns (hb hby d5_28) hr)
              · exact ⟨by simp only [f5_L, if_pos hc7_1, if_neg hc18_2, if_pos hc7_3, if_neg hc18_4, if_pos hc7_5, if_pos hc18_6], N33, e33⟩
            · have pre36 : Go p e below T33 _ (mkF m 4 #[.val (.ref o0), .val (.int 3)] [(.ref o0), (.int 3)]) _ := fun t k => pre34 t (by
                refine XS.ifNo X33.here hx rfl (hb hby d5_18) rfl ((if0 _ _).trans (feq hc18_6).1) ?_
                refine XS.iinc X33.here hx rfl (hb hby d5_21) rfl (l' := #[.val (.ref o0), .val (.int 3)]) rfl ?_
                refine XS.goto X33.here hx rfl (pc0 := 24) (pc' := 2) rfl (hb hby d5_24) (by decide) (by decide) ?_
                refine XS.iloadN X33.here hx rfl (hb hby d5_2) rfl ?_
                refine XS.aloadN X33.here hx rfl (hb hby d5_3) rfl rfl ?_
                exact k)
              obtain ⟨cq37, kq37, q37a, q37b, q37c⟩ := isOf hZ e33 I2
              obtain ⟨_, _, ⟨T37, L37, k37, n37⟩, -, X37, ⟨Lc37, hQ37, l37, y37, z37⟩, st37⟩ := X33.virtualBack hx (y := Nm_4) (z := Nm_4) hown (mvT hZ (wq hw 32 rfl)) (mvT hZ (wq hw 33 rfl)) (notFace_of_selects (args := #[]) (mvT hZ (wq hw 35 rfl))) (mvT hZ (wq hw 35 rfl)) (mvT hZ (wq hw 34 rfl)) (by decide) (backOf (W := 1) (rm6_L l Z a0 hw [] o0 wcs oa _ n Ls h0 n0 Z0 I0 I2 I3 I4 I5 hcs) hZ (wq hw 36 rfl) (wq hw 8 rfl) (by decide) (by decide)) q37a q37c (g := (mkF m 4 #[.val (.ref o0), .val (.int 3)] [(.ref o0), (.int 3)])) rfl (by rw [hml]; rfl) (Steps.refl _) (argsL := []) (rest := [(.int 3)]) (lenOf pd___I rfl) rfl (w00 rfl) (hb hby d5_4) (fun _ _ => ⟨rfl, e33, (by decide : 0 + 0 ≤ _), (by decide : 0 + 0 ≤ _)⟩)
              dsimp only [Pt.U, Pt.locs, Pt.cells, Pt.slots] at X37 l37 y37 z37 st37 hQ37
              subst l37 y37 z37
              obtain ⟨rfl, Nq37, e37⟩ := hQ37
              have N37 := Fr.app N33 Nq37
              have pre38 := Go.trn pre36 st37
              by_cases hc7_7 : (3 : Int32) < (f6_L n)
              · have pre39 : Go p e below T37 _ (mkF m 12 #[.val (.ref o0), .val (.int 3)] [(.int 3), (.ref o0)]) _ := fun t k => pre38 t (by
                  refine XS.icmpNo X37.here hx rfl (hb hby d5_7) rfl (tlt hc7_7).2.1 ?_
                  refine XS.aloadN X37.here hx rfl (hb hby d5_10) rfl rfl ?_
                  refine XS.iloadN X37.here hx rfl (hb hby d5_11) rfl ?_
                  exact k)
                obtain ⟨cq40, kq40, q40a, q40b, q40c⟩ := isOf hZ e37 I2
                obtain ⟨_, _, ⟨T40, L40, k40, n40⟩, -, X40, ⟨Lc40, hQ40, l40, y40, z40⟩, st40⟩ := X37.virtualBack hx (y := Nm_13) (z := Nm_13) hown (mvT hZ (wq hw 56 rfl)) (mvT hZ (wq hw 57 rfl)) (notFace_of_selects (args := #[]) (mvT hZ (wq hw 59 rfl))) (mvT hZ (wq hw 59 rfl)) (mvT hZ (wq hw 58 rfl)) (by decide) (backOf (W := 0) (rm12_L l Z a0 hw [] o0 (3 : Int32) wcs wsf oa _ n Ls h0 n0 Z0 I0 I1 I2 I3 I4 I5 hcs hsf (by decide) (own_iL hn (by assumption))) hZ (wq hw 60 rfl) (wq hw 8 rfl) (by decide) (by decide)) q40a q40c (g := (mkF m 12 #[.val (.ref o0), .val (.int 3)] [(.int 3), (.ref o0)])) rfl (by rw [hml]; rfl) (Steps.refl _) (argsL := [(.int 3)]) (rest := []) (lenOf pd__I_C rfl) rfl (w00 rfl) (hb hby d5_12) (fun _ _ => ⟨rfl, e37, (by decide : 0 + 0 ≤ _), (by decide : 0 + 0 ≤ _)⟩)
                dsimp only [Pt.U, Pt.locs, Pt.cells, Pt.slots] at X40 l40 y40 z40 st40 hQ40
                subst l40 y40 z40
                obtain ⟨rfl, Nq40, e40⟩ := hQ40
                have N40 := Fr.app N37 Nq40
                have pre41 := Go.trn pre39 st40
                obtain ⟨_, _, ⟨T42, L42, k42, n42⟩, -, X42, ⟨Lc42, hQ42, l42, y42, z42⟩, st42⟩ := Jvm.LawKit.callS X40 hx (y := Nm_2) hown (mvT hZ (wq hw 78 rfl)) (mvT hZ (wq hw 79 rfl)) (mvT hZ (wq hw 30 rfl)) (mvT hZ (wq hw 80 rfl)) (by decide) (backOf (W := 0) (rm17 l Z a0 hw [] (f12_L (3 : Int32) Ls) h0 n0 Z0) hZ (wq hw 80 rfl) (wq hw 30 rfl) (by decide) (by decide)) (g := (mkF m 15 #[.val (.ref o0), .val (.int 3)] [(.int (f12_L (3 : Int32) Ls))])) rfl (by rw [hml]; rfl) (argsL := [(.int (f12_L (3 : Int32) Ls))]) (rest := []) (lenOf pd__C_Z rfl) rfl (w00 rfl) (hb hby d5_15) (fun _ _ => ⟨rfl, e40, (by decide : 0 + 0 ≤ _), (by decide : 0 + 0 ≤ _)⟩)
                dsimp only [Pt.U, Pt.locs, Pt.cells, Pt.slots] at X42 l42 y42 z42 st42 hQ42
                subst l42 y42 z42
                obtain ⟨rfl, Nq42, e42⟩ := hQ42
                have N42 := Fr.app N40 Nq42
                have pre43 := Go.thn pre41 st42
                by_cases hc18_8 : (f17 (f12_L (3 : Int32) Ls)) = (0 : Int32)
                · have pre44 : Go p e below T42 _ (mkF m 28 #[.val (.ref o0), .val (.int 3)] [(.int 3)]) _ := fun t k => pre43 t (by
                    refine XS.ifYes X42.here hx rfl (pc0 := 18) (pc' := 27) rfl (hb hby d5_18) rfl ((if0 _ _).trans (teq hc18_8).1) (by decide) (by decide) ?_
                    refine XS.iloadN X42.here hx rfl (hb hby d5_27) rfl ?_
                    exact k)
                  obtain ⟨fs, hr, hrun, hended, hW, hsame⟩ := X42.leave (v := some (.int 3)) (fun h => by rw [Bd.returns] at h; cases h)
                  refine ⟨_, _, ?_, hrun, hended, _, _, rfl, ?_, ⟨_, rfl⟩, hW, hsame.mono (by decide) (by decide)⟩
                  · exact pre44 _ (retI X42 hx Bd.returns (hb hby d5_28) hr)
                  · exact ⟨by simp only [f5_L, if_pos hc7_1, if_neg hc18_2, if_pos hc7_3, if_neg hc18_4, if_pos hc7_5, if_neg hc18_6, if_pos hc7_7, if_pos hc18_8], N42, e42⟩
                · have pre45 : Go p e below T42 _ (mkF m 4 #[.val (.ref o0), .val (.int 4)] [(.ref o0), (.int 4)]) _ := fun t k => pre43 t (by
                    refine XS.ifNo X42.here hx rfl (hb hby d5_18) rfl ((if0 _ _).trans (feq hc18_8).1) ?_
                    refine XS.iinc X42.here hx rfl (hb hby d5_21) rfl (l' := #[.val (.ref o0), .val (.int 4)]) rfl ?_
                    refine XS.goto X42.here hx rfl (pc0 := 24) (pc' := 2) rfl (hb hby d5_24) (by decide) (by decide) ?_
                    refine XS.iloadN X42.here hx rfl (hb hby d5_2) rfl ?_
                    refine XS.aloadN X42.here hx rfl (hb hby d5_3) rfl rfl ?_
                    exact k)
                  obtain ⟨cq46, kq46, q46a, q46b, q46c⟩ := isOf hZ e42 I2
                  obtain ⟨_, _, ⟨T46, L46, k46, n46⟩, -, X46, ⟨Lc46, hQ46, l46, y46, z46⟩, st46⟩ := X42.virtualBack hx (y := Nm_4) (z := Nm_4) hown (mvT hZ (wq hw 32 rfl)) (mvT hZ (wq hw 33 rfl)) (notFace_of_selects (args := #[]) (mvT hZ (wq hw 35 rfl))) (mvT hZ (wq hw 35 rfl)) (mvT hZ (wq hw 34 rfl)) (by decide) (backOf (W := 1) (rm6_L l Z a0 hw [] o0 wcs oa _ n Ls h0 n0 Z0 I0 I2 I3 I4 I5 hcs) hZ (wq hw 36 rfl) (wq hw 8 rfl) (by decide) (by decide)) q46a q46c (g := (mkF m 4 #[.val (.ref o0), .val (.int 4)] [(.ref o0), (.int 4)])) rfl (by rw [hml]; rfl) (Steps.refl _) (argsL := []) (rest := [(.int 4)]) (lenOf pd___I rfl) rfl (w00 rfl) (hb hby d5_4) (fun _ _ => ⟨rfl, e42, (by decide : 0 + 0 ≤ _), (by decide : 0 + 0 ≤ _)⟩)
                  dsimp only [Pt.U, Pt.locs, Pt.cells, Pt.slots] at X46 l46 y46 z46 st46 hQ46
                  subst l46 y46 z46
                  obtain ⟨rfl, Nq46, e46⟩ := hQ46
                  have N46 := Fr.app N42 Nq46
                  have pre47 := Go.trn pre45 st46
                  have pre48 : Go p e below T46 _ (mkF m 28 #[.val (.ref o0), .val (.int 4)] [(.int 4)]) _ := fun t k => pre47 t (by
                    refine XS.icmpYes X46.here hx rfl (pc0 := 7) (pc' := 27) rfl (hb hby d5_7) rfl (flt h4).2.1 (by decide) (by decide) ?_
                    refine XS.iloadN X46.here hx rfl (hb hby d5_27) rfl ?_
                    exact k)
                  obtain ⟨fs, hr, hrun, hended, hW, hsame⟩ := X46.leave (v := some (.int 4)) (fun h => by rw [Bd.returns] at h; cases h)
                  refine ⟨_, _, ?_, hrun, hended, _, _, rfl, ?_, ⟨_, rfl⟩, hW, hsame.mono (by decide) (by decide)⟩
                  · exact pre48 _ (retI X46 hx Bd.returns (hb hby d5_28) hr)
                  · exact ⟨by simp only [f5_L, if_pos hc7_1, if_neg hc18_2, if_pos hc7_3, if_neg hc18_4, if_pos hc7_5, if_neg hc18_6, if_pos hc7_7, if_neg hc18_8], N46, e46⟩
              · have pre49 : Go p e below T37 _ (mkF m 28 #[.val (.ref o0), .val (.int 3)] [(.int 3)]) _ := fun t k => pre38 t (by
                  refine XS.icmpYes X37.here hx rfl (pc0 := 7) (pc' := 27) rfl (hb hby d5_7) rfl (flt hc7_7).2.1 (by decide) (by decide) ?_
                  refine XS.iloadN X37.here hx rfl (hb hby d5_27) rfl ?_
                  exact k)
                obtain ⟨fs, hr, hrun, hended, hW, hsame⟩ := X37.leave (v := some (.int 3)) (fun h => by rw [Bd.returns] at h; cases h)
                refine ⟨_, _, ?_, hrun, hended, _, _, rfl, ?_, ⟨_, rfl⟩, hW, hsame.mono (by decide) (by decide)⟩
                · exact pre49 _ (retI X37 hx Bd.returns (hb hby d5_28) hr)
                · exact ⟨by simp only [f5_L, if_pos hc7_1, if_neg hc18_2, if_pos hc7_3, if_neg hc18_4, if_pos hc7_5, if_neg hc18_6, if_neg hc7_7], N37, e37⟩
          · have pre50 : Go p e below T28 _ (mkF m 28 #[.val (.ref o0), .val (.int 2)] [(.int 2)]) _ := fun t k => pre29 t (by
              refine XS.icmpYes X28.here hx rfl (pc0 := 7) (pc' := 27) rfl (hb hby d5_7) rfl (flt hc7_5).2.1 (by decide) (by decide) ?_
              refine XS.iloadN X28.here hx rfl (hb hby d5_27) rfl ?_
              exact k)
            obtain ⟨fs, hr, hrun, hended, hW, hsame⟩ := X28.leave (v := some (.int 2)) (fun h => by rw [Bd.returns] at h; cases h)
            refine ⟨_, _, ?_, hrun, hended, _, _, rfl, ?_, ⟨_, rfl⟩, hW, hsame.mono (by decide) (by decide)⟩
            · exact pre50 _ (retI X28 hx Bd.returns (hb hby d5_28) hr)
            · exact ⟨by simp only [f5_L, if_pos hc7_1, if_neg hc18_2, if_pos hc7_3, if_neg hc18_4, if_neg hc7_5], N28, e28⟩
      · have pre51 : Go p e below T19 _ (mkF m 28 #[.val (.ref o0), .val (.int 1)] [(.int 1)]) _ := fun t k => pre20 t (by
          refine XS.icmpYes X19.here hx rfl (pc0 := 7) (pc' := 27) rfl (hb hby d5_7) rfl (flt hc7_3).2.1 (by decide) (by decide) ?_
          refine XS.iloadN X19.here hx rfl (hb hby d5_27) rfl ?_
          exact k)
        obtain ⟨fs, hr, hrun, hended, hW, hsame⟩ := X19.leave (v := some (.int 1)) (fun h => by rw [Bd.returns] at h; cases h)
        refine ⟨_, _, ?_, hrun, hended, _, _, rfl, ?_, ⟨_, rfl⟩, hW, hsame.mono (by decide) (by decide)⟩
        · exact pre51 _ (retI X19 hx Bd.returns (hb hby d5_28) hr)
        · exact ⟨by simp only [f5_L, if_pos hc7_1, if_neg hc18_2, if_neg hc7_3], N19, e19⟩
  · have pre52 : Go p e below T10 _ (mkF m 28 #[.val (.ref o0), .val (.int 0)] [(.int 0)]) _ := fun t k => pre11 t (by
      refine XS.icmpYes X10.here hx rfl (pc0 := 7) (pc' := 27) rfl (hb hby d5_7) rfl (flt hc7_1).2.1 (by decide) (by decide) ?_
      refine XS.iloadN X10.here hx rfl (hb hby d5_27) rfl ?_
      exact k)
    obtain ⟨fs, hr, hrun, hended, hW, hsame⟩ := X10.leave (v := some (.int 0)) (fun h => by rw [Bd.returns] at h; cases h)
    refine ⟨_, _, ?_, hrun, hended, _, _, rfl, ?_, ⟨_, rfl⟩, hW, hsame.mono (by decide) (by decide)⟩
    · exact pre52 _ (retI X10 hx Bd.returns (hb hby d5_28) hr)
    · exact ⟨by simp only [f5_L, if_neg hc7_1], N10, e10⟩
def f5_U (n : Int32) (Ls : List Int32) : Int32 := (if (0 : Int32) < (f6_U n) then (if (f17 (f12_U (0 : Int32) Ls)) = (0 : Int32) then (0 : Int32) else (if (1 : Int32) < (f6_U n) then (if (f17 (f12_U (1 : Int32) Ls)) = (0 : Int32) then (1 : Int32) else (if (2 : Int32) < (f6_U n) then (if (f17 (f12_U (2 : Int32) Ls)) = (0 : Int32) then (2 : Int32) else (if (3 : Int32) < (f6_U n) then (if (f17 (f12_U (3 : Int32) Ls)) = (0 : Int32) then (3 : Int32) else (4 : Int32)) else (3 : Int32))) else (2 : Int32))) else (1 : Int32))) else (0 : Int32))
set_option maxRecDepth 65536 in
set_option maxHeartbeats 40000000 in
theorem rm5_U (l : Launch) (Z : State) (a0 : Array Value) (hw : ∀ d ∈ tables_1, d.before a0 Z = true) (ws : List Jvm.Cond) (o0 : Addr) (wcs : Int32) (wsf : Value) (oa : Addr) (ka : ClassId) (n : Int32) (Ls : List Int32) (h0 : Heap) (n0 : Nat) (Z0 : n0 ≤ h0.size) (I0 : Sta Z h0 "java/lang/String" "COMPACT_STRINGS" "Z" (.int wcs)) (I1 : Sta Z h0 "jdk/internal/util/Preconditions" "SIOOBE_FORMATTER" "Ljava/util/function/BiFunction;" wsf) (I2 : Exa Z h0 o0 "java/lang/String") (I3 : Sta Z h0 "java/lang/StringUTF16" "$assertionsDisabled" "Z" (.int 1)) (I4 : Sta Z h0 "java/lang/StringUTF16" "HI_BYTE_SHIFT" "I" (.int 0)) (I5 : Sta Z h0 "java/lang/StringUTF16" "LO_BYTE_SHIFT" "I" (.int 8)) (I6 : Fld Z h0 o0 "java/lang/String" "value" "[B" (.ref oa)) (I7 : Fld Z h0 o0 "java/lang/String" "coder" "B" (.int 1)) (I8 : Arv Z h0 oa ka .byte n (Ls.map Value.int) (.int 0)) (hcs : ¬ (wcs = (0 : Int32))) (hsf : wsf.isRef = true) (hn : own_szU n) (h4 : ¬ ((4 : Int32) < (f6_U n))) :
    Met1 l Nm_14 (Jvm.Cond.code Nm_14 prog_8_method_3_code 2 (some .int)) ws (rom 5 0 0 66) #[(.ref o0)] Z h0 (QP (some (.int (f5_U n Ls))) h0 n0) := by
  refine MetFree.of_bodySF (plainFor_of_name pn_5) hisR ?_
  intro p e s m args below meth c s₁ Bd hml0 hP hK
  obtain ⟨rfl, hZ, hh⟩ := hP
  have hx := Bd.exec
  have hby := Bd.bytes
  have hml : c.maxLocals = 2 := hml0
  have hown : s.vm.findClass "com/example/stint/stint/WholeNumber" = some m.cls := findClass_of_methodNamed Bd.named
  have X0 : Stand p l e (rom 5 0 0 66) s m _ _ _ _ _ [] 0 0 := Stand.of_body Bd
  have e0 : s₁.heap = h0 := by rw [← hh, Bd.state]; rfl
  have N0 := Fr.nil n0
  have K0 : Keep h0 h0 [] := Keep.refl _ _
  have pre0 : Go p e below s₁ _ (mkF m 0 #[.val (.ref o0), .unset] []) _ := fun t k => castTop (ef_5_L m o0) k
  have pre9 : Go p e below s₁ _ (mkF m 4 #[.val (.ref o0), .val (.int 0)] [(.ref o0), (.int 0)]) _ := fun t k => pre0 t (by
    refine XS.iconst X0.here hx rfl (hb hby d5_0) ?_
    refine XS.istoreN X0.here hx rfl (hb hby d5_1) rfl (l' := #[.val (.ref o0), .val (.int 0)]) rfl ?_
    refine XS.iloadN X0.here hx rfl (hb hby d5_2) rfl ?_
    refine XS.aloadN X0.here hx rfl (hb hby d5_3) rfl rfl ?_
    exact k)
  obtain ⟨cq10, kq10, q10a, q10b, q10c⟩ := isOf hZ e0 I2
  obtain ⟨_, _, ⟨T10, L10, k10, n10⟩, -, X10, ⟨Lc10, hQ10, l10, y10, z10⟩, st10⟩ := X0.virtualBack hx (y := Nm_4) (z := Nm_4) hown (mvT hZ (wq hw 32 rfl)) (mvT hZ (wq hw 33 rfl)) (notFace_of_selects (args := #[]) (mvT hZ (wq hw 35 rfl))) (mvT hZ (wq hw 35 rfl)) (mvT hZ (wq hw 34 rfl)) (by decide) (backOf (W := 1) (rm6_U l Z a0 hw [] o0 wcs oa _ n Ls h0 n0 Z0 I0 I2 I6 I7 I8 hcs) hZ (wq hw 36 rfl) (wq hw 8 rfl) (by decide) (by decide)) q10a q10c (g := (mkF m 4 #[.val (.ref o0), .val (.int 0)] [(.ref o0), (.int 0)])) rfl (by rw [hml]; rfl) (Steps.refl _) (argsL := []) (rest := [(.int 0)]) (lenOf pd___I rfl) rfl (w00 rfl) (hb hby d5_4) (fun _ _ => ⟨rfl, e0, (by decide : 0 + 0 ≤ _), (by decide : 0 + 0 ≤ _)⟩)
  dsimp only [Pt.U, Pt.locs, Pt.cells, Pt.slots] at X10 l10 y10 z10 st10 hQ10
  subst l10 y10 z10
  obtain ⟨rfl, Nq10, e10⟩ := hQ10
  have N10 := Fr.app N0 Nq10
  have pre11 := Go.trn pre9 st10
  by_cases hc7_1 : (0 : Int32) < (f6_U n)
  · have pre12 : Go p e below T10 _ (mkF m 12 #[.val (.ref o0), .val (.int 0)] [(.int 0), (.ref o0)]) _ := fun t k => pre11 t (by
      refine XS.icmpNo X10.here hx rfl (hb hby d5_7) rfl (tlt hc7_1).2.1 ?_
      refine XS.aloadN X10.here hx rfl (hb hby d5_10) rfl rfl ?_
      refine XS.iloadN X10.here hx rfl (hb hby d5_11) rfl ?_
      exact k)
    obtain ⟨cq13, kq13, q13a, q13b, q13c⟩ := isOf hZ e10 I2
    obtain ⟨_, _, ⟨T13, L13, k13, n13⟩, -, X13, ⟨Lc13, hQ13, l13, y13, z13⟩, st13⟩ := X10.virtualBack hx (y := Nm_13) (z := Nm_13) hown (mvT hZ (wq hw 56 rfl)) (mvT hZ (wq hw 57 rfl)) (notFace_of_selects (args := #[]) (mvT hZ (wq hw 59 rfl))) (mvT hZ (wq hw 59 rfl)) (mvT hZ (wq hw 58 rfl)) (by decide) (backOf (W := 0) (rm12_U l Z a0 hw [] o0 (0 : Int32) wcs wsf oa _ n Ls h0 n0 Z0 I0 I1 I2 I3 I4 I5 I6 I7 I8 hcs hsf (by decide) (own_iU hn (by assumption)).1 (by decide) (own_iU hn (by assumption)).2.1 (by decide) (own_iU hn (by assumption)).2.2) hZ (wq hw 60 rfl) (wq hw 8 rfl) (by decide) (by decide)) q13a q13c (g := (mkF m 12 #[.val (.ref o0), .val (.int 0)] [(.int 0), (.ref o0)])) rfl (by rw [hml]; rfl) (Steps.refl _) (argsL := [(.int 0)]) (rest := []) (lenOf pd__I_C rfl) rfl (w00 rfl) (hb hby d5_12) (fun _ _ => ⟨rfl, e10, (by decide : 0 + 0 ≤ _), (by decide : 0 + 0 ≤ _)⟩)
    dsimp only [Pt.U, Pt.locs, Pt.cells, Pt.slots] at X13 l13 y13 z13 st13 hQ13
    subst l13 y13 z13
    obtain ⟨rfl, Nq13, e13⟩ := hQ13
    have N13 := Fr.app N10 Nq13
    have pre14 := Go.trn pre12 st13
    obtain ⟨_, _, ⟨T15, L15, k15, n15⟩, -, X15, ⟨Lc15, hQ15, l15, y15, z15⟩, st15⟩ := Jvm.LawKit.callS X13 hx (y := Nm_2) hown (mvT hZ (wq hw 78 rfl)) (mvT hZ (wq hw 79 rfl)) (mvT hZ (wq hw 30 rfl)) (mvT hZ (wq hw 80 rfl)) (by decide) (backOf (W := 0) (rm17 l Z a0 hw [] (f12_U (0 : Int32) Ls) h0 n0 Z0) hZ (wq hw 80 rfl) (wq hw 30 rfl) (by decide) (by decide)) (g := (mkF m 15 #[.val (.ref o0), .val (.int 0)] [(.int (f12_U (0 : Int32) Ls))])) rfl (by rw [hml]; rfl) (argsL := [(.int (f12_U (0 : Int32) Ls))]) (rest := []) (lenOf pd__C_Z rfl) rfl (w00 rfl) (hb hby d5_15) (fun _ _ => ⟨rfl, e13, (by decide : 0 + 0 ≤ _), (by decide : 0 + 0 ≤ _)⟩)
    dsimp only [Pt.U, Pt.locs, Pt.cells, Pt.slots] at X15 l15 y15 z15 st15 hQ15
    subst l15 y15 z15
    obtain ⟨rfl, Nq15, e15⟩ := hQ15
    have N15 := Fr.app N13 Nq15
    have pre16 := Go.thn pre14 st15
    by_cases hc18_2 : (f17 (f12_U (0 : Int32) Ls)) = (0 : Int32)
    · have pre17 : Go p e below T15 _ (mkF m 28 #[.val (.ref o0), .val (.int 0)] [(.int 0)]) _ := fun t k => pre16 t (by
        refine XS.ifYes X15.here hx rfl (pc0 := 18) (pc' := 27) rfl (hb hby d5_18) rfl ((if0 _ _).trans (teq hc18_2).1) (by decide) (by decide) ?_
        refine XS.iloadN X15.here hx rfl (hb hby d5_27) rfl ?_
        exact k)
      obtain ⟨fs, hr, hrun, hended, hW, hsame⟩ := X15.leave (v := some (.int 0)) (fun h => by rw [Bd.returns] at h; cases h)
      refine ⟨_, _, ?_, hrun, hended, _, _, rfl, ?_, ⟨_, rfl⟩, hW, hsame.mono (by decide) (by decide)⟩
      · exact pre17 _ (retI X15 hx Bd.returns (hb hby d5_28) hr)
      · exact ⟨by simp only [f5_U, if_pos hc7_1, if_pos hc18_2], N15, e15⟩
    · have pre18 : Go p e below T15 _ (mkF m 4 #[.val (.ref o0), .val (.int 1)] [(.ref o0), (.int 1)]) _ := fun t k => pre16 t (by
        refine XS.ifNo X15.here hx rfl (hb hby d5_18) rfl ((if0 _ _).trans (feq hc18_2).1) ?_
        refine XS.iinc X15.here hx rfl (hb hby d5_21) rfl (l' := #[.val (.ref o0), .val (.int 1)]) rfl ?_
        refine XS.goto X15.here hx rfl (pc0 := 24) (pc' := 2) rfl (hb hby d5_24) (by decide) (by decide) ?_
        refine XS.iloadN X15.here hx rfl (hb hby d5_2) rfl ?_
        refine XS.aloadN X15.here hx rfl (hb hby d5_3) rfl rfl ?_
        exact k)
      obtain ⟨cq19, kq19, q19a, q19b, q19c⟩ := isOf hZ e15 I2
      obtain ⟨_, _, ⟨T19, L19, k19, n19⟩, -, X19, ⟨Lc19, hQ19, l19, y19, z19⟩, st19⟩ := X15.virtualBack hx (y := Nm_4) (z := Nm_4) hown (mvT hZ (wq hw 32 rfl)) (mvT hZ (wq hw 33 rfl)) (notFace_of_selects (args := #[]) (mvT hZ (wq hw 35 rfl))) (mvT hZ (wq hw 35 rfl)) (mvT hZ (wq hw 34 rfl)) (by decide) (backOf (W := 1) (rm6_U l Z a0 hw [] o0 wcs oa _ n Ls h0 n0 Z0 I0 I2 I6 I7 I8 hcs) hZ (wq hw 36 rfl) (wq hw 8 rfl) (by decide) (by decide)) q19a q19c (g := (mkF m 4 #[.val (.ref o0), .val (.int 1)] [(.ref o0), (.int 1)])) rfl (by rw [hml]; rfl) (Steps.refl _) (argsL := []) (rest := [(.int 1)]) (lenOf pd___I rfl) rfl (w00 rfl) (hb hby d5_4) (fun _ _ => ⟨rfl, e15, (by decide : 0 + 0 ≤ _), (by decide : 0 + 0 ≤ _)⟩)
      dsimp only [Pt.U, Pt.locs, Pt.cells, Pt.slots] at X19 l19 y19 z19 st19 hQ19
      subst l19 y19 z19
      obtain ⟨rfl, Nq19, e19⟩ := hQ19
      have N19 := Fr.app N15 Nq19
      have pre20 := Go.trn pre18 st19
      by_cases hc7_3 : (1 : Int32) < (f6_U n)
      · have pre21 : Go p e below T19 _ (mkF m 12 #[.val (.ref o0), .val (.int 1)] [(.int 1), (.ref o0)]) _ := fun t k => pre20 t (by
          refine XS.icmpNo X19.here hx rfl (hb hby d5_7) rfl (tlt hc7_3).2.1 ?_
          refine XS.aloadN X19.here hx rfl (hb hby d5_10) rfl rfl ?_
          refine XS.iloadN X19.here hx rfl (hb hby d5_11) rfl ?_
          exact k)
        obtain ⟨cq22, kq22, q22a, q22b, q22c⟩ := isOf hZ e19 I2
        obtain ⟨_, _, ⟨T22, L22, k22, n22⟩, -, X22, ⟨Lc22, hQ22, l22, y22, z22⟩, st22⟩ := X19.virtualBack hx (y := Nm_13) (z := Nm_13) hown (mvT hZ (wq hw 56 rfl)) (mvT hZ (wq hw 57 rfl)) (notFace_of_selects (args := #[]) (mvT hZ (wq hw 59 rfl))) (mvT hZ (wq hw 59 rfl)) (mvT hZ (wq hw 58 rfl)) (by decide) (backOf (W := 0) (rm12_U l Z a0 hw [] o0 (1 : Int32) wcs wsf oa _ n Ls h0 n0 Z0 I0 I1 I2 I3 I4 I5 I6 I7 I8 hcs hsf (by decide) (own_iU hn (by assumption)).1 (by decide) (own_iU hn (by assumption)).2.1 (by decide) (own_iU hn (by assumption)).2.2) hZ (wq hw 60 rfl) (wq hw 8 rfl) (by decide) (by decide)) q22a q22c (g := (mkF m 12 #[.val (.ref o0), .val (.int 1)] [(.int 1), (.ref o0)])) rfl (by rw [hml]; rfl) (Steps.refl _) (argsL := [(.int 1)]) (rest := []) (lenOf pd__I_C rfl) rfl (w00 rfl) (hb hby d5_12) (fun _ _ => ⟨rfl, e19, (by decide : 0 + 0 ≤ _), (by decide : 0 + 0 ≤ _)⟩)
        dsimp only [Pt.U, Pt.locs, Pt.cells, Pt.slots] at X22 l22 y22 z22 st22 hQ22
        subst l22 y22 z22
        obtain ⟨rfl, Nq22, e22⟩ := hQ22
        have N22 := Fr.app N19 Nq22
        have pre23 := Go.trn pre21 st22
        obtain ⟨_, _, ⟨T24, L24, k24, n24⟩, -, X24, ⟨Lc24, hQ24, l24, y24, z24⟩, st24⟩ := Jvm.LawKit.callS X22 hx (y := Nm_2) hown (mvT hZ (wq hw 78 rfl)) (mvT hZ (wq hw 79 rfl)) (mvT hZ (wq hw 30 rfl)) (mvT hZ (wq hw 80 rfl)) (by decide) (backOf (W := 0) (rm17 l Z a0 hw [] (f12_U (1 : Int32) Ls) h0 n0 Z0) hZ (wq hw 80 rfl) (wq hw 30 rfl) (by decide) (by decide)) (g := (mkF m 15 #[.val (.ref o0), .val (.int 1)] [(.int (f12_U (1 : Int32) Ls))])) rfl (by rw [hml]; rfl) (argsL := [(.int (f12_U (1 : Int32) Ls))]) (rest := []) (lenOf pd__C_Z rfl) rfl (w00 rfl) (hb hby d5_15) (fun _ _ => ⟨rfl, e22, (by decide : 0 + 0 ≤ _), (by decide : 0 + 0 ≤ _)⟩)
        dsimp only [Pt.U, Pt.locs, Pt.cells, Pt.slots] at X24 l24 y24 z24 st24 hQ24
        subst l24 y24 z24
        obtain ⟨rfl, Nq24, e24⟩ := hQ24
        have N24 := Fr.app N22 Nq24
        have pre25 := Go.thn pre23 st24
        by_cases hc18_4 : (f17 (f12_U (1 : Int32) Ls)) = (0 : Int32)
        · have pre26 : Go p e below T24 _ (mkF m 28 #[.val (.ref o0), .val (.int 1)] [(.int 1)]) _ := fun t k => pre25 t (by
            refine XS.ifYes X24.here hx rfl (pc0 := 18) (pc' := 27) rfl (hb hby d5_18) rfl ((if0 _ _).trans (teq hc18_4).1) (by decide) (by decide) ?_
            refine XS.iloadN X24.here hx rfl (hb hby d5_27) rfl ?_
            exact k)
          obtain ⟨fs, hr, hrun, hended, hW, hsame⟩ := X24.leave (v := some (.int 1)) (fun h => by rw [Bd.returns] at h; cases h)
          refine ⟨_, _, ?_, hrun, hended, _, _, rfl, ?_, ⟨_, rfl⟩, hW, hsame.mono (by decide) (by decide)⟩
          · exact pre26 _ (retI X24 hx Bd.returns (hb hby d5_28) hr)
          · exact ⟨by simp only [f5_U, if_pos hc7_1, if_neg hc18_2, if_pos hc7_3, if_pos hc18_4], N24, e24⟩
        · have pre27 : Go p e below T24 _ (mkF m 4 #[.val (.ref o0), .val (.int 2)] [(.ref o0), (.int 2)]) _ := fun t k => pre25 t (by
            refine XS.ifNo X24.here hx rfl (hb hby d5_18) rfl ((if0 _ _).trans (feq hc18_4).1) ?_
            refine XS.iinc X24.here hx rfl (hb hby d5_21) rfl (l' := #[.val (.ref o0), .val (.int 2)]) rfl ?_
            refine XS.goto X24.here hx rfl (pc0 := 24) (pc' := 2) rfl (hb hby d5_24) (by decide) (by decide) ?_
            refine XS.iloadN X24.here hx rfl (hb hby d5_2) rfl ?_
            refine XS.aloadN X24.here hx rfl (hb hby d5_3) rfl rfl ?_
            exact k)
          obtain ⟨cq28, kq28, q28a, q28b, q28c⟩ := isOf hZ e24 I2
          obtain ⟨_, _, ⟨T28, L28, k28, n28⟩, -, X28, ⟨Lc28, hQ28, l28, y28, z28⟩, st28⟩ := X24.virtualBack hx (y := Nm_4) (z := Nm_4) hown (mvT hZ (wq hw 32 rfl)) (mvT hZ (wq hw 33 rfl)) (notFace_of_selects (args := #[]) (mvT hZ (wq hw 35 rfl))) (mvT hZ (wq hw 35 rfl)) (mvT hZ (wq hw 34 rfl)) (by decide) (backOf (W := 1) (rm6_U l Z a0 hw [] o0 wcs oa _ n Ls h0 n0 Z0 I0 I2 I6 I7 I8 hcs) hZ (wq hw 36 rfl) (wq hw 8 rfl) (by decide) (by decide)) q28a q28c (g := (mkF m 4 #[.val (.ref o0), .val (.int 2)] [(.ref o0), (.int 2)])) rfl (by rw [hml]; rfl) (Steps.refl _) (argsL := []) (rest := [(.int 2)]) (lenOf pd___I rfl) rfl (w00 rfl) (hb hby d5_4) (fun _ _ => ⟨rfl, e24, (by decide : 0 + 0 ≤ _), (by decide : 0 + 0 ≤ _)⟩)
          dsimp only [Pt.U, Pt.locs, Pt.cells, Pt.slots] at X28 l28 y28 z28 st28 hQ28
          subst l28 y28 z28
          obtain ⟨rfl, Nq28, e28⟩ := hQ28
          have N28 := Fr.app N24 Nq28
          have pre29 := Go.trn pre27 st28
          by_cases hc7_5 : (2 : Int32) < (f6_U n)
          · have pre30 : Go p e below T28 _ (mkF m 12 #[.val (.ref o0), .val (.int 2)] [(.int 2), (.ref o0)]) _ := fun t k => pre29 t (by
              refine XS.icmpNo X28.here hx rfl (hb hby d5_7) rfl (tlt hc7_5).2.1 ?_
              refine XS.aloadN X28.here hx rfl (hb hby d5_10) rfl rfl ?_
              refine XS.iloadN X28.here hx rfl (hb hby d5_11) rfl ?_
              exact k)
            obtain ⟨cq31, kq31, q31a, q31b, q31c⟩ := isOf hZ e28 I2
            obtain ⟨_, _, ⟨T31, L31, k31, n31⟩, -, X31, ⟨Lc31, hQ31, l31, y31, z31⟩, st31⟩ := X28.virtualBack hx (y := Nm_13) (z := Nm_13) hown (mvT hZ (wq hw 56 rfl)) (mvT hZ (wq hw 57 rfl)) (notFace_of_selects (args := #[]) (mvT hZ (wq hw 59 rfl))) (mvT hZ (wq hw 59 rfl)) (mvT hZ (wq hw 58 rfl)) (by decide) (backOf (W := 0) (rm12_U l Z a0 hw [] o0 (2 : Int32) wcs wsf oa _ n Ls h0 n0 Z0 I0 I1 I2 I3 I4 I5 I6 I7 I8 hcs hsf (by decide) (own_iU hn (by assumption)).1 (by decide) (own_iU hn (by assumption)).2.1 (by decide) (own_iU hn (by assumption)).2.2) hZ (wq hw 60 rfl) (wq hw 8 rfl) (by decide) (by decide)) q31a q31c (g := (mkF m 12 #[.val (.ref o0), .val (.int 2)] [(.int 2), (.ref o0)])) rfl (by rw [hml]; rfl) (Steps.refl _) (argsL := [(.int 2)]) (rest := []) (lenOf pd__I_C rfl) rfl (w00 rfl) (hb hby d5_12) (fun _ _ => ⟨rfl, e28, (by decide : 0 + 0 ≤ _), (by decide : 0 + 0 ≤ _)⟩)
            dsimp only [Pt.U, Pt.locs, Pt.cells, Pt.slots] at X31 l31 y31 z31 st31 hQ31
            subst l31 y31 z31
            obtain ⟨rfl, Nq31, e31⟩ := hQ31
            have N31 := Fr.app N28 Nq31
            have pre32 := Go.trn pre30 st31
            obtain ⟨_, _, ⟨T33, L33, k33, n33⟩, -, X33, ⟨Lc33, hQ33, l33, y33, z33⟩, st33⟩ := Jvm.LawKit.callS X31 hx (y := Nm_2) hown (mvT hZ (wq hw 78 rfl)) (mvT hZ (wq hw 79 rfl)) (mvT hZ (wq hw 30 rfl)) (mvT hZ (wq hw 80 rfl)) (by decide) (backOf (W := 0) (rm17 l Z a0 hw [] (f12_U (2 : Int32) Ls) h0 n0 Z0) hZ (wq hw 80 rfl) (wq hw 30 rfl) (by decide) (by decide)) (g := (mkF m 15 #[.val (.ref o0), .val (.int 2)] [(.int (f12_U (2 : Int32) Ls))])) rfl (by rw [hml]; rfl) (argsL := [(.int (f12_U (2 : Int32) Ls))]) (rest := []) (lenOf pd__C_Z rfl) rfl (w00 rfl) (hb hby d5_15) (fun _ _ => ⟨rfl, e31, (by decide : 0 + 0 ≤ _), (by decide : 0 + 0 ≤ _)⟩)
            dsimp only [Pt.U, Pt.locs, Pt.cells, Pt.slots] at X33 l33 y33 z33 st33 hQ33
            subst l33 y33 z33
            obtain ⟨rfl, Nq33, e33⟩ := hQ33
            have N33 := Fr.app N31 Nq33
            have pre34 := Go.thn pre32 st33
            by_cases hc18_6 : (f17 (f12_U (2 : Int32) Ls)) = (0 : Int32)
            · have pre35 : Go p e below T33 _ (mkF m 28 #[.val (.ref o0), .val (.int 2)] [(.int 2)]) _ := fun t k => pre34 t (by
                refine XS.ifYes X33.here hx rfl (pc0 := 18) (pc' := 27) rfl (hb hby d5_18) rfl ((if0 _ _).trans (teq hc18_6).1) (by decide) (by decide) ?_
                refine XS.iloadN X33.here hx rfl (hb hby d5_27) rfl ?_
                exact k)
              obtain ⟨fs, hr, hrun, hended, hW, hsame⟩ := X33.leave (v := some (.int 2)) (fun h => by rw [Bd.returns] at h; cases h)
              refine ⟨_, _, ?_, hrun, hended, _, _, rfl, ?_, ⟨_, rfl⟩, hW, hsame.mono (by decide) (by decide)⟩
              · exact pre35 _ (retI X33 hx Bd.returns (hb hby d5_28) hr)
              · exact ⟨by simp only [f5_U, if_pos hc7_1, if_neg hc18_2, if_pos hc7_3, if_neg hc18_4, if_pos hc7_5, if_pos hc18_6], N33, e33⟩
            · have pre36 : Go p e below T33 _ (mkF m 4 #[.val (.ref o0), .val (.int 3)] [(.ref o0), (.int 3)]) _ := fun t k => pre34 t (by
                refine XS.ifNo X33.here hx rfl (hb hby d5_18) rfl ((if0 _ _).trans (feq hc18_6).1) ?_
                refine XS.iinc X33.here hx rfl (hb hby d5_21) rfl (l' := #[.val (.ref o0), .val (.int 3)]) rfl ?_
                refine XS.goto X33.here hx rfl (pc0 := 24) (pc' := 2) rfl (hb hby d5_24) (by decide) (by decide) ?_
                refine XS.iloadN X33.here hx rfl (hb hby d5_2) rfl ?_
                refine XS.aloadN X33.here hx rfl (hb hby d5_3) rfl rfl ?_
                exact k)
              obtain ⟨cq37, kq37, q37a, q37b, q37c⟩ := isOf hZ e33 I2
              obtain ⟨_, _, ⟨T37, L37, k37, n37⟩, -, X37, ⟨Lc37, hQ37, l37, y37, z37⟩, st37⟩ := X33.virtualBack hx (y := Nm_4) (z := Nm_4) hown (mvT hZ (wq hw 32 rfl)) (mvT hZ (wq hw 33 rfl)) (notFace_of_selects (args := #[]) (mvT hZ (wq hw 35 rfl))) (mvT hZ (wq hw 35 rfl)) (mvT hZ (wq hw 34 rfl)) (by decide) (backOf (W := 1) (rm6_U l Z a0 hw [] o0 wcs oa _ n Ls h0 n0 Z0 I0 I2 I6 I7 I8 hcs) hZ (wq hw 36 rfl) (wq hw 8 rfl) (by decide) (by decide)) q37a q37c (g := (mkF m 4 #[.val (.ref o0), .val (.int 3)] [(.ref o0), (.int 3)])) rfl (by rw [hml]; rfl) (Steps.refl _) (argsL := []) (rest := [(.int 3)]) (lenOf pd___I rfl) rfl (w00 rfl) (hb hby d5_4) (fun _ _ => ⟨rfl, e33, (by decide : 0 + 0 ≤ _), (by decide : 0 + 0 ≤ _)⟩)
              dsimp only [Pt.U, Pt.locs, Pt.cells, Pt.slots] at X37 l37 y37 z37 st37 hQ37
              subst l37 y37 z37
              obtain ⟨rfl, Nq37, e37⟩ := hQ37
              have N37 := Fr.app N33 Nq37
              have pre38 := Go.trn pre36 st37
              by_cases hc7_7 : (3 : Int32) < (f6_U n)
              · have pre39 : Go p e below T37 _ (mkF m 12 #[.val (.ref o0), .val (.int 3)] [(.int 3), (.ref o0)]) _ := fun t k => pre38 t (by
                  refine XS.icmpNo X37.here hx rfl (hb hby d5_7) rfl (tlt hc7_7).2.1 ?_
                  refine XS.aloadN X37.here hx rfl (hb hby d5_10) rfl rfl ?_
                  refine XS.iloadN X37.here hx rfl (hb hby d5_11) rfl ?_
                  exact k)
                obtain ⟨cq40, kq40, q40a, q40b, q40c⟩ := isOf hZ e37 I2
                obtain ⟨_, _, ⟨T40, L40, k40, n40⟩, -, X40, ⟨Lc40, hQ40, l40, y40, z40⟩, st40⟩ := X37.virtualBack hx (y := Nm_13) (z := Nm_13) hown (mvT hZ (wq hw 56 rfl)) (mvT hZ (wq hw 57 rfl)) (notFace_of_selects (args := #[]) (mvT hZ (wq hw 59 rfl))) (mvT hZ (wq hw 59 rfl)) (mvT hZ (wq hw 58 rfl)) (by decide) (backOf (W := 0) (rm12_U l Z a0 hw [] o0 (3 : Int32) wcs wsf oa _ n Ls h0 n0 Z0 I0 I1 I2 I3 I4 I5 I6 I7 I8 hcs hsf (by decide) (own_iU hn (by assumption)).1 (by decide) (own_iU hn (by assumption)).2.1 (by decide) (own_iU hn (by assumption)).2.2) hZ (wq hw 60 rfl) (wq hw 8 rfl) (by decide) (by decide)) q40a q40c (g := (mkF m 12 #[.val (.ref o0), .val (.int 3)] [(.int 3), (.ref o0)])) rfl (by rw [hml]; rfl) (Steps.refl _) (argsL := [(.int 3)]) (rest := []) (lenOf pd__I_C rfl) rfl (w00 rfl) (hb hby d5_12) (fun _ _ => ⟨rfl, e37, (by decide : 0 + 0 ≤ _), (by decide : 0 + 0 ≤ _)⟩)
                dsimp only [Pt.U, Pt.locs, Pt.cells, Pt.slots] at X40 l40 y40 z40 st40 hQ40
                subst l40 y40 z40
                obtain ⟨rfl, Nq40, e40⟩ := hQ40
                have N40 := Fr.app N37 Nq40
                have pre41 := Go.trn pre39 st40
                obtain ⟨_, _, ⟨T42, L42, k42, n42⟩, -, X42, ⟨Lc42, hQ42, l42, y42, z42⟩, st42⟩ := Jvm.LawKit.callS X40 hx (y := Nm_2) hown (mvT hZ (wq hw 78 rfl)) (mvT hZ (wq hw 79 rfl)) (mvT hZ (wq hw 30 rfl)) (mvT hZ (wq hw 80 rfl)) (by decide) (backOf (W := 0) (rm17 l Z a0 hw [] (f12_U (3 : Int32) Ls) h0 n0 Z0) hZ (wq hw 80 rfl) (wq hw 30 rfl) (by decide) (by decide)) (g := (mkF m 15 #[.val (.ref o0), .val (.int 3)] [(.int (f12_U (3 : Int32) Ls))])) rfl (by rw [hml]; rfl) (argsL := [(.int (f12_U (3 : Int32) Ls))]) (rest := []) (lenOf pd__C_Z rfl) rfl (w00 rfl) (hb hby d5_15) (fun _ _ => ⟨rfl, e40, (by decide : 0 + 0 ≤ _), (by decide : 0 + 0 ≤ _)⟩)
                dsimp only [Pt.U, Pt.locs, Pt.cells, Pt.slots] at X42 l42 y42 z42 st42 hQ42
                subst l42 y42 z42
                obtain ⟨rfl, Nq42, e42⟩ := hQ42
                have N42 := Fr.app N40 Nq42
                have pre43 := Go.thn pre41 st42
                by_cases hc18_8 : (f17 (f12_U (3 : Int32) Ls)) = (0 : Int32)
                · have pre44 : Go p e below T42 _ (mkF m 28 #[.val (.ref o0), .val (.int 3)] [(.int 3)]) _ := fun t k => pre43 t (by
                    refine XS.ifYes X42.here hx rfl (pc0 := 18) (pc' := 27) rfl (hb hby d5_18) rfl ((if0 _ _).trans (teq hc18_8).1) (by decide) (by decide) ?_
                    refine XS.iloadN X42.here hx rfl (hb hby d5_27) rfl ?_
                    exact k)
                  obtain ⟨fs, hr, hrun, hended, hW, hsame⟩ := X42.leave (v := some (.int 3)) (fun h => by rw [Bd.returns] at h; cases h)
                  refine ⟨_, _, ?_, hrun, hended, _, _, rfl, ?_, ⟨_, rfl⟩, hW, hsame.mono (by decide) (by decide)⟩
                  · exact pre44 _ (retI X42 hx Bd.returns (hb hby d5_28) hr)
                  · exact ⟨by simp only [f5_U, if_pos hc7_1, if_neg hc18_2, if_pos hc7_3, if_neg hc18_4, if_pos hc7_5, if_neg hc18_6, if_pos hc7_7, if_pos hc18_8], N42, e42⟩
                · have pre45 : Go p e below T42 _ (mkF m 4 #[.val (.ref o0), .val (.int 4)] [(.ref o0), (.int 4)]) _ := fun t k => pre43 t (by
                    refine XS.ifNo X42.here hx rfl (hb hby d5_18) rfl ((if0 _ _).trans (feq hc18_8).1) ?_
                    refine XS.iinc X42.here hx rfl (hb hby d5_21) rfl (l' := #[.val (.ref o0), .val (.int 4)]) rfl ?_
                    refine XS.goto X42.here hx rfl (pc0 := 24) (pc' := 2) rfl (hb hby d5_24) (by decide) (by decide) ?_
                    refine XS.iloadN X42.here hx rfl (hb hby d5_2) rfl ?_
                    refine XS.aloadN X42.here hx rfl (hb hby d5_3) rfl rfl ?_
                    exact k)
                  obtain ⟨cq46, kq46, q46a, q46b, q46c⟩ := isOf hZ e42 I2
                  obtain ⟨_, _, ⟨T46, L46, k46, n46⟩, -, X46, ⟨Lc46, hQ46, l46, y46, z46⟩, st46⟩ := X42.virtualBack hx (y := Nm_4) (z := Nm_4) hown (mvT hZ (wq hw 32 rfl)) (mvT hZ (wq hw 33 rfl)) (notFace_of_selects (args := #[]) (mvT hZ (wq hw 35 rfl))) (mvT hZ (wq hw 35 rfl)) (mvT hZ (wq hw 34 rfl)) (by decide) (backOf (W := 1) (rm6_U l Z a0 hw [] o0 wcs oa _ n Ls h0 n0 Z0 I0 I2 I6 I7 I8 hcs) hZ (wq hw 36 rfl) (wq hw 8 rfl) (by decide) (by decide)) q46a q46c (g := (mkF m 4 #[.val (.ref o0), .val (.int 4)] [(.ref o0), (.int 4)])) rfl (by rw [hml]; rfl) (Steps.refl _) (argsL := []) (rest := [(.int 4)]) (lenOf pd___I rfl) rfl (w00 rfl) (hb hby d5_4) (fun _ _ => ⟨rfl, e42, (by decide : 0 + 0 ≤ _), (by decide : 0 + 0 ≤ _)⟩)
                  dsimp only [Pt.U, Pt.locs, Pt.cells, Pt.slots] at X46 l46 y46 z46 st46 hQ46
                  subst l46 y46 z46
                  obtain ⟨rfl, Nq46, e46⟩ := hQ46
                  have N46 := Fr.app N42 Nq46
                  have pre47 := Go.trn pre45 st46
                  have pre48 : Go p e below T46 _ (mkF m 28 #[.val (.ref o0), .val (.int 4)] [(.int 4)]) _ := fun t k => pre47 t (by
                    refine XS.icmpYes X46.here hx rfl (pc0 := 7) (pc' := 27) rfl (hb hby d5_7) rfl (flt h4).2.1 (by decide) (by decide) ?_
                    refine XS.iloadN X46.here hx rfl (hb hby d5_27) rfl ?_
                    exact k)
                  obtain ⟨fs, hr, hrun, hended, hW, hsame⟩ := X46.leave (v := some (.int 4)) (fun h => by rw [Bd.returns] at h; cases h)
                  refine ⟨_, _, ?_, hrun, hended, _, _, rfl, ?_, ⟨_, rfl⟩, hW, hsame.mono (by decide) (by decide)⟩
                  · exact pre48 _ (retI X46 hx Bd.returns (hb hby d5_28) hr)
                  · exact ⟨by simp only [f5_U, if_pos hc7_1, if_neg hc18_2, if_pos hc7_3, if_neg hc18_4, if_pos hc7_5, if_neg hc18_6, if_pos hc7_7, if_neg hc18_8], N46, e46⟩
              · have pre49 : Go p e below T37 _ (mkF m 28 #[.val (.ref o0), .val (.int 3)] [(.int 3)]) _ := fun t k => pre38 t (by
                  refine XS.icmpYes X37.here hx rfl (pc0 := 7) (pc' := 27) rfl (hb hby d5_7) rfl (flt hc7_7).2.1 (by decide) (by decide) ?_
                  refine XS.iloadN X37.here hx rfl (hb hby d5_27) rfl ?_
                  exact k)
                obtain ⟨fs, hr, hrun, hended, hW, hsame⟩ := X37.leave (v := some (.int 3)) (fun h => by rw [Bd.returns] at h; cases h)
                refine ⟨_, _, ?_, hrun, hended, _, _, rfl, ?_, ⟨_, rfl⟩, hW, hsame.mono (by decide) (by decide)⟩
                · exact pre49 _ (retI X37 hx Bd.returns (hb hby d5_28) hr)
                · exact ⟨by simp only [f5_U, if_pos hc7_1, if_neg hc18_2, if_pos hc7_3, if_neg hc18_4, if_pos hc7_5, if_neg hc18_6, if_neg hc7_7], N37, e37⟩
          · have pre50 : Go p e below T28 _ (mkF m 28 #[.val (.ref o0), .val (.int 2)] [(.int 2)]) _ := fun t k => pre29 t (by
              refine XS.icmpYes X28.here hx rfl (pc0 := 7) (pc' := 27) rfl (hb hby d5_7) rfl (flt hc7_5).2.1 (by decide) (by decide) ?_
              refine XS.iloadN X28.here hx rfl (hb hby d5_27) rfl ?_
              exact k)
            obtain ⟨fs, hr, hrun, hended, hW, hsame⟩ := X28.leave (v := some (.int 2)) (fun h => by rw [Bd.returns] at h; cases h)
            refine ⟨_, _, ?_, hrun, hended, _, _, rfl, ?_, ⟨_, rfl⟩, hW, hsame.mono (by decide) (by decide)⟩
            · exact pre50 _ (retI X28 hx Bd.returns (hb hby d5_28) hr)
            · exact ⟨by simp only [f5_U, if_pos hc7_1, if_neg hc18_2, if_pos hc7_3, if_neg hc18_4, if_neg hc7_5], N28, e28⟩
      · have pre51 : Go p e below T19 _ (mkF m 28 #[.val (.ref o0), .val (.int 1)] [(.int 1)]) _ := fun t k => pre20 t (by
          refine XS.icmpYes X19.here hx rfl (pc0 := 7) (pc' := 27) rfl (hb hby d5_7) rfl (flt hc7_3).2.1 (by decide) (by decide) ?_
          refine XS.iloadN X19.here hx rfl (hb hby d5_27) rfl ?_
          exact k)
        obtain ⟨fs, hr, hrun, hended, hW, hsame⟩ := X19.leave (v := some (.int 1)) (fun h => by rw [Bd.returns] at h; cases h)
        refine ⟨_, _, ?_, hrun, hended, _, _, rfl, ?_, ⟨_, rfl⟩, hW, hsame.mono (by decide) (by decide)⟩
        · exact pre51 _ (retI X19 hx Bd.returns (hb hby d5_28) hr)
        · exact ⟨by simp only [f5_U, if_pos hc7_1, if_neg hc18_2, if_neg hc7_3], N19, e19⟩
  · have pre52 : Go p e below T10 _ (mkF m 28 #[.val (.ref o0), .val (.int 0)] [(.int 0)]) _ := fun t k => pre11 t (by
      refine XS.icmpYes X10.here hx rfl (pc0 := 7) (pc' := 27) rfl (hb hby d5_7) rfl (flt hc7_1).2.1 (by decide) (by decide) ?_
      refine XS.iloadN X10.here hx rfl (hb hby d5_27) rfl ?_
      exact k)
    obtain ⟨fs, hr, hrun, hended, hW, hsame⟩ := X10.leave (v := some (.int 0)) (fun h => by rw [Bd.returns] at h; cases h)
    refine ⟨_, _, ?_, hrun, hended, _, _, rfl, ?_, ⟨_, rfl⟩, hW, hsame.mono (by decide) (by decide)⟩
    · exact pre52 _ (retI X10 hx Bd.returns (hb hby d5_28) hr)
    · exact ⟨by simp only [f5_U, if_neg hc7_1], N10, e10⟩
theorem d10_0 : decode jdk_52_method_15_code 0 = .ok (.iload_n 1, 1) := by decide +kernel
theorem d10_1 : decode jdk_52_method_15_code 1 = .ok (.aload_n 0, 1) := by decide +kernel
theorem d10_2 : decode jdk_52_method_15_code 2 = .ok (.arraylength, 1) := by decide +kernel
theorem d10_3 : decode jdk_52_method_15_code 3 = .ok (.isub, 1) := by decide +kernel
theorem d10_4 : decode jdk_52_method_15_code 4 = .ok (.bipush 31, 2) := by decide +kernel
theorem d10_6 : decode jdk_52_method_15_code 6 = .ok (.iushr, 1) := by decide +kernel
theorem d10_7 : decode jdk_52_method_15_code 7 = .ok (.i2b, 1) := by decide +kernel
theorem d10_8 : decode jdk_52_method_15_code 8 = .ok (.ireturn, 1) := by decide +kernel
theorem pn_10 : plainName "java/lang/StringUTF16" = true := by first | (simp [plainName, overriddenIn]; done) | decide +kernel
theorem ef_10 (m : MethodId) (x0 : Addr) (x1 : Int32) : entryFrame m #[(.ref x0), (.int x1)] 2 = mkF m 0 #[.val (.ref x0), .val (.int x1)] [] := by first | (simp [entryFrame, mkF, argsToLocals, Value.category]; done) | rfl
def f10 (p1 : Int32) (n : Int32) : Int32 := (nar .byte ((((p1 - n).toUInt32 >>> ((31 : Int32) &&& 31).toUInt32).toInt32).toInt8.toInt32))
set_option maxRecDepth 65536 in
set_option maxHeartbeats 40000000 in
theorem rm10 (l : Launch) (Z : State) (a0 : Array Value) (hw : ∀ d ∈ tables_1, d.before a0 Z = true) (ws : List Jvm.Cond) (o0 : Addr) (p1 : Int32) (ka : ClassId) (n : Int32) (Ls : List Int32) (h0 : Heap) (n0 : Nat) (Z0 : n0 ≤ h0.size) (I0 : Arv Z h0 o0 ka .byte n (Ls.map Value.int) (.int 0)) :
    Met1 l Nm_15 (Jvm.Cond.code Nm_15 jdk_52_method_15_code 2 (some .byte)) ws (rom 0 0 0 0) #[(.ref o0), (.int p1)] Z h0 (QP (some (.int (f10 p1 n))) h0 n0) := by
  refine MetFree.of_bodySF (plainFor_of_name pn_10) hisR ?_
  intro p e s m args below meth c s₁ Bd hml0 hP hK
  obtain ⟨rfl, hZ, hh⟩ := hP
  have hx := Bd.exec
  have hby := Bd.bytes
  have hml : c.maxLocals = 2 := hml0
  have hown : s.vm.findClass "java/lang/StringUTF16" = some m.cls := findClass_of_methodNamed Bd.named
  have X0 : Stand p l e (rom 0 0 0 0) s m _ _ _ _ _ [] 0 0 := Stand.of_body Bd
  have e0 : s₁.heap = h0 := by rw [← hh, Bd.state]; rfl
  have N0 := Fr.nil n0
  have K0 : Keep h0 h0 [] := Keep.refl _ _
  have pre0 : Go p e below s₁ _ (mkF m 0 #[.val (.ref o0), .val (.int p1)] []) _ := fun t k => castTop (ef_10 m o0 p1) k
  have pre1 : Go p e below s₁ _ (mkF m 2 #[.val (.ref o0), .val (.int p1)] [(.ref o0), (.int p1)]) _ := fun t k => pre0 t (by
    refine XS.iloadN X0.here hx rfl (hb hby d10_0) rfl ?_
    refine XS.aloadN X0.here hx rfl (hb hby d10_1) rfl rfl ?_
    exact k)
  obtain ⟨cl2, Ar2, -, Sz2, Mn2, Hs2, -⟩ := id I0
  have pre3 : Go p e below s₁ _ (mkF m 3 #[.val (.ref o0), .val (.int p1)] [(.int n), (.int p1)]) _ := fun t k => pre1 t (by
    show Steps p.tables e below (s₁.setTop (mkF m 2 #[.val (.ref o0), .val (.int p1)] [(.ref o0), (.int p1)])) _
    refine X0.arraylength hx (by rw [e0]; exact Ar2.1) (State.isArrayOf_alike hZ.alike Ar2.2.1) (g := (mkF m 2 #[.val (.ref o0), .val (.int p1)] [(.ref o0), (.int p1)])) rfl rfl (hb hby d10_2) _ ?_
    rw [len_of Sz2 Mn2]
    exact k)
  have pre4 : Go p e below s₁ _ (mkF m 8 #[.val (.ref o0), .val (.int p1)] [(.int ((((p1 - n).toUInt32 >>> ((31 : Int32) &&& 31).toUInt32).toInt32).toInt8.toInt32))]) _ := fun t k => pre3 t (by
    refine XS.isub X0.here hx rfl (hb hby d10_3) rfl ?_
    refine XS.bipush X0.here hx rfl (hb hby d10_4) ?_
    refine XS.iushr X0.here hx rfl (hb hby d10_6) rfl ?_
    refine XS.i2b X0.here hx rfl (hb hby d10_7) rfl ?_
    exact k)
  obtain ⟨fs, hr, hrun, hended, hW, hsame⟩ := X0.leave (v := some (.int (nar .byte ((((p1 - n).toUInt32 >>> ((31 : Int32) &&& 31).toUInt32).toInt32).toInt8.toInt32)))) (fun h => by rw [Bd.returns] at h; cases h)
  refine ⟨_, _, ?_, hrun, hended, _, _, rfl, ?_, ⟨_, rfl⟩, hW, hsame.mono (by decide) (by decide)⟩
  · exact pre4 _ (retN X0 hx (t := .byte) Bd.returns (by simp) (hb hby d10_8) hr)
  · exact ⟨by simp only [f10], N0, e0⟩
theorem d20_0 : decode jdk_52_method_3_code 0 = .ok (.iload_n 0, 1) := by decide +kernel
theorem d20_1 : decode jdk_52_method_3_code 1 = .ok (.ifCond .ge 11, 3) := by decide +kernel
theorem d20_12 : decode jdk_52_method_3_code 12 = .ok (.iload_n 0, 1) := by decide +kernel
theorem d20_13 : decode jdk_52_method_3_code 13 = .ok (.ldc 20, 2) := by decide +kernel
theorem d20_15 : decode jdk_52_method_3_code 15 = .ok (.if_icmp .lt 40, 3) := by decide +kernel
theorem d20_55 : decode jdk_52_method_3_code 55 = .ok (.iload_n 0, 1) := by decide +kernel
theorem d20_56 : decode jdk_52_method_3_code 56 = .ok (.iconst 1, 1) := by decide +kernel
theorem d20_57 : decode jdk_52_method_3_code 57 = .ok (.ishl, 1) := by decide +kernel
theorem d20_58 : decode jdk_52_method_3_code 58 = .ok (.ireturn, 1) := by decide +kernel
theorem pn_20 : plainName "java/lang/StringUTF16" = true := by first | (simp [plainName, overriddenIn]; done) | decide +kernel
theorem ef_20_1 (m : MethodId)  : entryFrame m #[(.int 1)] 1 = mkF m 0 #[.val (.int 1)] [] := by first | (simp [entryFrame, mkF, argsToLocals, Value.category]; done) | rfl
def f20_1 : Int32 := (2 : Int32)
set_option maxRecDepth 65536 in
set_option maxHeartbeats 40000000 in
theorem rm20_1 (l : Launch) (Z : State) (a0 : Array Value) (hw : ∀ d ∈ tables_1, d.before a0 Z = true) (ws : List Jvm.Cond)  (h0 : Heap) (n0 : Nat) (Z0 : n0 ≤ h0.size) :
    Met1 l Nm_16 (Jvm.Cond.code Nm_16 jdk_52_method_3_code 1 (some .int)) ws (rom 0 0 0 0) #[(.int 1)] Z h0 (QP (some (.int (f20_1))) h0 n0) := by
  refine MetFree.of_bodySF (plainFor_of_name pn_20) hisR ?_
  intro p e s m args below meth c s₁ Bd hml0 hP hK
  obtain ⟨rfl, hZ, hh⟩ := hP
  have hx := Bd.exec
  have hby := Bd.bytes
  have hml : c.maxLocals = 1 := hml0
  have hown : s.vm.findClass "java/lang/StringUTF16" = some m.cls := findClass_of_methodNamed Bd.named
  have X0 : Stand p l e (rom 0 0 0 0) s m _ _ _ _ _ [] 0 0 := Stand.of_body Bd
  have e0 : s₁.heap = h0 := by rw [← hh, Bd.state]; rfl
  have N0 := Fr.nil n0
  have K0 : Keep h0 h0 [] := Keep.refl _ _
  have pre0 : Go p e below s₁ _ (mkF m 0 #[.val (.int 1)] []) _ := fun t k => castTop (ef_20_1 m ) k
  have pre1 : Go p e below s₁ _ (mkF m 58 #[.val (.int 1)] [(.int 2)]) _ := fun t k => pre0 t (by
    refine XS.iloadN X0.here hx rfl (hb hby d20_0) rfl ?_
    refine XS.ifYes X0.here hx rfl (pc0 := 1) (pc' := 12) rfl (hb hby d20_1) rfl (by decide) (by decide) (by decide) ?_
    refine XS.iloadN X0.here hx rfl (hb hby d20_12) rfl ?_
    refine X0.ldcInt hx hown (mvT hZ (wq hw 90 rfl)) (g := (mkF m 13 #[.val (.int 1)] [(.int 1)])) rfl (hb hby d20_13) _ ?_
    refine XS.icmpYes X0.here hx rfl (pc0 := 15) (pc' := 55) rfl (hb hby d20_15) rfl (by decide) (by decide) (by decide) ?_
    refine XS.iloadN X0.here hx rfl (hb hby d20_55) rfl ?_
    refine XS.iconst X0.here hx rfl (hb hby d20_56) ?_
    refine XS.ishl X0.here hx rfl (hb hby d20_57) rfl ?_
    exact k)
  obtain ⟨fs, hr, hrun, hended, hW, hsame⟩ := X0.leave (v := some (.int 2)) (fun h => by rw [Bd.returns] at h; cases h)
  refine ⟨_, _, ?_, hrun, hended, _, _, rfl, ?_, ⟨_, rfl⟩, hW, hsame.mono (by decide) (by decide)⟩
  · exact pre1 _ (retI X0 hx Bd.returns (hb hby d20_58) hr)
  · exact ⟨by simp only [f20_1], N0, e0⟩
theorem d19_0 : decode jdk_52_method_2_code 0 = .ok (.iload_n 0, 1) := by decide +kernel
theorem d19_1 : decode jdk_52_method_2_code 1 = .ok (.invokestatic 11, 3) := by decide +kernel
theorem d19_4 : decode jdk_52_method_2_code 4 = .ok (.newarray .byte, 2) := by decide +kernel
theorem d19_6 : decode jdk_52_method_2_code 6 = .ok (.areturn, 1) := by decide +kernel
theorem pn_19 : plainName "java/lang/StringUTF16" = true := by first | (simp [plainName, overriddenIn]; done) | decide +kernel
theorem pd__I_I : parseMethodDescriptor "(I)I" = some ⟨[.int], some .int⟩ := by decide +kernel
theorem ef_19_1 (m : MethodId)  : entryFrame m #[(.int 1)] 1 = mkF m 0 #[.val (.int 1)] [] := by first | (simp [entryFrame, mkF, argsToLocals, Value.category]; done) | rfl
def Q19_1 (Z : State)  (h0 : Heap) (n0 : Nat) (v : Option Value) (h : Heap) (L : List Loc) : Prop := ∃ (b4 : Addr) (k_b4 : ClassId), v = (some (.ref b4)) ∧ Fr n0 L ∧ Keep h0 h [] ∧ h0.size ≤ b4 ∧ Arv Z h b4 k_b4 .byte (2 : Int32) [(.int 0), (.int 0)] (.int 0)
set_option maxRecDepth 65536 in
set_option maxHeartbeats 40000000 in
theorem rm19_1 (l : Launch) (Z : State) (a0 : Array Value) (hw : ∀ d ∈ tables_1, d.before a0 Z = true) (ws : List Jvm.Cond)  (h0 : Heap) (n0 : Nat) (Z0 : n0 ≤ h0.size) :
    Met1 l Nm_17 (Jvm.Cond.code Nm_17 jdk_52_method_2_code 1 (some (.array .byte))) ws (rom 1 1 2 12) #[(.int 1)] Z h0 (Q19_1 Z  h0 n0) := by
  refine MetFree.of_bodySF (plainFor_of_name pn_19) hisR ?_
  intro p e s m args below meth c s₁ Bd hml0 hP hK
  obtain ⟨rfl, hZ, hh⟩ := hP
  have hx := Bd.exec
  have hby := Bd.bytes
  have hml : c.maxLocals = 1 := hml0
  have hown : s.vm.findClass "java/lang/StringUTF16" = some m.cls := findClass_of_methodNamed Bd.named
  have X0 : Stand p l e (rom 1 1 2 12) s m _ _ _ _ _ [] 0 0 := Stand.of_body Bd
  have e0 : s₁.heap = h0 := by rw [← hh, Bd.state]; rfl
  have N0 := Fr.nil n0
  have K0 : Keep h0 h0 [] := Keep.refl _ _
  have pre0 : Go p e below s₁ _ (mkF m 0 #[.val (.int 1)] []) _ := fun t k => castTop (ef_19_1 m ) k
  have pre1 : Go p e below s₁ _ (mkF m 1 #[.val (.int 1)] [(.int 1)]) _ := fun t k => pre0 t (by
    refine XS.iloadN X0.here hx rfl (hb hby d19_0) rfl ?_
    exact k)
  obtain ⟨_, _, ⟨T2, L2, k2, n2⟩, -, X2, ⟨Lc2, hQ2, l2, y2, z2⟩, st2⟩ := Jvm.LawKit.callS X0 hx (y := Nm_16) hown (mvT hZ (wq hw 87 rfl)) (mvT hZ (wq hw 88 rfl)) (mvT hZ (wq hw 45 rfl)) (mvT hZ (wq hw 89 rfl)) (by decide) (backOf (W := 0) (rm20_1 l Z a0 hw []  h0 n0 Z0) hZ (wq hw 89 rfl) (wq hw 45 rfl) (by decide) (by decide)) (g := (mkF m 1 #[.val (.int 1)] [(.int 1)])) rfl (by rw [hml]; rfl) (argsL := [(.int 1)]) (rest := []) (lenOf pd__I_I rfl) rfl (w00 rfl) (hb hby d19_1) (fun _ _ => ⟨rfl, e0, (by decide : 0 + 0 ≤ _), (by decide : 0 + 0 ≤ _)⟩)
  dsimp only [Pt.U, Pt.locs, Pt.cells, Pt.slots] at X2 l2 y2 z2 st2 hQ2
  subst l2 y2 z2
  obtain ⟨rfl, Nq2, e2⟩ := hQ2
  have N2 := Fr.app N0 Nq2
  have pre3 := Go.thn pre1 st2
  have pre4 : Go p e below T2 _ (mkF m 4 #[.val (.int 1)] [(.int 2)]) _ := fun t k => pre3 t (by
    show Steps p.tables e below (T2.setTop (mkF m 4 #[.val (.int 1)] [(.int (f20_1))])) _
    rw [show f20_1 = (2 : Int32) from rfl]
    exact k)
  obtain ⟨T5, h5, k5, X5, e5, E5, A5, st5⟩ := newP X2 hx hZ (wq hw 21 rfl) e2 (g := (mkF m 4 #[.val (.int 1)] [(.int 2)])) rfl (hb hby d19_4) rfl (by decide) (cap := 2) (by decide) (by decide) (by decide) (by decide)
  obtain ⟨b4, g5⟩ : ∃ z, z = h0.size := ⟨_, rfl⟩
  rw [← g5] at A5 st5
  have gg5 : n0 ≤ b4 := Nat.le_trans Z0 (Nat.le_of_eq g5.symm)
  have sz5 : h0.size ≤ b4 := Nat.le_trans K0.1 (Nat.le_of_eq g5.symm)
  have K5 : Keep h0 h5 [] := K0.ext E5
  have Z5 : n0 ≤ h5.size := Nat.le_trans Z0 E5.1
  have V5 : Arv Z h5 b4 k5 .byte (2 : Int32) [(.int 0), (.int 0)] (.int 0) := (Arv.new A5 (by decide)).pad (pad_rep [] (.int 0) 2)
  have pre6 := Go.thn pre4 st5
  obtain ⟨fs, hr, hrun, hended, hW, hsame⟩ := X5.leave (v := some (.ref b4)) (fun h => by rw [Bd.returns] at h; cases h)
  refine ⟨_, _, ?_, hrun, hended, _, _, rfl, ?_, ⟨_, rfl⟩, hW, hsame.mono (by decide) (by decide)⟩
  · refine pre6 _ ?_
    jvm_step X5.here [X5.here.top, hx, (hb hby d19_6), X5.method', Bd.returns, Value.isRef, FieldType.isReference]
    first | (intro acts; rw [hr _ acts rfl rfl rfl]) | rw [hr _ _ rfl rfl rfl]
    exact Steps.refl _
  · show Q19_1 Z  h0 n0 _ T5.heap _
    rw [e5]
    exact ⟨b4, _, rfl, N2, K5, sz5, V5⟩
theorem ef_20_2 (m : MethodId)  : entryFrame m #[(.int 2)] 1 = mkF m 0 #[.val (.int 2)] [] := by first | (simp [entryFrame, mkF, argsToLocals, Value.category]; done) | rfl
def f20_2 : Int32 := (4 : Int32)
set_option maxRecDepth 65536 in
set_option maxHeartbeats 40000000 in
theorem rm20_2 (l : Launch) (Z : State) (a0 : Array Value) (hw : ∀ d ∈ tables_1, d.before a0 Z = true) (ws : List Jvm.Cond)  (h0 : Heap) (n0 : Nat) (Z0 : n0 ≤ h0.size) :
    Met1 l Nm_16 (Jvm.Cond.code Nm_16 jdk_52_method_3_code 1 (some .int)) ws (rom 0 0 0 0) #[(.int 2)] Z h0 (QP (some (.int (f20_2))) h0 n0) := by
  refine MetFree.of_bodySF (plainFor_of_name pn_20) hisR ?_
  intro p e s m args below meth c s₁ Bd hml0 hP hK
  obtain ⟨rfl, hZ, hh⟩ := hP
  have hx := Bd.exec
  have hby := Bd.bytes
  have hml : c.maxLocals = 1 := hml0
  have hown : s.vm.findClass "java/lang/StringUTF16" = some m.cls := findClass_of_methodNamed Bd.named
  have X0 : Stand p l e (rom 0 0 0 0) s m _ _ _ _ _ [] 0 0 := Stand.of_body Bd
  have e0 : s₁.heap = h0 := by rw [← hh, Bd.state]; rfl
  have N0 := Fr.nil n0
  have K0 : Keep h0 h0 [] := Keep.refl _ _
  have pre0 : Go p e below s₁ _ (mkF m 0 #[.val (.int 2)] []) _ := fun t k => castTop (ef_20_2 m ) k
  have pre1 : Go p e below s₁ _ (mkF m 58 #[.val (.int 2)] [(.int 4)]) _ := fun t k => pre0 t (by
    refine XS.iloadN X0.here hx rfl (hb hby d20_0) rfl ?_
    refine XS.ifYes X0.here hx rfl (pc0 := 1) (pc' := 12) rfl (hb hby d20_1) rfl (by decide) (by decide) (by decide) ?_
    refine XS.iloadN X0.here hx rfl (hb hby d20_12) rfl ?_
    refine X0.ldcInt hx hown (mvT hZ (wq hw 90 rfl)) (g := (mkF m 13 #[.val (.int 2)] [(.int 2)])) rfl (hb hby d20_13) _ ?_
    refine XS.icmpYes X0.here hx rfl (pc0 := 15) (pc' := 55) rfl (hb hby d20_15) rfl (by decide) (by decide) (by decide) ?_
    refine XS.iloadN X0.here hx rfl (hb hby d20_55) rfl ?_
    refine XS.iconst X0.here hx rfl (hb hby d20_56) ?_
    refine XS.ishl X0.here hx rfl (hb hby d20_57) rfl ?_
    exact k)
  obtain ⟨fs, hr, hrun, hended, hW, hsame⟩ := X0.leave (v := some (.int 4)) (fun h => by rw [Bd.returns] at h; cases h)
  refine ⟨_, _, ?_, hrun, hended, _, _, rfl, ?_, ⟨_, rfl⟩, hW, hsame.mono (by decide) (by decide)⟩
  · exact pre1 _ (retI X0 hx Bd.returns (hb hby d20_58) hr)
  · exact ⟨by simp only [f20_2], N0, e0⟩
theorem ef_19_2 (m : MethodId)  : entryFrame m #[(.int 2)] 1 = mkF m 0 #[.val (.int 2)] [] := by first | (simp [entryFrame, mkF, argsToLocals, Value.category]; done) | rfl
def Q19_2 (Z : State)  (h0 : Heap) (n0 : Nat) (v : Option Value) (h : Heap) (L : List Loc) : Prop := ∃ (b4 : Addr) (k_b4 : ClassId), v = (some (.ref b4)) ∧ Fr n0 L ∧ Keep h0 h [] ∧ h0.size ≤ b4 ∧ Arv Z h b4 k_b4 .byte (4 : Int32) [(.int 0), (.int 0), (.int 0), (.int 0)] (.int 0)
set_option maxRecDepth 65536 in
set_option maxHeartbeats 40000000 in
theorem rm19_2 (l : Launch) (Z : State) (a0 : Array Value) (hw : ∀ d ∈ tables_1, d.before a0 Z = true) (ws : List Jvm.Cond)  (h0 : Heap) (n0 : Nat) (Z0 : n0 ≤ h0.size) :
    Met1 l Nm_17 (Jvm.Cond.code Nm_17 jdk_52_method_2_code 1 (some (.array .byte))) ws (rom 1 1 4 12) #[(.int 2)] Z h0 (Q19_2 Z  h0 n0) := by
  refine MetFree.of_bodySF (plainFor_of_name pn_19) hisR ?_
  intro p e s m args below meth c s₁ Bd hml0 hP hK
  obtain ⟨rfl, hZ, hh⟩ := hP
  have hx := Bd.exec
  have hby := Bd.bytes
  have hml : c.maxLocals = 1 := hml0
  have hown : s.vm.findClass "java/lang/StringUTF16" = some m.cls := findClass_of_methodNamed Bd.named
  have X0 : Stand p l e (rom 1 1 4 12) s m _ _ _ _ _ [] 0 0 := Stand.of_body Bd
  have e0 : s₁.heap = h0 := by rw [← hh, Bd.state]; rfl
  have N0 := Fr.nil n0
  have K0 : Keep h0 h0 [] := Keep.refl _ _
  have pre0 : Go p e below s₁ _ (mkF m 0 #[.val (.int 2)] []) _ := fun t k => castTop (ef_19_2 m ) k
  have pre1 : Go p e below s₁ _ (mkF m 1 #[.val (.int 2)] [(.int 2)]) _ := fun t k => pre0 t (by
    refine XS.iloadN X0.here hx rfl (hb hby d19_0) rfl ?_
    exact k)
  obtain ⟨_, _, ⟨T2, L2, k2, n2⟩, -, X2, ⟨Lc2, hQ2, l2, y2, z2⟩, st2⟩ := Jvm.LawKit.callS X0 hx (y := Nm_16) hown (mvT hZ (wq hw 87 rfl)) (mvT hZ (wq hw 88 rfl)) (mvT hZ (wq hw 45 rfl)) (mvT hZ (wq hw 89 rfl)) (by decide) (backOf (W := 0) (rm20_2 l Z a0 hw []  h0 n0 Z0) hZ (wq hw 89 rfl) (wq hw 45 rfl) (by decide) (by decide)) (g := (mkF m 1 #[.val (.int 2)] [(.int 2)])) rfl (by rw [hml]; rfl) (argsL := [(.int 2)]) (rest := []) (lenOf pd__I_I rfl) rfl (w00 rfl) (hb hby d19_1) (fun _ _ => ⟨rfl, e0, (by decide : 0 + 0 ≤ _), (by decide : 0 + 0 ≤ _)⟩)
  dsimp only [Pt.U, Pt.locs, Pt.cells, Pt.slots] at X2 l2 y2 z2 st2 hQ2
  subst l2 y2 z2
  obtain ⟨rfl, Nq2, e2⟩ := hQ2
  have N2 := Fr.app N0 Nq2
  have pre3 := Go.thn pre1 st2
  have pre4 : Go p e below T2 _ (mkF m 4 #[.val (.int 2)] [(.int 4)]) _ := fun t k => pre3 t (by
    show Steps p.tables e below (T2.setTop (mkF m 4 #[.val (.int 2)] [(.int (f20_2))])) _
    rw [show f20_2 = (4 : Int32) from rfl]
    exact k)
  obtain ⟨T5, h5, k5, X5, e5, E5, A5, st5⟩ := newP X2 hx hZ (wq hw 21 rfl) e2 (g := (mkF m 4 #[.val (.int 2)] [(.int 4)])) rfl (hb hby d19_4) rfl (by decide) (cap := 4) (by decide) (by decide) (by decide) (by decide)
  obtain ⟨b4, g5⟩ : ∃ z, z = h0.size := ⟨_, rfl⟩
  rw [← g5] at A5 st5
  have gg5 : n0 ≤ b4 := Nat.le_trans Z0 (Nat.le_of_eq g5.symm)
  have sz5 : h0.size ≤ b4 := Nat.le_trans K0.1 (Nat.le_of_eq g5.symm)
  have K5 : Keep h0 h5 [] := K0.ext E5
  have Z5 : n0 ≤ h5.size := Nat.le_trans Z0 E5.1
  have V5 : Arv Z h5 b4 k5 .byte (4 : Int32) [(.int 0), (.int 0), (.int 0), (.int 0)] (.int 0) := (Arv.new A5 (by decide)).pad (pad_rep [] (.int 0) 4)
  have pre6 := Go.thn pre4 st5
  obtain ⟨fs, hr, hrun, hended, hW, hsame⟩ := X5.leave (v := some (.ref b4)) (fun h => by rw [Bd.returns] at h; cases h)
  refine ⟨_, _, ?_, hrun, hended, _, _, rfl, ?_, ⟨_, rfl⟩, hW, hsame.mono (by decide) (by decide)⟩
  · refine pre6 _ ?_
    jvm_step X5.here [X5.here.top, hx, (hb hby d19_6), X5.method', Bd.returns, Value.isRef, FieldType.isReference]
    first | (intro acts; rw [hr _ acts rfl rfl rfl]) | rw [hr _ _ rfl rfl rfl]
    exact Steps.refl _
  · show Q19_2 Z  h0 n0 _ T5.heap _
    rw [e5]
    exact ⟨b4, _, rfl, N2, K5, sz5, V5⟩
theorem ef_20_3 (m : MethodId)  : entryFrame m #[(.int 3)] 1 = mkF m 0 #[.val (.int 3)] [] := by first | (simp [entryFrame, mkF, argsToLocals, Value.category]; done) | rfl
def f20_3 : Int32 := (6 : Int32)
set_option maxRecDepth 65536 in
set_option maxHeartbeats 40000000 in
theorem rm20_3 (l : Launch) (Z : State) (a0 : Array Value) (hw : ∀ d ∈ tables_1, d.before a0 Z = true) (ws : List Jvm.Cond)  (h0 : Heap) (n0 : Nat) (Z0 : n0 ≤ h0.size) :
    Met1 l Nm_16 (Jvm.Cond.code Nm_16 jdk_52_method_3_code 1 (some .int)) ws (rom 0 0 0 0) #[(.int 3)] Z h0 (QP (some (.int (f20_3))) h0 n0) := by
  refine MetFree.of_bodySF (plainFor_of_name pn_20) hisR ?_
  intro p e s m args below meth c s₁ Bd hml0 hP hK
  obtain ⟨rfl, hZ, hh⟩ := hP
  have hx := Bd.exec
  have hby := Bd.bytes
  have hml : c.maxLocals = 1 := hml0
  have hown : s.vm.findClass "java/lang/StringUTF16" = some m.cls := findClass_of_methodNamed Bd.named
  have X0 : Stand p l e (rom 0 0 0 0) s m _ _ _ _ _ [] 0 0 := Stand.of_body Bd
  have e0 : s₁.heap = h0 := by rw [← hh, Bd.state]; rfl
  have N0 := Fr.nil n0
  have K0 : Keep h0 h0 [] := Keep.refl _ _
  have pre0 : Go p e below s₁ _ (mkF m 0 #[.val (.int 3)] []) _ := fun t k => castTop (ef_20_3 m ) k
  have pre1 : Go p e below s₁ _ (mkF m 58 #[.val (.int 3)] [(.int 6)]) _ := fun t k => pre0 t (by
    refine XS.iloadN X0.here hx rfl (hb hby d20_0) rfl ?_
    refine XS.ifYes X0.here hx rfl (pc0 := 1) (pc' := 12) rfl (hb hby d20_1) rfl (by decide) (by decide) (by decide) ?_
    refine XS.iloadN X0.here hx rfl (hb hby d20_12) rfl ?_
    refine X0.ldcInt hx hown (mvT hZ (wq hw 90 rfl)) (g := (mkF m 13 #[.val (.int 3)] [(.int 3)])) rfl (hb hby d20_13) _ ?_
    refine XS.icmpYes X0.here hx rfl (pc0 := 15) (pc' := 55) rfl (hb hby d20_15) rfl (by decide) (by decide) (by decide) ?_
    refine XS.iloadN X0.here hx rfl (hb hby d20_55) rfl ?_
    refine XS.iconst X0.here hx rfl (hb hby d20_56) ?_
    refine XS.ishl X0.here hx rfl (hb hby d20_57) rfl ?_
    exact k)
  obtain ⟨fs, hr, hrun, hended, hW, hsame⟩ := X0.leave (v := some (.int 6)) (fun h => by rw [Bd.returns] at h; cases h)
  refine ⟨_, _, ?_, hrun, hended, _, _, rfl, ?_, ⟨_, rfl⟩, hW, hsame.mono (by decide) (by decide)⟩
  · exact pre1 _ (retI X0 hx Bd.returns (hb hby d20_58) hr)
  · exact ⟨by simp only [f20_3], N0, e0⟩
theorem ef_19_3 (m : MethodId)  : entryFrame m #[(.int 3)] 1 = mkF m 0 #[.val (.int 3)] [] := by first | (simp [entryFrame, mkF, argsToLocals, Value.category]; done) | rfl
def Q19_3 (Z : State)  (h0 : Heap) (n0 : Nat) (v : Option Value) (h : Heap) (L : List Loc) : Prop := ∃ (b4 : Addr) (k_b4 : ClassId), v = (some (.ref b4)) ∧ Fr n0 L ∧ Keep h0 h [] ∧ h0.size ≤ b4 ∧ Arv Z h b4 k_b4 .byte (6 : Int32) [(.int 0), (.int 0), (.int 0), (.int 0), (.int 0), (.int 0)] (.int 0)
set_option maxRecDepth 65536 in
set_option maxHeartbeats 40000000 in
theorem rm19_3 (l : Launch) (Z : State) (a0 : Array Value) (hw : ∀ d ∈ tables_1, d.before a0 Z = true) (ws : List Jvm.Cond)  (h0 : Heap) (n0 : Nat) (Z0 : n0 ≤ h0.size) :
    Met1 l Nm_17 (Jvm.Cond.code Nm_17 jdk_52_method_2_code 1 (some (.array .byte))) ws (rom 1 1 6 12) #[(.int 3)] Z h0 (Q19_3 Z  h0 n0) := by
  refine MetFree.of_bodySF (plainFor_of_name pn_19) hisR ?_
  intro p e s m args below meth c s₁ Bd hml0 hP hK
  obtain ⟨rfl, hZ, hh⟩ := hP
  have hx := Bd.exec
  have hby := Bd.bytes
  have hml : c.maxLocals = 1 := hml0
  have hown : s.vm.findClass "java/lang/StringUTF16" = some m.cls := findClass_of_methodNamed Bd.named
  have X0 : Stand p l e (rom 1 1 6 12) s m _ _ _ _ _ [] 0 0 := Stand.of_body Bd
  have e0 : s₁.heap = h0 := by rw [← hh, Bd.state]; rfl
  have N0 := Fr.nil n0
  have K0 : Keep h0 h0 [] := Keep.refl _ _
  have pre0 : Go p e below s₁ _ (mkF m 0 #[.val (.int 3)] []) _ := fun t k => castTop (ef_19_3 m ) k
  have pre1 : Go p e below s₁ _ (mkF m 1 #[.val (.int 3)] [(.int 3)]) _ := fun t k => pre0 t (by
    refine XS.iloadN X0.here hx rfl (hb hby d19_0) rfl ?_
    exact k)
  obtain ⟨_, _, ⟨T2, L2, k2, n2⟩, -, X2, ⟨Lc2, hQ2, l2, y2, z2⟩, st2⟩ := Jvm.LawKit.callS X0 hx (y := Nm_16) hown (mvT hZ (wq hw 87 rfl)) (mvT hZ (wq hw 88 rfl)) (mvT hZ (wq hw 45 rfl)) (mvT hZ (wq hw 89 rfl)) (by decide) (backOf (W := 0) (rm20_3 l Z a0 hw []  h0 n0 Z0) hZ (wq hw 89 rfl) (wq hw 45 rfl) (by decide) (by decide)) (g := (mkF m 1 #[.val (.int 3)] [(.int 3)])) rfl (by rw [hml]; rfl) (argsL := [(.int 3)]) (rest := []) (lenOf pd__I_I rfl) rfl (w00 rfl) (hb hby d19_1) (fun _ _ => ⟨rfl, e0, (by decide : 0 + 0 ≤ _), (by decide : 0 + 0 ≤ _)⟩)
  dsimp only [Pt.U, Pt.locs, Pt.cells, Pt.slots] at X2 l2 y2 z2 st2 hQ2
  subst l2 y2 z2
  obtain ⟨rfl, Nq2, e2⟩ := hQ2
  have N2 := Fr.app N0 Nq2
  have pre3 := Go.thn pre1 st2
  have pre4 : Go p e below T2 _ (mkF m 4 #[.val (.int 3)] [(.int 6)]) _ := fun t k => pre3 t (by
    show Steps p.tables e below (T2.setTop (mkF m 4 #[.val (.int 3)] [(.int (f20_3))])) _
    rw [show f20_3 = (6 : Int32) from rfl]
    exact k)
  obtain ⟨T5, h5, k5, X5, e5, E5, A5, st5⟩ := newP X2 hx hZ (wq hw 21 rfl) e2 (g := (mkF m 4 #[.val (.int 3)] [(.int 6)])) rfl (hb hby d19_4) rfl (by decide) (cap := 6) (by decide) (by decide) (by decide) (by decide)
  obtain ⟨b4, g5⟩ : ∃ z, z = h0.size := ⟨_, rfl⟩
  rw [← g5] at A5 st5
  have gg5 : n0 ≤ b4 := Nat.le_trans Z0 (Nat.le_of_eq g5.symm)
  have sz5 : h0.size ≤ b4 := Nat.le_trans K0.1 (Nat.le_of_eq g5.symm)
  have K5 : Keep h0 h5 [] := K0.ext E5
  have Z5 : n0 ≤ h5.size := Nat.le_trans Z0 E5.1
  have V5 : Arv Z h5 b4 k5 .byte (6 : Int32) [(.int 0), (.int 0), (.int 0), (.int 0), (.int 0), (.int 0)] (.int 0) := (Arv.new A5 (by decide)).pad (pad_rep [] (.int 0) 6)
  have pre6 := Go.thn pre4 st5
  obtain ⟨fs, hr, hrun, hended, hW, hsame⟩ := X5.leave (v := some (.ref b4)) (fun h => by rw [Bd.returns] at h; cases h)
  refine ⟨_, _, ?_, hrun, hended, _, _, rfl, ?_, ⟨_, rfl⟩, hW, hsame.mono (by decide) (by decide)⟩
  · refine pre6 _ ?_
    jvm_step X5.here [X5.here.top, hx, (hb hby d19_6), X5.method', Bd.returns, Value.isRef, FieldType.isReference]
    first | (intro acts; rw [hr _ acts rfl rfl rfl]) | rw [hr _ _ rfl rfl rfl]
    exact Steps.refl _
  · show Q19_3 Z  h0 n0 _ T5.heap _
    rw [e5]
    exact ⟨b4, _, rfl, N2, K5, sz5, V5⟩
theorem ef_20_4 (m : MethodId)  : entryFrame m #[(.int 4)] 1 = mkF m 0 #[.val (.int 4)] [] := by first | (simp [entryFrame, mkF, argsToLocals, Value.category]; done) | rfl
def f20_4 : Int32 := (8 : Int32)
set_option maxRecDepth 65536 in
set_option maxHeartbeats 40000000 in
theorem rm20_4 (l : Launch) (Z : State) (a0 : Array Value) (hw : ∀ d ∈ tables_1, d.before a0 Z = true) (ws : List Jvm.Cond)  (h0 : Heap) (n0 : Nat) (Z0 : n0 ≤ h0.size) :
    Met1 l Nm_16 (Jvm.Cond.code Nm_16 jdk_52_method_3_code 1 (some .int)) ws (rom 0 0 0 0) #[(.int 4)] Z h0 (QP (some (.int (f20_4))) h0 n0) := by
  refine MetFree.of_bodySF (plainFor_of_name pn_20) hisR ?_
  intro p e s m args below meth c s₁ Bd hml0 hP hK
  obtain ⟨rfl, hZ, hh⟩ := hP
  have hx := Bd.exec
  have hby := Bd.bytes
  have hml : c.maxLocals = 1 := hml0
  have hown : s.vm.findClass "java/lang/StringUTF16" = some m.cls := findClass_of_methodNamed Bd.named
  have X0 : Stand p l e (rom 0 0 0 0) s m _ _ _ _ _ [] 0 0 := Stand.of_body Bd
  have e0 : s₁.heap = h0 := by rw [← hh, Bd.state]; rfl
  have N0 := Fr.nil n0
  have K0 : Keep h0 h0 [] := Keep.refl _ _
  have pre0 : Go p e below s₁ _ (mkF m 0 #[.val (.int 4)] []) _ := fun t k => castTop (ef_20_4 m ) k
  have pre1 : Go p e below s₁ _ (mkF m 58 #[.val (.int 4)] [(.int 8)]) _ := fun t k => pre0 t (by
    refine XS.iloadN X0.here hx rfl (hb hby d20_0) rfl ?_
    refine XS.ifYes X0.here hx rfl (pc0 := 1) (pc' := 12) rfl (hb hby d20_1) rfl (by decide) (by decide) (by decide) ?_
    refine XS.iloadN X0.here hx rfl (hb hby d20_12) rfl ?_
    refine X0.ldcInt hx hown (mvT hZ (wq hw 90 rfl)) (g := (mkF m 13 #[.val (.int 4)] [(.int 4)])) rfl (hb hby d20_13) _ ?_
    refine XS.icmpYes X0.here hx rfl (pc0 := 15) (pc' := 55) rfl (hb hby d20_15) rfl (by decide) (by decide) (by decide) ?_
    refine XS.iloadN X0.here hx rfl (hb hby d20_55) rfl ?_
    refine XS.iconst X0.here hx rfl (hb hby d20_56) ?_
    refine XS.ishl X0.here hx rfl (hb hby d20_57) rfl ?_
    exact k)
  obtain ⟨fs, hr, hrun, hended, hW, hsame⟩ := X0.leave (v := some (.int 8)) (fun h => by rw [Bd.returns] at h; cases h)
  refine ⟨_, _, ?_, hrun, hended, _, _, rfl, ?_, ⟨_, rfl⟩, hW, hsame.mono (by decide) (by decide)⟩
  · exact pre1 _ (retI X0 hx Bd.returns (hb hby d20_58) hr)
  · exact ⟨by simp only [f20_4], N0, e0⟩
theorem ef_19_4 (m : MethodId)  : entryFrame m #[(.int 4)] 1 = mkF m 0 #[.val (.int 4)] [] := by first | (simp [entryFrame, mkF, argsToLocals, Value.category]; done) | rfl
def Q19_4 (Z : State)  (h0 : Heap) (n0 : Nat) (v : Option Value) (h : Heap) (L : List Loc) : Prop := ∃ (b4 : Addr) (k_b4 : ClassId), v = (some (.ref b4)) ∧ Fr n0 L ∧ Keep h0 h [] ∧ h0.size ≤ b4 ∧ Arv Z h b4 k_b4 .byte (8 : Int32) [(.int 0), (.int 0), (.int 0), (.int 0), (.int 0), (.int 0), (.int 0), (.int 0)] (.int 0)
set_option maxRecDepth 65536 in
set_option maxHeartbeats 40000000 in
theorem rm19_4 (l : Launch) (Z : State) (a0 : Array Value) (hw : ∀ d ∈ tables_1, d.before a0 Z = true) (ws : List Jvm.Cond)  (h0 : Heap) (n0 : Nat) (Z0 : n0 ≤ h0.size) :
    Met1 l Nm_17 (Jvm.Cond.code Nm_17 jdk_52_method_2_code 1 (some (.array .byte))) ws (rom 1 1 8 12) #[(.int 4)] Z h0 (Q19_4 Z  h0 n0) := by
  refine MetFree.of_bodySF (plainFor_of_name pn_19) hisR ?_
  intro p e s m args below meth c s₁ Bd hml0 hP hK
  obtain ⟨rfl, hZ, hh⟩ := hP
  have hx := Bd.exec
  have hby := Bd.bytes
  have hml : c.maxLocals = 1 := hml0
  have hown : s.vm.findClass "java/lang/StringUTF16" = some m.cls := findClass_of_methodNamed Bd.named
  have X0 : Stand p l e (rom 1 1 8 12) s m _ _ _ _ _ [] 0 0 := Stand.of_body Bd
  have e0 : s₁.heap = h0 := by rw [← hh, Bd.state]; rfl
  have N0 := Fr.nil n0
  have K0 : Keep h0 h0 [] := Keep.refl _ _
  have pre0 : Go p e below s₁ _ (mkF m 0 #[.val (.int 4)] []) _ := fun t k => castTop (ef_19_4 m ) k
  have pre1 : Go p e below s₁ _ (mkF m 1 #[.val (.int 4)] [(.int 4)]) _ := fun t k => pre0 t (by
    refine XS.iloadN X0.here hx rfl (hb hby d19_0) rfl ?_
    exact k)
  obtain ⟨_, _, ⟨T2, L2, k2, n2⟩, -, X2, ⟨Lc2, hQ2, l2, y2, z2⟩, st2⟩ := Jvm.LawKit.callS X0 hx (y := Nm_16) hown (mvT hZ (wq hw 87 rfl)) (mvT hZ (wq hw 88 rfl)) (mvT hZ (wq hw 45 rfl)) (mvT hZ (wq hw 89 rfl)) (by decide) (backOf (W := 0) (rm20_4 l Z a0 hw []  h0 n0 Z0) hZ (wq hw 89 rfl) (wq hw 45 rfl) (by decide) (by decide)) (g := (mkF m 1 #[.val (.int 4)] [(.int 4)])) rfl (by rw [hml]; rfl) (argsL := [(.int 4)]) (rest := []) (lenOf pd__I_I rfl) rfl (w00 rfl) (hb hby d19_1) (fun _ _ => ⟨rfl, e0, (by decide : 0 + 0 ≤ _), (by decide : 0 + 0 ≤ _)⟩)
  dsimp only [Pt.U, Pt.locs, Pt.cells, Pt.slots] at X2 l2 y2 z2 st2 hQ2
  subst l2 y2 z2
  obtain ⟨rfl, Nq2, e2⟩ := hQ2
  have N2 := Fr.app N0 Nq2
  have pre3 := Go.thn pre1 st2
  have pre4 : Go p e below T2 _ (mkF m 4 #[.val (.int 4)] [(.int 8)]) _ := fun t k => pre3 t (by
    show Steps p.tables e below (T2.setTop (mkF m 4 #[.val (.int 4)] [(.int (f20_4))])) _
    rw [show f20_4 = (8 : Int32) from rfl]
    exact k)
  obtain ⟨T5, h5, k5, X5, e5, E5, A5, st5⟩ := newP X2 hx hZ (wq hw 21 rfl) e2 (g := (mkF m 4 #[.val (.int 4)] [(.int 8)])) rfl (hb hby d19_4) rfl (by decide) (cap := 8) (by decide) (by decide) (by decide) (by decide)
  obtain ⟨b4, g5⟩ : ∃ z, z = h0.size := ⟨_, rfl⟩
  rw [← g5] at A5 st5
  have gg5 : n0 ≤ b4 := Nat.le_trans Z0 (Nat.le_of_eq g5.symm)
  have sz5 : h0.size ≤ b4 := Nat.le_trans K0.1 (Nat.le_of_eq g5.symm)
  have K5 : Keep h0 h5 [] := K0.ext E5
  have Z5 : n0 ≤ h5.size := Nat.le_trans Z0 E5.1
  have V5 : Arv Z h5 b4 k5 .byte (8 : Int32) [(.int 0), (.int 0), (.int 0), (.int 0), (.int 0), (.int 0), (.int 0), (.int 0)] (.int 0) := (Arv.new A5 (by decide)).pad (pad_rep [] (.int 0) 8)
  have pre6 := Go.thn pre4 st5
  obtain ⟨fs, hr, hrun, hended, hW, hsame⟩ := X5.leave (v := some (.ref b4)) (fun h => by rw [Bd.returns] at h; cases h)
  refine ⟨_, _, ?_, hrun, hended, _, _, rfl, ?_, ⟨_, rfl⟩, hW, hsame.mono (by decide) (by decide)⟩
  · refine pre6 _ ?_
    jvm_step X5.here [X5.here.top, hx, (hb hby d19_6), X5.method', Bd.returns, Value.isRef, FieldType.isReference]
    first | (intro acts; rw [hr _ acts rfl rfl rfl]) | rw [hr _ _ rfl rfl rfl]
    exact Steps.refl _
  · show Q19_4 Z  h0 n0 _ T5.heap _
    rw [e5]
    exact ⟨b4, _, rfl, N2, K5, sz5, V5⟩
def own_chr (w : Int32) : Prop := 0 ≤ w.toInt ∧ w.toInt < 65536
theorem own_rt {w : Int32} (h : own_chr w) : (nar .char ((((((own_b0 w)) &&& (255 : Int32)) <<< ((0 : Int32) &&& 31)) ||| ((((own_b8 w)) &&& (255 : Int32)) <<< ((8 : Int32) &&& 31))).toUInt32.toUInt16.toUInt32.toInt32)) = w := by
  have q1 := c_ishr w 0 0 (by decide)
  have q2 := c_ishr w 8 8 (by decide)
  have a1 := c_i2b (w >>> ((0 : Int32) &&& 31))
  have a2 := c_i2b (w >>> ((0 : Int32) &&& 31)).toInt8.toInt32
  have b1 := c_i2b (w >>> ((8 : Int32) &&& 31))
  have b2 := c_i2b (w >>> ((8 : Int32) &&& 31)).toInt8.toInt32
  have m1 := c_mask ((w >>> ((0 : Int32) &&& 31)).toInt8.toInt32).toInt8.toInt32 255 8 (by decide) (by decide)
  have m2 := c_mask ((w >>> ((8 : Int32) &&& 31)).toInt8.toInt32).toInt8.toInt32 255 8 (by decide) (by decide)
  generalize (own_b0 w) &&& (255 : Int32) = lo at *
  generalize (own_b8 w) &&& (255 : Int32) = hi at *
  have s1 := c_ishl lo 0 0 (by decide)
  have s2 := c_ishl hi 8 8 (by decide)
  obtain ⟨h0, h1⟩ := h
  have hl : lo.toInt = w.toInt % 256 := by omega
  have hh : hi.toInt = w.toInt / 256 := by omega
  generalize lo <<< ((0 : Int32) &&& 31) = lo' at *
  generalize hi <<< ((8 : Int32) &&& 31) = hi' at *
  have l1 := lo'.le_toInt; have l2 := lo'.toInt_lt
  have k1 := hi'.le_toInt; have k2 := hi'.toInt_lt
  have el : lo'.toInt = w.toInt % 256 := by omega
  have eh : hi'.toInt = w.toInt / 256 * 256 := by omega
  have o := c_or' lo' hi' 8 (by decide) 256 (by decide) (by omega) (by omega) (by omega)
  generalize lo' ||| hi' = x at *
  have x1 := x.le_toInt; have x2 := x.toInt_lt
  have ex : x.toInt = w.toInt := by omega
  have i1 := c_i2c x
  have i2 := c_i2c x.toUInt32.toUInt16.toUInt32.toInt32
  show x.toUInt32.toUInt16.toUInt32.toInt32.toUInt32.toUInt16.toUInt32.toInt32 = w
  exact Int32.toInt_inj.mp (by omega)
theorem own_nc {w : Int32} (h : own_chr w) : nar .char w = w := by
  have i1 := c_i2c w
  obtain ⟨h0, h1⟩ := h
  show w.toUInt32.toUInt16.toUInt32.toInt32 = w
  exact Int32.toInt_inj.mp (by omega)
theorem own_nr (w : Int32) : own_chr (nar .char w) := ⟨(c_i2c w).2.1, (c_i2c w).2.2⟩
theorem own_rl {w : Int32} (h : own_chr w) (h2 : ¬ (255 : Int32) < w) : (nar .char ((((w.toInt8.toInt32).toInt8.toInt32) &&& (255 : Int32)).toUInt32.toUInt16.toUInt32.toInt32)) = w := by
  have a1 := c_i2b w
  have a2 := c_i2b w.toInt8.toInt32
  have m1 := c_mask (w.toInt8.toInt32).toInt8.toInt32 255 8 (by decide) (by decide)
  generalize (w.toInt8.toInt32).toInt8.toInt32 &&& (255 : Int32) = x at *
  rw [Int32.lt_iff_toInt_lt, show (255 : Int32).toInt = 255 from rfl] at h2
  obtain ⟨h0, h1⟩ := h
  have i1 := c_i2c x
  have i2 := c_i2c x.toUInt32.toUInt16.toUInt32.toInt32
  show x.toUInt32.toUInt16.toUInt32.toInt32.toUInt32.toUInt16.toUInt32.toInt32 = w
  exact Int32.toInt_inj.mp (by omega)
theorem d21_0 : decode jdk_52_method_4_code 0 = .ok (.getstatic 44, 3) := by decide +kernel
theorem d21_3 : decode jdk_52_method_4_code 3 = .ok (.ifCond .ne 25, 3) := by decide +kernel
theorem d21_28 : decode jdk_52_method_4_code 28 = .ok (.iload_n 1, 1) := by decide +kernel
theorem d21_29 : decode jdk_52_method_4_code 29 = .ok (.iconst 1, 1) := by decide +kernel
theorem d21_30 : decode jdk_52_method_4_code 30 = .ok (.ishl, 1) := by decide +kernel
theorem d21_31 : decode jdk_52_method_4_code 31 = .ok (.istore_n 1, 1) := by decide +kernel
theorem d21_32 : decode jdk_52_method_4_code 32 = .ok (.aload_n 0, 1) := by decide +kernel
theorem d21_33 : decode jdk_52_method_4_code 33 = .ok (.iload_n 1, 1) := by decide +kernel
theorem d21_34 : decode jdk_52_method_4_code 34 = .ok (.iinc 1 1, 3) := by decide +kernel
theorem d21_37 : decode jdk_52_method_4_code 37 = .ok (.iload_n 2, 1) := by decide +kernel
theorem d21_38 : decode jdk_52_method_4_code 38 = .ok (.getstatic 59, 3) := by decide +kernel
theorem d21_41 : decode jdk_52_method_4_code 41 = .ok (.ishr, 1) := by decide +kernel
theorem d21_42 : decode jdk_52_method_4_code 42 = .ok (.i2b, 1) := by decide +kernel
theorem d21_43 : decode jdk_52_method_4_code 43 = .ok (.bastore, 1) := by decide +kernel
theorem d21_44 : decode jdk_52_method_4_code 44 = .ok (.aload_n 0, 1) := by decide +kernel
theorem d21_45 : decode jdk_52_method_4_code 45 = .ok (.iload_n 1, 1) := by decide +kernel
theorem d21_46 : decode jdk_52_method_4_code 46 = .ok (.iload_n 2, 1) := by decide +kernel
theorem d21_47 : decode jdk_52_method_4_code 47 = .ok (.getstatic 63, 3) := by decide +kernel
theorem d21_50 : decode jdk_52_method_4_code 50 = .ok (.ishr, 1) := by decide +kernel
theorem d21_51 : decode jdk_52_method_4_code 51 = .ok (.i2b, 1) := by decide +kernel
theorem d21_52 : decode jdk_52_method_4_code 52 = .ok (.bastore, 1) := by decide +kernel
theorem d21_53 : decode jdk_52_method_4_code 53 = .ok (.return_, 1) := by decide +kernel
theorem pn_21 : plainName "java/lang/StringUTF16" = true := by first | (simp [plainName, overriddenIn]; done) | decide +kernel
theorem ef_21_1_0 (m : MethodId) (x0 : Addr) (x2 : Int32) : entryFrame m #[(.ref x0), (.int 0), (.int x2)] 3 = mkF m 0 #[.val (.ref x0), .val (.int 0), .val (.int x2)] [] := by first | (simp [entryFrame, mkF, argsToLocals, Value.category]; done) | rfl
def Q21_1_0 (Z : State) (o0 : Addr) (p2 : Int32) (ka : ClassId) (u0 : Int32) (u1 : Int32) (h0 : Heap) (n0 : Nat) (v : Option Value) (h : Heap) (L : List Loc) : Prop := v = none ∧ Fr n0 L ∧ Keep h0 h [o0] ∧ Arv Z h o0 ka .byte (2 : Int32) [(.int (own_b0 p2)), (.int (own_b8 p2))] (.int 0)
set_option maxRecDepth 65536 in
set_option maxHeartbeats 40000000 in
theorem rm21_1_0 (l : Launch) (Z : State) (a0 : Array Value) (hw : ∀ d ∈ tables_1, d.before a0 Z = true) (ws : List Jvm.Cond) (o0 : Addr) (p2 : Int32) (ka : ClassId) (u0 : Int32) (u1 : Int32) (h0 : Heap) (n0 : Nat) (Z0 : n0 ≤ h0.size) (I0 : Sta Z h0 "java/lang/StringUTF16" "$assertionsDisabled" "Z" (.int 1)) (I1 : Sta Z h0 "java/lang/StringUTF16" "HI_BYTE_SHIFT" "I" (.int 0)) (I2 : Sta Z h0 "java/lang/StringUTF16" "LO_BYTE_SHIFT" "I" (.int 8)) (I3 : Arv Z h0 o0 ka .byte (2 : Int32) [(.int u0), (.int u1)] (.int 0)) (gw_o0 : n0 ≤ o0) :
    Met1 l Nm_18 (Jvm.Cond.code Nm_18 jdk_52_method_4_code 3 none) ws (rom 0 0 0 0) #[(.ref o0), (.int 0), (.int p2)] Z h0 (Q21_1_0 Z o0 p2 ka u0 u1 h0 n0) := by
  refine MetFree.of_bodySF (plainFor_of_name pn_21) hisR ?_
  intro p e s m args below meth c s₁ Bd hml0 hP hK
  obtain ⟨rfl, hZ, hh⟩ := hP
  have hx := Bd.exec
  have hby := Bd.bytes
  have hml : c.maxLocals = 3 := hml0
  have hown : s.vm.findClass "java/lang/StringUTF16" = some m.cls := findClass_of_methodNamed Bd.named
  have X0 : Stand p l e (rom 0 0 0 0) s m _ _ _ _ _ [] 0 0 := Stand.of_body Bd
  have e0 : s₁.heap = h0 := by rw [← hh, Bd.state]; rfl
  have N0 := Fr.nil n0
  have K0 : Keep h0 h0 [o0] := Keep.refl _ _
  have pre0 : Go p e below s₁ _ (mkF m 0 #[.val (.ref o0), .val (.int 0), .val (.int p2)] []) _ := fun t k => castTop (ef_21_1_0 m o0 p2) k
  obtain ⟨T1, X1, e1, st1⟩ := getS2 X0 hx hZ hown (host := "") (Or.inl (wq hw 94 rfl)) Via.refl e0 I0 (g := (mkF m 0 #[.val (.ref o0), .val (.int 0), .val (.int p2)] [])) rfl (hb hby d21_0)
  have pre2 := Go.thn pre0 st1
  have pre3 : Go p e below T1 _ (mkF m 38 #[.val (.ref o0), .val (.int 1), .val (.int p2)] [(.int p2), (.int 0), (.ref o0)]) _ := fun t k => pre2 t (by
    refine XS.ifYes X1.here hx rfl (pc0 := 3) (pc' := 28) rfl (hb hby d21_3) rfl (by decide) (by decide) (by decide) ?_
    refine XS.iloadN X1.here hx rfl (hb hby d21_28) rfl ?_
    refine XS.iconst X1.here hx rfl (hb hby d21_29) ?_
    refine XS.ishl X1.here hx rfl (hb hby d21_30) rfl ?_
    refine XS.istoreN X1.here hx rfl (hb hby d21_31) rfl (l' := #[.val (.ref o0), .val (.int 0), .val (.int p2)]) rfl ?_
    refine XS.aloadN X1.here hx rfl (hb hby d21_32) rfl rfl ?_
    refine XS.iloadN X1.here hx rfl (hb hby d21_33) rfl ?_
    refine XS.iinc X1.here hx rfl (hb hby d21_34) rfl (l' := #[.val (.ref o0), .val (.int 1), .val (.int p2)]) rfl ?_
    refine XS.iloadN X1.here hx rfl (hb hby d21_37) rfl ?_
    exact k)
  obtain ⟨T4, X4, e4, st4⟩ := getS2 X1 hx hZ hown (host := "") (Or.inl (wq hw 95 rfl)) Via.refl e1 I1 (g := (mkF m 38 #[.val (.ref o0), .val (.int 1), .val (.int p2)] [(.int p2), (.int 0), (.ref o0)])) rfl (hb hby d21_38)
  have pre5 := Go.thn pre3 st4
  have pre6 : Go p e below T4 _ (mkF m 43 #[.val (.ref o0), .val (.int 1), .val (.int p2)] [(.int ((p2 >>> ((0 : Int32) &&& 31)).toInt8.toInt32)), (.int 0), (.ref o0)]) _ := fun t k => pre5 t (by
    refine XS.ishr X4.here hx rfl (hb hby d21_41) rfl ?_
    refine XS.i2b X4.here hx rfl (hb hby d21_42) rfl ?_
    exact k)
  obtain ⟨cl7, Ar7, q7, Sz7, Mn7, Hs7, Gs7⟩ := id I3
  have hin7 : ¬ ((0 : Int32) < 0 ∨ cl7.slots.size ≤ ((0 : Int32)).toNatClampNeg) := inb_of Sz7 ⟨by decide, by decide⟩
  obtain ⟨T7, h7, X7, e7, W7, st7⟩ := stB X4 hx hZ e4 Ar7 (j := (0 : Int32)) hin7 (g := (mkF m 43 #[.val (.ref o0), .val (.int 1), .val (.int p2)] [(.int ((p2 >>> ((0 : Int32) &&& 31)).toInt8.toInt32)), (.int 0), (.ref o0)])) rfl rfl (hb hby d21_43)
  have V7 : Arv Z h7 o0 ka .byte (2 : Int32) [(.int (own_b0 p2)), (.int u1)] (.int 0) := Arv.set Ar7 q7 Sz7 Mn7 Hs7 Gs7 (fits_nar_byte _) W7 0 rfl (Nat.le_of_ble_eq_true rfl)
  have N7 := Fr.snoc X7 N0 gw_o0
  have K7 : Keep h0 h7 [o0] := K0.wr W7 (Or.inl (List.mem_of_getElem? (i := 0) rfl))
  have Z7 : n0 ≤ h7.size := Nat.le_trans Z0 (Keep.of_wr W7).1
  have x8 := I0.wr W7
  have x9 := I1.wr W7
  have x10 := I2.wr W7
  have pre11 := Go.thn pre6 st7
  have pre12 : Go p e below T7 _ (mkF m 47 #[.val (.ref o0), .val (.int 1), .val (.int p2)] [(.int p2), (.int 1), (.ref o0)]) _ := fun t k => pre11 t (by
    refine XS.aloadN X7.here hx rfl (hb hby d21_44) rfl rfl ?_
    refine XS.iloadN X7.here hx rfl (hb hby d21_45) rfl ?_
    refine XS.iloadN X7.here hx rfl (hb hby d21_46) rfl ?_
    exact k)
  obtain ⟨T13, X13, e13, st13⟩ := getS2 X7 hx hZ hown (host := "") (Or.inl (wq hw 96 rfl)) Via.refl e7 x10 (g := (mkF m 47 #[.val (.ref o0), .val (.int 1), .val (.int p2)] [(.int p2), (.int 1), (.ref o0)])) rfl (hb hby d21_47)
  have pre14 := Go.thn pre12 st13
  have pre15 : Go p e below T13 _ (mkF m 52 #[.val (.ref o0), .val (.int 1), .val (.int p2)] [(.int ((p2 >>> ((8 : Int32) &&& 31)).toInt8.toInt32)), (.int 1), (.ref o0)]) _ := fun t k => pre14 t (by
    refine XS.ishr X13.here hx rfl (hb hby d21_50) rfl ?_
    refine XS.i2b X13.here hx rfl (hb hby d21_51) rfl ?_
    exact k)
  obtain ⟨cl16, Ar16, q16, Sz16, Mn16, Hs16, Gs16⟩ := id V7
  have hin16 : ¬ ((1 : Int32) < 0 ∨ cl16.slots.size ≤ ((1 : Int32)).toNatClampNeg) := inb_of Sz16 ⟨by decide, by decide⟩
  obtain ⟨T16, h16, X16, e16, W16, st16⟩ := stB X13 hx hZ e13 Ar16 (j := (1 : Int32)) hin16 (g := (mkF m 52 #[.val (.ref o0), .val (.int 1), .val (.int p2)] [(.int ((p2 >>> ((8 : Int32) &&& 31)).toInt8.toInt32)), (.int 1), (.ref o0)])) rfl rfl (hb hby d21_52)
  have V16 : Arv Z h16 o0 ka .byte (2 : Int32) [(.int (own_b0 p2)), (.int (own_b8 p2))] (.int 0) := Arv.set Ar16 q16 Sz16 Mn16 Hs16 Gs16 (fits_nar_byte _) W16 1 rfl (Nat.le_of_ble_eq_true rfl)
  have N16 := Fr.snoc X16 N7 gw_o0
  have K16 : Keep h0 h16 [o0] := K7.wr W16 (Or.inl (List.mem_of_getElem? (i := 0) rfl))
  have Z16 : n0 ≤ h16.size := Nat.le_trans Z7 (Keep.of_wr W16).1
  have x17 := x8.wr W16
  have x18 := x9.wr W16
  have x19 := x10.wr W16
  have pre20 := Go.thn pre15 st16
  obtain ⟨fs, hr, hrun, hended, hW, hsame⟩ := X16.leave (v := none) (fun _ => rfl)
  refine ⟨_, _, ?_, hrun, hended, _, _, rfl, ?_, ⟨_, rfl⟩, hW, hsame.mono (by decide) (by decide)⟩
  · exact pre20 _ (X16.returnOut hx Bd.returns (hb hby d21_53) hr)
  · show Q21_1_0 Z o0 p2 ka u0 u1 h0 n0 _ T16.heap _
    rw [e16]
    exact ⟨rfl, N16, K16, V16⟩
theorem d18_0 : decode jdk_52_method_14_code 0 = .ok (.iload_n 2, 1) := by decide +kernel
theorem d18_1 : decode jdk_52_method_14_code 1 = .ok (.invokestatic 107, 3) := by decide +kernel
theorem d18_4 : decode jdk_52_method_14_code 4 = .ok (.astore_n 3, 1) := by decide +kernel
theorem d18_5 : decode jdk_52_method_14_code 5 = .ok (.iconst 0, 1) := by decide +kernel
theorem d18_6 : decode jdk_52_method_14_code 6 = .ok (.istore 4, 2) := by decide +kernel
theorem d18_8 : decode jdk_52_method_14_code 8 = .ok (.iload 4, 2) := by decide +kernel
theorem d18_10 : decode jdk_52_method_14_code 10 = .ok (.iload_n 2, 1) := by decide +kernel
theorem d18_11 : decode jdk_52_method_14_code 11 = .ok (.if_icmp .ge 21, 3) := by decide +kernel
theorem d18_14 : decode jdk_52_method_14_code 14 = .ok (.aload_n 3, 1) := by decide +kernel
theorem d18_15 : decode jdk_52_method_14_code 15 = .ok (.iload 4, 2) := by decide +kernel
theorem d18_17 : decode jdk_52_method_14_code 17 = .ok (.aload_n 0, 1) := by decide +kernel
theorem d18_18 : decode jdk_52_method_14_code 18 = .ok (.iload_n 1, 1) := by decide +kernel
theorem d18_19 : decode jdk_52_method_14_code 19 = .ok (.caload, 1) := by decide +kernel
theorem d18_20 : decode jdk_52_method_14_code 20 = .ok (.invokestatic 111, 3) := by decide +kernel
theorem d18_23 : decode jdk_52_method_14_code 23 = .ok (.iinc 1 1, 3) := by decide +kernel
theorem d18_26 : decode jdk_52_method_14_code 26 = .ok (.iinc 4 1, 3) := by decide +kernel
theorem d18_29 : decode jdk_52_method_14_code 29 = .ok (.goto (-21), 3) := by decide +kernel
theorem d18_32 : decode jdk_52_method_14_code 32 = .ok (.aload_n 3, 1) := by decide +kernel
theorem d18_33 : decode jdk_52_method_14_code 33 = .ok (.areturn, 1) := by decide +kernel
theorem pn_18 : plainName "java/lang/StringUTF16" = true := by first | (simp [plainName, overriddenIn]; done) | decide +kernel
theorem pd__I__B : parseMethodDescriptor "(I)[B" = some ⟨[.int], some (.array .byte)⟩ := by decide +kernel
theorem pd___BII_V : parseMethodDescriptor "([BII)V" = some ⟨[(.array .byte), .int, .int], none⟩ := by decide +kernel
theorem ef_18_1 (m : MethodId) (x0 : Addr) : entryFrame m #[(.ref x0), (.int 0), (.int 1)] 5 = mkF m 0 #[.val (.ref x0), .val (.int 0), .val (.int 1), .unset, .unset] [] := by first | (simp [entryFrame, mkF, argsToLocals, Value.category]; done) | rfl
def Q18_1 (Z : State) (o0 : Addr) (kc : ClassId) (w0 : Int32) (h0 : Heap) (n0 : Nat) (v : Option Value) (h : Heap) (L : List Loc) : Prop := ∃ (b1_0 : Addr) (k_b1_0 : ClassId), v = (some (.ref b1_0)) ∧ Fr n0 L ∧ Keep h0 h [] ∧ h0.size ≤ b1_0 ∧ Arv Z h b1_0 k_b1_0 .byte (2 : Int32) [(.int (own_b0 w0)), (.int (own_b8 w0))] (.int 0)
set_option maxRecDepth 65536 in
set_option maxHeartbeats 40000000 in
theorem rm18_1 (l : Launch) (Z : State) (a0 : Array Value) (hw : ∀ d ∈ tables_1, d.before a0 Z = true) (ws : List Jvm.Cond) (o0 : Addr) (kc : ClassId) (w0 : Int32) (h0 : Heap) (n0 : Nat) (Z0 : n0 ≤ h0.size) (I0 : Sta Z h0 "java/lang/StringUTF16" "$assertionsDisabled" "Z" (.int 1)) (I1 : Sta Z h0 "java/lang/StringUTF16" "HI_BYTE_SHIFT" "I" (.int 0)) (I2 : Sta Z h0 "java/lang/StringUTF16" "LO_BYTE_SHIFT" "I" (.int 8)) (I3 : Arv Z h0 o0 kc .char (1 : Int32) [(.int w0)] (.int 0)) :
    Met1 l Nm_19 (Jvm.Cond.code Nm_19 jdk_52_method_14_code 5 (some (.array .byte))) ws (rom 2 1 2 24) #[(.ref o0), (.int 0), (.int 1)] Z h0 (Q18_1 Z o0 kc w0 h0 n0) := by
  refine MetFree.of_bodySF (plainFor_of_name pn_18) hisR ?_
  intro p e s m args below meth c s₁ Bd hml0 hP hK
  obtain ⟨rfl, hZ, hh⟩ := hP
  have hx := Bd.exec
  have hby := Bd.bytes
  have hml : c.maxLocals = 5 := hml0
  have hown : s.vm.findClass "java/lang/StringUTF16" = some m.cls := findClass_of_methodNamed Bd.named
  have X0 : Stand p l e (rom 2 1 2 24) s m _ _ _ _ _ [] 0 0 := Stand.of_body Bd
  have e0 : s₁.heap = h0 := by rw [← hh, Bd.state]; rfl
  have N0 := Fr.nil n0
  have K0 : Keep h0 h0 [] := Keep.refl _ _
  have pre0 : Go p e below s₁ _ (mkF m 0 #[.val (.ref o0), .val (.int 0), .val (.int 1), .unset, .unset] []) _ := fun t k => castTop (ef_18_1 m o0) k
  have pre1 : Go p e below s₁ _ (mkF m 1 #[.val (.ref o0), .val (.int 0), .val (.int 1), .unset, .unset] [(.int 1)]) _ := fun t k => pre0 t (by
    refine XS.iloadN X0.here hx rfl (hb hby d18_0) rfl ?_
    exact k)
  obtain ⟨_, _, ⟨T2, L2, k2, n2⟩, -, X2, ⟨Lc2, hQ2, l2, y2, z2⟩, st2⟩ := Jvm.LawKit.callS X0 hx (y := Nm_17) hown (mvT hZ (wq hw 84 rfl)) (mvT hZ (wq hw 85 rfl)) (mvT hZ (wq hw 45 rfl)) (mvT hZ (wq hw 86 rfl)) (by decide) (backOf (W := 0) (rm19_1 l Z a0 hw []  h0 n0 Z0) hZ (wq hw 86 rfl) (wq hw 45 rfl) (by decide) (by decide)) (g := (mkF m 1 #[.val (.ref o0), .val (.int 0), .val (.int 1), .unset, .unset] [(.int 1)])) rfl (by rw [hml]; rfl) (argsL := [(.int 1)]) (rest := []) (lenOf pd__I__B rfl) rfl (w00 rfl) (hb hby d18_1) (fun _ _ => ⟨rfl, e0, (by decide : 0 + 1 ≤ _), (by decide : 0 + 2 ≤ _)⟩)
  dsimp only [Pt.U, Pt.locs, Pt.cells, Pt.slots] at X2 l2 y2 z2 st2 hQ2
  subst l2 y2 z2
  obtain ⟨b1_0, k_b4_2, rfl, Nq2, Kq2, gz2_b1_0, o2_0⟩ := hQ2
  have N2 := Fr.app N0 Nq2
  have K2 : Keep h0 T2.heap [] := K0.trans Kq2 all0
  have Z2 : n0 ≤ T2.heap.size := Nat.le_trans Z0 Kq2.1
  have x3 := own_staK I0 Kq2 all0
  have x4 := own_staK I1 Kq2 all0
  have x5 := own_staK I2 Kq2 all0
  have x6 := I3.keep Kq2 nin0
  have gg2_b1_0 : n0 ≤ b1_0 := Nat.le_trans Z0 gz2_b1_0
  have sz2_b1_0 : h0.size ≤ b1_0 := Nat.le_trans K0.1 gz2_b1_0
  have ne2_o0_b1_0 : o0 ≠ b1_0 := Nat.ne_of_lt (Nat.lt_of_lt_of_le I3.lt gz2_b1_0)
  have pre7 := Go.thn pre1 st2
  have pre8 : Go p e below T2 _ (mkF m 19 #[.val (.ref o0), .val (.int 0), .val (.int 1), .val (.ref b1_0), .val (.int 0)] [(.int 0), (.ref o0), (.int 0), (.ref b1_0)]) _ := fun t k => pre7 t (by
    refine XS.astoreN X2.here hx rfl (hb hby d18_4) rfl rfl (l' := #[.val (.ref o0), .val (.int 0), .val (.int 1), .val (.ref b1_0), .unset]) rfl ?_
    refine XS.iconst X2.here hx rfl (hb hby d18_5) ?_
    refine XS.istore X2.here hx rfl (hb hby d18_6) rfl (l' := #[.val (.ref o0), .val (.int 0), .val (.int 1), .val (.ref b1_0), .val (.int 0)]) rfl ?_
    refine XS.iload X2.here hx rfl (hb hby d18_8) rfl ?_
    refine XS.iloadN X2.here hx rfl (hb hby d18_10) rfl ?_
    refine XS.icmpNo X2.here hx rfl (hb hby d18_11) rfl (by decide) ?_
    refine XS.aloadN X2.here hx rfl (hb hby d18_14) rfl rfl ?_
    refine XS.iload X2.here hx rfl (hb hby d18_15) rfl ?_
    refine XS.aloadN X2.here hx rfl (hb hby d18_17) rfl rfl ?_
    refine XS.iloadN X2.here hx rfl (hb hby d18_18) rfl ?_
    exact k)
  obtain ⟨cl9, Ar9, -, Sz9, Mn9, Hs9, -⟩ := id x6
  have hin9 : ¬ ((0 : Int32) < 0 ∨ cl9.slots.size ≤ ((0 : Int32)).toNatClampNeg) := inb_of Sz9 ⟨by decide, by decide⟩
  have hat9 : cl9.slots[((0 : Int32)).toNatClampNeg]? = some (.int w0) := Hs9.at hin9 rfl
  have pre10 : Go p e below T2 _ (mkF m 20 #[.val (.ref o0), .val (.int 0), .val (.int 1), .val (.ref b1_0), .val (.int 0)] [(.int w0), (.int 0), (.ref b1_0)]) _ := fun t k => pre8 t (by
    show Steps p.tables e below (T2.setTop (mkF m 19 #[.val (.ref o0), .val (.int 0), .val (.int 1), .val (.ref b1_0), .val (.int 0)] [(.int 0), (.ref o0), (.int 0), (.ref b1_0)])) _
    refine X2.caload hx (j := (0 : Int32)) (v := (.int w0)) Ar9.1 (State.isArrayOf_alike hZ.alike Ar9.2.1) Ar9.2.2 hin9 hat9 (g := (mkF m 19 #[.val (.ref o0), .val (.int 0), .val (.int 1), .val (.ref b1_0), .val (.int 0)] [(.int 0), (.ref o0), (.int 0), (.ref b1_0)])) rfl rfl (hb hby d18_19) _ ?_
    exact k)
  obtain ⟨_, _, ⟨T11, L11, k11, n11⟩, -, X11, ⟨Lc11, hQ11, l11, y11, z11⟩, st11⟩ := Jvm.LawKit.callS X2 hx (y := Nm_18) hown (mvT hZ (wq hw 91 rfl)) (mvT hZ (wq hw 92 rfl)) (mvT hZ (wq hw 45 rfl)) (mvT hZ (wq hw 93 rfl)) (by decide) (backOf (W := 0) (rm21_1_0 l Z a0 hw [] b1_0 w0 _ (0 : Int32) (0 : Int32) T2.heap n0 Z2 x3 x4 x5 o2_0 gg2_b1_0) hZ (wq hw 93 rfl) (wq hw 45 rfl) (by decide) (by decide)) (g := (mkF m 20 #[.val (.ref o0), .val (.int 0), .val (.int 1), .val (.ref b1_0), .val (.int 0)] [(.int w0), (.int 0), (.ref b1_0)])) rfl (by rw [hml]; rfl) (argsL := [(.ref b1_0), (.int 0), (.int w0)]) (rest := []) (lenOf pd___BII_V rfl) rfl (w00 rfl) (hb hby d18_20) (fun _ _ => ⟨rfl, rfl, (by decide : 1 + 0 ≤ _), (by decide : 2 + 0 ≤ _)⟩)
  dsimp only [Pt.U, Pt.locs, Pt.cells, Pt.slots] at X11 l11 y11 z11 st11 hQ11
  subst l11 y11 z11
  obtain ⟨rfl, Nq11, Kq11, o11_0⟩ := hQ11
  have N11 := Fr.app N2 Nq11
  have K11 : Keep h0 T11.heap [] := K2.trans Kq11 (allS (Or.inr sz2_b1_0) all0)
  have Z11 : n0 ≤ T11.heap.size := Nat.le_trans Z2 Kq11.1
  have x12 := own_staK x3 Kq11 (allS (own_plV o2_0) all0)
  have x13 := own_staK x4 Kq11 (allS (own_plV o2_0) all0)
  have x14 := own_staK x5 Kq11 (allS (own_plV o2_0) all0)
  have x15 := x6.keep Kq11 (ninS ne2_o0_b1_0 nin0)
  have pre16 := Go.thn pre10 st11
  have pre17 : Go p e below T11 _ (mkF m 33 #[.val (.ref o0), .val (.int 1), .val (.int 1), .val (.ref b1_0), .val (.int 1)] [(.ref b1_0)]) _ := fun t k => pre16 t (by
    refine XS.iinc X11.here hx rfl (hb hby d18_23) rfl (l' := #[.val (.ref o0), .val (.int 1), .val (.int 1), .val (.ref b1_0), .val (.int 0)]) rfl ?_
    refine XS.iinc X11.here hx rfl (hb hby d18_26) rfl (l' := #[.val (.ref o0), .val (.int 1), .val (.int 1), .val (.ref b1_0), .val (.int 1)]) rfl ?_
    refine XS.goto X11.here hx rfl (pc0 := 29) (pc' := 8) rfl (hb hby d18_29) (by decide) (by decide) ?_
    refine XS.iload X11.here hx rfl (hb hby d18_8) rfl ?_
    refine XS.iloadN X11.here hx rfl (hb hby d18_10) rfl ?_
    refine XS.icmpYes X11.here hx rfl (pc0 := 11) (pc' := 32) rfl (hb hby d18_11) rfl (by decide) (by decide) (by decide) ?_
    refine XS.aloadN X11.here hx rfl (hb hby d18_32) rfl rfl ?_
    exact k)
  obtain ⟨fs, hr, hrun, hended, hW, hsame⟩ := X11.leave (v := some (.ref b1_0)) (fun h => by rw [Bd.returns] at h; cases h)
  refine ⟨_, _, ?_, hrun, hended, _, _, rfl, ?_, ⟨_, rfl⟩, hW, hsame.mono (by decide) (by decide)⟩
  · refine pre17 _ ?_
    jvm_step X11.here [X11.here.top, hx, (hb hby d18_33), X11.method', Bd.returns, Value.isRef, FieldType.isReference]
    first | (intro acts; rw [hr _ acts rfl rfl rfl]) | rw [hr _ _ rfl rfl rfl]
    exact Steps.refl _
  · show Q18_1 Z o0 kc w0 h0 n0 _ T11.heap _
    skip
    exact ⟨b1_0, _, rfl, N11, K11, sz2_b1_0, o11_0⟩
theorem d9_0 : decode jdk_52_method_21_code 0 = .ok (.iconst 0, 1) := by decide +kernel
theorem d9_1 : decode jdk_52_method_21_code 1 = .ok (.istore 5, 2) := by decide +kernel
theorem d9_3 : decode jdk_52_method_21_code 3 = .ok (.iload 5, 2) := by decide +kernel
theorem d9_5 : decode jdk_52_method_21_code 5 = .ok (.iload 4, 2) := by decide +kernel
theorem d9_7 : decode jdk_52_method_21_code 7 = .ok (.if_icmp .ge 37, 3) := by decide +kernel
theorem d9_10 : decode jdk_52_method_21_code 10 = .ok (.aload_n 0, 1) := by decide +kernel
theorem d9_11 : decode jdk_52_method_21_code 11 = .ok (.iload_n 1, 1) := by decide +kernel
theorem d9_12 : decode jdk_52_method_21_code 12 = .ok (.caload, 1) := by decide +kernel
theorem d9_13 : decode jdk_52_method_21_code 13 = .ok (.istore 6, 2) := by decide +kernel
theorem d9_15 : decode jdk_52_method_21_code 15 = .ok (.iload 6, 2) := by decide +kernel
theorem d9_17 : decode jdk_52_method_21_code 17 = .ok (.sipush 255, 3) := by decide +kernel
theorem d9_20 : decode jdk_52_method_21_code 20 = .ok (.if_icmp .le 6, 3) := by decide +kernel
theorem d9_23 : decode jdk_52_method_21_code 23 = .ok (.iload 5, 2) := by decide +kernel
theorem d9_25 : decode jdk_52_method_21_code 25 = .ok (.ireturn, 1) := by decide +kernel
theorem d9_26 : decode jdk_52_method_21_code 26 = .ok (.aload_n 2, 1) := by decide +kernel
theorem d9_27 : decode jdk_52_method_21_code 27 = .ok (.iload_n 3, 1) := by decide +kernel
theorem d9_28 : decode jdk_52_method_21_code 28 = .ok (.iload 6, 2) := by decide +kernel
theorem d9_30 : decode jdk_52_method_21_code 30 = .ok (.i2b, 1) := by decide +kernel
theorem d9_31 : decode jdk_52_method_21_code 31 = .ok (.bastore, 1) := by decide +kernel
theorem d9_32 : decode jdk_52_method_21_code 32 = .ok (.iinc 1 1, 3) := by decide +kernel
theorem d9_35 : decode jdk_52_method_21_code 35 = .ok (.iinc 3 1, 3) := by decide +kernel
theorem d9_38 : decode jdk_52_method_21_code 38 = .ok (.iinc 5 1, 3) := by decide +kernel
theorem d9_41 : decode jdk_52_method_21_code 41 = .ok (.goto (-38), 3) := by decide +kernel
theorem d9_44 : decode jdk_52_method_21_code 44 = .ok (.iload 4, 2) := by decide +kernel
theorem d9_46 : decode jdk_52_method_21_code 46 = .ok (.ireturn, 1) := by decide +kernel
theorem pn_9 : plainName "java/lang/StringUTF16" = true := by first | (simp [plainName, overriddenIn]; done) | decide +kernel
theorem ef_9_1 (m : MethodId) (x0 : Addr) (x2 : Addr) : entryFrame m #[(.ref x0), (.int 0), (.ref x2), (.int 0), (.int 1)] 7 = mkF m 0 #[.val (.ref x0), .val (.int 0), .val (.ref x2), .val (.int 0), .val (.int 1), .unset, .unset] [] := by first | (simp [entryFrame, mkF, argsToLocals, Value.category]; done) | rfl
def g9_1_o2_0 (w0 : Int32) : Int32 := (if (255 : Int32) < w0 then (0 : Int32) else ((w0.toInt8.toInt32).toInt8.toInt32))
def f9_1 (w0 : Int32) : Int32 := (if (255 : Int32) < w0 then (0 : Int32) else (1 : Int32))
def Q9_1 (Z : State) (o0 : Addr) (o2 : Addr) (kc : ClassId) (w0 : Int32) (kb : ClassId) (h0 : Heap) (n0 : Nat) (v : Option Value) (h : Heap) (L : List Loc) : Prop := v = (some (.int (f9_1 w0))) ∧ Fr n0 L ∧ Keep h0 h [o2] ∧ Arv Z h o2 kb .byte (1 : Int32) [(.int (g9_1_o2_0 w0))] (.int 0)
set_option maxRecDepth 65536 in
set_option maxHeartbeats 40000000 in
theorem rm9_1 (l : Launch) (Z : State) (a0 : Array Value) (hw : ∀ d ∈ tables_1, d.before a0 Z = true) (ws : List Jvm.Cond) (o0 : Addr) (o2 : Addr) (kc : ClassId) (w0 : Int32) (kb : ClassId) (h0 : Heap) (n0 : Nat) (Z0 : n0 ≤ h0.size) (I0 : Arv Z h0 o0 kc .char (1 : Int32) [(.int w0)] (.int 0)) (I1 : Arv Z h0 o2 kb .byte (1 : Int32) [(.int 0)] (.int 0)) (gw_o2 : n0 ≤ o2) (ne_o0_o2 : o0 ≠ o2) :
    Met1 l Nm_20 (Jvm.Cond.code Nm_20 jdk_52_method_21_code 7 (some .int)) ws (rom 0 0 0 0) #[(.ref o0), (.int 0), (.ref o2), (.int 0), (.int 1)] Z h0 (Q9_1 Z o0 o2 kc w0 kb h0 n0) := by
  refine MetFree.of_bodySF (plainFor_of_name pn_9) hisR ?_
  intro p e s m args below meth c s₁ Bd hml0 hP hK
  obtain ⟨rfl, hZ, hh⟩ := hP
  have hx := Bd.exec
  have hby := Bd.bytes
  have hml : c.maxLocals = 7 := hml0
  have hown : s.vm.findClass "java/lang/StringUTF16" = some m.cls := findClass_of_methodNamed Bd.named
  have X0 : Stand p l e (rom 0 0 0 0) s m _ _ _ _ _ [] 0 0 := Stand.of_body Bd
  have e0 : s₁.heap = h0 := by rw [← hh, Bd.state]; rfl
  have N0 := Fr.nil n0
  have K0 : Keep h0 h0 [o2] := Keep.refl _ _
  have pre0 : Go p e below s₁ _ (mkF m 0 #[.val (.ref o0), .val (.int 0), .val (.ref o2), .val (.int 0), .val (.int 1), .unset, .unset] []) _ := fun t k => castTop (ef_9_1 m o0 o2) k
  have pre2 : Go p e below s₁ _ (mkF m 12 #[.val (.ref o0), .val (.int 0), .val (.ref o2), .val (.int 0), .val (.int 1), .val (.int 0), .unset] [(.int 0), (.ref o0)]) _ := fun t k => pre0 t (by
    refine XS.iconst X0.here hx rfl (hb hby d9_0) ?_
    refine XS.istore X0.here hx rfl (hb hby d9_1) rfl (l' := #[.val (.ref o0), .val (.int 0), .val (.ref o2), .val (.int 0), .val (.int 1), .val (.int 0), .unset]) rfl ?_
    refine XS.iload X0.here hx rfl (hb hby d9_3) rfl ?_
    refine XS.iload X0.here hx rfl (hb hby d9_5) rfl ?_
    refine XS.icmpNo X0.here hx rfl (hb hby d9_7) rfl (by decide) ?_
    refine XS.aloadN X0.here hx rfl (hb hby d9_10) rfl rfl ?_
    refine XS.iloadN X0.here hx rfl (hb hby d9_11) rfl ?_
    exact k)
  obtain ⟨cl3, Ar3, -, Sz3, Mn3, Hs3, -⟩ := id I0
  have hin3 : ¬ ((0 : Int32) < 0 ∨ cl3.slots.size ≤ ((0 : Int32)).toNatClampNeg) := inb_of Sz3 ⟨by decide, by decide⟩
  have hat3 : cl3.slots[((0 : Int32)).toNatClampNeg]? = some (.int w0) := Hs3.at hin3 rfl
  have pre4 : Go p e below s₁ _ (mkF m 13 #[.val (.ref o0), .val (.int 0), .val (.ref o2), .val (.int 0), .val (.int 1), .val (.int 0), .unset] [(.int w0)]) _ := fun t k => pre2 t (by
    show Steps p.tables e below (s₁.setTop (mkF m 12 #[.val (.ref o0), .val (.int 0), .val (.ref o2), .val (.int 0), .val (.int 1), .val (.int 0), .unset] [(.int 0), (.ref o0)])) _
    refine X0.caload hx (j := (0 : Int32)) (v := (.int w0)) (by rw [e0]; exact Ar3.1) (State.isArrayOf_alike hZ.alike Ar3.2.1) Ar3.2.2 hin3 hat3 (g := (mkF m 12 #[.val (.ref o0), .val (.int 0), .val (.ref o2), .val (.int 0), .val (.int 1), .val (.int 0), .unset] [(.int 0), (.ref o0)])) rfl rfl (hb hby d9_12) _ ?_
    exact k)
  have pre5 : Go p e below s₁ _ (mkF m 20 #[.val (.ref o0), .val (.int 0), .val (.ref o2), .val (.int 0), .val (.int 1), .val (.int 0), .val (.int w0)] [(.int 255), (.int w0)]) _ := fun t k => pre4 t (by
    refine XS.istore X0.here hx rfl (hb hby d9_13) rfl (l' := #[.val (.ref o0), .val (.int 0), .val (.ref o2), .val (.int 0), .val (.int 1), .val (.int 0), .val (.int w0)]) rfl ?_
    refine XS.iload X0.here hx rfl (hb hby d9_15) rfl ?_
    refine XS.sipush X0.here hx rfl (hb hby d9_17) ?_
    exact k)
  by_cases hc20_1 : (255 : Int32) < w0
  · have pre6 : Go p e below s₁ _ (mkF m 25 #[.val (.ref o0), .val (.int 0), .val (.ref o2), .val (.int 0), .val (.int 1), .val (.int 0), .val (.int w0)] [(.int 0)]) _ := fun t k => pre5 t (by
      refine XS.icmpNo X0.here hx rfl (hb hby d9_20) rfl (tlt hc20_1).2.2.2 ?_
      refine XS.iload X0.here hx rfl (hb hby d9_23) rfl ?_
      exact k)
    obtain ⟨fs, hr, hrun, hended, hW, hsame⟩ := X0.leave (v := some (.int 0)) (fun h => by rw [Bd.returns] at h; cases h)
    refine ⟨_, _, ?_, hrun, hended, _, _, rfl, ?_, ⟨_, rfl⟩, hW, hsame.mono (by decide) (by decide)⟩
    · exact pre6 _ (retI X0 hx Bd.returns (hb hby d9_25) hr)
    · show Q9_1 Z o0 o2 kc w0 kb h0 n0 _ s₁.heap _
      rw [e0]
      exact ⟨by simp only [f9_1, if_pos hc20_1], N0, K0, by rw [show (g9_1_o2_0 w0) = (0 : Int32) from by simp only [g9_1_o2_0, if_pos hc20_1]]; exact I1⟩
  · have pre7 : Go p e below s₁ _ (mkF m 31 #[.val (.ref o0), .val (.int 0), .val (.ref o2), .val (.int 0), .val (.int 1), .val (.int 0), .val (.int w0)] [(.int (w0.toInt8.toInt32)), (.int 0), (.ref o2)]) _ := fun t k => pre5 t (by
      refine XS.icmpYes X0.here hx rfl (pc0 := 20) (pc' := 26) rfl (hb hby d9_20) rfl (flt hc20_1).2.2.2 (by decide) (by decide) ?_
      refine XS.aloadN X0.here hx rfl (hb hby d9_26) rfl rfl ?_
      refine XS.iloadN X0.here hx rfl (hb hby d9_27) rfl ?_
      refine XS.iload X0.here hx rfl (hb hby d9_28) rfl ?_
      refine XS.i2b X0.here hx rfl (hb hby d9_30) rfl ?_
      exact k)
    obtain ⟨cl8, Ar8, q8, Sz8, Mn8, Hs8, Gs8⟩ := id I1
    have hin8 : ¬ ((0 : Int32) < 0 ∨ cl8.slots.size ≤ ((0 : Int32)).toNatClampNeg) := inb_of Sz8 ⟨by decide, by decide⟩
    obtain ⟨T8, h8, X8, e8, W8, st8⟩ := stB X0 hx hZ e0 Ar8 (j := (0 : Int32)) hin8 (g := (mkF m 31 #[.val (.ref o0), .val (.int 0), .val (.ref o2), .val (.int 0), .val (.int 1), .val (.int 0), .val (.int w0)] [(.int (w0.toInt8.toInt32)), (.int 0), (.ref o2)])) rfl rfl (hb hby d9_31)
    have V8 : Arv Z h8 o2 kb .byte (1 : Int32) [(.int ((w0.toInt8.toInt32).toInt8.toInt32))] (.int 0) := Arv.set Ar8 q8 Sz8 Mn8 Hs8 Gs8 (fits_nar_byte _) W8 0 rfl (Nat.le_of_ble_eq_true rfl)
    have N8 := Fr.snoc X8 N0 gw_o2
    have K8 : Keep h0 h8 [o2] := K0.wr W8 (Or.inl (List.mem_of_getElem? (i := 0) rfl))
    have Z8 : n0 ≤ h8.size := Nat.le_trans Z0 (Keep.of_wr W8).1
    have x9 := I0.other W8 ne_o0_o2
    have pre10 := Go.thn pre7 st8
    have pre11 : Go p e below T8 _ (mkF m 46 #[.val (.ref o0), .val (.int 1), .val (.ref o2), .val (.int 1), .val (.int 1), .val (.int 1), .val (.int w0)] [(.int 1)]) _ := fun t k => pre10 t (by
      refine XS.iinc X8.here hx rfl (hb hby d9_32) rfl (l' := #[.val (.ref o0), .val (.int 1), .val (.ref o2), .val (.int 0), .val (.int 1), .val (.int 0), .val (.int w0)]) rfl ?_
      refine XS.iinc X8.here hx rfl (hb hby d9_35) rfl (l' := #[.val (.ref o0), .val (.int 1), .val (.ref o2), .val (.int 1), .val (.int 1), .val (.int 0), .val (.int w0)]) rfl ?_
      refine XS.iinc X8.here hx rfl (hb hby d9_38) rfl (l' := #[.val (.ref o0), .val (.int 1), .val (.ref o2), .val (.int 1), .val (.int 1), .val (.int 1), .val (.int w0)]) rfl ?_
      refine XS.goto X8.here hx rfl (pc0 := 41) (pc' := 3) rfl (hb hby d9_41) (by decide) (by decide) ?_
      refine XS.iload X8.here hx rfl (hb hby d9_3) rfl ?_
      refine XS.iload X8.here hx rfl (hb hby d9_5) rfl ?_
      refine XS.icmpYes X8.here hx rfl (pc0 := 7) (pc' := 44) rfl (hb hby d9_7) rfl (by decide) (by decide) (by decide) ?_
      refine XS.iload X8.here hx rfl (hb hby d9_44) rfl ?_
      exact k)
    obtain ⟨fs, hr, hrun, hended, hW, hsame⟩ := X8.leave (v := some (.int 1)) (fun h => by rw [Bd.returns] at h; cases h)
    refine ⟨_, _, ?_, hrun, hended, _, _, rfl, ?_, ⟨_, rfl⟩, hW, hsame.mono (by decide) (by decide)⟩
    · exact pre11 _ (retI X8 hx Bd.returns (hb hby d9_46) hr)
    · show Q9_1 Z o0 o2 kc w0 kb h0 n0 _ T8.heap _
      rw [e8]
      exact ⟨by simp only [f9_1, if_neg hc20_1], N8, K8, by rw [show (g9_1_o2_0 w0) = ((w0.toInt8.toInt32).toInt8.toInt32) from by simp only [g9_1_o2_0, if_neg hc20_1]]; exact V8⟩
theorem own_all1 {w0 : Int32} (h0 : ¬ ((255 : Int32) < w0)) : f9_1 w0 = (1 : Int32) := by simp only [f9_1, if_neg h0]
theorem own_fst1 {w0 : Int32} (hU : (255 : Int32) < w0) : (f9_1 w0 = (0 : Int32) ∧ (255 : Int32) < w0) := by
  unfold f9_1
  by_cases h0 : (255 : Int32) < w0
  · exact ⟨by simp only [if_pos h0], h0⟩
  exact absurd hU h0
theorem own_ne1 {w0 : Int32} (hU : (255 : Int32) < w0) : ¬ (f9_1 w0 = (1 : Int32)) := by
  rcases own_fst1 hU with ⟨e, g⟩ <;> rw [e] <;> decide
theorem own_ix1 {w0 : Int32} (hU : (255 : Int32) < w0) : (¬ (((f9_1 w0) <<< ((1 : Int32) &&& 31)) < (0 : Int32))) ∧ (((f9_1 w0) <<< ((1 : Int32) &&& 31)) < (2 : Int32)) ∧ (¬ ((((f9_1 w0) <<< ((1 : Int32) &&& 31)) + (1 : Int32)) < (0 : Int32))) ∧ ((((f9_1 w0) <<< ((1 : Int32) &&& 31)) + (1 : Int32)) < (2 : Int32)) := by
  rcases own_fst1 hU with ⟨e, g⟩ <;> rw [e] <;> decide
theorem own_gt1 {w0 : Int32} (r0 : own_chr w0) (hU : (255 : Int32) < w0) : (255 : Int32) < f22 (f9_1 w0) [(own_b0 w0), (own_b8 w0)] := by
  rcases own_fst1 hU with ⟨e, g⟩ <;> rw [e]
  · rw [show f22 (0 : Int32) [(own_b0 w0), (own_b8 w0)] = w0 from own_rt r0]; exact g
theorem d8_0 : decode jdk_52_method_16_code 0 = .ok (.iload_n 2, 1) := by decide +kernel
theorem d8_1 : decode jdk_52_method_16_code 1 = .ok (.newarray .byte, 2) := by decide +kernel
theorem d8_3 : decode jdk_52_method_16_code 3 = .ok (.astore_n 3, 1) := by decide +kernel
theorem d8_4 : decode jdk_52_method_16_code 4 = .ok (.aload_n 0, 1) := by decide +kernel
theorem d8_5 : decode jdk_52_method_16_code 5 = .ok (.iload_n 1, 1) := by decide +kernel
theorem d8_6 : decode jdk_52_method_16_code 6 = .ok (.aload_n 3, 1) := by decide +kernel
theorem d8_7 : decode jdk_52_method_16_code 7 = .ok (.iconst 0, 1) := by decide +kernel
theorem d8_8 : decode jdk_52_method_16_code 8 = .ok (.iload_n 2, 1) := by decide +kernel
theorem d8_9 : decode jdk_52_method_16_code 9 = .ok (.invokestatic 115, 3) := by decide +kernel
theorem d8_12 : decode jdk_52_method_16_code 12 = .ok (.istore 4, 2) := by decide +kernel
theorem d8_14 : decode jdk_52_method_16_code 14 = .ok (.iload 4, 2) := by decide +kernel
theorem d8_16 : decode jdk_52_method_16_code 16 = .ok (.iload_n 2, 1) := by decide +kernel
theorem d8_17 : decode jdk_52_method_16_code 17 = .ok (.if_icmp .eq 40, 3) := by decide +kernel
theorem d8_57 : decode jdk_52_method_16_code 57 = .ok (.aload_n 3, 1) := by decide +kernel
theorem d8_58 : decode jdk_52_method_16_code 58 = .ok (.areturn, 1) := by decide +kernel
theorem pn_8 : plainName "java/lang/StringUTF16" = true := by first | (simp [plainName, overriddenIn]; done) | decide +kernel
theorem pd___CI_BII_I : parseMethodDescriptor "([CI[BII)I" = some ⟨[(.array .char), .int, (.array .byte), .int, .int], some .int⟩ := by decide +kernel
theorem ef_8_1L (m : MethodId) (x0 : Addr) : entryFrame m #[(.ref x0), (.int 0), (.int 1)] 6 = mkF m 0 #[.val (.ref x0), .val (.int 0), .val (.int 1), .unset, .unset, .unset] [] := by first | (simp [entryFrame, mkF, argsToLocals, Value.category]; done) | rfl
def Q8_1L (Z : State) (o0 : Addr) (kc : ClassId) (w0 : Int32) (h0 : Heap) (n0 : Nat) (v : Option Value) (h : Heap) (L : List Loc) : Prop := ∃ (b1 : Addr) (k_b1 : ClassId), v = (some (.ref b1)) ∧ Fr n0 L ∧ Keep h0 h [] ∧ h0.size ≤ b1 ∧ Arv Z h b1 k_b1 .byte (1 : Int32) [(.int (g9_1_o2_0 w0))] (.int 0)
set_option maxRecDepth 65536 in
set_option maxHeartbeats 40000000 in
theorem rm8_1L (l : Launch) (Z : State) (a0 : Array Value) (hw : ∀ d ∈ tables_1, d.before a0 Z = true) (ws : List Jvm.Cond) (o0 : Addr) (kc : ClassId) (w0 : Int32) (h0 : Heap) (n0 : Nat) (Z0 : n0 ≤ h0.size) (I0 : Sta Z h0 "java/lang/StringUTF16" "$assertionsDisabled" "Z" (.int 1)) (I1 : Sta Z h0 "java/lang/StringUTF16" "HI_BYTE_SHIFT" "I" (.int 0)) (I2 : Sta Z h0 "java/lang/StringUTF16" "LO_BYTE_SHIFT" "I" (.int 8)) (I3 : Arv Z h0 o0 kc .char (1 : Int32) [(.int w0)] (.int 0)) (hl0 : ¬ ((255 : Int32) < w0)) :
    Met1 l Nm_21 (Jvm.Cond.code Nm_21 jdk_52_method_16_code 6 (some (.array .byte))) ws (rom 1 1 1 18) #[(.ref o0), (.int 0), (.int 1)] Z h0 (Q8_1L Z o0 kc w0 h0 n0) := by
  refine MetFree.of_bodySF (plainFor_of_name pn_8) hisR ?_
  intro p e s m args below meth c s₁ Bd hml0 hP hK
  obtain ⟨rfl, hZ, hh⟩ := hP
  have hx := Bd.exec
  have hby := Bd.bytes
  have hml : c.maxLocals = 6 := hml0
  have hown : s.vm.findClass "java/lang/StringUTF16" = some m.cls := findClass_of_methodNamed Bd.named
  have X0 : Stand p l e (rom 1 1 1 18) s m _ _ _ _ _ [] 0 0 := Stand.of_body Bd
  have e0 : s₁.heap = h0 := by rw [← hh, Bd.state]; rfl
  have N0 := Fr.nil n0
  have K0 : Keep h0 h0 [] := Keep.refl _ _
  have pre0 : Go p e below s₁ _ (mkF m 0 #[.val (.ref o0), .val (.int 0), .val (.int 1), .unset, .unset, .unset] []) _ := fun t k => castTop (ef_8_1L m o0) k
  have pre1 : Go p e below s₁ _ (mkF m 1 #[.val (.ref o0), .val (.int 0), .val (.int 1), .unset, .unset, .unset] [(.int 1)]) _ := fun t k => pre0 t (by
    refine XS.iloadN X0.here hx rfl (hb hby d8_0) rfl ?_
    exact k)
  obtain ⟨T2, h2, k2, X2, e2, E2, A2, st2⟩ := newP X0 hx hZ (wq hw 21 rfl) e0 (g := (mkF m 1 #[.val (.ref o0), .val (.int 0), .val (.int 1), .unset, .unset, .unset] [(.int 1)])) rfl (hb hby d8_1) rfl (by decide) (cap := 1) (by decide) (by decide) (by decide) (by decide)
  obtain ⟨b1, g2⟩ : ∃ z, z = h0.size := ⟨_, rfl⟩
  rw [← g2] at A2 st2
  have gg2 : n0 ≤ b1 := Nat.le_trans Z0 (Nat.le_of_eq g2.symm)
  have sz2 : h0.size ≤ b1 := Nat.le_trans K0.1 (Nat.le_of_eq g2.symm)
  have K2 : Keep h0 h2 [] := K0.ext E2
  have Z2 : n0 ≤ h2.size := Nat.le_trans Z0 E2.1
  have V2 : Arv Z h2 b1 k2 .byte (1 : Int32) [(.int 0)] (.int 0) := (Arv.new A2 (by decide)).pad (pad_rep [] (.int 0) 1)
  have ne2_o0 : o0 ≠ b1 := Nat.ne_of_lt (Nat.lt_of_lt_of_le I3.lt (Nat.le_of_eq g2.symm))
  have x3 := I0.ext E2
  have x4 := I1.ext E2
  have x5 := I2.ext E2
  have x6 := I3.ext E2
  have pre7 := Go.thn pre1 st2
  have pre8 : Go p e below T2 _ (mkF m 9 #[.val (.ref o0), .val (.int 0), .val (.int 1), .val (.ref b1), .unset, .unset] [(.int 1), (.int 0), (.ref b1), (.int 0), (.ref o0)]) _ := fun t k => pre7 t (by
    refine XS.astoreN X2.here hx rfl (hb hby d8_3) rfl rfl (l' := #[.val (.ref o0), .val (.int 0), .val (.int 1), .val (.ref b1), .unset, .unset]) rfl ?_
    refine XS.aloadN X2.here hx rfl (hb hby d8_4) rfl rfl ?_
    refine XS.iloadN X2.here hx rfl (hb hby d8_5) rfl ?_
    refine XS.aloadN X2.here hx rfl (hb hby d8_6) rfl rfl ?_
    refine XS.iconst X2.here hx rfl (hb hby d8_7) ?_
    refine XS.iloadN X2.here hx rfl (hb hby d8_8) rfl ?_
    exact k)
  obtain ⟨_, _, ⟨T9, L9, k9, n9⟩, -, X9, ⟨Lc9, hQ9, l9, y9, z9⟩, st9⟩ := Jvm.LawKit.callS X2 hx (y := Nm_20) hown (mvT hZ (wq hw 47 rfl)) (mvT hZ (wq hw 48 rfl)) (mvT hZ (wq hw 45 rfl)) (mvT hZ (wq hw 49 rfl)) (by decide) (backOf (W := 0) (rm9_1 l Z a0 hw [] o0 b1 _ w0 _ h2 n0 Z2 x6 V2 gg2 ne2_o0) hZ (wq hw 49 rfl) (wq hw 45 rfl) (by decide) (by decide)) (g := (mkF m 9 #[.val (.ref o0), .val (.int 0), .val (.int 1), .val (.ref b1), .unset, .unset] [(.int 1), (.int 0), (.ref b1), (.int 0), (.ref o0)])) rfl (by rw [hml]; rfl) (argsL := [(.ref o0), (.int 0), (.ref b1), (.int 0), (.int 1)]) (rest := []) (lenOf pd___CI_BII_I rfl) rfl (w00 rfl) (hb hby d8_9) (fun _ _ => ⟨rfl, e2, (by decide : 1 + 0 ≤ _), (by decide : 1 + 0 ≤ _)⟩)
  dsimp only [Pt.U, Pt.locs, Pt.cells, Pt.slots] at X9 l9 y9 z9 st9 hQ9
  subst l9 y9 z9
  obtain ⟨rfl, Nq9, Kq9, o9_0⟩ := hQ9
  have N9 := Fr.app N0 Nq9
  have K9 : Keep h0 T9.heap [] := K2.trans Kq9 (allS (Or.inr sz2) all0)
  have Z9 : n0 ≤ T9.heap.size := Nat.le_trans Z2 Kq9.1
  have x10 := own_staK x3 Kq9 (allS (own_plV V2) all0)
  have x11 := own_staK x4 Kq9 (allS (own_plV V2) all0)
  have x12 := own_staK x5 Kq9 (allS (own_plV V2) all0)
  have x13 := x6.keep Kq9 (ninS ne2_o0 nin0)
  have pre14 := Go.thn pre8 st9
  have pre15 : Go p e below T9 _ (mkF m 58 #[.val (.ref o0), .val (.int 0), .val (.int 1), .val (.ref b1), .val (.int 1), .unset] [(.ref b1)]) _ := fun t k => pre14 t (by
    show Steps p.tables e below (T9.setTop (mkF m 12 #[.val (.ref o0), .val (.int 0), .val (.int 1), .val (.ref b1), .unset, .unset] [(.int (f9_1 w0))])) _
    rw [own_all1 hl0]
    refine XS.istore X9.here hx rfl (hb hby d8_12) rfl (l' := #[.val (.ref o0), .val (.int 0), .val (.int 1), .val (.ref b1), .val (.int 1), .unset]) rfl ?_
    refine XS.iload X9.here hx rfl (hb hby d8_14) rfl ?_
    refine XS.iloadN X9.here hx rfl (hb hby d8_16) rfl ?_
    refine XS.icmpYes X9.here hx rfl (pc0 := 17) (pc' := 57) rfl (hb hby d8_17) rfl (by decide) (by decide) (by decide) ?_
    refine XS.aloadN X9.here hx rfl (hb hby d8_57) rfl rfl ?_
    exact k)
  obtain ⟨fs, hr, hrun, hended, hW, hsame⟩ := X9.leave (v := some (.ref b1)) (fun h => by rw [Bd.returns] at h; cases h)
  refine ⟨_, _, ?_, hrun, hended, _, _, rfl, ?_, ⟨_, rfl⟩, hW, hsame.mono (by decide) (by decide)⟩
  · refine pre15 _ ?_
    jvm_step X9.here [X9.here.top, hx, (hb hby d8_58), X9.method', Bd.returns, Value.isRef, FieldType.isReference]
    first | (intro acts; rw [hr _ acts rfl rfl rfl]) | rw [hr _ _ rfl rfl rfl]
    exact Steps.refl _
  · show Q8_1L Z o0 kc w0 h0 n0 _ T9.heap _
    skip
    exact ⟨b1, _, rfl, N9, K9, sz2, o9_0⟩
theorem d8_20 : decode jdk_52_method_16_code 20 = .ok (.aload_n 0, 1) := by decide +kernel
theorem d8_21 : decode jdk_52_method_16_code 21 = .ok (.iload_n 1, 1) := by decide +kernel
theorem d8_22 : decode jdk_52_method_16_code 22 = .ok (.iload_n 2, 1) := by decide +kernel
theorem d8_23 : decode jdk_52_method_16_code 23 = .ok (.invokestatic 119, 3) := by decide +kernel
theorem d8_26 : decode jdk_52_method_16_code 26 = .ok (.astore 5, 2) := by decide +kernel
theorem d8_28 : decode jdk_52_method_16_code 28 = .ok (.aload 5, 2) := by decide +kernel
theorem d8_30 : decode jdk_52_method_16_code 30 = .ok (.iload 4, 2) := by decide +kernel
theorem d8_32 : decode jdk_52_method_16_code 32 = .ok (.invokestatic 71, 3) := by decide +kernel
theorem d8_35 : decode jdk_52_method_16_code 35 = .ok (.sipush 255, 3) := by decide +kernel
theorem d8_38 : decode jdk_52_method_16_code 38 = .ok (.if_icmp .gt 16, 3) := by decide +kernel
theorem d8_54 : decode jdk_52_method_16_code 54 = .ok (.aload 5, 2) := by decide +kernel
theorem d8_56 : decode jdk_52_method_16_code 56 = .ok (.areturn, 1) := by decide +kernel
theorem pd___CII__B : parseMethodDescriptor "([CII)[B" = some ⟨[(.array .char), .int, .int], some (.array .byte)⟩ := by decide +kernel
def Q8_1U (Z : State) (o0 : Addr) (kc : ClassId) (w0 : Int32) (h0 : Heap) (n0 : Nat) (v : Option Value) (h : Heap) (L : List Loc) : Prop := ∃ (b23_0 : Addr) (k_b23_0 : ClassId), v = (some (.ref b23_0)) ∧ Fr n0 L ∧ Keep h0 h [] ∧ h0.size ≤ b23_0 ∧ Arv Z h b23_0 k_b23_0 .byte (2 : Int32) [(.int (own_b0 w0)), (.int (own_b8 w0))] (.int 0)
set_option maxRecDepth 65536 in
set_option maxHeartbeats 40000000 in
theorem rm8_1U (l : Launch) (Z : State) (a0 : Array Value) (hw : ∀ d ∈ tables_1, d.before a0 Z = true) (ws : List Jvm.Cond) (o0 : Addr) (kc : ClassId) (w0 : Int32) (h0 : Heap) (n0 : Nat) (Z0 : n0 ≤ h0.size) (I0 : Sta Z h0 "java/lang/StringUTF16" "$assertionsDisabled" "Z" (.int 1)) (I1 : Sta Z h0 "java/lang/StringUTF16" "HI_BYTE_SHIFT" "I" (.int 0)) (I2 : Sta Z h0 "java/lang/StringUTF16" "LO_BYTE_SHIFT" "I" (.int 8)) (I3 : Arv Z h0 o0 kc .char (1 : Int32) [(.int w0)] (.int 0)) (r0 : own_chr w0) (hU : (255 : Int32) < w0) :
    Met1 l Nm_21 (Jvm.Cond.code Nm_21 jdk_52_method_16_code 6 (some (.array .byte))) ws (rom 3 2 3 40) #[(.ref o0), (.int 0), (.int 1)] Z h0 (Q8_1U Z o0 kc w0 h0 n0) := by
  refine MetFree.of_bodySF (plainFor_of_name pn_8) hisR ?_
  intro p e s m args below meth c s₁ Bd hml0 hP hK
  obtain ⟨rfl, hZ, hh⟩ := hP
  have hx := Bd.exec
  have hby := Bd.bytes
  have hml : c.maxLocals = 6 := hml0
  have hown : s.vm.findClass "java/lang/StringUTF16" = some m.cls := findClass_of_methodNamed Bd.named
  have X0 : Stand p l e (rom 3 2 3 40) s m _ _ _ _ _ [] 0 0 := Stand.of_body Bd
  have e0 : s₁.heap = h0 := by rw [← hh, Bd.state]; rfl
  have N0 := Fr.nil n0
  have K0 : Keep h0 h0 [] := Keep.refl _ _
  have pre0 : Go p e below s₁ _ (mkF m 0 #[.val (.ref o0), .val (.int 0), .val (.int 1), .unset, .unset, .unset] []) _ := fun t k => castTop (ef_8_1L m o0) k
  have pre1 : Go p e below s₁ _ (mkF m 1 #[.val (.ref o0), .val (.int 0), .val (.int 1), .unset, .unset, .unset] [(.int 1)]) _ := fun t k => pre0 t (by
    refine XS.iloadN X0.here hx rfl (hb hby d8_0) rfl ?_
    exact k)
  obtain ⟨T2, h2, k2, X2, e2, E2, A2, st2⟩ := newP X0 hx hZ (wq hw 21 rfl) e0 (g := (mkF m 1 #[.val (.ref o0), .val (.int 0), .val (.int 1), .unset, .unset, .unset] [(.int 1)])) rfl (hb hby d8_1) rfl (by decide) (cap := 1) (by decide) (by decide) (by decide) (by decide)
  obtain ⟨b1, g2⟩ : ∃ z, z = h0.size := ⟨_, rfl⟩
  rw [← g2] at A2 st2
  have gg2 : n0 ≤ b1 := Nat.le_trans Z0 (Nat.le_of_eq g2.symm)
  have sz2 : h0.size ≤ b1 := Nat.le_trans K0.1 (Nat.le_of_eq g2.symm)
  have K2 : Keep h0 h2 [] := K0.ext E2
  have Z2 : n0 ≤ h2.size := Nat.le_trans Z0 E2.1
  have V2 : Arv Z h2 b1 k2 .byte (1 : Int32) [(.int 0)] (.int 0) := (Arv.new A2 (by decide)).pad (pad_rep [] (.int 0) 1)
  have ne2_o0 : o0 ≠ b1 := Nat.ne_of_lt (Nat.lt_of_lt_of_le I3.lt (Nat.le_of_eq g2.symm))
  have x3 := I0.ext E2
  have x4 := I1.ext E2
  have x5 := I2.ext E2
  have x6 := I3.ext E2
  have pre7 := Go.thn pre1 st2
  have pre8 : Go p e below T2 _ (mkF m 9 #[.val (.ref o0), .val (.int 0), .val (.int 1), .val (.ref b1), .unset, .unset] [(.int 1), (.int 0), (.ref b1), (.int 0), (.ref o0)]) _ := fun t k => pre7 t (by
    refine XS.astoreN X2.here hx rfl (hb hby d8_3) rfl rfl (l' := #[.val (.ref o0), .val (.int 0), .val (.int 1), .val (.ref b1), .unset, .unset]) rfl ?_
    refine XS.aloadN X2.here hx rfl (hb hby d8_4) rfl rfl ?_
    refine XS.iloadN X2.here hx rfl (hb hby d8_5) rfl ?_
    refine XS.aloadN X2.here hx rfl (hb hby d8_6) rfl rfl ?_
    refine XS.iconst X2.here hx rfl (hb hby d8_7) ?_
    refine XS.iloadN X2.here hx rfl (hb hby d8_8) rfl ?_
    exact k)
  obtain ⟨_, _, ⟨T9, L9, k9, n9⟩, -, X9, ⟨Lc9, hQ9, l9, y9, z9⟩, st9⟩ := Jvm.LawKit.callS X2 hx (y := Nm_20) hown (mvT hZ (wq hw 47 rfl)) (mvT hZ (wq hw 48 rfl)) (mvT hZ (wq hw 45 rfl)) (mvT hZ (wq hw 49 rfl)) (by decide) (backOf (W := 0) (rm9_1 l Z a0 hw [] o0 b1 _ w0 _ h2 n0 Z2 x6 V2 gg2 ne2_o0) hZ (wq hw 49 rfl) (wq hw 45 rfl) (by decide) (by decide)) (g := (mkF m 9 #[.val (.ref o0), .val (.int 0), .val (.int 1), .val (.ref b1), .unset, .unset] [(.int 1), (.int 0), (.ref b1), (.int 0), (.ref o0)])) rfl (by rw [hml]; rfl) (argsL := [(.ref o0), (.int 0), (.ref b1), (.int 0), (.int 1)]) (rest := []) (lenOf pd___CI_BII_I rfl) rfl (w00 rfl) (hb hby d8_9) (fun _ _ => ⟨rfl, e2, (by decide : 1 + 0 ≤ _), (by decide : 1 + 0 ≤ _)⟩)
  dsimp only [Pt.U, Pt.locs, Pt.cells, Pt.slots] at X9 l9 y9 z9 st9 hQ9
  subst l9 y9 z9
  obtain ⟨rfl, Nq9, Kq9, o9_0⟩ := hQ9
  have N9 := Fr.app N0 Nq9
  have K9 : Keep h0 T9.heap [] := K2.trans Kq9 (allS (Or.inr sz2) all0)
  have Z9 : n0 ≤ T9.heap.size := Nat.le_trans Z2 Kq9.1
  have x10 := own_staK x3 Kq9 (allS (own_plV V2) all0)
  have x11 := own_staK x4 Kq9 (allS (own_plV V2) all0)
  have x12 := own_staK x5 Kq9 (allS (own_plV V2) all0)
  have x13 := x6.keep Kq9 (ninS ne2_o0 nin0)
  have pre14 := Go.thn pre8 st9
  have pre15 : Go p e below T9 _ (mkF m 23 #[.val (.ref o0), .val (.int 0), .val (.int 1), .val (.ref b1), .val (.int (f9_1 w0)), .unset] [(.int 1), (.int 0), (.ref o0)]) _ := fun t k => pre14 t (by
    refine XS.istore X9.here hx rfl (hb hby d8_12) rfl (l' := #[.val (.ref o0), .val (.int 0), .val (.int 1), .val (.ref b1), .val (.int (f9_1 w0)), .unset]) rfl ?_
    refine XS.iload X9.here hx rfl (hb hby d8_14) rfl ?_
    refine XS.iloadN X9.here hx rfl (hb hby d8_16) rfl ?_
    refine XS.icmpNo X9.here hx rfl (hb hby d8_17) rfl (feq (own_ne1 hU)).1 ?_
    refine XS.aloadN X9.here hx rfl (hb hby d8_20) rfl rfl ?_
    refine XS.iloadN X9.here hx rfl (hb hby d8_21) rfl ?_
    refine XS.iloadN X9.here hx rfl (hb hby d8_22) rfl ?_
    exact k)
  obtain ⟨_, _, ⟨T16, L16, k16, n16⟩, -, X16, ⟨Lc16, hQ16, l16, y16, z16⟩, st16⟩ := Jvm.LawKit.callS X9 hx (y := Nm_19) hown (mvT hZ (wq hw 81 rfl)) (mvT hZ (wq hw 82 rfl)) (mvT hZ (wq hw 45 rfl)) (mvT hZ (wq hw 83 rfl)) (by decide) (backOf (W := 0) (rm18_1 l Z a0 hw [] o0 _ w0 T9.heap n0 Z9 x10 x11 x12 x13) hZ (wq hw 83 rfl) (wq hw 45 rfl) (by decide) (by decide)) (g := (mkF m 23 #[.val (.ref o0), .val (.int 0), .val (.int 1), .val (.ref b1), .val (.int (f9_1 w0)), .unset] [(.int 1), (.int 0), (.ref o0)])) rfl (by rw [hml]; rfl) (argsL := [(.ref o0), (.int 0), (.int 1)]) (rest := []) (lenOf pd___CII__B rfl) rfl (w00 rfl) (hb hby d8_23) (fun _ _ => ⟨rfl, rfl, (by decide : 1 + 1 ≤ _), (by decide : 1 + 2 ≤ _)⟩)
  dsimp only [Pt.U, Pt.locs, Pt.cells, Pt.slots] at X16 l16 y16 z16 st16 hQ16
  subst l16 y16 z16
  obtain ⟨b23_0, k_b1_0_16, rfl, Nq16, Kq16, gz16_b23_0, o16_0⟩ := hQ16
  have N16 := Fr.app N9 Nq16
  have K16 : Keep h0 T16.heap [] := K9.trans Kq16 all0
  have Z16 : n0 ≤ T16.heap.size := Nat.le_trans Z9 Kq16.1
  have x17 := own_staK x10 Kq16 all0
  have x18 := own_staK x11 Kq16 all0
  have x19 := own_staK x12 Kq16 all0
  have x20 := x13.keep Kq16 nin0
  have x21 := o9_0.keep Kq16 nin0
  have gg16_b23_0 : n0 ≤ b23_0 := Nat.le_trans Z9 gz16_b23_0
  have sz16_b23_0 : h0.size ≤ b23_0 := Nat.le_trans K9.1 gz16_b23_0
  have ne16_o0_b23_0 : o0 ≠ b23_0 := Nat.ne_of_lt (Nat.lt_of_lt_of_le x13.lt gz16_b23_0)
  have ne16_b1_b23_0 : b1 ≠ b23_0 := Nat.ne_of_lt (Nat.lt_of_lt_of_le o9_0.lt gz16_b23_0)
  have pre22 := Go.thn pre15 st16
  have pre23 : Go p e below T16 _ (mkF m 32 #[.val (.ref o0), .val (.int 0), .val (.int 1), .val (.ref b1), .val (.int (f9_1 w0)), .val (.ref b23_0)] [(.int (f9_1 w0)), (.ref b23_0)]) _ := fun t k => pre22 t (by
    refine XS.astore X16.here hx rfl (hb hby d8_26) rfl rfl (l' := #[.val (.ref o0), .val (.int 0), .val (.int 1), .val (.ref b1), .val (.int (f9_1 w0)), .val (.ref b23_0)]) rfl ?_
    refine XS.aload X16.here hx rfl (hb hby d8_28) rfl rfl ?_
    refine XS.iload X16.here hx rfl (hb hby d8_30) rfl ?_
    exact k)
  obtain ⟨_, _, ⟨T24, L24, k24, n24⟩, -, X24, ⟨Lc24, hQ24, l24, y24, z24⟩, st24⟩ := Jvm.LawKit.callS X16 hx (y := Nm_9) hown (mvT hZ (wq hw 97 rfl)) (mvT hZ (wq hw 98 rfl)) (mvT hZ (wq hw 45 rfl)) (mvT hZ (wq hw 99 rfl)) (by decide) (backOf (W := 0) (rm22 l Z a0 hw [] b23_0 (f9_1 w0) _ (2 : Int32) [(own_b0 w0), (own_b8 w0)] T16.heap n0 Z16 x17 x18 x19 o16_0 (own_ix1 hU).1 (own_ix1 hU).2.1 (own_ix1 hU).2.2.1 (own_ix1 hU).2.2.2) hZ (wq hw 99 rfl) (wq hw 45 rfl) (by decide) (by decide)) (g := (mkF m 32 #[.val (.ref o0), .val (.int 0), .val (.int 1), .val (.ref b1), .val (.int (f9_1 w0)), .val (.ref b23_0)] [(.int (f9_1 w0)), (.ref b23_0)])) rfl (by rw [hml]; rfl) (argsL := [(.ref b23_0), (.int (f9_1 w0))]) (rest := []) (lenOf pd___BI_C rfl) rfl (w00 rfl) (hb hby d8_32) (fun _ _ => ⟨rfl, rfl, (by decide : 2 + 0 ≤ _), (by decide : 3 + 0 ≤ _)⟩)
  dsimp only [Pt.U, Pt.locs, Pt.cells, Pt.slots] at X24 l24 y24 z24 st24 hQ24
  subst l24 y24 z24
  obtain ⟨rfl, Nq24, e24⟩ := hQ24
  have N24 := Fr.app N16 Nq24
  have pre25 := Go.thn pre23 st24
  have pre26 : Go p e below T24 _ (mkF m 56 #[.val (.ref o0), .val (.int 0), .val (.int 1), .val (.ref b1), .val (.int (f9_1 w0)), .val (.ref b23_0)] [(.ref b23_0)]) _ := fun t k => pre25 t (by
    refine XS.sipush X24.here hx rfl (hb hby d8_35) ?_
    refine XS.icmpYes X24.here hx rfl (pc0 := 38) (pc' := 54) rfl (hb hby d8_38) rfl (tlt (own_gt1 r0 hU)).2.2.1 (by decide) (by decide) ?_
    refine XS.aload X24.here hx rfl (hb hby d8_54) rfl rfl ?_
    exact k)
  obtain ⟨fs, hr, hrun, hended, hW, hsame⟩ := X24.leave (v := some (.ref b23_0)) (fun h => by rw [Bd.returns] at h; cases h)
  refine ⟨_, _, ?_, hrun, hended, _, _, rfl, ?_, ⟨_, rfl⟩, hW, hsame.mono (by decide) (by decide)⟩
  · refine pre26 _ ?_
    jvm_step X24.here [X24.here.top, hx, (hb hby d8_56), X24.method', Bd.returns, Value.isRef, FieldType.isReference]
    first | (intro acts; rw [hr _ acts rfl rfl rfl]) | rw [hr _ _ rfl rfl rfl]
    exact Steps.refl _
  · show Q8_1U Z o0 kc w0 h0 n0 _ T24.heap _
    rw [e24]
    exact ⟨b23_0, _, rfl, N24, K16, sz16_b23_0, o16_0⟩
theorem d3_0 : decode jdk_42_method_149_code 0 = .ok (.aload_n 0, 1) := by decide +kernel
theorem d3_1 : decode jdk_42_method_149_code 1 = .ok (.invokespecial 1, 3) := by decide +kernel
theorem d3_4 : decode jdk_42_method_149_code 4 = .ok (.iload_n 3, 1) := by decide +kernel
theorem d3_5 : decode jdk_42_method_149_code 5 = .ok (.ifCond .ne 22, 3) := by decide +kernel
theorem d3_27 : decode jdk_42_method_149_code 27 = .ok (.getstatic 38, 3) := by decide +kernel
theorem d3_30 : decode jdk_42_method_149_code 30 = .ok (.ifCond .eq 28, 3) := by decide +kernel
theorem d3_33 : decode jdk_42_method_149_code 33 = .ok (.aload_n 1, 1) := by decide +kernel
theorem d3_34 : decode jdk_42_method_149_code 34 = .ok (.iload_n 2, 1) := by decide +kernel
theorem d3_35 : decode jdk_42_method_149_code 35 = .ok (.iload_n 3, 1) := by decide +kernel
theorem d3_36 : decode jdk_42_method_149_code 36 = .ok (.invokestatic 177, 3) := by decide +kernel
theorem d3_39 : decode jdk_42_method_149_code 39 = .ok (.astore 5, 2) := by decide +kernel
theorem d3_41 : decode jdk_42_method_149_code 41 = .ok (.aload_n 0, 1) := by decide +kernel
theorem d3_42 : decode jdk_42_method_149_code 42 = .ok (.aload 5, 2) := by decide +kernel
theorem d3_44 : decode jdk_42_method_149_code 44 = .ok (.iload_n 3, 1) := by decide +kernel
theorem d3_45 : decode jdk_42_method_149_code 45 = .ok (.invokestatic 47, 3) := by decide +kernel
theorem d3_48 : decode jdk_42_method_149_code 48 = .ok (.putfield 15, 3) := by decide +kernel
theorem d3_51 : decode jdk_42_method_149_code 51 = .ok (.aload_n 0, 1) := by decide +kernel
theorem d3_52 : decode jdk_42_method_149_code 52 = .ok (.aload 5, 2) := by decide +kernel
theorem d3_54 : decode jdk_42_method_149_code 54 = .ok (.putfield 9, 3) := by decide +kernel
theorem d3_57 : decode jdk_42_method_149_code 57 = .ok (.return_, 1) := by decide +kernel
theorem pn_3 : plainName "java/lang/String" = true := by first | (simp [plainName, overriddenIn]; done) | decide +kernel
theorem pd___BI_B : parseMethodDescriptor "([BI)B" = some ⟨[(.array .byte), .int], some .byte⟩ := by decide +kernel
theorem ef_3_1L (m : MethodId) (x0 : Addr) (x1 : Addr) : entryFrame m #[(.ref x0), (.ref x1), (.int 0), (.int 1), .null] 6 = mkF m 0 #[.val (.ref x0), .val (.ref x1), .val (.int 0), .val (.int 1), .val .null, .unset] [] := by first | (simp [entryFrame, mkF, argsToLocals, Value.category]; done) | rfl
def Q3_1L (Z : State) (o0 : Addr) (o1 : Addr) (wcs : Int32) (kc : ClassId) (w0 : Int32) (h0 : Heap) (n0 : Nat) (v : Option Value) (h : Heap) (L : List Loc) : Prop := ∃ (b36_0 : Addr) (k_b36_0 : ClassId), v = none ∧ Fr n0 L ∧ Keep h0 h [o0] ∧ h0.size ≤ b36_0 ∧ Exa Z h o0 "java/lang/String" ∧ Fld Z h o0 "java/lang/String" "value" "[B" (.ref b36_0) ∧ Fld Z h o0 "java/lang/String" "coder" "B" (.int 0) ∧ Arv Z h b36_0 k_b36_0 .byte (1 : Int32) [(.int (g9_1_o2_0 w0))] (.int 0)
set_option maxRecDepth 65536 in
set_option maxHeartbeats 40000000 in
theorem rm3_1L (l : Launch) (Z : State) (a0 : Array Value) (hw : ∀ d ∈ tables_1, d.before a0 Z = true) (ws : List Jvm.Cond) (o0 : Addr) (o1 : Addr) (wcs : Int32) (kc : ClassId) (w0 : Int32) (h0 : Heap) (n0 : Nat) (Z0 : n0 ≤ h0.size) (I0 : Sta Z h0 "java/lang/String" "COMPACT_STRINGS" "Z" (.int wcs)) (I1 : Sta Z h0 "java/lang/StringUTF16" "$assertionsDisabled" "Z" (.int 1)) (I2 : Sta Z h0 "java/lang/StringUTF16" "HI_BYTE_SHIFT" "I" (.int 0)) (I3 : Sta Z h0 "java/lang/StringUTF16" "LO_BYTE_SHIFT" "I" (.int 8)) (I4 : Exa Z h0 o0 "java/lang/String") (I5 : Fld Z h0 o0 "java/lang/String" "value" "[B" .null) (I6 : Fld Z h0 o0 "java/lang/String" "coder" "B" (.int 0)) (I7 : Arv Z h0 o1 kc .char (1 : Int32) [(.int w0)] (.int 0)) (gw_o0 : n0 ≤ o0) (ne_o1_o0 : o1 ≠ o0) (hcs : ¬ (wcs = (0 : Int32))) (hl0 : ¬ ((255 : Int32) < w0)) :
    Met1 l Nm_22 (Jvm.Cond.code Nm_22 jdk_42_method_149_code 6 none) ws (rom 2 1 1 35) #[(.ref o0), (.ref o1), (.int 0), (.int 1), .null] Z h0 (Q3_1L Z o0 o1 wcs kc w0 h0 n0) := by
  refine MetFree.of_bodySF (plainFor_of_name pn_3) hisR ?_
  intro p e s m args below meth c s₁ Bd hml0 hP hK
  obtain ⟨rfl, hZ, hh⟩ := hP
  have hx := Bd.exec
  have hby := Bd.bytes
  have hml : c.maxLocals = 6 := hml0
  have hown : s.vm.findClass "java/lang/String" = some m.cls := findClass_of_methodNamed Bd.named
  have hnm := (name_of_methodNamed Bd.named Bd.method).1
  have X0 : Stand p l e (rom 2 1 1 35) s m _ _ _ _ _ [] 0 0 := Stand.of_body Bd
  have e0 : s₁.heap = h0 := by rw [← hh, Bd.state]; rfl
  have N0 := Fr.nil n0
  have K0 : Keep h0 h0 [o0] := Keep.refl _ _
  have pre0 : Go p e below s₁ _ (mkF m 0 #[.val (.ref o0), .val (.ref o1), .val (.int 0), .val (.int 1), .val .null, .unset] []) _ := fun t k => castTop (ef_3_1L m o0 o1) k
  have pre1 : Go p e below s₁ _ (mkF m 1 #[.val (.ref o0), .val (.ref o1), .val (.int 0), .val (.int 1), .val .null, .unset] [(.ref o0)]) _ := fun t k => pre0 t (by
    refine XS.aloadN X0.here hx rfl (hb hby d3_0) rfl rfl ?_
    exact k)
  obtain ⟨T2, X2, e2, st2⟩ := initO X0 hx hZ hown (wq hw 17 rfl) (wq hw 18 rfl) (wq hw 19 rfl) e0 (g := (mkF m 1 #[.val (.ref o0), .val (.ref o1), .val (.int 0), .val (.int 1), .val .null, .unset] [(.ref o0)])) rfl (by rw [hml]; rfl) rfl (hb hby d3_1) (by decide) (W := 0) (w00 rfl) (by decide)
  have pre3 := Go.thn pre1 st2
  have pre4 : Go p e below T2 _ (mkF m 27 #[.val (.ref o0), .val (.ref o1), .val (.int 0), .val (.int 1), .val .null, .unset] []) _ := fun t k => pre3 t (by
    refine XS.iloadN X2.here hx rfl (hb hby d3_4) rfl ?_
    refine XS.ifYes X2.here hx rfl (pc0 := 5) (pc' := 27) rfl (hb hby d3_5) rfl (by decide) (by decide) (by decide) ?_
    exact k)
  obtain ⟨T5, X5, e5, st5⟩ := getS2 X2 hx hZ hown (host := "") (Or.inl (wq hw 42 rfl)) Via.refl e2 I0 (g := (mkF m 27 #[.val (.ref o0), .val (.ref o1), .val (.int 0), .val (.int 1), .val .null, .unset] [])) rfl (hb hby d3_27)
  have pre6 := Go.thn pre4 st5
  have pre7 : Go p e below T5 _ (mkF m 36 #[.val (.ref o0), .val (.ref o1), .val (.int 0), .val (.int 1), .val .null, .unset] [(.int 1), (.int 0), (.ref o1)]) _ := fun t k => pre6 t (by
    refine XS.ifNo X5.here hx rfl (hb hby d3_30) rfl ((if0 _ _).trans (feq hcs).1) ?_
    refine XS.aloadN X5.here hx rfl (hb hby d3_33) rfl rfl ?_
    refine XS.iloadN X5.here hx rfl (hb hby d3_34) rfl ?_
    refine XS.iloadN X5.here hx rfl (hb hby d3_35) rfl ?_
    exact k)
  obtain ⟨_, _, ⟨T8, L8, k8, n8⟩, -, X8, ⟨Lc8, hQ8, l8, y8, z8⟩, st8⟩ := Jvm.LawKit.callS X5 hx (y := Nm_21) hown (mvT hZ (wq hw 43 rfl)) (mvT hZ (wq hw 44 rfl)) (mvT hZ (wq hw 45 rfl)) (mvT hZ (wq hw 46 rfl)) (by decide) (backOf (W := 0) (rm8_1L l Z a0 hw [] o1 _ w0 h0 n0 Z0 I1 I2 I3 I7 hl0) hZ (wq hw 46 rfl) (wq hw 45 rfl) (by decide) (by decide)) (g := (mkF m 36 #[.val (.ref o0), .val (.ref o1), .val (.int 0), .val (.int 1), .val .null, .unset] [(.int 1), (.int 0), (.ref o1)])) rfl (by rw [hml]; rfl) (argsL := [(.ref o1), (.int 0), (.int 1)]) (rest := []) (lenOf pd___CII__B rfl) rfl (w00 rfl) (hb hby d3_36) (fun _ _ => ⟨rfl, e5, (by decide : 0 + 1 ≤ _), (by decide : 0 + 1 ≤ _)⟩)
  dsimp only [Pt.U, Pt.locs, Pt.cells, Pt.slots] at X8 l8 y8 z8 st8 hQ8
  subst l8 y8 z8
  obtain ⟨b36_0, k_b1_8, rfl, Nq8, Kq8, gz8_b36_0, o8_0⟩ := hQ8
  have N8 := Fr.app N0 Nq8
  have K8 : Keep h0 T8.heap [o0] := K0.trans Kq8 all0
  have Z8 : n0 ≤ T8.heap.size := Nat.le_trans Z0 Kq8.1
  have x9 := own_staK I0 Kq8 all0
  have x10 := own_staK I1 Kq8 all0
  have x11 := own_staK I2 Kq8 all0
  have x12 := own_staK I3 Kq8 all0
  have x13 := I4.keep Kq8
  have x14 := I5.keep Kq8 nin0
  have x15 := I6.keep Kq8 nin0
  have x16 := I7.keep Kq8 nin0
  have gg8_b36_0 : n0 ≤ b36_0 := Nat.le_trans Z0 gz8_b36_0
  have sz8_b36_0 : h0.size ≤ b36_0 := Nat.le_trans K0.1 gz8_b36_0
  have ne8_o0_b36_0 : o0 ≠ b36_0 := Nat.ne_of_lt (Nat.lt_of_lt_of_le I4.lt gz8_b36_0)
  have ne8_o1_b36_0 : o1 ≠ b36_0 := Nat.ne_of_lt (Nat.lt_of_lt_of_le I7.lt gz8_b36_0)
  have pre17 := Go.thn pre7 st8
  have pre18 : Go p e below T8 _ (mkF m 45 #[.val (.ref o0), .val (.ref o1), .val (.int 0), .val (.int 1), .val .null, .val (.ref b36_0)] [(.int 1), (.ref b36_0), (.ref o0)]) _ := fun t k => pre17 t (by
    refine XS.astore X8.here hx rfl (hb hby d3_39) rfl rfl (l' := #[.val (.ref o0), .val (.ref o1), .val (.int 0), .val (.int 1), .val .null, .val (.ref b36_0)]) rfl ?_
    refine XS.aloadN X8.here hx rfl (hb hby d3_41) rfl rfl ?_
    refine XS.aload X8.here hx rfl (hb hby d3_42) rfl rfl ?_
    refine XS.iloadN X8.here hx rfl (hb hby d3_44) rfl ?_
    exact k)
  obtain ⟨_, _, ⟨T19, L19, k19, n19⟩, -, X19, ⟨Lc19, hQ19, l19, y19, z19⟩, st19⟩ := Jvm.LawKit.callS X8 hx (y := Nm_15) hown (mvT hZ (wq hw 50 rfl)) (mvT hZ (wq hw 51 rfl)) (mvT hZ (wq hw 45 rfl)) (mvT hZ (wq hw 52 rfl)) (by decide) (backOf (W := 1) (rm10 l Z a0 hw [] b36_0 (1 : Int32) _ (1 : Int32) [(g9_1_o2_0 w0)] T8.heap n0 Z8 o8_0) hZ (wq hw 52 rfl) (wq hw 45 rfl) (by decide) (by decide)) (g := (mkF m 45 #[.val (.ref o0), .val (.ref o1), .val (.int 0), .val (.int 1), .val .null, .val (.ref b36_0)] [(.int 1), (.ref b36_0), (.ref o0)])) rfl (by rw [hml]; rfl) (argsL := [(.ref b36_0), (.int 1)]) (rest := [(.ref o0)]) (lenOf pd___BI_B rfl) rfl (w00 rfl) (hb hby d3_45) (fun _ _ => ⟨rfl, rfl, (by decide : 1 + 0 ≤ _), (by decide : 1 + 0 ≤ _)⟩)
  dsimp only [Pt.U, Pt.locs, Pt.cells, Pt.slots] at X19 l19 y19 z19 st19 hQ19
  subst l19 y19 z19
  obtain ⟨rfl, Nq19, e19⟩ := hQ19
  have N19 := Fr.app N8 Nq19
  have pre20 := Go.thn pre18 st19
  have pre21 : Go p e below T19 _ (mkF m 48 #[.val (.ref o0), .val (.ref o1), .val (.int 0), .val (.int 1), .val .null, .val (.ref b36_0)] [(.int 0), (.ref o0)]) _ := fun t k => pre20 t (by
    show Steps p.tables e below (T19.setTop (mkF m 48 #[.val (.ref o0), .val (.ref o1), .val (.int 0), .val (.int 1), .val .null, .val (.ref b36_0)] [(.int (f10 (1 : Int32) (1 : Int32))), (.ref o0)])) _
    rw [show f10 (1 : Int32) (1 : Int32) = (0 : Int32) from rfl]
    exact k)
  obtain ⟨T22, h22, X22, e22, W22, st22⟩ := putFN X19 hx hZ hown (wq hw 27 rfl) Via.refl e19 x15 x13 (Or.inr ⟨(wq hw 23 rfl), rfl, hnm⟩) (wq hw 7 rfl) (ty := .byte) (v' := (.int 0)) (by decide) rfl (by decide) (g := (mkF m 48 #[.val (.ref o0), .val (.ref o1), .val (.int 0), .val (.int 1), .val .null, .val (.ref b36_0)] [(.int 0), (.ref o0)])) rfl rfl (hb hby d3_48)
  have N22 := Fr.snoc X22 N19 gw_o0
  have K22 : Keep h0 h22 [o0] := K8.wr W22 (Or.inl (List.mem_of_getElem? (i := 0) rfl))
  have Z22 : n0 ≤ h22.size := Nat.le_trans Z8 (Keep.of_wr W22).1
  have x23 := x9.wr W22
  have x24 := x10.wr W22
  have x25 := x11.wr W22
  have x26 := x12.wr W22
  have x27 := x13.wr W22
  have x28 := x14.other W22 (Or.inr (slot_ne (Or.inr (wq hw 22 rfl)) (Or.inr (wq hw 23 rfl)) (by decide) (t := (.array .byte)) (t' := .byte) (by decide) (by decide)))
  have x29 := x15.same W22
  have x30 := x16.other W22 ne_o1_o0
  have x31 := o8_0.other W22 (Ne.symm ne8_o0_b36_0)
  have pre32 := Go.thn pre21 st22
  have pre33 : Go p e below T22 _ (mkF m 54 #[.val (.ref o0), .val (.ref o1), .val (.int 0), .val (.int 1), .val .null, .val (.ref b36_0)] [(.ref b36_0), (.ref o0)]) _ := fun t k => pre32 t (by
    refine XS.aloadN X22.here hx rfl (hb hby d3_51) rfl rfl ?_
    refine XS.aload X22.here hx rfl (hb hby d3_52) rfl rfl ?_
    exact k)
  obtain ⟨T34, h34, X34, e34, W34, st34⟩ := putF X22 hx hZ hown (host := "") (Or.inl (wq hw 26 rfl)) Via.refl e22 x28 x27 (Or.inr ⟨(wq hw 22 rfl), rfl, hnm⟩) (wq hw 7 rfl) (ty := (.array .byte)) (by decide) rfl rfl (g := (mkF m 54 #[.val (.ref o0), .val (.ref o1), .val (.int 0), .val (.int 1), .val .null, .val (.ref b36_0)] [(.ref b36_0), (.ref o0)])) rfl rfl (hb hby d3_54)
  have N34 := Fr.snoc X34 N22 gw_o0
  have K34 : Keep h0 h34 [o0] := K22.wr W34 (Or.inl (List.mem_of_getElem? (i := 0) rfl))
  have Z34 : n0 ≤ h34.size := Nat.le_trans Z22 (Keep.of_wr W34).1
  have x35 := x23.wr W34
  have x36 := x24.wr W34
  have x37 := x25.wr W34
  have x38 := x26.wr W34
  have x39 := x27.wr W34
  have x40 := x28.same W34
  have x41 := x29.other W34 (Or.inr (slot_ne (Or.inr (wq hw 23 rfl)) (Or.inr (wq hw 22 rfl)) (by decide) (t := .byte) (t' := (.array .byte)) (by decide) (by decide)))
  have x42 := x30.other W34 ne_o1_o0
  have x43 := x31.other W34 (Ne.symm ne8_o0_b36_0)
  have pre44 := Go.thn pre33 st34
  obtain ⟨fs, hr, hrun, hended, hW, hsame⟩ := X34.leave (v := none) (fun _ => rfl)
  refine ⟨_, _, ?_, hrun, hended, _, _, rfl, ?_, ⟨_, rfl⟩, hW, hsame.mono (by decide) (by decide)⟩
  · exact pre44 _ (X34.returnOut hx Bd.returns (hb hby d3_57) hr)
  · show Q3_1L Z o0 o1 wcs kc w0 h0 n0 _ T34.heap _
    rw [e34]
    exact ⟨b36_0, _, rfl, N34, K34, sz8_b36_0, x39, x40, x41, x43⟩
theorem d2_0 : decode jdk_42_method_3_code 0 = .ok (.aload_n 0, 1) := by decide +kernel
theorem d2_1 : decode jdk_42_method_3_code 1 = .ok (.aload_n 1, 1) := by decide +kernel
theorem d2_2 : decode jdk_42_method_3_code 2 = .ok (.iconst 0, 1) := by decide +kernel
theorem d2_3 : decode jdk_42_method_3_code 3 = .ok (.aload_n 1, 1) := by decide +kernel
theorem d2_4 : decode jdk_42_method_3_code 4 = .ok (.arraylength, 1) := by decide +kernel
theorem d2_5 : decode jdk_42_method_3_code 5 = .ok (.aconst_null, 1) := by decide +kernel
theorem d2_6 : decode jdk_42_method_3_code 6 = .ok (.invokespecial 27, 3) := by decide +kernel
theorem d2_9 : decode jdk_42_method_3_code 9 = .ok (.return_, 1) := by decide +kernel
theorem pn_2 : plainName "java/lang/String" = true := by first | (simp [plainName, overriddenIn]; done) | decide +kernel
theorem pd___CIILjava_lang_Void__V : parseMethodDescriptor "([CIILjava/lang/Void;)V" = some ⟨[(.array .char), .int, .int, (.object "java/lang/Void")], none⟩ := by decide +kernel
theorem ef_2_1L (m : MethodId) (x0 : Addr) (x1 : Addr) : entryFrame m #[(.ref x0), (.ref x1)] 2 = mkF m 0 #[.val (.ref x0), .val (.ref x1)] [] := by first | (simp [entryFrame, mkF, argsToLocals, Value.category]; done) | rfl
def Q2_1L (Z : State) (o0 : Addr) (o1 : Addr) (wcs : Int32) (kc : ClassId) (w0 : Int32) (h0 : Heap) (n0 : Nat) (v : Option Value) (h : Heap) (L : List Loc) : Prop := ∃ (b6_0 : Addr) (k_b6_0 : ClassId), v = none ∧ Fr n0 L ∧ Keep h0 h [o0] ∧ h0.size ≤ b6_0 ∧ Exa Z h o0 "java/lang/String" ∧ Fld Z h o0 "java/lang/String" "value" "[B" (.ref b6_0) ∧ Fld Z h o0 "java/lang/String" "coder" "B" (.int 0) ∧ Arv Z h b6_0 k_b6_0 .byte (1 : Int32) [(.int (g9_1_o2_0 w0))] (.int 0)
set_option maxRecDepth 65536 in
set_option maxHeartbeats 40000000 in
theorem rm2_1L (l : Launch) (Z : State) (a0 : Array Value) (hw : ∀ d ∈ tables_1, d.before a0 Z = true) (ws : List Jvm.Cond) (o0 : Addr) (o1 : Addr) (wcs : Int32) (kc : ClassId) (w0 : Int32) (h0 : Heap) (n0 : Nat) (Z0 : n0 ≤ h0.size) (I0 : Sta Z h0 "java/lang/String" "COMPACT_STRINGS" "Z" (.int wcs)) (I1 : Sta Z h0 "java/lang/StringUTF16" "$assertionsDisabled" "Z" (.int 1)) (I2 : Sta Z h0 "java/lang/StringUTF16" "HI_BYTE_SHIFT" "I" (.int 0)) (I3 : Sta Z h0 "java/lang/StringUTF16" "LO_BYTE_SHIFT" "I" (.int 8)) (I4 : Exa Z h0 o0 "java/lang/String") (I5 : Fld Z h0 o0 "java/lang/String" "value" "[B" .null) (I6 : Fld Z h0 o0 "java/lang/String" "coder" "B" (.int 0)) (I7 : Arv Z h0 o1 kc .char (1 : Int32) [(.int w0)] (.int 0)) (gw_o0 : n0 ≤ o0) (ne_o1_o0 : o1 ≠ o0) (hcs : ¬ (wcs = (0 : Int32))) (hl0 : ¬ ((255 : Int32) < w0)) :
    Met1 l Nm_23 (Jvm.Cond.code Nm_23 jdk_42_method_3_code 2 none) ws (rom 3 1 1 52) #[(.ref o0), (.ref o1)] Z h0 (Q2_1L Z o0 o1 wcs kc w0 h0 n0) := by
  refine MetFree.of_bodySF (plainFor_of_name pn_2) hisR ?_
  intro p e s m args below meth c s₁ Bd hml0 hP hK
  obtain ⟨rfl, hZ, hh⟩ := hP
  have hx := Bd.exec
  have hby := Bd.bytes
  have hml : c.maxLocals = 2 := hml0
  have hown : s.vm.findClass "java/lang/String" = some m.cls := findClass_of_methodNamed Bd.named
  have X0 : Stand p l e (rom 3 1 1 52) s m _ _ _ _ _ [] 0 0 := Stand.of_body Bd
  have e0 : s₁.heap = h0 := by rw [← hh, Bd.state]; rfl
  have N0 := Fr.nil n0
  have K0 : Keep h0 h0 [o0] := Keep.refl _ _
  have pre0 : Go p e below s₁ _ (mkF m 0 #[.val (.ref o0), .val (.ref o1)] []) _ := fun t k => castTop (ef_2_1L m o0 o1) k
  have pre1 : Go p e below s₁ _ (mkF m 4 #[.val (.ref o0), .val (.ref o1)] [(.ref o1), (.int 0), (.ref o1), (.ref o0)]) _ := fun t k => pre0 t (by
    refine XS.aloadN X0.here hx rfl (hb hby d2_0) rfl rfl ?_
    refine XS.aloadN X0.here hx rfl (hb hby d2_1) rfl rfl ?_
    refine XS.iconst X0.here hx rfl (hb hby d2_2) ?_
    refine XS.aloadN X0.here hx rfl (hb hby d2_3) rfl rfl ?_
    exact k)
  obtain ⟨cl2, Ar2, -, Sz2, Mn2, Hs2, -⟩ := id I7
  have pre3 : Go p e below s₁ _ (mkF m 5 #[.val (.ref o0), .val (.ref o1)] [(.int 1), (.int 0), (.ref o1), (.ref o0)]) _ := fun t k => pre1 t (by
    show Steps p.tables e below (s₁.setTop (mkF m 4 #[.val (.ref o0), .val (.ref o1)] [(.ref o1), (.int 0), (.ref o1), (.ref o0)])) _
    refine X0.arraylength hx (by rw [e0]; exact Ar2.1) (State.isArrayOf_alike hZ.alike Ar2.2.1) (g := (mkF m 4 #[.val (.ref o0), .val (.ref o1)] [(.ref o1), (.int 0), (.ref o1), (.ref o0)])) rfl rfl (hb hby d2_4) _ ?_
    rw [len_of Sz2 Mn2]
    exact k)
  have pre4 : Go p e below s₁ _ (mkF m 6 #[.val (.ref o0), .val (.ref o1)] [.null, (.int 1), (.int 0), (.ref o1), (.ref o0)]) _ := fun t k => pre3 t (by
    refine XS.aconstNull X0.here hx rfl (hb hby d2_5) ?_
    exact k)
  obtain ⟨_, _, ⟨T5, L5, k5, n5⟩, -, X5, ⟨Lc5, hQ5, l5, y5, z5⟩, st5⟩ := X0.specialBack hx (y := Nm_22) rfl hown (mvT hZ (wq hw 13 rfl)) (mvT hZ (wq hw 14 rfl)) (mvT hZ (wq hw 16 rfl)) (by decide) (backOf (W := 0) (rm3_1L l Z a0 hw [] o0 o1 wcs _ w0 h0 n0 Z0 I0 I1 I2 I3 I4 I5 I6 I7 gw_o0 ne_o1_o0 hcs hl0) hZ (wq hw 16 rfl) (wq hw 8 rfl) (by decide) (by decide)) (g := (mkF m 6 #[.val (.ref o0), .val (.ref o1)] [.null, (.int 1), (.int 0), (.ref o1), (.ref o0)])) rfl (by rw [hml]; rfl) (Steps.refl _) (a := o0) (argsL := [(.ref o1), (.int 0), (.int 1), .null]) (rest := []) (lenOf pd___CIILjava_lang_Void__V rfl) rfl (w00 rfl) (hb hby d2_6) (fun _ _ => ⟨rfl, e0, (by decide : 0 + 1 ≤ _), (by decide : 0 + 1 ≤ _)⟩)
  dsimp only [Pt.U, Pt.locs, Pt.cells, Pt.slots] at X5 l5 y5 z5 st5 hQ5
  subst l5 y5 z5
  obtain ⟨b6_0, k_b36_0_5, rfl, Nq5, Kq5, gz5_b6_0, o5_0, o5_1, o5_2, o5_3⟩ := hQ5
  have N5 := Fr.app N0 Nq5
  have K5 : Keep h0 T5.heap [o0] := K0.trans Kq5 (allS (Or.inl (List.mem_of_getElem? (i := 0) rfl)) all0)
  have Z5 : n0 ≤ T5.heap.size := Nat.le_trans Z0 Kq5.1
  have x6 := own_staK I0 Kq5 (allS (own_plE I4) all0)
  have x7 := own_staK I1 Kq5 (allS (own_plE I4) all0)
  have x8 := own_staK I2 Kq5 (allS (own_plE I4) all0)
  have x9 := own_staK I3 Kq5 (allS (own_plE I4) all0)
  have x10 := I4.keep Kq5
  have x11 := I7.keep Kq5 (ninS ne_o1_o0 nin0)
  have gg5_b6_0 : n0 ≤ b6_0 := Nat.le_trans Z0 gz5_b6_0
  have sz5_b6_0 : h0.size ≤ b6_0 := Nat.le_trans K0.1 gz5_b6_0
  have ne5_o0_b6_0 : o0 ≠ b6_0 := Nat.ne_of_lt (Nat.lt_of_lt_of_le I4.lt gz5_b6_0)
  have ne5_o1_b6_0 : o1 ≠ b6_0 := Nat.ne_of_lt (Nat.lt_of_lt_of_le I7.lt gz5_b6_0)
  have pre12 := Go.trn pre4 st5
  obtain ⟨fs, hr, hrun, hended, hW, hsame⟩ := X5.leave (v := none) (fun _ => rfl)
  refine ⟨_, _, ?_, hrun, hended, _, _, rfl, ?_, ⟨_, rfl⟩, hW, hsame.mono (by decide) (by decide)⟩
  · exact pre12 _ (X5.returnOut hx Bd.returns (hb hby d2_9) hr)
  · show Q2_1L Z o0 o1 wcs kc w0 h0 n0 _ T5.heap _
    skip
    exact ⟨b6_0, _, rfl, N5, K5, sz5_b6_0, o5_0, o5_1, o5_2, o5_3⟩
def Q3_1U (Z : State) (o0 : Addr) (o1 : Addr) (wcs : Int32) (kc : ClassId) (w0 : Int32) (h0 : Heap) (n0 : Nat) (v : Option Value) (h : Heap) (L : List Loc) : Prop := ∃ (b36_0 : Addr) (k_b36_0 : ClassId), v = none ∧ Fr n0 L ∧ Keep h0 h [o0] ∧ h0.size ≤ b36_0 ∧ Exa Z h o0 "java/lang/String" ∧ Fld Z h o0 "java/lang/String" "value" "[B" (.ref b36_0) ∧ Fld Z h o0 "java/lang/String" "coder" "B" (.int 1) ∧ Arv Z h b36_0 k_b36_0 .byte (2 : Int32) [(.int (own_b0 w0)), (.int (own_b8 w0))] (.int 0)
set_option maxRecDepth 65536 in
set_option maxHeartbeats 40000000 in
theorem rm3_1U (l : Launch) (Z : State) (a0 : Array Value) (hw : ∀ d ∈ tables_1, d.before a0 Z = true) (ws : List Jvm.Cond) (o0 : Addr) (o1 : Addr) (wcs : Int32) (kc : ClassId) (w0 : Int32) (h0 : Heap) (n0 : Nat) (Z0 : n0 ≤ h0.size) (I0 : Sta Z h0 "java/lang/String" "COMPACT_STRINGS" "Z" (.int wcs)) (I1 : Sta Z h0 "java/lang/StringUTF16" "$assertionsDisabled" "Z" (.int 1)) (I2 : Sta Z h0 "java/lang/StringUTF16" "HI_BYTE_SHIFT" "I" (.int 0)) (I3 : Sta Z h0 "java/lang/StringUTF16" "LO_BYTE_SHIFT" "I" (.int 8)) (I4 : Exa Z h0 o0 "java/lang/String") (I5 : Fld Z h0 o0 "java/lang/String" "value" "[B" .null) (I6 : Fld Z h0 o0 "java/lang/String" "coder" "B" (.int 0)) (I7 : Arv Z h0 o1 kc .char (1 : Int32) [(.int w0)] (.int 0)) (gw_o0 : n0 ≤ o0) (ne_o1_o0 : o1 ≠ o0) (hcs : ¬ (wcs = (0 : Int32))) (r0 : own_chr w0) (hU : (255 : Int32) < w0) :
    Met1 l Nm_22 (Jvm.Cond.code Nm_22 jdk_42_method_149_code 6 none) ws (rom 4 2 3 57) #[(.ref o0), (.ref o1), (.int 0), (.int 1), .null] Z h0 (Q3_1U Z o0 o1 wcs kc w0 h0 n0) := by
  refine MetFree.of_bodySF (plainFor_of_name pn_3) hisR ?_
  intro p e s m args below meth c s₁ Bd hml0 hP hK
  obtain ⟨rfl, hZ, hh⟩ := hP
  have hx := Bd.exec
  have hby := Bd.bytes
  have hml : c.maxLocals = 6 := hml0
  have hown : s.vm.findClass "java/lang/String" = some m.cls := findClass_of_methodNamed Bd.named
  have hnm := (name_of_methodNamed Bd.named Bd.method).1
  have X0 : Stand p l e (rom 4 2 3 57) s m _ _ _ _ _ [] 0 0 := Stand.of_body Bd
  have e0 : s₁.heap = h0 := by rw [← hh, Bd.state]; rfl
  have N0 := Fr.nil n0
  have K0 : Keep h0 h0 [o0] := Keep.refl _ _
  have pre0 : Go p e below s₁ _ (mkF m 0 #[.val (.ref o0), .val (.ref o1), .val (.int 0), .val (.int 1), .val .null, .unset] []) _ := fun t k => castTop (ef_3_1L m o0 o1) k
  have pre1 : Go p e below s₁ _ (mkF m 1 #[.val (.ref o0), .val (.ref o1), .val (.int 0), .val (.int 1), .val .null, .unset] [(.ref o0)]) _ := fun t k => pre0 t (by
    refine XS.aloadN X0.here hx rfl (hb hby d3_0) rfl rfl ?_
    exact k)
  obtain ⟨T2, X2, e2, st2⟩ := initO X0 hx hZ hown (wq hw 17 rfl) (wq hw 18 rfl) (wq hw 19 rfl) e0 (g := (mkF m 1 #[.val (.ref o0), .val (.ref o1), .val (.int 0), .val (.int 1), .val .null, .unset] [(.ref o0)])) rfl (by rw [hml]; rfl) rfl (hb hby d3_1) (by decide) (W := 0) (w00 rfl) (by decide)
  have pre3 := Go.thn pre1 st2
  have pre4 : Go p e below T2 _ (mkF m 27 #[.val (.ref o0), .val (.ref o1), .val (.int 0), .val (.int 1), .val .null, .unset] []) _ := fun t k => pre3 t (by
    refine XS.iloadN X2.here hx rfl (hb hby d3_4) rfl ?_
    refine XS.ifYes X2.here hx rfl (pc0 := 5) (pc' := 27) rfl (hb hby d3_5) rfl (by decide) (by decide) (by decide) ?_
    exact k)
  obtain ⟨T5, X5, e5, st5⟩ := getS2 X2 hx hZ hown (host := "") (Or.inl (wq hw 42 rfl)) Via.refl e2 I0 (g := (mkF m 27 #[.val (.ref o0), .val (.ref o1), .val (.int 0), .val (.int 1), .val .null, .unset] [])) rfl (hb hby d3_27)
  have pre6 := Go.thn pre4 st5
  have pre7 : Go p e below T5 _ (mkF m 36 #[.val (.ref o0), .val (.ref o1), .val (.int 0), .val (.int 1), .val .null, .unset] [(.int 1), (.int 0), (.ref o1)]) _ := fun t k => pre6 t (by
    refine XS.ifNo X5.here hx rfl (hb hby d3_30) rfl ((if0 _ _).trans (feq hcs).1) ?_
    refine XS.aloadN X5.here hx rfl (hb hby d3_33) rfl rfl ?_
    refine XS.iloadN X5.here hx rfl (hb hby d3_34) rfl ?_
    refine XS.iloadN X5.here hx rfl (hb hby d3_35) rfl ?_
    exact k)
  obtain ⟨_, _, ⟨T8, L8, k8, n8⟩, -, X8, ⟨Lc8, hQ8, l8, y8, z8⟩, st8⟩ := Jvm.LawKit.callS X5 hx (y := Nm_21) hown (mvT hZ (wq hw 43 rfl)) (mvT hZ (wq hw 44 rfl)) (mvT hZ (wq hw 45 rfl)) (mvT hZ (wq hw 46 rfl)) (by decide) (backOf (W := 0) (rm8_1U l Z a0 hw [] o1 _ w0 h0 n0 Z0 I1 I2 I3 I7 r0 hU) hZ (wq hw 46 rfl) (wq hw 45 rfl) (by decide) (by decide)) (g := (mkF m 36 #[.val (.ref o0), .val (.ref o1), .val (.int 0), .val (.int 1), .val .null, .unset] [(.int 1), (.int 0), (.ref o1)])) rfl (by rw [hml]; rfl) (argsL := [(.ref o1), (.int 0), (.int 1)]) (rest := []) (lenOf pd___CII__B rfl) rfl (w00 rfl) (hb hby d3_36) (fun _ _ => ⟨rfl, e5, (by decide : 0 + 2 ≤ _), (by decide : 0 + 3 ≤ _)⟩)
  dsimp only [Pt.U, Pt.locs, Pt.cells, Pt.slots] at X8 l8 y8 z8 st8 hQ8
  subst l8 y8 z8
  obtain ⟨b36_0, k_b23_0_8, rfl, Nq8, Kq8, gz8_b36_0, o8_0⟩ := hQ8
  have N8 := Fr.app N0 Nq8
  have K8 : Keep h0 T8.heap [o0] := K0.trans Kq8 all0
  have Z8 : n0 ≤ T8.heap.size := Nat.le_trans Z0 Kq8.1
  have x9 := own_staK I0 Kq8 all0
  have x10 := own_staK I1 Kq8 all0
  have x11 := own_staK I2 Kq8 all0
  have x12 := own_staK I3 Kq8 all0
  have x13 := I4.keep Kq8
  have x14 := I5.keep Kq8 nin0
  have x15 := I6.keep Kq8 nin0
  have x16 := I7.keep Kq8 nin0
  have gg8_b36_0 : n0 ≤ b36_0 := Nat.le_trans Z0 gz8_b36_0
  have sz8_b36_0 : h0.size ≤ b36_0 := Nat.le_trans K0.1 gz8_b36_0
  have ne8_o0_b36_0 : o0 ≠ b36_0 := Nat.ne_of_lt (Nat.lt_of_lt_of_le I4.lt gz8_b36_0)
  have ne8_o1_b36_0 : o1 ≠ b36_0 := Nat.ne_of_lt (Nat.lt_of_lt_of_le I7.lt gz8_b36_0)
  have pre17 := Go.thn pre7 st8
  have pre18 : Go p e below T8 _ (mkF m 45 #[.val (.ref o0), .val (.ref o1), .val (.int 0), .val (.int 1), .val .null, .val (.ref b36_0)] [(.int 1), (.ref b36_0), (.ref o0)]) _ := fun t k => pre17 t (by
    refine XS.astore X8.here hx rfl (hb hby d3_39) rfl rfl (l' := #[.val (.ref o0), .val (.ref o1), .val (.int 0), .val (.int 1), .val .null, .val (.ref b36_0)]) rfl ?_
    refine XS.aloadN X8.here hx rfl (hb hby d3_41) rfl rfl ?_
    refine XS.aload X8.here hx rfl (hb hby d3_42) rfl rfl ?_
    refine XS.iloadN X8.here hx rfl (hb hby d3_44) rfl ?_
    exact k)
  obtain ⟨_, _, ⟨T19, L19, k19, n19⟩, -, X19, ⟨Lc19, hQ19, l19, y19, z19⟩, st19⟩ := Jvm.LawKit.callS X8 hx (y := Nm_15) hown (mvT hZ (wq hw 50 rfl)) (mvT hZ (wq hw 51 rfl)) (mvT hZ (wq hw 45 rfl)) (mvT hZ (wq hw 52 rfl)) (by decide) (backOf (W := 1) (rm10 l Z a0 hw [] b36_0 (1 : Int32) _ (2 : Int32) [(own_b0 w0), (own_b8 w0)] T8.heap n0 Z8 o8_0) hZ (wq hw 52 rfl) (wq hw 45 rfl) (by decide) (by decide)) (g := (mkF m 45 #[.val (.ref o0), .val (.ref o1), .val (.int 0), .val (.int 1), .val .null, .val (.ref b36_0)] [(.int 1), (.ref b36_0), (.ref o0)])) rfl (by rw [hml]; rfl) (argsL := [(.ref b36_0), (.int 1)]) (rest := [(.ref o0)]) (lenOf pd___BI_B rfl) rfl (w00 rfl) (hb hby d3_45) (fun _ _ => ⟨rfl, rfl, (by decide : 2 + 0 ≤ _), (by decide : 3 + 0 ≤ _)⟩)
  dsimp only [Pt.U, Pt.locs, Pt.cells, Pt.slots] at X19 l19 y19 z19 st19 hQ19
  subst l19 y19 z19
  obtain ⟨rfl, Nq19, e19⟩ := hQ19
  have N19 := Fr.app N8 Nq19
  have pre20 := Go.thn pre18 st19
  have pre21 : Go p e below T19 _ (mkF m 48 #[.val (.ref o0), .val (.ref o1), .val (.int 0), .val (.int 1), .val .null, .val (.ref b36_0)] [(.int 1), (.ref o0)]) _ := fun t k => pre20 t (by
    show Steps p.tables e below (T19.setTop (mkF m 48 #[.val (.ref o0), .val (.ref o1), .val (.int 0), .val (.int 1), .val .null, .val (.ref b36_0)] [(.int (f10 (1 : Int32) (2 : Int32))), (.ref o0)])) _
    rw [show f10 (1 : Int32) (2 : Int32) = (1 : Int32) from rfl]
    exact k)
  obtain ⟨T22, h22, X22, e22, W22, st22⟩ := putFN X19 hx hZ hown (wq hw 27 rfl) Via.refl e19 x15 x13 (Or.inr ⟨(wq hw 23 rfl), rfl, hnm⟩) (wq hw 7 rfl) (ty := .byte) (v' := (.int 1)) (by decide) rfl (by decide) (g := (mkF m 48 #[.val (.ref o0), .val (.ref o1), .val (.int 0), .val (.int 1), .val .null, .val (.ref b36_0)] [(.int 1), (.ref o0)])) rfl rfl (hb hby d3_48)
  have N22 := Fr.snoc X22 N19 gw_o0
  have K22 : Keep h0 h22 [o0] := K8.wr W22 (Or.inl (List.mem_of_getElem? (i := 0) rfl))
  have Z22 : n0 ≤ h22.size := Nat.le_trans Z8 (Keep.of_wr W22).1
  have x23 := x9.wr W22
  have x24 := x10.wr W22
  have x25 := x11.wr W22
  have x26 := x12.wr W22
  have x27 := x13.wr W22
  have x28 := x14.other W22 (Or.inr (slot_ne (Or.inr (wq hw 22 rfl)) (Or.inr (wq hw 23 rfl)) (by decide) (t := (.array .byte)) (t' := .byte) (by decide) (by decide)))
  have x29 := x15.same W22
  have x30 := x16.other W22 ne_o1_o0
  have x31 := o8_0.other W22 (Ne.symm ne8_o0_b36_0)
  have pre32 := Go.thn pre21 st22
  have pre33 : Go p e below T22 _ (mkF m 54 #[.val (.ref o0), .val (.ref o1), .val (.int 0), .val (.int 1), .val .null, .val (.ref b36_0)] [(.ref b36_0), (.ref o0)]) _ := fun t k => pre32 t (by
    refine XS.aloadN X22.here hx rfl (hb hby d3_51) rfl rfl ?_
    refine XS.aload X22.here hx rfl (hb hby d3_52) rfl rfl ?_
    exact k)
  obtain ⟨T34, h34, X34, e34, W34, st34⟩ := putF X22 hx hZ hown (host := "") (Or.inl (wq hw 26 rfl)) Via.refl e22 x28 x27 (Or.inr ⟨(wq hw 22 rfl), rfl, hnm⟩) (wq hw 7 rfl) (ty := (.array .byte)) (by decide) rfl rfl (g := (mkF m 54 #[.val (.ref o0), .val (.ref o1), .val (.int 0), .val (.int 1), .val .null, .val (.ref b36_0)] [(.ref b36_0), (.ref o0)])) rfl rfl (hb hby d3_54)
  have N34 := Fr.snoc X34 N22 gw_o0
  have K34 : Keep h0 h34 [o0] := K22.wr W34 (Or.inl (List.mem_of_getElem? (i := 0) rfl))
  have Z34 : n0 ≤ h34.size := Nat.le_trans Z22 (Keep.of_wr W34).1
  have x35 := x23.wr W34
  have x36 := x24.wr W34
  have x37 := x25.wr W34
  have x38 := x26.wr W34
  have x39 := x27.wr W34
  have x40 := x28.same W34
  have x41 := x29.other W34 (Or.inr (slot_ne (Or.inr (wq hw 23 rfl)) (Or.inr (wq hw 22 rfl)) (by decide) (t := .byte) (t' := (.array .byte)) (by decide) (by decide)))
  have x42 := x30.other W34 ne_o1_o0
  have x43 := x31.other W34 (Ne.symm ne8_o0_b36_0)
  have pre44 := Go.thn pre33 st34
  obtain ⟨fs, hr, hrun, hended, hW, hsame⟩ := X34.leave (v := none) (fun _ => rfl)
  refine ⟨_, _, ?_, hrun, hended, _, _, rfl, ?_, ⟨_, rfl⟩, hW, hsame.mono (by decide) (by decide)⟩
  · exact pre44 _ (X34.returnOut hx Bd.returns (hb hby d3_57) hr)
  · show Q3_1U Z o0 o1 wcs kc w0 h0 n0 _ T34.heap _
    rw [e34]
    exact ⟨b36_0, _, rfl, N34, K34, sz8_b36_0, x39, x40, x41, x43⟩
def Q2_1U (Z : State) (o0 : Addr) (o1 : Addr) (wcs : Int32) (kc : ClassId) (w0 : Int32) (h0 : Heap) (n0 : Nat) (v : Option Value) (h : Heap) (L : List Loc) : Prop := ∃ (b6_0 : Addr) (k_b6_0 : ClassId), v = none ∧ Fr n0 L ∧ Keep h0 h [o0] ∧ h0.size ≤ b6_0 ∧ Exa Z h o0 "java/lang/String" ∧ Fld Z h o0 "java/lang/String" "value" "[B" (.ref b6_0) ∧ Fld Z h o0 "java/lang/String" "coder" "B" (.int 1) ∧ Arv Z h b6_0 k_b6_0 .byte (2 : Int32) [(.int (own_b0 w0)), (.int (own_b8 w0))] (.int 0)
set_option maxRecDepth 65536 in
set_option maxHeartbeats 40000000 in
theorem rm2_1U (l : Launch) (Z : State) (a0 : Array Value) (hw : ∀ d ∈ tables_1, d.before a0 Z = true) (ws : List Jvm.Cond) (o0 : Addr) (o1 : Addr) (wcs : Int32) (kc : ClassId) (w0 : Int32) (h0 : Heap) (n0 : Nat) (Z0 : n0 ≤ h0.size) (I0 : Sta Z h0 "java/lang/String" "COMPACT_STRINGS" "Z" (.int wcs)) (I1 : Sta Z h0 "java/lang/StringUTF16" "$assertionsDisabled" "Z" (.int 1)) (I2 : Sta Z h0 "java/lang/StringUTF16" "HI_BYTE_SHIFT" "I" (.int 0)) (I3 : Sta Z h0 "java/lang/StringUTF16" "LO_BYTE_SHIFT" "I" (.int 8)) (I4 : Exa Z h0 o0 "java/lang/String") (I5 : Fld Z h0 o0 "java/lang/String" "value" "[B" .null) (I6 : Fld Z h0 o0 "java/lang/String" "coder" "B" (.int 0)) (I7 : Arv Z h0 o1 kc .char (1 : Int32) [(.int w0)] (.int 0)) (gw_o0 : n0 ≤ o0) (ne_o1_o0 : o1 ≠ o0) (hcs : ¬ (wcs = (0 : Int32))) (r0 : own_chr w0) (hU : (255 : Int32) < w0) :
    Met1 l Nm_23 (Jvm.Cond.code Nm_23 jdk_42_method_3_code 2 none) ws (rom 5 2 3 74) #[(.ref o0), (.ref o1)] Z h0 (Q2_1U Z o0 o1 wcs kc w0 h0 n0) := by
  refine MetFree.of_bodySF (plainFor_of_name pn_2) hisR ?_
  intro p e s m args below meth c s₁ Bd hml0 hP hK
  obtain ⟨rfl, hZ, hh⟩ := hP
  have hx := Bd.exec
  have hby := Bd.bytes
  have hml : c.maxLocals = 2 := hml0
  have hown : s.vm.findClass "java/lang/String" = some m.cls := findClass_of_methodNamed Bd.named
  have X0 : Stand p l e (rom 5 2 3 74) s m _ _ _ _ _ [] 0 0 := Stand.of_body Bd
  have e0 : s₁.heap = h0 := by rw [← hh, Bd.state]; rfl
  have N0 := Fr.nil n0
  have K0 : Keep h0 h0 [o0] := Keep.refl _ _
  have pre0 : Go p e below s₁ _ (mkF m 0 #[.val (.ref o0), .val (.ref o1)] []) _ := fun t k => castTop (ef_2_1L m o0 o1) k
  have pre1 : Go p e below s₁ _ (mkF m 4 #[.val (.ref o0), .val (.ref o1)] [(.ref o1), (.int 0), (.ref o1), (.ref o0)]) _ := fun t k => pre0 t (by
    refine XS.aloadN X0.here hx rfl (hb hby d2_0) rfl rfl ?_
    refine XS.aloadN X0.here hx rfl (hb hby d2_1) rfl rfl ?_
    refine XS.iconst X0.here hx rfl (hb hby d2_2) ?_
    refine XS.aloadN X0.here hx rfl (hb hby d2_3) rfl rfl ?_
    exact k)
  obtain ⟨cl2, Ar2, -, Sz2, Mn2, Hs2, -⟩ := id I7
  have pre3 : Go p e below s₁ _ (mkF m 5 #[.val (.ref o0), .val (.ref o1)] [(.int 1), (.int 0), (.ref o1), (.ref o0)]) _ := fun t k => pre1 t (by
    show Steps p.tables e below (s₁.setTop (mkF m 4 #[.val (.ref o0), .val (.ref o1)] [(.ref o1), (.int 0), (.ref o1), (.ref o0)])) _
    refine X0.arraylength hx (by rw [e0]; exact Ar2.1) (State.isArrayOf_alike hZ.alike Ar2.2.1) (g := (mkF m 4 #[.val (.ref o0), .val (.ref o1)] [(.ref o1), (.int 0), (.ref o1), (.ref o0)])) rfl rfl (hb hby d2_4) _ ?_
    rw [len_of Sz2 Mn2]
    exact k)
  have pre4 : Go p e below s₁ _ (mkF m 6 #[.val (.ref o0), .val (.ref o1)] [.null, (.int 1), (.int 0), (.ref o1), (.ref o0)]) _ := fun t k => pre3 t (by
    refine XS.aconstNull X0.here hx rfl (hb hby d2_5) ?_
    exact k)
  obtain ⟨_, _, ⟨T5, L5, k5, n5⟩, -, X5, ⟨Lc5, hQ5, l5, y5, z5⟩, st5⟩ := X0.specialBack hx (y := Nm_22) rfl hown (mvT hZ (wq hw 13 rfl)) (mvT hZ (wq hw 14 rfl)) (mvT hZ (wq hw 16 rfl)) (by decide) (backOf (W := 0) (rm3_1U l Z a0 hw [] o0 o1 wcs _ w0 h0 n0 Z0 I0 I1 I2 I3 I4 I5 I6 I7 gw_o0 ne_o1_o0 hcs r0 hU) hZ (wq hw 16 rfl) (wq hw 8 rfl) (by decide) (by decide)) (g := (mkF m 6 #[.val (.ref o0), .val (.ref o1)] [.null, (.int 1), (.int 0), (.ref o1), (.ref o0)])) rfl (by rw [hml]; rfl) (Steps.refl _) (a := o0) (argsL := [(.ref o1), (.int 0), (.int 1), .null]) (rest := []) (lenOf pd___CIILjava_lang_Void__V rfl) rfl (w00 rfl) (hb hby d2_6) (fun _ _ => ⟨rfl, e0, (by decide : 0 + 2 ≤ _), (by decide : 0 + 3 ≤ _)⟩)
  dsimp only [Pt.U, Pt.locs, Pt.cells, Pt.slots] at X5 l5 y5 z5 st5 hQ5
  subst l5 y5 z5
  obtain ⟨b6_0, k_b36_0_5, rfl, Nq5, Kq5, gz5_b6_0, o5_0, o5_1, o5_2, o5_3⟩ := hQ5
  have N5 := Fr.app N0 Nq5
  have K5 : Keep h0 T5.heap [o0] := K0.trans Kq5 (allS (Or.inl (List.mem_of_getElem? (i := 0) rfl)) all0)
  have Z5 : n0 ≤ T5.heap.size := Nat.le_trans Z0 Kq5.1
  have x6 := own_staK I0 Kq5 (allS (own_plE I4) all0)
  have x7 := own_staK I1 Kq5 (allS (own_plE I4) all0)
  have x8 := own_staK I2 Kq5 (allS (own_plE I4) all0)
  have x9 := own_staK I3 Kq5 (allS (own_plE I4) all0)
  have x10 := I4.keep Kq5
  have x11 := I7.keep Kq5 (ninS ne_o1_o0 nin0)
  have gg5_b6_0 : n0 ≤ b6_0 := Nat.le_trans Z0 gz5_b6_0
  have sz5_b6_0 : h0.size ≤ b6_0 := Nat.le_trans K0.1 gz5_b6_0
  have ne5_o0_b6_0 : o0 ≠ b6_0 := Nat.ne_of_lt (Nat.lt_of_lt_of_le I4.lt gz5_b6_0)
  have ne5_o1_b6_0 : o1 ≠ b6_0 := Nat.ne_of_lt (Nat.lt_of_lt_of_le I7.lt gz5_b6_0)
  have pre12 := Go.trn pre4 st5
  obtain ⟨fs, hr, hrun, hended, hW, hsame⟩ := X5.leave (v := none) (fun _ => rfl)
  refine ⟨_, _, ?_, hrun, hended, _, _, rfl, ?_, ⟨_, rfl⟩, hW, hsame.mono (by decide) (by decide)⟩
  · exact pre12 _ (X5.returnOut hx Bd.returns (hb hby d2_9) hr)
  · show Q2_1U Z o0 o1 wcs kc w0 h0 n0 _ T5.heap _
    skip
    exact ⟨b6_0, _, rfl, N5, K5, sz5_b6_0, o5_0, o5_1, o5_2, o5_3⟩
def Q21_2_0 (Z : State) (o0 : Addr) (p2 : Int32) (ka : ClassId) (u0 : Int32) (u1 : Int32) (u2 : Int32) (u3 : Int32) (h0 : Heap) (n0 : Nat) (v : Option Value) (h : Heap) (L : List Loc) : Prop := v = none ∧ Fr n0 L ∧ Keep h0 h [o0] ∧ Arv Z h o0 ka .byte (4 : Int32) [(.int (own_b0 p2)), (.int (own_b8 p2)), (.int u2), (.int u3)] (.int 0)
set_option maxRecDepth 65536 in
set_option maxHeartbeats 40000000 in
theorem rm21_2_0 (l : Launch) (Z : State) (a0 : Array Value) (hw : ∀ d ∈ tables_1, d.before a0 Z = true) (ws : List Jvm.Cond) (o0 : Addr) (p2 : Int32) (ka : ClassId) (u0 : Int32) (u1 : Int32) (u2 : Int32) (u3 : Int32) (h0 : Heap) (n0 : Nat) (Z0 : n0 ≤ h0.size) (I0 : Sta Z h0 "java/lang/StringUTF16" "$assertionsDisabled" "Z" (.int 1)) (I1 : Sta Z h0 "java/lang/StringUTF16" "HI_BYTE_SHIFT" "I" (.int 0)) (I2 : Sta Z h0 "java/lang/StringUTF16" "LO_BYTE_SHIFT" "I" (.int 8)) (I3 : Arv Z h0 o0 ka .byte (4 : Int32) [(.int u0), (.int u1), (.int u2), (.int u3)] (.int 0)) (gw_o0 : n0 ≤ o0) :
    Met1 l Nm_18 (Jvm.Cond.code Nm_18 jdk_52_method_4_code 3 none) ws (rom 0 0 0 0) #[(.ref o0), (.int 0), (.int p2)] Z h0 (Q21_2_0 Z o0 p2 ka u0 u1 u2 u3 h0 n0) := by
  refine MetFree.of_bodySF (plainFor_of_name pn_21) hisR ?_
  intro p e s m args below meth c s₁ Bd hml0 hP hK
  obtain ⟨rfl, hZ, hh⟩ := hP
  have hx := Bd.exec
  have hby := Bd.bytes
  have hml : c.maxLocals = 3 := hml0
  have hown : s.vm.findClass "java/lang/StringUTF16" = some m.cls := findClass_of_methodNamed Bd.named
  have X0 : Stand p l e (rom 0 0 0 0) s m _ _ _ _ _ [] 0 0 := Stand.of_body Bd
  have e0 : s₁.heap = h0 := by rw [← hh, Bd.state]; rfl
  have N0 := Fr.nil n0
  have K0 : Keep h0 h0 [o0] := Keep.refl _ _
  have pre0 : Go p e below s₁ _ (mkF m 0 #[.val (.ref o0), .val (.int 0), .val (.int p2)] []) _ := fun t k => castTop (ef_21_1_0 m o0 p2) k
  obtain ⟨T1, X1, e1, st1⟩ := getS2 X0 hx hZ hown (host := "") (Or.inl (wq hw 94 rfl)) Via.refl e0 I0 (g := (mkF m 0 #[.val (.ref o0), .val (.int 0), .val (.int p2)] [])) rfl (hb hby d21_0)
  have pre2 := Go.thn pre0 st1
  have pre3 : Go p e below T1 _ (mkF m 38 #[.val (.ref o0), .val (.int 1), .val (.int p2)] [(.int p2), (.int 0), (.ref o0)]) _ := fun t k => pre2 t (by
    refine XS.ifYes X1.here hx rfl (pc0 := 3) (pc' := 28) rfl (hb hby d21_3) rfl (by decide) (by decide) (by decide) ?_
    refine XS.iloadN X1.here hx rfl (hb hby d21_28) rfl ?_
    refine XS.iconst X1.here hx rfl (hb hby d21_29) ?_
    refine XS.ishl X1.here hx rfl (hb hby d21_30) rfl ?_
    refine XS.istoreN X1.here hx rfl (hb hby d21_31) rfl (l' := #[.val (.ref o0), .val (.int 0), .val (.int p2)]) rfl ?_
    refine XS.aloadN X1.here hx rfl (hb hby d21_32) rfl rfl ?_
    refine XS.iloadN X1.here hx rfl (hb hby d21_33) rfl ?_
    refine XS.iinc X1.here hx rfl (hb hby d21_34) rfl (l' := #[.val (.ref o0), .val (.int 1), .val (.int p2)]) rfl ?_
    refine XS.iloadN X1.here hx rfl (hb hby d21_37) rfl ?_
    exact k)
  obtain ⟨T4, X4, e4, st4⟩ := getS2 X1 hx hZ hown (host := "") (Or.inl (wq hw 95 rfl)) Via.refl e1 I1 (g := (mkF m 38 #[.val (.ref o0), .val (.int 1), .val (.int p2)] [(.int p2), (.int 0), (.ref o0)])) rfl (hb hby d21_38)
  have pre5 := Go.thn pre3 st4
  have pre6 : Go p e below T4 _ (mkF m 43 #[.val (.ref o0), .val (.int 1), .val (.int p2)] [(.int ((p2 >>> ((0 : Int32) &&& 31)).toInt8.toInt32)), (.int 0), (.ref o0)]) _ := fun t k => pre5 t (by
    refine XS.ishr X4.here hx rfl (hb hby d21_41) rfl ?_
    refine XS.i2b X4.here hx rfl (hb hby d21_42) rfl ?_
    exact k)
  obtain ⟨cl7, Ar7, q7, Sz7, Mn7, Hs7, Gs7⟩ := id I3
  have hin7 : ¬ ((0 : Int32) < 0 ∨ cl7.slots.size ≤ ((0 : Int32)).toNatClampNeg) := inb_of Sz7 ⟨by decide, by decide⟩
  obtain ⟨T7, h7, X7, e7, W7, st7⟩ := stB X4 hx hZ e4 Ar7 (j := (0 : Int32)) hin7 (g := (mkF m 43 #[.val (.ref o0), .val (.int 1), .val (.int p2)] [(.int ((p2 >>> ((0 : Int32) &&& 31)).toInt8.toInt32)), (.int 0), (.ref o0)])) rfl rfl (hb hby d21_43)
  have V7 : Arv Z h7 o0 ka .byte (4 : Int32) [(.int (own_b0 p2)), (.int u1), (.int u2), (.int u3)] (.int 0) := Arv.set Ar7 q7 Sz7 Mn7 Hs7 Gs7 (fits_nar_byte _) W7 0 rfl (Nat.le_of_ble_eq_true rfl)
  have N7 := Fr.snoc X7 N0 gw_o0
  have K7 : Keep h0 h7 [o0] := K0.wr W7 (Or.inl (List.mem_of_getElem? (i := 0) rfl))
  have Z7 : n0 ≤ h7.size := Nat.le_trans Z0 (Keep.of_wr W7).1
  have x8 := I0.wr W7
  have x9 := I1.wr W7
  have x10 := I2.wr W7
  have pre11 := Go.thn pre6 st7
  have pre12 : Go p e below T7 _ (mkF m 47 #[.val (.ref o0), .val (.int 1), .val (.int p2)] [(.int p2), (.int 1), (.ref o0)]) _ := fun t k => pre11 t (by
    refine XS.aloadN X7.here hx rfl (hb hby d21_44) rfl rfl ?_
    refine XS.iloadN X7.here hx rfl (hb hby d21_45) rfl ?_
    refine XS.iloadN X7.here hx rfl (hb hby d21_46) rfl ?_
    exact k)
  obtain ⟨T13, X13, e13, st13⟩ := getS2 X7 hx hZ hown (host := "") (Or.inl (wq hw 96 rfl)) Via.refl e7 x10 (g := (mkF m 47 #[.val (.ref o0), .val (.int 1), .val (.int p2)] [(.int p2), (.int 1), (.ref o0)])) rfl (hb hby d21_47)
  have pre14 := Go.thn pre12 st13
  have pre15 : Go p e below T13 _ (mkF m 52 #[.val (.ref o0), .val (.int 1), .val (.int p2)] [(.int ((p2 >>> ((8 : Int32) &&& 31)).toInt8.toInt32)), (.int 1), (.ref o0)]) _ := fun t k => pre14 t (by
    refine XS.ishr X13.here hx rfl (hb hby d21_50) rfl ?_
    refine XS.i2b X13.here hx rfl (hb hby d21_51) rfl ?_
    exact k)
  obtain ⟨cl16, Ar16, q16, Sz16, Mn16, Hs16, Gs16⟩ := id V7
  have hin16 : ¬ ((1 : Int32) < 0 ∨ cl16.slots.size ≤ ((1 : Int32)).toNatClampNeg) := inb_of Sz16 ⟨by decide, by decide⟩
  obtain ⟨T16, h16, X16, e16, W16, st16⟩ := stB X13 hx hZ e13 Ar16 (j := (1 : Int32)) hin16 (g := (mkF m 52 #[.val (.ref o0), .val (.int 1), .val (.int p2)] [(.int ((p2 >>> ((8 : Int32) &&& 31)).toInt8.toInt32)), (.int 1), (.ref o0)])) rfl rfl (hb hby d21_52)
  have V16 : Arv Z h16 o0 ka .byte (4 : Int32) [(.int (own_b0 p2)), (.int (own_b8 p2)), (.int u2), (.int u3)] (.int 0) := Arv.set Ar16 q16 Sz16 Mn16 Hs16 Gs16 (fits_nar_byte _) W16 1 rfl (Nat.le_of_ble_eq_true rfl)
  have N16 := Fr.snoc X16 N7 gw_o0
  have K16 : Keep h0 h16 [o0] := K7.wr W16 (Or.inl (List.mem_of_getElem? (i := 0) rfl))
  have Z16 : n0 ≤ h16.size := Nat.le_trans Z7 (Keep.of_wr W16).1
  have x17 := x8.wr W16
  have x18 := x9.wr W16
  have x19 := x10.wr W16
  have pre20 := Go.thn pre15 st16
  obtain ⟨fs, hr, hrun, hended, hW, hsame⟩ := X16.leave (v := none) (fun _ => rfl)
  refine ⟨_, _, ?_, hrun, hended, _, _, rfl, ?_, ⟨_, rfl⟩, hW, hsame.mono (by decide) (by decide)⟩
  · exact pre20 _ (X16.returnOut hx Bd.returns (hb hby d21_53) hr)
  · show Q21_2_0 Z o0 p2 ka u0 u1 u2 u3 h0 n0 _ T16.heap _
    rw [e16]
    exact ⟨rfl, N16, K16, V16⟩
theorem ef_21_2_1 (m : MethodId) (x0 : Addr) (x2 : Int32) : entryFrame m #[(.ref x0), (.int 1), (.int x2)] 3 = mkF m 0 #[.val (.ref x0), .val (.int 1), .val (.int x2)] [] := by first | (simp [entryFrame, mkF, argsToLocals, Value.category]; done) | rfl
def Q21_2_1 (Z : State) (o0 : Addr) (p2 : Int32) (ka : ClassId) (u0 : Int32) (u1 : Int32) (u2 : Int32) (u3 : Int32) (h0 : Heap) (n0 : Nat) (v : Option Value) (h : Heap) (L : List Loc) : Prop := v = none ∧ Fr n0 L ∧ Keep h0 h [o0] ∧ Arv Z h o0 ka .byte (4 : Int32) [(.int u0), (.int u1), (.int (own_b0 p2)), (.int (own_b8 p2))] (.int 0)
set_option maxRecDepth 65536 in
set_option maxHeartbeats 40000000 in
theorem rm21_2_1 (l : Launch) (Z : State) (a0 : Array Value) (hw : ∀ d ∈ tables_1, d.before a0 Z = true) (ws : List Jvm.Cond) (o0 : Addr) (p2 : Int32) (ka : ClassId) (u0 : Int32) (u1 : Int32) (u2 : Int32) (u3 : Int32) (h0 : Heap) (n0 : Nat) (Z0 : n0 ≤ h0.size) (I0 : Sta Z h0 "java/lang/StringUTF16" "$assertionsDisabled" "Z" (.int 1)) (I1 : Sta Z h0 "java/lang/StringUTF16" "HI_BYTE_SHIFT" "I" (.int 0)) (I2 : Sta Z h0 "java/lang/StringUTF16" "LO_BYTE_SHIFT" "I" (.int 8)) (I3 : Arv Z h0 o0 ka .byte (4 : Int32) [(.int u0), (.int u1), (.int u2), (.int u3)] (.int 0)) (gw_o0 : n0 ≤ o0) :
    Met1 l Nm_18 (Jvm.Cond.code Nm_18 jdk_52_method_4_code 3 none) ws (rom 0 0 0 0) #[(.ref o0), (.int 1), (.int p2)] Z h0 (Q21_2_1 Z o0 p2 ka u0 u1 u2 u3 h0 n0) := by
  refine MetFree.of_bodySF (plainFor_of_name pn_21) hisR ?_
  intro p e s m args below meth c s₁ Bd hml0 hP hK
  obtain ⟨rfl, hZ, hh⟩ := hP
  have hx := Bd.exec
  have hby := Bd.bytes
  have hml : c.maxLocals = 3 := hml0
  have hown : s.vm.findClass "java/lang/StringUTF16" = some m.cls := findClass_of_methodNamed Bd.named
  have X0 : Stand p l e (rom 0 0 0 0) s m _ _ _ _ _ [] 0 0 := Stand.of_body Bd
  have e0 : s₁.heap = h0 := by rw [← hh, Bd.state]; rfl
  have N0 := Fr.nil n0
  have K0 : Keep h0 h0 [o0] := Keep.refl _ _
  have pre0 : Go p e below s₁ _ (mkF m 0 #[.val (.ref o0), .val (.int 1), .val (.int p2)] []) _ := fun t k => castTop (ef_21_2_1 m o0 p2) k
  obtain ⟨T1, X1, e1, st1⟩ := getS2 X0 hx hZ hown (host := "") (Or.inl (wq hw 94 rfl)) Via.refl e0 I0 (g := (mkF m 0 #[.val (.ref o0), .val (.int 1), .val (.int p2)] [])) rfl (hb hby d21_0)
  have pre2 := Go.thn pre0 st1
  have pre3 : Go p e below T1 _ (mkF m 38 #[.val (.ref o0), .val (.int 3), .val (.int p2)] [(.int p2), (.int 2), (.ref o0)]) _ := fun t k => pre2 t (by
    refine XS.ifYes X1.here hx rfl (pc0 := 3) (pc' := 28) rfl (hb hby d21_3) rfl (by decide) (by decide) (by decide) ?_
    refine XS.iloadN X1.here hx rfl (hb hby d21_28) rfl ?_
    refine XS.iconst X1.here hx rfl (hb hby d21_29) ?_
    refine XS.ishl X1.here hx rfl (hb hby d21_30) rfl ?_
    refine XS.istoreN X1.here hx rfl (hb hby d21_31) rfl (l' := #[.val (.ref o0), .val (.int 2), .val (.int p2)]) rfl ?_
    refine XS.aloadN X1.here hx rfl (hb hby d21_32) rfl rfl ?_
    refine XS.iloadN X1.here hx rfl (hb hby d21_33) rfl ?_
    refine XS.iinc X1.here hx rfl (hb hby d21_34) rfl (l' := #[.val (.ref o0), .val (.int 3), .val (.int p2)]) rfl ?_
    refine XS.iloadN X1.here hx rfl (hb hby d21_37) rfl ?_
    exact k)
  obtain ⟨T4, X4, e4, st4⟩ := getS2 X1 hx hZ hown (host := "") (Or.inl (wq hw 95 rfl)) Via.refl e1 I1 (g := (mkF m 38 #[.val (.ref o0), .val (.int 3), .val (.int p2)] [(.int p2), (.int 2), (.ref o0)])) rfl (hb hby d21_38)
  have pre5 := Go.thn pre3 st4
  have pre6 : Go p e below T4 _ (mkF m 43 #[.val (.ref o0), .val (.int 3), .val (.int p2)] [(.int ((p2 >>> ((0 : Int32) &&& 31)).toInt8.toInt32)), (.int 2), (.ref o0)]) _ := fun t k => pre5 t (by
    refine XS.ishr X4.here hx rfl (hb hby d21_41) rfl ?_
    refine XS.i2b X4.here hx rfl (hb hby d21_42) rfl ?_
    exact k)
  obtain ⟨cl7, Ar7, q7, Sz7, Mn7, Hs7, Gs7⟩ := id I3
  have hin7 : ¬ ((2 : Int32) < 0 ∨ cl7.slots.size ≤ ((2 : Int32)).toNatClampNeg) := inb_of Sz7 ⟨by decide, by decide⟩
  obtain ⟨T7, h7, X7, e7, W7, st7⟩ := stB X4 hx hZ e4 Ar7 (j := (2 : Int32)) hin7 (g := (mkF m 43 #[.val (.ref o0), .val (.int 3), .val (.int p2)] [(.int ((p2 >>> ((0 : Int32) &&& 31)).toInt8.toInt32)), (.int 2), (.ref o0)])) rfl rfl (hb hby d21_43)
  have V7 : Arv Z h7 o0 ka .byte (4 : Int32) [(.int u0), (.int u1), (.int (own_b0 p2)), (.int u3)] (.int 0) := Arv.set Ar7 q7 Sz7 Mn7 Hs7 Gs7 (fits_nar_byte _) W7 2 rfl (Nat.le_of_ble_eq_true rfl)
  have N7 := Fr.snoc X7 N0 gw_o0
  have K7 : Keep h0 h7 [o0] := K0.wr W7 (Or.inl (List.mem_of_getElem? (i := 0) rfl))
  have Z7 : n0 ≤ h7.size := Nat.le_trans Z0 (Keep.of_wr W7).1
  have x8 := I0.wr W7
  have x9 := I1.wr W7
  have x10 := I2.wr W7
  have pre11 := Go.thn pre6 st7
  have pre12 : Go p e below T7 _ (mkF m 47 #[.val (.ref o0), .val (.int 3), .val (.int p2)] [(.int p2), (.int 3), (.ref o0)]) _ := fun t k => pre11 t (by
    refine XS.aloadN X7.here hx rfl (hb hby d21_44) rfl rfl ?_
    refine XS.iloadN X7.here hx rfl (hb hby d21_45) rfl ?_
    refine XS.iloadN X7.here hx rfl (hb hby d21_46) rfl ?_
    exact k)
  obtain ⟨T13, X13, e13, st13⟩ := getS2 X7 hx hZ hown (host := "") (Or.inl (wq hw 96 rfl)) Via.refl e7 x10 (g := (mkF m 47 #[.val (.ref o0), .val (.int 3), .val (.int p2)] [(.int p2), (.int 3), (.ref o0)])) rfl (hb hby d21_47)
  have pre14 := Go.thn pre12 st13
  have pre15 : Go p e below T13 _ (mkF m 52 #[.val (.ref o0), .val (.int 3), .val (.int p2)] [(.int ((p2 >>> ((8 : Int32) &&& 31)).toInt8.toInt32)), (.int 3), (.ref o0)]) _ := fun t k => pre14 t (by
    refine XS.ishr X13.here hx rfl (hb hby d21_50) rfl ?_
    refine XS.i2b X13.here hx rfl (hb hby d21_51) rfl ?_
    exact k)
  obtain ⟨cl16, Ar16, q16, Sz16, Mn16, Hs16, Gs16⟩ := id V7
  have hin16 : ¬ ((3 : Int32) < 0 ∨ cl16.slots.size ≤ ((3 : Int32)).toNatClampNeg) := inb_of Sz16 ⟨by decide, by decide⟩
  obtain ⟨T16, h16, X16, e16, W16, st16⟩ := stB X13 hx hZ e13 Ar16 (j := (3 : Int32)) hin16 (g := (mkF m 52 #[.val (.ref o0), .val (.int 3), .val (.int p2)] [(.int ((p2 >>> ((8 : Int32) &&& 31)).toInt8.toInt32)), (.int 3), (.ref o0)])) rfl rfl (hb hby d21_52)
  have V16 : Arv Z h16 o0 ka .byte (4 : Int32) [(.int u0), (.int u1), (.int (own_b0 p2)), (.int (own_b8 p2))] (.int 0) := Arv.set Ar16 q16 Sz16 Mn16 Hs16 Gs16 (fits_nar_byte _) W16 3 rfl (Nat.le_of_ble_eq_true rfl)
  have N16 := Fr.snoc X16 N7 gw_o0
  have K16 : Keep h0 h16 [o0] := K7.wr W16 (Or.inl (List.mem_of_getElem? (i := 0) rfl))
  have Z16 : n0 ≤ h16.size := Nat.le_trans Z7 (Keep.of_wr W16).1
  have x17 := x8.wr W16
  have x18 := x9.wr W16
  have x19 := x10.wr W16
  have pre20 := Go.thn pre15 st16
  obtain ⟨fs, hr, hrun, hended, hW, hsame⟩ := X16.leave (v := none) (fun _ => rfl)
  refine ⟨_, _, ?_, hrun, hended, _, _, rfl, ?_, ⟨_, rfl⟩, hW, hsame.mono (by decide) (by decide)⟩
  · exact pre20 _ (X16.returnOut hx Bd.returns (hb hby d21_53) hr)
  · show Q21_2_1 Z o0 p2 ka u0 u1 u2 u3 h0 n0 _ T16.heap _
    rw [e16]
    exact ⟨rfl, N16, K16, V16⟩
theorem ef_18_2 (m : MethodId) (x0 : Addr) : entryFrame m #[(.ref x0), (.int 0), (.int 2)] 5 = mkF m 0 #[.val (.ref x0), .val (.int 0), .val (.int 2), .unset, .unset] [] := by first | (simp [entryFrame, mkF, argsToLocals, Value.category]; done) | rfl
def Q18_2 (Z : State) (o0 : Addr) (kc : ClassId) (w0 : Int32) (w1 : Int32) (h0 : Heap) (n0 : Nat) (v : Option Value) (h : Heap) (L : List Loc) : Prop := ∃ (b1_0 : Addr) (k_b1_0 : ClassId), v = (some (.ref b1_0)) ∧ Fr n0 L ∧ Keep h0 h [] ∧ h0.size ≤ b1_0 ∧ Arv Z h b1_0 k_b1_0 .byte (4 : Int32) [(.int (own_b0 w0)), (.int (own_b8 w0)), (.int (own_b0 w1)), (.int (own_b8 w1))] (.int 0)
set_option maxRecDepth 65536 in
set_option maxHeartbeats 40000000 in
theorem rm18_2 (l : Launch) (Z : State) (a0 : Array Value) (hw : ∀ d ∈ tables_1, d.before a0 Z = true) (ws : List Jvm.Cond) (o0 : Addr) (kc : ClassId) (w0 : Int32) (w1 : Int32) (h0 : Heap) (n0 : Nat) (Z0 : n0 ≤ h0.size) (I0 : Sta Z h0 "java/lang/StringUTF16" "$assertionsDisabled" "Z" (.int 1)) (I1 : Sta Z h0 "java/lang/StringUTF16" "HI_BYTE_SHIFT" "I" (.int 0)) (I2 : Sta Z h0 "java/lang/StringUTF16" "LO_BYTE_SHIFT" "I" (.int 8)) (I3 : Arv Z h0 o0 kc .char (2 : Int32) [(.int w0), (.int w1)] (.int 0)) :
    Met1 l Nm_19 (Jvm.Cond.code Nm_19 jdk_52_method_14_code 5 (some (.array .byte))) ws (rom 2 1 4 24) #[(.ref o0), (.int 0), (.int 2)] Z h0 (Q18_2 Z o0 kc w0 w1 h0 n0) := by
  refine MetFree.of_bodySF (plainFor_of_name pn_18) hisR ?_
  intro p e s m args below meth c s₁ Bd hml0 hP hK
  obtain ⟨rfl, hZ, hh⟩ := hP
  have hx := Bd.exec
  have hby := Bd.bytes
  have hml : c.maxLocals = 5 := hml0
  have hown : s.vm.findClass "java/lang/StringUTF16" = some m.cls := findClass_of_methodNamed Bd.named
  have X0 : Stand p l e (rom 2 1 4 24) s m _ _ _ _ _ [] 0 0 := Stand.of_body Bd
  have e0 : s₁.heap = h0 := by rw [← hh, Bd.state]; rfl
  have N0 := Fr.nil n0
  have K0 : Keep h0 h0 [] := Keep.refl _ _
  have pre0 : Go p e below s₁ _ (mkF m 0 #[.val (.ref o0), .val (.int 0), .val (.int 2), .unset, .unset] []) _ := fun t k => castTop (ef_18_2 m o0) k
  have pre1 : Go p e below s₁ _ (mkF m 1 #[.val (.ref o0), .val (.int 0), .val (.int 2), .unset, .unset] [(.int 2)]) _ := fun t k => pre0 t (by
    refine XS.iloadN X0.here hx rfl (hb hby d18_0) rfl ?_
    exact k)
  obtain ⟨_, _, ⟨T2, L2, k2, n2⟩, -, X2, ⟨Lc2, hQ2, l2, y2, z2⟩, st2⟩ := Jvm.LawKit.callS X0 hx (y := Nm_17) hown (mvT hZ (wq hw 84 rfl)) (mvT hZ (wq hw 85 rfl)) (mvT hZ (wq hw 45 rfl)) (mvT hZ (wq hw 86 rfl)) (by decide) (backOf (W := 0) (rm19_2 l Z a0 hw []  h0 n0 Z0) hZ (wq hw 86 rfl) (wq hw 45 rfl) (by decide) (by decide)) (g := (mkF m 1 #[.val (.ref o0), .val (.int 0), .val (.int 2), .unset, .unset] [(.int 2)])) rfl (by rw [hml]; rfl) (argsL := [(.int 2)]) (rest := []) (lenOf pd__I__B rfl) rfl (w00 rfl) (hb hby d18_1) (fun _ _ => ⟨rfl, e0, (by decide : 0 + 1 ≤ _), (by decide : 0 + 4 ≤ _)⟩)
  dsimp only [Pt.U, Pt.locs, Pt.cells, Pt.slots] at X2 l2 y2 z2 st2 hQ2
  subst l2 y2 z2
  obtain ⟨b1_0, k_b4_2, rfl, Nq2, Kq2, gz2_b1_0, o2_0⟩ := hQ2
  have N2 := Fr.app N0 Nq2
  have K2 : Keep h0 T2.heap [] := K0.trans Kq2 all0
  have Z2 : n0 ≤ T2.heap.size := Nat.le_trans Z0 Kq2.1
  have x3 := own_staK I0 Kq2 all0
  have x4 := own_staK I1 Kq2 all0
  have x5 := own_staK I2 Kq2 all0
  have x6 := I3.keep Kq2 nin0
  have gg2_b1_0 : n0 ≤ b1_0 := Nat.le_trans Z0 gz2_b1_0
  have sz2_b1_0 : h0.size ≤ b1_0 := Nat.le_trans K0.1 gz2_b1_0
  have ne2_o0_b1_0 : o0 ≠ b1_0 := Nat.ne_of_lt (Nat.lt_of_lt_of_le I3.lt gz2_b1_0)
  have pre7 := Go.thn pre1 st2
  have pre8 : Go p e below T2 _ (mkF m 19 #[.val (.ref o0), .val (.int 0), .val (.int 2), .val (.ref b1_0), .val (.int 0)] [(.int 0), (.ref o0), (.int 0), (.ref b1_0)]) _ := fun t k => pre7 t (by
    refine XS.astoreN X2.here hx rfl (hb hby d18_4) rfl rfl (l' := #[.val (.ref o0), .val (.int 0), .val (.int 2), .val (.ref b1_0), .unset]) rfl ?_
    refine XS.iconst X2.here hx rfl (hb hby d18_5) ?_
    refine XS.istore X2.here hx rfl (hb hby d18_6) rfl (l' := #[.val (.ref o0), .val (.int 0), .val (.int 2), .val (.ref b1_0), .val (.int 0)]) rfl ?_
    refine XS.iload X2.here hx rfl (hb hby d18_8) rfl ?_
    refine XS.iloadN X2.here hx rfl (hb hby d18_10) rfl ?_
    refine XS.icmpNo X2.here hx rfl (hb hby d18_11) rfl (by decide) ?_
    refine XS.aloadN X2.here hx rfl (hb hby d18_14) rfl rfl ?_
    refine XS.iload X2.here hx rfl (hb hby d18_15) rfl ?_
    refine XS.aloadN X2.here hx rfl (hb hby d18_17) rfl rfl ?_
    refine XS.iloadN X2.here hx rfl (hb hby d18_18) rfl ?_
    exact k)
  obtain ⟨cl9, Ar9, -, Sz9, Mn9, Hs9, -⟩ := id x6
  have hin9 : ¬ ((0 : Int32) < 0 ∨ cl9.slots.size ≤ ((0 : Int32)).toNatClampNeg) := inb_of Sz9 ⟨by decide, by decide⟩
  have hat9 : cl9.slots[((0 : Int32)).toNatClampNeg]? = some (.int w0) := Hs9.at hin9 rfl
  have pre10 : Go p e below T2 _ (mkF m 20 #[.val (.ref o0), .val (.int 0), .val (.int 2), .val (.ref b1_0), .val (.int 0)] [(.int w0), (.int 0), (.ref b1_0)]) _ := fun t k => pre8 t (by
    show Steps p.tables e below (T2.setTop (mkF m 19 #[.val (.ref o0), .val (.int 0), .val (.int 2), .val (.ref b1_0), .val (.int 0)] [(.int 0), (.ref o0), (.int 0), (.ref b1_0)])) _
    refine X2.caload hx (j := (0 : Int32)) (v := (.int w0)) Ar9.1 (State.isArrayOf_alike hZ.alike Ar9.2.1) Ar9.2.2 hin9 hat9 (g := (mkF m 19 #[.val (.ref o0), .val (.int 0), .val (.int 2), .val (.ref b1_0), .val (.int 0)] [(.int 0), (.ref o0), (.int 0), (.ref b1_0)])) rfl rfl (hb hby d18_19) _ ?_
    exact k)
  obtain ⟨_, _, ⟨T11, L11, k11, n11⟩, -, X11, ⟨Lc11, hQ11, l11, y11, z11⟩, st11⟩ := Jvm.LawKit.callS X2 hx (y := Nm_18) hown (mvT hZ (wq hw 91 rfl)) (mvT hZ (wq hw 92 rfl)) (mvT hZ (wq hw 45 rfl)) (mvT hZ (wq hw 93 rfl)) (by decide) (backOf (W := 0) (rm21_2_0 l Z a0 hw [] b1_0 w0 _ (0 : Int32) (0 : Int32) (0 : Int32) (0 : Int32) T2.heap n0 Z2 x3 x4 x5 o2_0 gg2_b1_0) hZ (wq hw 93 rfl) (wq hw 45 rfl) (by decide) (by decide)) (g := (mkF m 20 #[.val (.ref o0), .val (.int 0), .val (.int 2), .val (.ref b1_0), .val (.int 0)] [(.int w0), (.int 0), (.ref b1_0)])) rfl (by rw [hml]; rfl) (argsL := [(.ref b1_0), (.int 0), (.int w0)]) (rest := []) (lenOf pd___BII_V rfl) rfl (w00 rfl) (hb hby d18_20) (fun _ _ => ⟨rfl, rfl, (by decide : 1 + 0 ≤ _), (by decide : 4 + 0 ≤ _)⟩)
  dsimp only [Pt.U, Pt.locs, Pt.cells, Pt.slots] at X11 l11 y11 z11 st11 hQ11
  subst l11 y11 z11
  obtain ⟨rfl, Nq11, Kq11, o11_0⟩ := hQ11
  have N11 := Fr.app N2 Nq11
  have K11 : Keep h0 T11.heap [] := K2.trans Kq11 (allS (Or.inr sz2_b1_0) all0)
  have Z11 : n0 ≤ T11.heap.size := Nat.le_trans Z2 Kq11.1
  have x12 := own_staK x3 Kq11 (allS (own_plV o2_0) all0)
  have x13 := own_staK x4 Kq11 (allS (own_plV o2_0) all0)
  have x14 := own_staK x5 Kq11 (allS (own_plV o2_0) all0)
  have x15 := x6.keep Kq11 (ninS ne2_o0_b1_0 nin0)
  have pre16 := Go.thn pre10 st11
  have pre17 : Go p e below T11 _ (mkF m 19 #[.val (.ref o0), .val (.int 1), .val (.int 2), .val (.ref b1_0), .val (.int 1)] [(.int 1), (.ref o0), (.int 1), (.ref b1_0)]) _ := fun t k => pre16 t (by
    refine XS.iinc X11.here hx rfl (hb hby d18_23) rfl (l' := #[.val (.ref o0), .val (.int 1), .val (.int 2), .val (.ref b1_0), .val (.int 0)]) rfl ?_
    refine XS.iinc X11.here hx rfl (hb hby d18_26) rfl (l' := #[.val (.ref o0), .val (.int 1), .val (.int 2), .val (.ref b1_0), .val (.int 1)]) rfl ?_
    refine XS.goto X11.here hx rfl (pc0 := 29) (pc' := 8) rfl (hb hby d18_29) (by decide) (by decide) ?_
    refine XS.iload X11.here hx rfl (hb hby d18_8) rfl ?_
    refine XS.iloadN X11.here hx rfl (hb hby d18_10) rfl ?_
    refine XS.icmpNo X11.here hx rfl (hb hby d18_11) rfl (by decide) ?_
    refine XS.aloadN X11.here hx rfl (hb hby d18_14) rfl rfl ?_
    refine XS.iload X11.here hx rfl (hb hby d18_15) rfl ?_
    refine XS.aloadN X11.here hx rfl (hb hby d18_17) rfl rfl ?_
    refine XS.iloadN X11.here hx rfl (hb hby d18_18) rfl ?_
    exact k)
  obtain ⟨cl18, Ar18, -, Sz18, Mn18, Hs18, -⟩ := id x15
  have hin18 : ¬ ((1 : Int32) < 0 ∨ cl18.slots.size ≤ ((1 : Int32)).toNatClampNeg) := inb_of Sz18 ⟨by decide, by decide⟩
  have hat18 : cl18.slots[((1 : Int32)).toNatClampNeg]? = some (.int w1) := Hs18.at hin18 rfl
  have pre19 : Go p e below T11 _ (mkF m 20 #[.val (.ref o0), .val (.int 1), .val (.int 2), .val (.ref b1_0), .val (.int 1)] [(.int w1), (.int 1), (.ref b1_0)]) _ := fun t k => pre17 t (by
    show Steps p.tables e below (T11.setTop (mkF m 19 #[.val (.ref o0), .val (.int 1), .val (.int 2), .val (.ref b1_0), .val (.int 1)] [(.int 1), (.ref o0), (.int 1), (.ref b1_0)])) _
    refine X11.caload hx (j := (1 : Int32)) (v := (.int w1)) Ar18.1 (State.isArrayOf_alike hZ.alike Ar18.2.1) Ar18.2.2 hin18 hat18 (g := (mkF m 19 #[.val (.ref o0), .val (.int 1), .val (.int 2), .val (.ref b1_0), .val (.int 1)] [(.int 1), (.ref o0), (.int 1), (.ref b1_0)])) rfl rfl (hb hby d18_19) _ ?_
    exact k)
  obtain ⟨_, _, ⟨T20, L20, k20, n20⟩, -, X20, ⟨Lc20, hQ20, l20, y20, z20⟩, st20⟩ := Jvm.LawKit.callS X11 hx (y := Nm_18) hown (mvT hZ (wq hw 91 rfl)) (mvT hZ (wq hw 92 rfl)) (mvT hZ (wq hw 45 rfl)) (mvT hZ (wq hw 93 rfl)) (by decide) (backOf (W := 0) (rm21_2_1 l Z a0 hw [] b1_0 w1 _ (own_b0 w0) (own_b8 w0) (0 : Int32) (0 : Int32) T11.heap n0 Z11 x12 x13 x14 o11_0 gg2_b1_0) hZ (wq hw 93 rfl) (wq hw 45 rfl) (by decide) (by decide)) (g := (mkF m 20 #[.val (.ref o0), .val (.int 1), .val (.int 2), .val (.ref b1_0), .val (.int 1)] [(.int w1), (.int 1), (.ref b1_0)])) rfl (by rw [hml]; rfl) (argsL := [(.ref b1_0), (.int 1), (.int w1)]) (rest := []) (lenOf pd___BII_V rfl) rfl (w00 rfl) (hb hby d18_20) (fun _ _ => ⟨rfl, rfl, (by decide : 1 + 0 ≤ _), (by decide : 4 + 0 ≤ _)⟩)
  dsimp only [Pt.U, Pt.locs, Pt.cells, Pt.slots] at X20 l20 y20 z20 st20 hQ20
  subst l20 y20 z20
  obtain ⟨rfl, Nq20, Kq20, o20_0⟩ := hQ20
  have N20 := Fr.app N11 Nq20
  have K20 : Keep h0 T20.heap [] := K11.trans Kq20 (allS (Or.inr sz2_b1_0) all0)
  have Z20 : n0 ≤ T20.heap.size := Nat.le_trans Z11 Kq20.1
  have x21 := own_staK x12 Kq20 (allS (own_plV o11_0) all0)
  have x22 := own_staK x13 Kq20 (allS (own_plV o11_0) all0)
  have x23 := own_staK x14 Kq20 (allS (own_plV o11_0) all0)
  have x24 := x15.keep Kq20 (ninS ne2_o0_b1_0 nin0)
  have pre25 := Go.thn pre19 st20
  have pre26 : Go p e below T20 _ (mkF m 33 #[.val (.ref o0), .val (.int 2), .val (.int 2), .val (.ref b1_0), .val (.int 2)] [(.ref b1_0)]) _ := fun t k => pre25 t (by
    refine XS.iinc X20.here hx rfl (hb hby d18_23) rfl (l' := #[.val (.ref o0), .val (.int 2), .val (.int 2), .val (.ref b1_0), .val (.int 1)]) rfl ?_
    refine XS.iinc X20.here hx rfl (hb hby d18_26) rfl (l' := #[.val (.ref o0), .val (.int 2), .val (.int 2), .val (.ref b1_0), .val (.int 2)]) rfl ?_
    refine XS.goto X20.here hx rfl (pc0 := 29) (pc' := 8) rfl (hb hby d18_29) (by decide) (by decide) ?_
    refine XS.iload X20.here hx rfl (hb hby d18_8) rfl ?_
    refine XS.iloadN X20.here hx rfl (hb hby d18_10) rfl ?_
    refine XS.icmpYes X20.here hx rfl (pc0 := 11) (pc' := 32) rfl (hb hby d18_11) rfl (by decide) (by decide) (by decide) ?_
    refine XS.aloadN X20.here hx rfl (hb hby d18_32) rfl rfl ?_
    exact k)
  obtain ⟨fs, hr, hrun, hended, hW, hsame⟩ := X20.leave (v := some (.ref b1_0)) (fun h => by rw [Bd.returns] at h; cases h)
  refine ⟨_, _, ?_, hrun, hended, _, _, rfl, ?_, ⟨_, rfl⟩, hW, hsame.mono (by decide) (by decide)⟩
  · refine pre26 _ ?_
    jvm_step X20.here [X20.here.top, hx, (hb hby d18_33), X20.method', Bd.returns, Value.isRef, FieldType.isReference]
    first | (intro acts; rw [hr _ acts rfl rfl rfl]) | rw [hr _ _ rfl rfl rfl]
    exact Steps.refl _
  · show Q18_2 Z o0 kc w0 w1 h0 n0 _ T20.heap _
    skip
    exact ⟨b1_0, _, rfl, N20, K20, sz2_b1_0, o20_0⟩
theorem ef_9_2 (m : MethodId) (x0 : Addr) (x2 : Addr) : entryFrame m #[(.ref x0), (.int 0), (.ref x2), (.int 0), (.int 2)] 7 = mkF m 0 #[.val (.ref x0), .val (.int 0), .val (.ref x2), .val (.int 0), .val (.int 2), .unset, .unset] [] := by first | (simp [entryFrame, mkF, argsToLocals, Value.category]; done) | rfl
def g9_2_o2_0 (w0 : Int32) : Int32 := (if (255 : Int32) < w0 then (0 : Int32) else ((w0.toInt8.toInt32).toInt8.toInt32))
def g9_2_o2_1 (w0 : Int32) (w1 : Int32) : Int32 := (if (255 : Int32) < w0 then (0 : Int32) else (if (255 : Int32) < w1 then (0 : Int32) else ((w1.toInt8.toInt32).toInt8.toInt32)))
def f9_2 (w0 : Int32) (w1 : Int32) : Int32 := (if (255 : Int32) < w0 then (0 : Int32) else (if (255 : Int32) < w1 then (1 : Int32) else (2 : Int32)))
def Q9_2 (Z : State) (o0 : Addr) (o2 : Addr) (kc : ClassId) (w0 : Int32) (w1 : Int32) (kb : ClassId) (h0 : Heap) (n0 : Nat) (v : Option Value) (h : Heap) (L : List Loc) : Prop := v = (some (.int (f9_2 w0 w1))) ∧ Fr n0 L ∧ Keep h0 h [o2] ∧ Arv Z h o2 kb .byte (2 : Int32) [(.int (g9_2_o2_0 w0)), (.int (g9_2_o2_1 w0 w1))] (.int 0)
set_option maxRecDepth 65536 in
set_option maxHeartbeats 40000000 in
theorem rm9_2 (l : Launch) (Z : State) (a0 : Array Value) (hw : ∀ d ∈ tables_1, d.before a0 Z = true) (ws : List Jvm.Cond) (o0 : Addr) (o2 : Addr) (kc : ClassId) (w0 : Int32) (w1 : Int32) (kb : ClassId) (h0 : Heap) (n0 : Nat) (Z0 : n0 ≤ h0.size) (I0 : Arv Z h0 o0 kc .char (2 : Int32) [(.int w0), (.int w1)] (.int 0)) (I1 : Arv Z h0 o2 kb .byte (2 : Int32) [(.int 0), (.int 0)] (.int 0)) (gw_o2 : n0 ≤ o2) (ne_o0_o2 : o0 ≠ o2) :
    Met1 l Nm_20 (Jvm.Cond.code Nm_20 jdk_52_method_21_code 7 (some .int)) ws (rom 0 0 0 0) #[(.ref o0), (.int 0), (.ref o2), (.int 0), (.int 2)] Z h0 (Q9_2 Z o0 o2 kc w0 w1 kb h0 n0) := by
  refine MetFree.of_bodySF (plainFor_of_name pn_9) hisR ?_
  intro p e s m args below meth c s₁ Bd hml0 hP hK
  obtain ⟨rfl, hZ, hh⟩ := hP
  have hx := Bd.exec
  have hby := Bd.bytes
  have hml : c.maxLocals = 7 := hml0
  have hown : s.vm.findClass "java/lang/StringUTF16" = some m.cls := findClass_of_methodNamed Bd.named
  have X0 : Stand p l e (rom 0 0 0 0) s m _ _ _ _ _ [] 0 0 := Stand.of_body Bd
  have e0 : s₁.heap = h0 := by rw [← hh, Bd.state]; rfl
  have N0 := Fr.nil n0
  have K0 : Keep h0 h0 [o2] := Keep.refl _ _
  have pre0 : Go p e below s₁ _ (mkF m 0 #[.val (.ref o0), .val (.int 0), .val (.ref o2), .val (.int 0), .val (.int 2), .unset, .unset] []) _ := fun t k => castTop (ef_9_2 m o0 o2) k
  have pre3 : Go p e below s₁ _ (mkF m 12 #[.val (.ref o0), .val (.int 0), .val (.ref o2), .val (.int 0), .val (.int 2), .val (.int 0), .unset] [(.int 0), (.ref o0)]) _ := fun t k => pre0 t (by
    refine XS.iconst X0.here hx rfl (hb hby d9_0) ?_
    refine XS.istore X0.here hx rfl (hb hby d9_1) rfl (l' := #[.val (.ref o0), .val (.int 0), .val (.ref o2), .val (.int 0), .val (.int 2), .val (.int 0), .unset]) rfl ?_
    refine XS.iload X0.here hx rfl (hb hby d9_3) rfl ?_
    refine XS.iload X0.here hx rfl (hb hby d9_5) rfl ?_
    refine XS.icmpNo X0.here hx rfl (hb hby d9_7) rfl (by decide) ?_
    refine XS.aloadN X0.here hx rfl (hb hby d9_10) rfl rfl ?_
    refine XS.iloadN X0.here hx rfl (hb hby d9_11) rfl ?_
    exact k)
  obtain ⟨cl4, Ar4, -, Sz4, Mn4, Hs4, -⟩ := id I0
  have hin4 : ¬ ((0 : Int32) < 0 ∨ cl4.slots.size ≤ ((0 : Int32)).toNatClampNeg) := inb_of Sz4 ⟨by decide, by decide⟩
  have hat4 : cl4.slots[((0 : Int32)).toNatClampNeg]? = some (.int w0) := Hs4.at hin4 rfl
  have pre5 : Go p e below s₁ _ (mkF m 13 #[.val (.ref o0), .val (.int 0), .val (.ref o2), .val (.int 0), .val (.int 2), .val (.int 0), .unset] [(.int w0)]) _ := fun t k => pre3 t (by
    show Steps p.tables e below (s₁.setTop (mkF m 12 #[.val (.ref o0), .val (.int 0), .val (.ref o2), .val (.int 0), .val (.int 2), .val (.int 0), .unset] [(.int 0), (.ref o0)])) _
    refine X0.caload hx (j := (0 : Int32)) (v := (.int w0)) (by rw [e0]; exact Ar4.1) (State.isArrayOf_alike hZ.alike Ar4.2.1) Ar4.2.2 hin4 hat4 (g := (mkF m 12 #[.val (.ref o0), .val (.int 0), .val (.ref o2), .val (.int 0), .val (.int 2), .val (.int 0), .unset] [(.int 0), (.ref o0)])) rfl rfl (hb hby d9_12) _ ?_
    exact k)
  have pre6 : Go p e below s₁ _ (mkF m 20 #[.val (.ref o0), .val (.int 0), .val (.ref o2), .val (.int 0), .val (.int 2), .val (.int 0), .val (.int w0)] [(.int 255), (.int w0)]) _ := fun t k => pre5 t (by
    refine XS.istore X0.here hx rfl (hb hby d9_13) rfl (l' := #[.val (.ref o0), .val (.int 0), .val (.ref o2), .val (.int 0), .val (.int 2), .val (.int 0), .val (.int w0)]) rfl ?_
    refine XS.iload X0.here hx rfl (hb hby d9_15) rfl ?_
    refine XS.sipush X0.here hx rfl (hb hby d9_17) ?_
    exact k)
  by_cases hc20_1 : (255 : Int32) < w0
  · have pre7 : Go p e below s₁ _ (mkF m 25 #[.val (.ref o0), .val (.int 0), .val (.ref o2), .val (.int 0), .val (.int 2), .val (.int 0), .val (.int w0)] [(.int 0)]) _ := fun t k => pre6 t (by
      refine XS.icmpNo X0.here hx rfl (hb hby d9_20) rfl (tlt hc20_1).2.2.2 ?_
      refine XS.iload X0.here hx rfl (hb hby d9_23) rfl ?_
      exact k)
    obtain ⟨fs, hr, hrun, hended, hW, hsame⟩ := X0.leave (v := some (.int 0)) (fun h => by rw [Bd.returns] at h; cases h)
    refine ⟨_, _, ?_, hrun, hended, _, _, rfl, ?_, ⟨_, rfl⟩, hW, hsame.mono (by decide) (by decide)⟩
    · exact pre7 _ (retI X0 hx Bd.returns (hb hby d9_25) hr)
    · show Q9_2 Z o0 o2 kc w0 w1 kb h0 n0 _ s₁.heap _
      rw [e0]
      exact ⟨by simp only [f9_2, if_pos hc20_1], N0, K0, by rw [show (g9_2_o2_0 w0) = (0 : Int32) from by simp only [g9_2_o2_0, if_pos hc20_1], show (g9_2_o2_1 w0 w1) = (0 : Int32) from by simp only [g9_2_o2_1, if_pos hc20_1]]; exact I1⟩
  · have pre8 : Go p e below s₁ _ (mkF m 31 #[.val (.ref o0), .val (.int 0), .val (.ref o2), .val (.int 0), .val (.int 2), .val (.int 0), .val (.int w0)] [(.int (w0.toInt8.toInt32)), (.int 0), (.ref o2)]) _ := fun t k => pre6 t (by
      refine XS.icmpYes X0.here hx rfl (pc0 := 20) (pc' := 26) rfl (hb hby d9_20) rfl (flt hc20_1).2.2.2 (by decide) (by decide) ?_
      refine XS.aloadN X0.here hx rfl (hb hby d9_26) rfl rfl ?_
      refine XS.iloadN X0.here hx rfl (hb hby d9_27) rfl ?_
      refine XS.iload X0.here hx rfl (hb hby d9_28) rfl ?_
      refine XS.i2b X0.here hx rfl (hb hby d9_30) rfl ?_
      exact k)
    obtain ⟨cl9, Ar9, q9, Sz9, Mn9, Hs9, Gs9⟩ := id I1
    have hin9 : ¬ ((0 : Int32) < 0 ∨ cl9.slots.size ≤ ((0 : Int32)).toNatClampNeg) := inb_of Sz9 ⟨by decide, by decide⟩
    obtain ⟨T9, h9, X9, e9, W9, st9⟩ := stB X0 hx hZ e0 Ar9 (j := (0 : Int32)) hin9 (g := (mkF m 31 #[.val (.ref o0), .val (.int 0), .val (.ref o2), .val (.int 0), .val (.int 2), .val (.int 0), .val (.int w0)] [(.int (w0.toInt8.toInt32)), (.int 0), (.ref o2)])) rfl rfl (hb hby d9_31)
    have V9 : Arv Z h9 o2 kb .byte (2 : Int32) [(.int ((w0.toInt8.toInt32).toInt8.toInt32)), (.int 0)] (.int 0) := Arv.set Ar9 q9 Sz9 Mn9 Hs9 Gs9 (fits_nar_byte _) W9 0 rfl (Nat.le_of_ble_eq_true rfl)
    have N9 := Fr.snoc X9 N0 gw_o2
    have K9 : Keep h0 h9 [o2] := K0.wr W9 (Or.inl (List.mem_of_getElem? (i := 0) rfl))
    have Z9 : n0 ≤ h9.size := Nat.le_trans Z0 (Keep.of_wr W9).1
    have x10 := I0.other W9 ne_o0_o2
    have pre11 := Go.thn pre8 st9
    have pre12 : Go p e below T9 _ (mkF m 12 #[.val (.ref o0), .val (.int 1), .val (.ref o2), .val (.int 1), .val (.int 2), .val (.int 1), .val (.int w0)] [(.int 1), (.ref o0)]) _ := fun t k => pre11 t (by
      refine XS.iinc X9.here hx rfl (hb hby d9_32) rfl (l' := #[.val (.ref o0), .val (.int 1), .val (.ref o2), .val (.int 0), .val (.int 2), .val (.int 0), .val (.int w0)]) rfl ?_
      refine XS.iinc X9.here hx rfl (hb hby d9_35) rfl (l' := #[.val (.ref o0), .val (.int 1), .val (.ref o2), .val (.int 1), .val (.int 2), .val (.int 0), .val (.int w0)]) rfl ?_
      refine XS.iinc X9.here hx rfl (hb hby d9_38) rfl (l' := #[.val (.ref o0), .val (.int 1), .val (.ref o2), .val (.int 1), .val (.int 2), .val (.int 1), .val (.int w0)]) rfl ?_
      refine XS.goto X9.here hx rfl (pc0 := 41) (pc' := 3) rfl (hb hby d9_41) (by decide) (by decide) ?_
      refine XS.iload X9.here hx rfl (hb hby d9_3) rfl ?_
      refine XS.iload X9.here hx rfl (hb hby d9_5) rfl ?_
      refine XS.icmpNo X9.here hx rfl (hb hby d9_7) rfl (by decide) ?_
      refine XS.aloadN X9.here hx rfl (hb hby d9_10) rfl rfl ?_
      refine XS.iloadN X9.here hx rfl (hb hby d9_11) rfl ?_
      exact k)
    obtain ⟨cl13, Ar13, -, Sz13, Mn13, Hs13, -⟩ := id x10
    have hin13 : ¬ ((1 : Int32) < 0 ∨ cl13.slots.size ≤ ((1 : Int32)).toNatClampNeg) := inb_of Sz13 ⟨by decide, by decide⟩
    have hat13 : cl13.slots[((1 : Int32)).toNatClampNeg]? = some (.int w1) := Hs13.at hin13 rfl
    have pre14 : Go p e below T9 _ (mkF m 13 #[.val (.ref o0), .val (.int 1), .val (.ref o2), .val (.int 1), .val (.int 2), .val (.int 1), .val (.int w0)] [(.int w1)]) _ := fun t k => pre12 t (by
      show Steps p.tables e below (T9.setTop (mkF m 12 #[.val (.ref o0), .val (.int 1), .val (.ref o2), .val (.int 1), .val (.int 2), .val (.int 1), .val (.int w0)] [(.int 1), (.ref o0)])) _
      refine X9.caload hx (j := (1 : Int32)) (v := (.int w1)) (by rw [e9]; exact Ar13.1) (State.isArrayOf_alike hZ.alike Ar13.2.1) Ar13.2.2 hin13 hat13 (g := (mkF m 12 #[.val (.ref o0), .val (.int 1), .val (.ref o2), .val (.int 1), .val (.int 2), .val (.int 1), .val (.int w0)] [(.int 1), (.ref o0)])) rfl rfl (hb hby d9_12) _ ?_
      exact k)
    have pre15 : Go p e below T9 _ (mkF m 20 #[.val (.ref o0), .val (.int 1), .val (.ref o2), .val (.int 1), .val (.int 2), .val (.int 1), .val (.int w1)] [(.int 255), (.int w1)]) _ := fun t k => pre14 t (by
      refine XS.istore X9.here hx rfl (hb hby d9_13) rfl (l' := #[.val (.ref o0), .val (.int 1), .val (.ref o2), .val (.int 1), .val (.int 2), .val (.int 1), .val (.int w1)]) rfl ?_
      refine XS.iload X9.here hx rfl (hb hby d9_15) rfl ?_
      refine XS.sipush X9.here hx rfl (hb hby d9_17) ?_
      exact k)
    by_cases hc20_2 : (255 : Int32) < w1
    · have pre16 : Go p e below T9 _ (mkF m 25 #[.val (.ref o0), .val (.int 1), .val (.ref o2), .val (.int 1), .val (.int 2), .val (.int 1), .val (.int w1)] [(.int 1)]) _ := fun t k => pre15 t (by
        refine XS.icmpNo X9.here hx rfl (hb hby d9_20) rfl (tlt hc20_2).2.2.2 ?_
        refine XS.iload X9.here hx rfl (hb hby d9_23) rfl ?_
        exact k)
      obtain ⟨fs, hr, hrun, hended, hW, hsame⟩ := X9.leave (v := some (.int 1)) (fun h => by rw [Bd.returns] at h; cases h)
      refine ⟨_, _, ?_, hrun, hended, _, _, rfl, ?_, ⟨_, rfl⟩, hW, hsame.mono (by decide) (by decide)⟩
      · exact pre16 _ (retI X9 hx Bd.returns (hb hby d9_25) hr)
      · show Q9_2 Z o0 o2 kc w0 w1 kb h0 n0 _ T9.heap _
        rw [e9]
        exact ⟨by simp only [f9_2, if_neg hc20_1, if_pos hc20_2], N9, K9, by rw [show (g9_2_o2_0 w0) = ((w0.toInt8.toInt32).toInt8.toInt32) from by simp only [g9_2_o2_0, if_neg hc20_1, if_pos hc20_2], show (g9_2_o2_1 w0 w1) = (0 : Int32) from by simp only [g9_2_o2_1, if_neg hc20_1, if_pos hc20_2]]; exact V9⟩
    · have pre17 : Go p e below T9 _ (mkF m 31 #[.val (.ref o0), .val (.int 1), .val (.ref o2), .val (.int 1), .val (.int 2), .val (.int 1), .val (.int w1)] [(.int (w1.toInt8.toInt32)), (.int 1), (.ref o2)]) _ := fun t k => pre15 t (by
        refine XS.icmpYes X9.here hx rfl (pc0 := 20) (pc' := 26) rfl (hb hby d9_20) rfl (flt hc20_2).2.2.2 (by decide) (by decide) ?_
        refine XS.aloadN X9.here hx rfl (hb hby d9_26) rfl rfl ?_
        refine XS.iloadN X9.here hx rfl (hb hby d9_27) rfl ?_
        refine XS.iload X9.here hx rfl (hb hby d9_28) rfl ?_
        refine XS.i2b X9.here hx rfl (hb hby d9_30) rfl ?_
        exact k)
      obtain ⟨cl18, Ar18, q18, Sz18, Mn18, Hs18, Gs18⟩ := id V9
      have hin18 : ¬ ((1 : Int32) < 0 ∨ cl18.slots.size ≤ ((1 : Int32)).toNatClampNeg) := inb_of Sz18 ⟨by decide, by decide⟩
      obtain ⟨T18, h18, X18, e18, W18, st18⟩ := stB X9 hx hZ e9 Ar18 (j := (1 : Int32)) hin18 (g := (mkF m 31 #[.val (.ref o0), .val (.int 1), .val (.ref o2), .val (.int 1), .val (.int 2), .val (.int 1), .val (.int w1)] [(.int (w1.toInt8.toInt32)), (.int 1), (.ref o2)])) rfl rfl (hb hby d9_31)
      have V18 : Arv Z h18 o2 kb .byte (2 : Int32) [(.int ((w0.toInt8.toInt32).toInt8.toInt32)), (.int ((w1.toInt8.toInt32).toInt8.toInt32))] (.int 0) := Arv.set Ar18 q18 Sz18 Mn18 Hs18 Gs18 (fits_nar_byte _) W18 1 rfl (Nat.le_of_ble_eq_true rfl)
      have N18 := Fr.snoc X18 N9 gw_o2
      have K18 : Keep h0 h18 [o2] := K9.wr W18 (Or.inl (List.mem_of_getElem? (i := 0) rfl))
      have Z18 : n0 ≤ h18.size := Nat.le_trans Z9 (Keep.of_wr W18).1
      have x19 := x10.other W18 ne_o0_o2
      have pre20 := Go.thn pre17 st18
      have pre21 : Go p e below T18 _ (mkF m 46 #[.val (.ref o0), .val (.int 2), .val (.ref o2), .val (.int 2), .val (.int 2), .val (.int 2), .val (.int w1)] [(.int 2)]) _ := fun t k => pre20 t (by
        refine XS.iinc X18.here hx rfl (hb hby d9_32) rfl (l' := #[.val (.ref o0), .val (.int 2), .val (.ref o2), .val (.int 1), .val (.int 2), .val (.int 1), .val (.int w1)]) rfl ?_
        refine XS.iinc X18.here hx rfl (hb hby d9_35) rfl (l' := #[.val (.ref o0), .val (.int 2), .val (.ref o2), .val (.int 2), .val (.int 2), .val (.int 1), .val (.int w1)]) rfl ?_
        refine XS.iinc X18.here hx rfl (hb hby d9_38) rfl (l' := #[.val (.ref o0), .val (.int 2), .val (.ref o2), .val (.int 2), .val (.int 2), .val (.int 2), .val (.int w1)]) rfl ?_
        refine XS.goto X18.here hx rfl (pc0 := 41) (pc' := 3) rfl (hb hby d9_41) (by decide) (by decide) ?_
        refine XS.iload X18.here hx rfl (hb hby d9_3) rfl ?_
        refine XS.iload X18.here hx rfl (hb hby d9_5) rfl ?_
        refine XS.icmpYes X18.here hx rfl (pc0 := 7) (pc' := 44) rfl (hb hby d9_7) rfl (by decide) (by decide) (by decide) ?_
        refine XS.iload X18.here hx rfl (hb hby d9_44) rfl ?_
        exact k)
      obtain ⟨fs, hr, hrun, hended, hW, hsame⟩ := X18.leave (v := some (.int 2)) (fun h => by rw [Bd.returns] at h; cases h)
      refine ⟨_, _, ?_, hrun, hended, _, _, rfl, ?_, ⟨_, rfl⟩, hW, hsame.mono (by decide) (by decide)⟩
      · exact pre21 _ (retI X18 hx Bd.returns (hb hby d9_46) hr)
      · show Q9_2 Z o0 o2 kc w0 w1 kb h0 n0 _ T18.heap _
        rw [e18]
        exact ⟨by simp only [f9_2, if_neg hc20_1, if_neg hc20_2], N18, K18, by rw [show (g9_2_o2_0 w0) = ((w0.toInt8.toInt32).toInt8.toInt32) from by simp only [g9_2_o2_0, if_neg hc20_1, if_neg hc20_2], show (g9_2_o2_1 w0 w1) = ((w1.toInt8.toInt32).toInt8.toInt32) from by simp only [g9_2_o2_1, if_neg hc20_1, if_neg hc20_2]]; exact V18⟩
theorem own_all2 {w0 w1 : Int32} (h0 : ¬ ((255 : Int32) < w0)) (h1 : ¬ ((255 : Int32) < w1)) : f9_2 w0 w1 = (2 : Int32) := by simp only [f9_2, if_neg h0, if_neg h1]
theorem own_fst2 {w0 w1 : Int32} (hU : (255 : Int32) < w0 ∨ (255 : Int32) < w1) : (f9_2 w0 w1 = (0 : Int32) ∧ (255 : Int32) < w0) ∨ (f9_2 w0 w1 = (1 : Int32) ∧ (255 : Int32) < w1) := by
  unfold f9_2
  by_cases h0 : (255 : Int32) < w0
  · exact Or.inl (⟨by simp only [if_pos h0], h0⟩)
  by_cases h1 : (255 : Int32) < w1
  · exact Or.inr (⟨by simp only [if_neg h0, if_pos h1], h1⟩)
  exact absurd hU (by simp only [not_or]; exact ⟨h0, h1⟩)
theorem own_ne2 {w0 w1 : Int32} (hU : (255 : Int32) < w0 ∨ (255 : Int32) < w1) : ¬ (f9_2 w0 w1 = (2 : Int32)) := by
  rcases own_fst2 hU with ⟨e, g⟩ | ⟨e, g⟩ <;> rw [e] <;> decide
theorem own_ix2 {w0 w1 : Int32} (hU : (255 : Int32) < w0 ∨ (255 : Int32) < w1) : (¬ (((f9_2 w0 w1) <<< ((1 : Int32) &&& 31)) < (0 : Int32))) ∧ (((f9_2 w0 w1) <<< ((1 : Int32) &&& 31)) < (4 : Int32)) ∧ (¬ ((((f9_2 w0 w1) <<< ((1 : Int32) &&& 31)) + (1 : Int32)) < (0 : Int32))) ∧ ((((f9_2 w0 w1) <<< ((1 : Int32) &&& 31)) + (1 : Int32)) < (4 : Int32)) := by
  rcases own_fst2 hU with ⟨e, g⟩ | ⟨e, g⟩ <;> rw [e] <;> decide
theorem own_gt2 {w0 w1 : Int32} (r0 : own_chr w0) (r1 : own_chr w1) (hU : (255 : Int32) < w0 ∨ (255 : Int32) < w1) : (255 : Int32) < f22 (f9_2 w0 w1) [(own_b0 w0), (own_b8 w0), (own_b0 w1), (own_b8 w1)] := by
  rcases own_fst2 hU with ⟨e, g⟩ | ⟨e, g⟩ <;> rw [e]
  · rw [show f22 (0 : Int32) [(own_b0 w0), (own_b8 w0), (own_b0 w1), (own_b8 w1)] = w0 from own_rt r0]; exact g
  · rw [show f22 (1 : Int32) [(own_b0 w0), (own_b8 w0), (own_b0 w1), (own_b8 w1)] = w1 from own_rt r1]; exact g
theorem ef_8_2L (m : MethodId) (x0 : Addr) : entryFrame m #[(.ref x0), (.int 0), (.int 2)] 6 = mkF m 0 #[.val (.ref x0), .val (.int 0), .val (.int 2), .unset, .unset, .unset] [] := by first | (simp [entryFrame, mkF, argsToLocals, Value.category]; done) | rfl
def Q8_2L (Z : State) (o0 : Addr) (kc : ClassId) (w0 : Int32) (w1 : Int32) (h0 : Heap) (n0 : Nat) (v : Option Value) (h : Heap) (L : List Loc) : Prop := ∃ (b1 : Addr) (k_b1 : ClassId), v = (some (.ref b1)) ∧ Fr n0 L ∧ Keep h0 h [] ∧ h0.size ≤ b1 ∧ Arv Z h b1 k_b1 .byte (2 : Int32) [(.int (g9_2_o2_0 w0)), (.int (g9_2_o2_1 w0 w1))] (.int 0)
set_option maxRecDepth 65536 in
set_option maxHeartbeats 40000000 in
theorem rm8_2L (l : Launch) (Z : State) (a0 : Array Value) (hw : ∀ d ∈ tables_1, d.before a0 Z = true) (ws : List Jvm.Cond) (o0 : Addr) (kc : ClassId) (w0 : Int32) (w1 : Int32) (h0 : Heap) (n0 : Nat) (Z0 : n0 ≤ h0.size) (I0 : Sta Z h0 "java/lang/StringUTF16" "$assertionsDisabled" "Z" (.int 1)) (I1 : Sta Z h0 "java/lang/StringUTF16" "HI_BYTE_SHIFT" "I" (.int 0)) (I2 : Sta Z h0 "java/lang/StringUTF16" "LO_BYTE_SHIFT" "I" (.int 8)) (I3 : Arv Z h0 o0 kc .char (2 : Int32) [(.int w0), (.int w1)] (.int 0)) (hl0 : ¬ ((255 : Int32) < w0)) (hl1 : ¬ ((255 : Int32) < w1)) :
    Met1 l Nm_21 (Jvm.Cond.code Nm_21 jdk_52_method_16_code 6 (some (.array .byte))) ws (rom 1 1 2 18) #[(.ref o0), (.int 0), (.int 2)] Z h0 (Q8_2L Z o0 kc w0 w1 h0 n0) := by
  refine MetFree.of_bodySF (plainFor_of_name pn_8) hisR ?_
  intro p e s m args below meth c s₁ Bd hml0 hP hK
  obtain ⟨rfl, hZ, hh⟩ := hP
  have hx := Bd.exec
  have hby := Bd.bytes
  have hml : c.maxLocals = 6 := hml0
  have hown : s.vm.findClass "java/lang/StringUTF16" = some m.cls := findClass_of_methodNamed Bd.named
  have X0 : Stand p l e (rom 1 1 2 18) s m _ _ _ _ _ [] 0 0 := Stand.of_body Bd
  have e0 : s₁.heap = h0 := by rw [← hh, Bd.state]; rfl
  have N0 := Fr.nil n0
  have K0 : Keep h0 h0 [] := Keep.refl _ _
  have pre0 : Go p e below s₁ _ (mkF m 0 #[.val (.ref o0), .val (.int 0), .val (.int 2), .unset, .unset, .unset] []) _ := fun t k => castTop (ef_8_2L m o0) k
  have pre1 : Go p e below s₁ _ (mkF m 1 #[.val (.ref o0), .val (.int 0), .val (.int 2), .unset, .unset, .unset] [(.int 2)]) _ := fun t k => pre0 t (by
    refine XS.iloadN X0.here hx rfl (hb hby d8_0) rfl ?_
    exact k)
  obtain ⟨T2, h2, k2, X2, e2, E2, A2, st2⟩ := newP X0 hx hZ (wq hw 21 rfl) e0 (g := (mkF m 1 #[.val (.ref o0), .val (.int 0), .val (.int 2), .unset, .unset, .unset] [(.int 2)])) rfl (hb hby d8_1) rfl (by decide) (cap := 2) (by decide) (by decide) (by decide) (by decide)
  obtain ⟨b1, g2⟩ : ∃ z, z = h0.size := ⟨_, rfl⟩
  rw [← g2] at A2 st2
  have gg2 : n0 ≤ b1 := Nat.le_trans Z0 (Nat.le_of_eq g2.symm)
  have sz2 : h0.size ≤ b1 := Nat.le_trans K0.1 (Nat.le_of_eq g2.symm)
  have K2 : Keep h0 h2 [] := K0.ext E2
  have Z2 : n0 ≤ h2.size := Nat.le_trans Z0 E2.1
  have V2 : Arv Z h2 b1 k2 .byte (2 : Int32) [(.int 0), (.int 0)] (.int 0) := (Arv.new A2 (by decide)).pad (pad_rep [] (.int 0) 2)
  have ne2_o0 : o0 ≠ b1 := Nat.ne_of_lt (Nat.lt_of_lt_of_le I3.lt (Nat.le_of_eq g2.symm))
  have x3 := I0.ext E2
  have x4 := I1.ext E2
  have x5 := I2.ext E2
  have x6 := I3.ext E2
  have pre7 := Go.thn pre1 st2
  have pre8 : Go p e below T2 _ (mkF m 9 #[.val (.ref o0), .val (.int 0), .val (.int 2), .val (.ref b1), .unset, .unset] [(.int 2), (.int 0), (.ref b1), (.int 0), (.ref o0)]) _ := fun t k => pre7 t (by
    refine XS.astoreN X2.here hx rfl (hb hby d8_3) rfl rfl (l' := #[.val (.ref o0), .val (.int 0), .val (.int 2), .val (.ref b1), .unset, .unset]) rfl ?_
    refine XS.aloadN X2.here hx rfl (hb hby d8_4) rfl rfl ?_
    refine XS.iloadN X2.here hx rfl (hb hby d8_5) rfl ?_
    refine XS.aloadN X2.here hx rfl (hb hby d8_6) rfl rfl ?_
    refine XS.iconst X2.here hx rfl (hb hby d8_7) ?_
    refine XS.iloadN X2.here hx rfl (hb hby d8_8) rfl ?_
    exact k)
  obtain ⟨_, _, ⟨T9, L9, k9, n9⟩, -, X9, ⟨Lc9, hQ9, l9, y9, z9⟩, st9⟩ := Jvm.LawKit.callS X2 hx (y := Nm_20) hown (mvT hZ (wq hw 47 rfl)) (mvT hZ (wq hw 48 rfl)) (mvT hZ (wq hw 45 rfl)) (mvT hZ (wq hw 49 rfl)) (by decide) (backOf (W := 0) (rm9_2 l Z a0 hw [] o0 b1 _ w0 w1 _ h2 n0 Z2 x6 V2 gg2 ne2_o0) hZ (wq hw 49 rfl) (wq hw 45 rfl) (by decide) (by decide)) (g := (mkF m 9 #[.val (.ref o0), .val (.int 0), .val (.int 2), .val (.ref b1), .unset, .unset] [(.int 2), (.int 0), (.ref b1), (.int 0), (.ref o0)])) rfl (by rw [hml]; rfl) (argsL := [(.ref o0), (.int 0), (.ref b1), (.int 0), (.int 2)]) (rest := []) (lenOf pd___CI_BII_I rfl) rfl (w00 rfl) (hb hby d8_9) (fun _ _ => ⟨rfl, e2, (by decide : 1 + 0 ≤ _), (by decide : 2 + 0 ≤ _)⟩)
  dsimp only [Pt.U, Pt.locs, Pt.cells, Pt.slots] at X9 l9 y9 z9 st9 hQ9
  subst l9 y9 z9
  obtain ⟨rfl, Nq9, Kq9, o9_0⟩ := hQ9
  have N9 := Fr.app N0 Nq9
  have K9 : Keep h0 T9.heap [] := K2.trans Kq9 (allS (Or.inr sz2) all0)
  have Z9 : n0 ≤ T9.heap.size := Nat.le_trans Z2 Kq9.1
  have x10 := own_staK x3 Kq9 (allS (own_plV V2) all0)
  have x11 := own_staK x4 Kq9 (allS (own_plV V2) all0)
  have x12 := own_staK x5 Kq9 (allS (own_plV V2) all0)
  have x13 := x6.keep Kq9 (ninS ne2_o0 nin0)
  have pre14 := Go.thn pre8 st9
  have pre15 : Go p e below T9 _ (mkF m 58 #[.val (.ref o0), .val (.int 0), .val (.int 2), .val (.ref b1), .val (.int 2), .unset] [(.ref b1)]) _ := fun t k => pre14 t (by
    show Steps p.tables e below (T9.setTop (mkF m 12 #[.val (.ref o0), .val (.int 0), .val (.int 2), .val (.ref b1), .unset, .unset] [(.int (f9_2 w0 w1))])) _
    rw [own_all2 hl0 hl1]
    refine XS.istore X9.here hx rfl (hb hby d8_12) rfl (l' := #[.val (.ref o0), .val (.int 0), .val (.int 2), .val (.ref b1), .val (.int 2), .unset]) rfl ?_
    refine XS.iload X9.here hx rfl (hb hby d8_14) rfl ?_
    refine XS.iloadN X9.here hx rfl (hb hby d8_16) rfl ?_
    refine XS.icmpYes X9.here hx rfl (pc0 := 17) (pc' := 57) rfl (hb hby d8_17) rfl (by decide) (by decide) (by decide) ?_
    refine XS.aloadN X9.here hx rfl (hb hby d8_57) rfl rfl ?_
    exact k)
  obtain ⟨fs, hr, hrun, hended, hW, hsame⟩ := X9.leave (v := some (.ref b1)) (fun h => by rw [Bd.returns] at h; cases h)
  refine ⟨_, _, ?_, hrun, hended, _, _, rfl, ?_, ⟨_, rfl⟩, hW, hsame.mono (by decide) (by decide)⟩
  · refine pre15 _ ?_
    jvm_step X9.here [X9.here.top, hx, (hb hby d8_58), X9.method', Bd.returns, Value.isRef, FieldType.isReference]
    first | (intro acts; rw [hr _ acts rfl rfl rfl]) | rw [hr _ _ rfl rfl rfl]
    exact Steps.refl _
  · show Q8_2L Z o0 kc w0 w1 h0 n0 _ T9.heap _
    skip
    exact ⟨b1, _, rfl, N9, K9, sz2, o9_0⟩
def Q8_2U (Z : State) (o0 : Addr) (kc : ClassId) (w0 : Int32) (w1 : Int32) (h0 : Heap) (n0 : Nat) (v : Option Value) (h : Heap) (L : List Loc) : Prop := ∃ (b23_0 : Addr) (k_b23_0 : ClassId), v = (some (.ref b23_0)) ∧ Fr n0 L ∧ Keep h0 h [] ∧ h0.size ≤ b23_0 ∧ Arv Z h b23_0 k_b23_0 .byte (4 : Int32) [(.int (own_b0 w0)), (.int (own_b8 w0)), (.int (own_b0 w1)), (.int (own_b8 w1))] (.int 0)
set_option maxRecDepth 65536 in
set_option maxHeartbeats 40000000 in
theorem rm8_2U (l : Launch) (Z : State) (a0 : Array Value) (hw : ∀ d ∈ tables_1, d.before a0 Z = true) (ws : List Jvm.Cond) (o0 : Addr) (kc : ClassId) (w0 : Int32) (w1 : Int32) (h0 : Heap) (n0 : Nat) (Z0 : n0 ≤ h0.size) (I0 : Sta Z h0 "java/lang/StringUTF16" "$assertionsDisabled" "Z" (.int 1)) (I1 : Sta Z h0 "java/lang/StringUTF16" "HI_BYTE_SHIFT" "I" (.int 0)) (I2 : Sta Z h0 "java/lang/StringUTF16" "LO_BYTE_SHIFT" "I" (.int 8)) (I3 : Arv Z h0 o0 kc .char (2 : Int32) [(.int w0), (.int w1)] (.int 0)) (r0 : own_chr w0) (r1 : own_chr w1) (hU : (255 : Int32) < w0 ∨ (255 : Int32) < w1) :
    Met1 l Nm_21 (Jvm.Cond.code Nm_21 jdk_52_method_16_code 6 (some (.array .byte))) ws (rom 3 2 6 40) #[(.ref o0), (.int 0), (.int 2)] Z h0 (Q8_2U Z o0 kc w0 w1 h0 n0) := by
  refine MetFree.of_bodySF (plainFor_of_name pn_8) hisR ?_
  intro p e s m args below meth c s₁ Bd hml0 hP hK
  obtain ⟨rfl, hZ, hh⟩ := hP
  have hx := Bd.exec
  have hby := Bd.bytes
  have hml : c.maxLocals = 6 := hml0
  have hown : s.vm.findClass "java/lang/StringUTF16" = some m.cls := findClass_of_methodNamed Bd.named
  have X0 : Stand p l e (rom 3 2 6 40) s m _ _ _ _ _ [] 0 0 := Stand.of_body Bd
  have e0 : s₁.heap = h0 := by rw [← hh, Bd.state]; rfl
  have N0 := Fr.nil n0
  have K0 : Keep h0 h0 [] := Keep.refl _ _
  have pre0 : Go p e below s₁ _ (mkF m 0 #[.val (.ref o0), .val (.int 0), .val (.int 2), .unset, .unset, .unset] []) _ := fun t k => castTop (ef_8_2L m o0) k
  have pre1 : Go p e below s₁ _ (mkF m 1 #[.val (.ref o0), .val (.int 0), .val (.int 2), .unset, .unset, .unset] [(.int 2)]) _ := fun t k => pre0 t (by
    refine XS.iloadN X0.here hx rfl (hb hby d8_0) rfl ?_
    exact k)
  obtain ⟨T2, h2, k2, X2, e2, E2, A2, st2⟩ := newP X0 hx hZ (wq hw 21 rfl) e0 (g := (mkF m 1 #[.val (.ref o0), .val (.int 0), .val (.int 2), .unset, .unset, .unset] [(.int 2)])) rfl (hb hby d8_1) rfl (by decide) (cap := 2) (by decide) (by decide) (by decide) (by decide)
  obtain ⟨b1, g2⟩ : ∃ z, z = h0.size := ⟨_, rfl⟩
  rw [← g2] at A2 st2
  have gg2 : n0 ≤ b1 := Nat.le_trans Z0 (Nat.le_of_eq g2.symm)
  have sz2 : h0.size ≤ b1 := Nat.le_trans K0.1 (Nat.le_of_eq g2.symm)
  have K2 : Keep h0 h2 [] := K0.ext E2
  have Z2 : n0 ≤ h2.size := Nat.le_trans Z0 E2.1
  have V2 : Arv Z h2 b1 k2 .byte (2 : Int32) [(.int 0), (.int 0)] (.int 0) := (Arv.new A2 (by decide)).pad (pad_rep [] (.int 0) 2)
  have ne2_o0 : o0 ≠ b1 := Nat.ne_of_lt (Nat.lt_of_lt_of_le I3.lt (Nat.le_of_eq g2.symm))
  have x3 := I0.ext E2
  have x4 := I1.ext E2
  have x5 := I2.ext E2
  have x6 := I3.ext E2
  have pre7 := Go.thn pre1 st2
  have pre8 : Go p e below T2 _ (mkF m 9 #[.val (.ref o0), .val (.int 0), .val (.int 2), .val (.ref b1), .unset, .unset] [(.int 2), (.int 0), (.ref b1), (.int 0), (.ref o0)]) _ := fun t k => pre7 t (by
    refine XS.astoreN X2.here hx rfl (hb hby d8_3) rfl rfl (l' := #[.val (.ref o0), .val (.int 0), .val (.int 2), .val (.ref b1), .unset, .unset]) rfl ?_
    refine XS.aloadN X2.here hx rfl (hb hby d8_4) rfl rfl ?_
    refine XS.iloadN X2.here hx rfl (hb hby d8_5) rfl ?_
    refine XS.aloadN X2.here hx rfl (hb hby d8_6) rfl rfl ?_
    refine XS.iconst X2.here hx rfl (hb hby d8_7) ?_
    refine XS.iloadN X2.here hx rfl (hb hby d8_8) rfl ?_
    exact k)
  obtain ⟨_, _, ⟨T9, L9, k9, n9⟩, -, X9, ⟨Lc9, hQ9, l9, y9, z9⟩, st9⟩ := Jvm.LawKit.callS X2 hx (y := Nm_20) hown (mvT hZ (wq hw 47 rfl)) (mvT hZ (wq hw 48 rfl)) (mvT hZ (wq hw 45 rfl)) (mvT hZ (wq hw 49 rfl)) (by decide) (backOf (W := 0) (rm9_2 l Z a0 hw [] o0 b1 _ w0 w1 _ h2 n0 Z2 x6 V2 gg2 ne2_o0) hZ (wq hw 49 rfl) (wq hw 45 rfl) (by decide) (by decide)) (g := (mkF m 9 #[.val (.ref o0), .val (.int 0), .val (.int 2), .val (.ref b1), .unset, .unset] [(.int 2), (.int 0), (.ref b1), (.int 0), (.ref o0)])) rfl (by rw [hml]; rfl) (argsL := [(.ref o0), (.int 0), (.ref b1), (.int 0), (.int 2)]) (rest := []) (lenOf pd___CI_BII_I rfl) rfl (w00 rfl) (hb hby d8_9) (fun _ _ => ⟨rfl, e2, (by decide : 1 + 0 ≤ _), (by decide : 2 + 0 ≤ _)⟩)
  dsimp only [Pt.U, Pt.locs, Pt.cells, Pt.slots] at X9 l9 y9 z9 st9 hQ9
  subst l9 y9 z9
  obtain ⟨rfl, Nq9, Kq9, o9_0⟩ := hQ9
  have N9 := Fr.app N0 Nq9
  have K9 : Keep h0 T9.heap [] := K2.trans Kq9 (allS (Or.inr sz2) all0)
  have Z9 : n0 ≤ T9.heap.size := Nat.le_trans Z2 Kq9.1
  have x10 := own_staK x3 Kq9 (allS (own_plV V2) all0)
  have x11 := own_staK x4 Kq9 (allS (own_plV V2) all0)
  have x12 := own_staK x5 Kq9 (allS (own_plV V2) all0)
  have x13 := x6.keep Kq9 (ninS ne2_o0 nin0)
  have pre14 := Go.thn pre8 st9
  have pre15 : Go p e below T9 _ (mkF m 23 #[.val (.ref o0), .val (.int 0), .val (.int 2), .val (.ref b1), .val (.int (f9_2 w0 w1)), .unset] [(.int 2), (.int 0), (.ref o0)]) _ := fun t k => pre14 t (by
    refine XS.istore X9.here hx rfl (hb hby d8_12) rfl (l' := #[.val (.ref o0), .val (.int 0), .val (.int 2), .val (.ref b1), .val (.int (f9_2 w0 w1)), .unset]) rfl ?_
    refine XS.iload X9.here hx rfl (hb hby d8_14) rfl ?_
    refine XS.iloadN X9.here hx rfl (hb hby d8_16) rfl ?_
    refine XS.icmpNo X9.here hx rfl (hb hby d8_17) rfl (feq (own_ne2 hU)).1 ?_
    refine XS.aloadN X9.here hx rfl (hb hby d8_20) rfl rfl ?_
    refine XS.iloadN X9.here hx rfl (hb hby d8_21) rfl ?_
    refine XS.iloadN X9.here hx rfl (hb hby d8_22) rfl ?_
    exact k)
  obtain ⟨_, _, ⟨T16, L16, k16, n16⟩, -, X16, ⟨Lc16, hQ16, l16, y16, z16⟩, st16⟩ := Jvm.LawKit.callS X9 hx (y := Nm_19) hown (mvT hZ (wq hw 81 rfl)) (mvT hZ (wq hw 82 rfl)) (mvT hZ (wq hw 45 rfl)) (mvT hZ (wq hw 83 rfl)) (by decide) (backOf (W := 0) (rm18_2 l Z a0 hw [] o0 _ w0 w1 T9.heap n0 Z9 x10 x11 x12 x13) hZ (wq hw 83 rfl) (wq hw 45 rfl) (by decide) (by decide)) (g := (mkF m 23 #[.val (.ref o0), .val (.int 0), .val (.int 2), .val (.ref b1), .val (.int (f9_2 w0 w1)), .unset] [(.int 2), (.int 0), (.ref o0)])) rfl (by rw [hml]; rfl) (argsL := [(.ref o0), (.int 0), (.int 2)]) (rest := []) (lenOf pd___CII__B rfl) rfl (w00 rfl) (hb hby d8_23) (fun _ _ => ⟨rfl, rfl, (by decide : 1 + 1 ≤ _), (by decide : 2 + 4 ≤ _)⟩)
  dsimp only [Pt.U, Pt.locs, Pt.cells, Pt.slots] at X16 l16 y16 z16 st16 hQ16
  subst l16 y16 z16
  obtain ⟨b23_0, k_b1_0_16, rfl, Nq16, Kq16, gz16_b23_0, o16_0⟩ := hQ16
  have N16 := Fr.app N9 Nq16
  have K16 : Keep h0 T16.heap [] := K9.trans Kq16 all0
  have Z16 : n0 ≤ T16.heap.size := Nat.le_trans Z9 Kq16.1
  have x17 := own_staK x10 Kq16 all0
  have x18 := own_staK x11 Kq16 all0
  have x19 := own_staK x12 Kq16 all0
  have x20 := x13.keep Kq16 nin0
  have x21 := o9_0.keep Kq16 nin0
  have gg16_b23_0 : n0 ≤ b23_0 := Nat.le_trans Z9 gz16_b23_0
  have sz16_b23_0 : h0.size ≤ b23_0 := Nat.le_trans K9.1 gz16_b23_0
  have ne16_o0_b23_0 : o0 ≠ b23_0 := Nat.ne_of_lt (Nat.lt_of_lt_of_le x13.lt gz16_b23_0)
  have ne16_b1_b23_0 : b1 ≠ b23_0 := Nat.ne_of_lt (Nat.lt_of_lt_of_le o9_0.lt gz16_b23_0)
  have pre22 := Go.thn pre15 st16
  have pre23 : Go p e below T16 _ (mkF m 32 #[.val (.ref o0), .val (.int 0), .val (.int 2), .val (.ref b1), .val (.int (f9_2 w0 w1)), .val (.ref b23_0)] [(.int (f9_2 w0 w1)), (.ref b23_0)]) _ := fun t k => pre22 t (by
    refine XS.astore X16.here hx rfl (hb hby d8_26) rfl rfl (l' := #[.val (.ref o0), .val (.int 0), .val (.int 2), .val (.ref b1), .val (.int (f9_2 w0 w1)), .val (.ref b23_0)]) rfl ?_
    refine XS.aload X16.here hx rfl (hb hby d8_28) rfl rfl ?_
    refine XS.iload X16.here hx rfl (hb hby d8_30) rfl ?_
    exact k)
  obtain ⟨_, _, ⟨T24, L24, k24, n24⟩, -, X24, ⟨Lc24, hQ24, l24, y24, z24⟩, st24⟩ := Jvm.LawKit.callS X16 hx (y := Nm_9) hown (mvT hZ (wq hw 97 rfl)) (mvT hZ (wq hw 98 rfl)) (mvT hZ (wq hw 45 rfl)) (mvT hZ (wq hw 99 rfl)) (by decide) (backOf (W := 0) (rm22 l Z a0 hw [] b23_0 (f9_2 w0 w1) _ (4 : Int32) [(own_b0 w0), (own_b8 w0), (own_b0 w1), (own_b8 w1)] T16.heap n0 Z16 x17 x18 x19 o16_0 (own_ix2 hU).1 (own_ix2 hU).2.1 (own_ix2 hU).2.2.1 (own_ix2 hU).2.2.2) hZ (wq hw 99 rfl) (wq hw 45 rfl) (by decide) (by decide)) (g := (mkF m 32 #[.val (.ref o0), .val (.int 0), .val (.int 2), .val (.ref b1), .val (.int (f9_2 w0 w1)), .val (.ref b23_0)] [(.int (f9_2 w0 w1)), (.ref b23_0)])) rfl (by rw [hml]; rfl) (argsL := [(.ref b23_0), (.int (f9_2 w0 w1))]) (rest := []) (lenOf pd___BI_C rfl) rfl (w00 rfl) (hb hby d8_32) (fun _ _ => ⟨rfl, rfl, (by decide : 2 + 0 ≤ _), (by decide : 6 + 0 ≤ _)⟩)
  dsimp only [Pt.U, Pt.locs, Pt.cells, Pt.slots] at X24 l24 y24 z24 st24 hQ24
  subst l24 y24 z24
  obtain ⟨rfl, Nq24, e24⟩ := hQ24
  have N24 := Fr.app N16 Nq24
  have pre25 := Go.thn pre23 st24
  have pre26 : Go p e below T24 _ (mkF m 56 #[.val (.ref o0), .val (.int 0), .val (.int 2), .val (.ref b1), .val (.int (f9_2 w0 w1)), .val (.ref b23_0)] [(.ref b23_0)]) _ := fun t k => pre25 t (by
    refine XS.sipush X24.here hx rfl (hb hby d8_35) ?_
    refine XS.icmpYes X24.here hx rfl (pc0 := 38) (pc' := 54) rfl (hb hby d8_38) rfl (tlt (own_gt2 r0 r1 hU)).2.2.1 (by decide) (by decide) ?_
    refine XS.aload X24.here hx rfl (hb hby d8_54) rfl rfl ?_
    exact k)
  obtain ⟨fs, hr, hrun, hended, hW, hsame⟩ := X24.leave (v := some (.ref b23_0)) (fun h => by rw [Bd.returns] at h; cases h)
  refine ⟨_, _, ?_, hrun, hended, _, _, rfl, ?_, ⟨_, rfl⟩, hW, hsame.mono (by decide) (by decide)⟩
  · refine pre26 _ ?_
    jvm_step X24.here [X24.here.top, hx, (hb hby d8_56), X24.method', Bd.returns, Value.isRef, FieldType.isReference]
    first | (intro acts; rw [hr _ acts rfl rfl rfl]) | rw [hr _ _ rfl rfl rfl]
    exact Steps.refl _
  · show Q8_2U Z o0 kc w0 w1 h0 n0 _ T24.heap _
    rw [e24]
    exact ⟨b23_0, _, rfl, N24, K16, sz16_b23_0, o16_0⟩
theorem ef_3_2L (m : MethodId) (x0 : Addr) (x1 : Addr) : entryFrame m #[(.ref x0), (.ref x1), (.int 0), (.int 2), .null] 6 = mkF m 0 #[.val (.ref x0), .val (.ref x1), .val (.int 0), .val (.int 2), .val .null, .unset] [] := by first | (simp [entryFrame, mkF, argsToLocals, Value.category]; done) | rfl
def Q3_2L (Z : State) (o0 : Addr) (o1 : Addr) (wcs : Int32) (kc : ClassId) (w0 : Int32) (w1 : Int32) (h0 : Heap) (n0 : Nat) (v : Option Value) (h : Heap) (L : List Loc) : Prop := ∃ (b36_0 : Addr) (k_b36_0 : ClassId), v = none ∧ Fr n0 L ∧ Keep h0 h [o0] ∧ h0.size ≤ b36_0 ∧ Exa Z h o0 "java/lang/String" ∧ Fld Z h o0 "java/lang/String" "value" "[B" (.ref b36_0) ∧ Fld Z h o0 "java/lang/String" "coder" "B" (.int 0) ∧ Arv Z h b36_0 k_b36_0 .byte (2 : Int32) [(.int (g9_2_o2_0 w0)), (.int (g9_2_o2_1 w0 w1))] (.int 0)
set_option maxRecDepth 65536 in
set_option maxHeartbeats 40000000 in
theorem rm3_2L (l : Launch) (Z : State) (a0 : Array Value) (hw : ∀ d ∈ tables_1, d.before a0 Z = true) (ws : List Jvm.Cond) (o0 : Addr) (o1 : Addr) (wcs : Int32) (kc : ClassId) (w0 : Int32) (w1 : Int32) (h0 : Heap) (n0 : Nat) (Z0 : n0 ≤ h0.size) (I0 : Sta Z h0 "java/lang/String" "COMPACT_STRINGS" "Z" (.int wcs)) (I1 : Sta Z h0 "java/lang/StringUTF16" "$assertionsDisabled" "Z" (.int 1)) (I2 : Sta Z h0 "java/lang/StringUTF16" "HI_BYTE_SHIFT" "I" (.int 0)) (I3 : Sta Z h0 "java/lang/StringUTF16" "LO_BYTE_SHIFT" "I" (.int 8)) (I4 : Exa Z h0 o0 "java/lang/String") (I5 : Fld Z h0 o0 "java/lang/String" "value" "[B" .null) (I6 : Fld Z h0 o0 "java/lang/String" "coder" "B" (.int 0)) (I7 : Arv Z h0 o1 kc .char (2 : Int32) [(.int w0), (.int w1)] (.int 0)) (gw_o0 : n0 ≤ o0) (ne_o1_o0 : o1 ≠ o0) (hcs : ¬ (wcs = (0 : Int32))) (hl0 : ¬ ((255 : Int32) < w0)) (hl1 : ¬ ((255 : Int32) < w1)) :
    Met1 l Nm_22 (Jvm.Cond.code Nm_22 jdk_42_method_149_code 6 none) ws (rom 2 1 2 35) #[(.ref o0), (.ref o1), (.int 0), (.int 2), .null] Z h0 (Q3_2L Z o0 o1 wcs kc w0 w1 h0 n0) := by
  refine MetFree.of_bodySF (plainFor_of_name pn_3) hisR ?_
  intro p e s m args below meth c s₁ Bd hml0 hP hK
  obtain ⟨rfl, hZ, hh⟩ := hP
  have hx := Bd.exec
  have hby := Bd.bytes
  have hml : c.maxLocals = 6 := hml0
  have hown : s.vm.findClass "java/lang/String" = some m.cls := findClass_of_methodNamed Bd.named
  have hnm := (name_of_methodNamed Bd.named Bd.method).1
  have X0 : Stand p l e (rom 2 1 2 35) s m _ _ _ _ _ [] 0 0 := Stand.of_body Bd
  have e0 : s₁.heap = h0 := by rw [← hh, Bd.state]; rfl
  have N0 := Fr.nil n0
  have K0 : Keep h0 h0 [o0] := Keep.refl _ _
  have pre0 : Go p e below s₁ _ (mkF m 0 #[.val (.ref o0), .val (.ref o1), .val (.int 0), .val (.int 2), .val .null, .unset] []) _ := fun t k => castTop (ef_3_2L m o0 o1) k
  have pre1 : Go p e below s₁ _ (mkF m 1 #[.val (.ref o0), .val (.ref o1), .val (.int 0), .val (.int 2), .val .null, .unset] [(.ref o0)]) _ := fun t k => pre0 t (by
    refine XS.aloadN X0.here hx rfl (hb hby d3_0) rfl rfl ?_
    exact k)
  obtain ⟨T2, X2, e2, st2⟩ := initO X0 hx hZ hown (wq hw 17 rfl) (wq hw 18 rfl) (wq hw 19 rfl) e0 (g := (mkF m 1 #[.val (.ref o0), .val (.ref o1), .val (.int 0), .val (.int 2), .val .null, .unset] [(.ref o0)])) rfl (by rw [hml]; rfl) rfl (hb hby d3_1) (by decide) (W := 0) (w00 rfl) (by decide)
  have pre3 := Go.thn pre1 st2
  have pre4 : Go p e below T2 _ (mkF m 27 #[.val (.ref o0), .val (.ref o1), .val (.int 0), .val (.int 2), .val .null, .unset] []) _ := fun t k => pre3 t (by
    refine XS.iloadN X2.here hx rfl (hb hby d3_4) rfl ?_
    refine XS.ifYes X2.here hx rfl (pc0 := 5) (pc' := 27) rfl (hb hby d3_5) rfl (by decide) (by decide) (by decide) ?_
    exact k)
  obtain ⟨T5, X5, e5, st5⟩ := getS2 X2 hx hZ hown (host := "") (Or.inl (wq hw 42 rfl)) Via.refl e2 I0 (g := (mkF m 27 #[.val (.ref o0), .val (.ref o1), .val (.int 0), .val (.int 2), .val .null, .unset] [])) rfl (hb hby d3_27)
  have pre6 := Go.thn pre4 st5
  have pre7 : Go p e below T5 _ (mkF m 36 #[.val (.ref o0), .val (.ref o1), .val (.int 0), .val (.int 2), .val .null, .unset] [(.int 2), (.int 0), (.ref o1)]) _ := fun t k => pre6 t (by
    refine XS.ifNo X5.here hx rfl (hb hby d3_30) rfl ((if0 _ _).trans (feq hcs).1) ?_
    refine XS.aloadN X5.here hx rfl (hb hby d3_33) rfl rfl ?_
    refine XS.iloadN X5.here hx rfl (hb hby d3_34) rfl ?_
    refine XS.iloadN X5.here hx rfl (hb hby d3_35) rfl ?_
    exact k)
  obtain ⟨_, _, ⟨T8, L8, k8, n8⟩, -, X8, ⟨Lc8, hQ8, l8, y8, z8⟩, st8⟩ := Jvm.LawKit.callS X5 hx (y := Nm_21) hown (mvT hZ (wq hw 43 rfl)) (mvT hZ (wq hw 44 rfl)) (mvT hZ (wq hw 45 rfl)) (mvT hZ (wq hw 46 rfl)) (by decide) (backOf (W := 0) (rm8_2L l Z a0 hw [] o1 _ w0 w1 h0 n0 Z0 I1 I2 I3 I7 hl0 hl1) hZ (wq hw 46 rfl) (wq hw 45 rfl) (by decide) (by decide)) (g := (mkF m 36 #[.val (.ref o0), .val (.ref o1), .val (.int 0), .val (.int 2), .val .null, .unset] [(.int 2), (.int 0), (.ref o1)])) rfl (by rw [hml]; rfl) (argsL := [(.ref o1), (.int 0), (.int 2)]) (rest := []) (lenOf pd___CII__B rfl) rfl (w00 rfl) (hb hby d3_36) (fun _ _ => ⟨rfl, e5, (by decide : 0 + 1 ≤ _), (by decide : 0 + 2 ≤ _)⟩)
  dsimp only [Pt.U, Pt.locs, Pt.cells, Pt.slots] at X8 l8 y8 z8 st8 hQ8
  subst l8 y8 z8
  obtain ⟨b36_0, k_b1_8, rfl, Nq8, Kq8, gz8_b36_0, o8_0⟩ := hQ8
  have N8 := Fr.app N0 Nq8
  have K8 : Keep h0 T8.heap [o0] := K0.trans Kq8 all0
  have Z8 : n0 ≤ T8.heap.size := Nat.le_trans Z0 Kq8.1
  have x9 := own_staK I0 Kq8 all0
  have x10 := own_staK I1 Kq8 all0
  have x11 := own_staK I2 Kq8 all0
  have x12 := own_staK I3 Kq8 all0
  have x13 := I4.keep Kq8
  have x14 := I5.keep Kq8 nin0
  have x15 := I6.keep Kq8 nin0
  have x16 := I7.keep Kq8 nin0
  have gg8_b36_0 : n0 ≤ b36_0 := Nat.le_trans Z0 gz8_b36_0
  have sz8_b36_0 : h0.size ≤ b36_0 := Nat.le_trans K0.1 gz8_b36_0
  have ne8_o0_b36_0 : o0 ≠ b36_0 := Nat.ne_of_lt (Nat.lt_of_lt_of_le I4.lt gz8_b36_0)
  have ne8_o1_b36_0 : o1 ≠ b36_0 := Nat.ne_of_lt (Nat.lt_of_lt_of_le I7.lt gz8_b36_0)
  have pre17 := Go.thn pre7 st8
  have pre18 : Go p e below T8 _ (mkF m 45 #[.val (.ref o0), .val (.ref o1), .val (.int 0), .val (.int 2), .val .null, .val (.ref b36_0)] [(.int 2), (.ref b36_0), (.ref o0)]) _ := fun t k => pre17 t (by
    refine XS.astore X8.here hx rfl (hb hby d3_39) rfl rfl (l' := #[.val (.ref o0), .val (.ref o1), .val (.int 0), .val (.int 2), .val .null, .val (.ref b36_0)]) rfl ?_
    refine XS.aloadN X8.here hx rfl (hb hby d3_41) rfl rfl ?_
    refine XS.aload X8.here hx rfl (hb hby d3_42) rfl rfl ?_
    refine XS.iloadN X8.here hx rfl (hb hby d3_44) rfl ?_
    exact k)
  obtain ⟨_, _, ⟨T19, L19, k19, n19⟩, -, X19, ⟨Lc19, hQ19, l19, y19, z19⟩, st19⟩ := Jvm.LawKit.callS X8 hx (y := Nm_15) hown (mvT hZ (wq hw 50 rfl)) (mvT hZ (wq hw 51 rfl)) (mvT hZ (wq hw 45 rfl)) (mvT hZ (wq hw 52 rfl)) (by decide) (backOf (W := 1) (rm10 l Z a0 hw [] b36_0 (2 : Int32) _ (2 : Int32) [(g9_2_o2_0 w0), (g9_2_o2_1 w0 w1)] T8.heap n0 Z8 o8_0) hZ (wq hw 52 rfl) (wq hw 45 rfl) (by decide) (by decide)) (g := (mkF m 45 #[.val (.ref o0), .val (.ref o1), .val (.int 0), .val (.int 2), .val .null, .val (.ref b36_0)] [(.int 2), (.ref b36_0), (.ref o0)])) rfl (by rw [hml]; rfl) (argsL := [(.ref b36_0), (.int 2)]) (rest := [(.ref o0)]) (lenOf pd___BI_B rfl) rfl (w00 rfl) (hb hby d3_45) (fun _ _ => ⟨rfl, rfl, (by decide : 1 + 0 ≤ _), (by decide : 2 + 0 ≤ _)⟩)
  dsimp only [Pt.U, Pt.locs, Pt.cells, Pt.slots] at X19 l19 y19 z19 st19 hQ19
  subst l19 y19 z19
  obtain ⟨rfl, Nq19, e19⟩ := hQ19
  have N19 := Fr.app N8 Nq19
  have pre20 := Go.thn pre18 st19
  have pre21 : Go p e below T19 _ (mkF m 48 #[.val (.ref o0), .val (.ref o1), .val (.int 0), .val (.int 2), .val .null, .val (.ref b36_0)] [(.int 0), (.ref o0)]) _ := fun t k => pre20 t (by
    show Steps p.tables e below (T19.setTop (mkF m 48 #[.val (.ref o0), .val (.ref o1), .val (.int 0), .val (.int 2), .val .null, .val (.ref b36_0)] [(.int (f10 (2 : Int32) (2 : Int32))), (.ref o0)])) _
    rw [show f10 (2 : Int32) (2 : Int32) = (0 : Int32) from rfl]
    exact k)
  obtain ⟨T22, h22, X22, e22, W22, st22⟩ := putFN X19 hx hZ hown (wq hw 27 rfl) Via.refl e19 x15 x13 (Or.inr ⟨(wq hw 23 rfl), rfl, hnm⟩) (wq hw 7 rfl) (ty := .byte) (v' := (.int 0)) (by decide) rfl (by decide) (g := (mkF m 48 #[.val (.ref o0), .val (.ref o1), .val (.int 0), .val (.int 2), .val .null, .val (.ref b36_0)] [(.int 0), (.ref o0)])) rfl rfl (hb hby d3_48)
  have N22 := Fr.snoc X22 N19 gw_o0
  have K22 : Keep h0 h22 [o0] := K8.wr W22 (Or.inl (List.mem_of_getElem? (i := 0) rfl))
  have Z22 : n0 ≤ h22.size := Nat.le_trans Z8 (Keep.of_wr W22).1
  have x23 := x9.wr W22
  have x24 := x10.wr W22
  have x25 := x11.wr W22
  have x26 := x12.wr W22
  have x27 := x13.wr W22
  have x28 := x14.other W22 (Or.inr (slot_ne (Or.inr (wq hw 22 rfl)) (Or.inr (wq hw 23 rfl)) (by decide) (t := (.array .byte)) (t' := .byte) (by decide) (by decide)))
  have x29 := x15.same W22
  have x30 := x16.other W22 ne_o1_o0
  have x31 := o8_0.other W22 (Ne.symm ne8_o0_b36_0)
  have pre32 := Go.thn pre21 st22
  have pre33 : Go p e below T22 _ (mkF m 54 #[.val (.ref o0), .val (.ref o1), .val (.int 0), .val (.int 2), .val .null, .val (.ref b36_0)] [(.ref b36_0), (.ref o0)]) _ := fun t k => pre32 t (by
    refine XS.aloadN X22.here hx rfl (hb hby d3_51) rfl rfl ?_
    refine XS.aload X22.here hx rfl (hb hby d3_52) rfl rfl ?_
    exact k)
  obtain ⟨T34, h34, X34, e34, W34, st34⟩ := putF X22 hx hZ hown (host := "") (Or.inl (wq hw 26 rfl)) Via.refl e22 x28 x27 (Or.inr ⟨(wq hw 22 rfl), rfl, hnm⟩) (wq hw 7 rfl) (ty := (.array .byte)) (by decide) rfl rfl (g := (mkF m 54 #[.val (.ref o0), .val (.ref o1), .val (.int 0), .val (.int 2), .val .null, .val (.ref b36_0)] [(.ref b36_0), (.ref o0)])) rfl rfl (hb hby d3_54)
  have N34 := Fr.snoc X34 N22 gw_o0
  have K34 : Keep h0 h34 [o0] := K22.wr W34 (Or.inl (List.mem_of_getElem? (i := 0) rfl))
  have Z34 : n0 ≤ h34.size := Nat.le_trans Z22 (Keep.of_wr W34).1
  have x35 := x23.wr W34
  have x36 := x24.wr W34
  have x37 := x25.wr W34
  have x38 := x26.wr W34
  have x39 := x27.wr W34
  have x40 := x28.same W34
  have x41 := x29.other W34 (Or.inr (slot_ne (Or.inr (wq hw 23 rfl)) (Or.inr (wq hw 22 rfl)) (by decide) (t := .byte) (t' := (.array .byte)) (by decide) (by decide)))
  have x42 := x30.other W34 ne_o1_o0
  have x43 := x31.other W34 (Ne.symm ne8_o0_b36_0)
  have pre44 := Go.thn pre33 st34
  obtain ⟨fs, hr, hrun, hended, hW, hsame⟩ := X34.leave (v := none) (fun _ => rfl)
  refine ⟨_, _, ?_, hrun, hended, _, _, rfl, ?_, ⟨_, rfl⟩, hW, hsame.mono (by decide) (by decide)⟩
  · exact pre44 _ (X34.returnOut hx Bd.returns (hb hby d3_57) hr)
  · show Q3_2L Z o0 o1 wcs kc w0 w1 h0 n0 _ T34.heap _
    rw [e34]
    exact ⟨b36_0, _, rfl, N34, K34, sz8_b36_0, x39, x40, x41, x43⟩
def Q2_2L (Z : State) (o0 : Addr) (o1 : Addr) (wcs : Int32) (kc : ClassId) (w0 : Int32) (w1 : Int32) (h0 : Heap) (n0 : Nat) (v : Option Value) (h : Heap) (L : List Loc) : Prop := ∃ (b6_0 : Addr) (k_b6_0 : ClassId), v = none ∧ Fr n0 L ∧ Keep h0 h [o0] ∧ h0.size ≤ b6_0 ∧ Exa Z h o0 "java/lang/String" ∧ Fld Z h o0 "java/lang/String" "value" "[B" (.ref b6_0) ∧ Fld Z h o0 "java/lang/String" "coder" "B" (.int 0) ∧ Arv Z h b6_0 k_b6_0 .byte (2 : Int32) [(.int (g9_2_o2_0 w0)), (.int (g9_2_o2_1 w0 w1))] (.int 0)
set_option maxRecDepth 65536 in
set_option maxHeartbeats 40000000 in
theorem rm2_2L (l : Launch) (Z : State) (a0 : Array Value) (hw : ∀ d ∈ tables_1, d.before a0 Z = true) (ws : List Jvm.Cond) (o0 : Addr) (o1 : Addr) (wcs : Int32) (kc : ClassId) (w0 : Int32) (w1 : Int32) (h0 : Heap) (n0 : Nat) (Z0 : n0 ≤ h0.size) (I0 : Sta Z h0 "java/lang/String" "COMPACT_STRINGS" "Z" (.int wcs)) (I1 : Sta Z h0 "java/lang/StringUTF16" "$assertionsDisabled" "Z" (.int 1)) (I2 : Sta Z h0 "java/lang/StringUTF16" "HI_BYTE_SHIFT" "I" (.int 0)) (I3 : Sta Z h0 "java/lang/StringUTF16" "LO_BYTE_SHIFT" "I" (.int 8)) (I4 : Exa Z h0 o0 "java/lang/String") (I5 : Fld Z h0 o0 "java/lang/String" "value" "[B" .null) (I6 : Fld Z h0 o0 "java/lang/String" "coder" "B" (.int 0)) (I7 : Arv Z h0 o1 kc .char (2 : Int32) [(.int w0), (.int w1)] (.int 0)) (gw_o0 : n0 ≤ o0) (ne_o1_o0 : o1 ≠ o0) (hcs : ¬ (wcs = (0 : Int32))) (hl0 : ¬ ((255 : Int32) < w0)) (hl1 : ¬ ((255 : Int32) < w1)) :
    Met1 l Nm_23 (Jvm.Cond.code Nm_23 jdk_42_method_3_code 2 none) ws (rom 3 1 2 52) #[(.ref o0), (.ref o1)] Z h0 (Q2_2L Z o0 o1 wcs kc w0 w1 h0 n0) := by
  refine MetFree.of_bodySF (plainFor_of_name pn_2) hisR ?_
  intro p e s m args below meth c s₁ Bd hml0 hP hK
  obtain ⟨rfl, hZ, hh⟩ := hP
  have hx := Bd.exec
  have hby := Bd.bytes
  have hml : c.maxLocals = 2 := hml0
  have hown : s.vm.findClass "java/lang/String" = some m.cls := findClass_of_methodNamed Bd.named
  have X0 : Stand p l e (rom 3 1 2 52) s m _ _ _ _ _ [] 0 0 := Stand.of_body Bd
  have e0 : s₁.heap = h0 := by rw [← hh, Bd.state]; rfl
  have N0 := Fr.nil n0
  have K0 : Keep h0 h0 [o0] := Keep.refl _ _
  have pre0 : Go p e below s₁ _ (mkF m 0 #[.val (.ref o0), .val (.ref o1)] []) _ := fun t k => castTop (ef_2_1L m o0 o1) k
  have pre1 : Go p e below s₁ _ (mkF m 4 #[.val (.ref o0), .val (.ref o1)] [(.ref o1), (.int 0), (.ref o1), (.ref o0)]) _ := fun t k => pre0 t (by
    refine XS.aloadN X0.here hx rfl (hb hby d2_0) rfl rfl ?_
    refine XS.aloadN X0.here hx rfl (hb hby d2_1) rfl rfl ?_
    refine XS.iconst X0.here hx rfl (hb hby d2_2) ?_
    refine XS.aloadN X0.here hx rfl (hb hby d2_3) rfl rfl ?_
    exact k)
  obtain ⟨cl2, Ar2, -, Sz2, Mn2, Hs2, -⟩ := id I7
  have pre3 : Go p e below s₁ _ (mkF m 5 #[.val (.ref o0), .val (.ref o1)] [(.int 2), (.int 0), (.ref o1), (.ref o0)]) _ := fun t k => pre1 t (by
    show Steps p.tables e below (s₁.setTop (mkF m 4 #[.val (.ref o0), .val (.ref o1)] [(.ref o1), (.int 0), (.ref o1), (.ref o0)])) _
    refine X0.arraylength hx (by rw [e0]; exact Ar2.1) (State.isArrayOf_alike hZ.alike Ar2.2.1) (g := (mkF m 4 #[.val (.ref o0), .val (.ref o1)] [(.ref o1), (.int 0), (.ref o1), (.ref o0)])) rfl rfl (hb hby d2_4) _ ?_
    rw [len_of Sz2 Mn2]
    exact k)
  have pre4 : Go p e below s₁ _ (mkF m 6 #[.val (.ref o0), .val (.ref o1)] [.null, (.int 2), (.int 0), (.ref o1), (.ref o0)]) _ := fun t k => pre3 t (by
    refine XS.aconstNull X0.here hx rfl (hb hby d2_5) ?_
    exact k)
  obtain ⟨_, _, ⟨T5, L5, k5, n5⟩, -, X5, ⟨Lc5, hQ5, l5, y5, z5⟩, st5⟩ := X0.specialBack hx (y := Nm_22) rfl hown (mvT hZ (wq hw 13 rfl)) (mvT hZ (wq hw 14 rfl)) (mvT hZ (wq hw 16 rfl)) (by decide) (backOf (W := 0) (rm3_2L l Z a0 hw [] o0 o1 wcs _ w0 w1 h0 n0 Z0 I0 I1 I2 I3 I4 I5 I6 I7 gw_o0 ne_o1_o0 hcs hl0 hl1) hZ (wq hw 16 rfl) (wq hw 8 rfl) (by decide) (by decide)) (g := (mkF m 6 #[.val (.ref o0), .val (.ref o1)] [.null, (.int 2), (.int 0), (.ref o1), (.ref o0)])) rfl (by rw [hml]; rfl) (Steps.refl _) (a := o0) (argsL := [(.ref o1), (.int 0), (.int 2), .null]) (rest := []) (lenOf pd___CIILjava_lang_Void__V rfl) rfl (w00 rfl) (hb hby d2_6) (fun _ _ => ⟨rfl, e0, (by decide : 0 + 1 ≤ _), (by decide : 0 + 2 ≤ _)⟩)
  dsimp only [Pt.U, Pt.locs, Pt.cells, Pt.slots] at X5 l5 y5 z5 st5 hQ5
  subst l5 y5 z5
  obtain ⟨b6_0, k_b36_0_5, rfl, Nq5, Kq5, gz5_b6_0, o5_0, o5_1, o5_2, o5_3⟩ := hQ5
  have N5 := Fr.app N0 Nq5
  have K5 : Keep h0 T5.heap [o0] := K0.trans Kq5 (allS (Or.inl (List.mem_of_getElem? (i := 0) rfl)) all0)
  have Z5 : n0 ≤ T5.heap.size := Nat.le_trans Z0 Kq5.1
  have x6 := own_staK I0 Kq5 (allS (own_plE I4) all0)
  have x7 := own_staK I1 Kq5 (allS (own_plE I4) all0)
  have x8 := own_staK I2 Kq5 (allS (own_plE I4) all0)
  have x9 := own_staK I3 Kq5 (allS (own_plE I4) all0)
  have x10 := I4.keep Kq5
  have x11 := I7.keep Kq5 (ninS ne_o1_o0 nin0)
  have gg5_b6_0 : n0 ≤ b6_0 := Nat.le_trans Z0 gz5_b6_0
  have sz5_b6_0 : h0.size ≤ b6_0 := Nat.le_trans K0.1 gz5_b6_0
  have ne5_o0_b6_0 : o0 ≠ b6_0 := Nat.ne_of_lt (Nat.lt_of_lt_of_le I4.lt gz5_b6_0)
  have ne5_o1_b6_0 : o1 ≠ b6_0 := Nat.ne_of_lt (Nat.lt_of_lt_of_le I7.lt gz5_b6_0)
  have pre12 := Go.trn pre4 st5
  obtain ⟨fs, hr, hrun, hended, hW, hsame⟩ := X5.leave (v := none) (fun _ => rfl)
  refine ⟨_, _, ?_, hrun, hended, _, _, rfl, ?_, ⟨_, rfl⟩, hW, hsame.mono (by decide) (by decide)⟩
  · exact pre12 _ (X5.returnOut hx Bd.returns (hb hby d2_9) hr)
  · show Q2_2L Z o0 o1 wcs kc w0 w1 h0 n0 _ T5.heap _
    skip
    exact ⟨b6_0, _, rfl, N5, K5, sz5_b6_0, o5_0, o5_1, o5_2, o5_3⟩
def Q3_2U (Z : State) (o0 : Addr) (o1 : Addr) (wcs : Int32) (kc : ClassId) (w0 : Int32) (w1 : Int32) (h0 : Heap) (n0 : Nat) (v : Option Value) (h : Heap) (L : List Loc) : Prop := ∃ (b36_0 : Addr) (k_b36_0 : ClassId), v = none ∧ Fr n0 L ∧ Keep h0 h [o0] ∧ h0.size ≤ b36_0 ∧ Exa Z h o0 "java/lang/String" ∧ Fld Z h o0 "java/lang/String" "value" "[B" (.ref b36_0) ∧ Fld Z h o0 "java/lang/String" "coder" "B" (.int 1) ∧ Arv Z h b36_0 k_b36_0 .byte (4 : Int32) [(.int (own_b0 w0)), (.int (own_b8 w0)), (.int (own_b0 w1)), (.int (own_b8 w1))] (.int 0)
set_option maxRecDepth 65536 in
set_option maxHeartbeats 40000000 in
theorem rm3_2U (l : Launch) (Z : State) (a0 : Array Value) (hw : ∀ d ∈ tables_1, d.before a0 Z = true) (ws : List Jvm.Cond) (o0 : Addr) (o1 : Addr) (wcs : Int32) (kc : ClassId) (w0 : Int32) (w1 : Int32) (h0 : Heap) (n0 : Nat) (Z0 : n0 ≤ h0.size) (I0 : Sta Z h0 "java/lang/String" "COMPACT_STRINGS" "Z" (.int wcs)) (I1 : Sta Z h0 "java/lang/StringUTF16" "$assertionsDisabled" "Z" (.int 1)) (I2 : Sta Z h0 "java/lang/StringUTF16" "HI_BYTE_SHIFT" "I" (.int 0)) (I3 : Sta Z h0 "java/lang/StringUTF16" "LO_BYTE_SHIFT" "I" (.int 8)) (I4 : Exa Z h0 o0 "java/lang/String") (I5 : Fld Z h0 o0 "java/lang/String" "value" "[B" .null) (I6 : Fld Z h0 o0 "java/lang/String" "coder" "B" (.int 0)) (I7 : Arv Z h0 o1 kc .char (2 : Int32) [(.int w0), (.int w1)] (.int 0)) (gw_o0 : n0 ≤ o0) (ne_o1_o0 : o1 ≠ o0) (hcs : ¬ (wcs = (0 : Int32))) (r0 : own_chr w0) (r1 : own_chr w1) (hU : (255 : Int32) < w0 ∨ (255 : Int32) < w1) :
    Met1 l Nm_22 (Jvm.Cond.code Nm_22 jdk_42_method_149_code 6 none) ws (rom 4 2 6 57) #[(.ref o0), (.ref o1), (.int 0), (.int 2), .null] Z h0 (Q3_2U Z o0 o1 wcs kc w0 w1 h0 n0) := by
  refine MetFree.of_bodySF (plainFor_of_name pn_3) hisR ?_
  intro p e s m args below meth c s₁ Bd hml0 hP hK
  obtain ⟨rfl, hZ, hh⟩ := hP
  have hx := Bd.exec
  have hby := Bd.bytes
  have hml : c.maxLocals = 6 := hml0
  have hown : s.vm.findClass "java/lang/String" = some m.cls := findClass_of_methodNamed Bd.named
  have hnm := (name_of_methodNamed Bd.named Bd.method).1
  have X0 : Stand p l e (rom 4 2 6 57) s m _ _ _ _ _ [] 0 0 := Stand.of_body Bd
  have e0 : s₁.heap = h0 := by rw [← hh, Bd.state]; rfl
  have N0 := Fr.nil n0
  have K0 : Keep h0 h0 [o0] := Keep.refl _ _
  have pre0 : Go p e below s₁ _ (mkF m 0 #[.val (.ref o0), .val (.ref o1), .val (.int 0), .val (.int 2), .val .null, .unset] []) _ := fun t k => castTop (ef_3_2L m o0 o1) k
  have pre1 : Go p e below s₁ _ (mkF m 1 #[.val (.ref o0), .val (.ref o1), .val (.int 0), .val (.int 2), .val .null, .unset] [(.ref o0)]) _ := fun t k => pre0 t (by
    refine XS.aloadN X0.here hx rfl (hb hby d3_0) rfl rfl ?_
    exact k)
  obtain ⟨T2, X2, e2, st2⟩ := initO X0 hx hZ hown (wq hw 17 rfl) (wq hw 18 rfl) (wq hw 19 rfl) e0 (g := (mkF m 1 #[.val (.ref o0), .val (.ref o1), .val (.int 0), .val (.int 2), .val .null, .unset] [(.ref o0)])) rfl (by rw [hml]; rfl) rfl (hb hby d3_1) (by decide) (W := 0) (w00 rfl) (by decide)
  have pre3 := Go.thn pre1 st2
  have pre4 : Go p e below T2 _ (mkF m 27 #[.val (.ref o0), .val (.ref o1), .val (.int 0), .val (.int 2), .val .null, .unset] []) _ := fun t k => pre3 t (by
    refine XS.iloadN X2.here hx rfl (hb hby d3_4) rfl ?_
    refine XS.ifYes X2.here hx rfl (pc0 := 5) (pc' := 27) rfl (hb hby d3_5) rfl (by decide) (by decide) (by decide) ?_
    exact k)
  obtain ⟨T5, X5, e5, st5⟩ := getS2 X2 hx hZ hown (host := "") (Or.inl (wq hw 42 rfl)) Via.refl e2 I0 (g := (mkF m 27 #[.val (.ref o0), .val (.ref o1), .val (.int 0), .val (.int 2), .val .null, .unset] [])) rfl (hb hby d3_27)
  have pre6 := Go.thn pre4 st5
  have pre7 : Go p e below T5 _ (mkF m 36 #[.val (.ref o0), .val (.ref o1), .val (.int 0), .val (.int 2), .val .null, .unset] [(.int 2), (.int 0), (.ref o1)]) _ := fun t k => pre6 t (by
    refine XS.ifNo X5.here hx rfl (hb hby d3_30) rfl ((if0 _ _).trans (feq hcs).1) ?_
    refine XS.aloadN X5.here hx rfl (hb hby d3_33) rfl rfl ?_
    refine XS.iloadN X5.here hx rfl (hb hby d3_34) rfl ?_
    refine XS.iloadN X5.here hx rfl (hb hby d3_35) rfl ?_
    exact k)
  obtain ⟨_, _, ⟨T8, L8, k8, n8⟩, -, X8, ⟨Lc8, hQ8, l8, y8, z8⟩, st8⟩ := Jvm.LawKit.callS X5 hx (y := Nm_21) hown (mvT hZ (wq hw 43 rfl)) (mvT hZ (wq hw 44 rfl)) (mvT hZ (wq hw 45 rfl)) (mvT hZ (wq hw 46 rfl)) (by decide) (backOf (W := 0) (rm8_2U l Z a0 hw [] o1 _ w0 w1 h0 n0 Z0 I1 I2 I3 I7 r0 r1 hU) hZ (wq hw 46 rfl) (wq hw 45 rfl) (by decide) (by decide)) (g := (mkF m 36 #[.val (.ref o0), .val (.ref o1), .val (.int 0), .val (.int 2), .val .null, .unset] [(.int 2), (.int 0), (.ref o1)])) rfl (by rw [hml]; rfl) (argsL := [(.ref o1), (.int 0), (.int 2)]) (rest := []) (lenOf pd___CII__B rfl) rfl (w00 rfl) (hb hby d3_36) (fun _ _ => ⟨rfl, e5, (by decide : 0 + 2 ≤ _), (by decide : 0 + 6 ≤ _)⟩)
  dsimp only [Pt.U, Pt.locs, Pt.cells, Pt.slots] at X8 l8 y8 z8 st8 hQ8
  subst l8 y8 z8
  obtain ⟨b36_0, k_b23_0_8, rfl, Nq8, Kq8, gz8_b36_0, o8_0⟩ := hQ8
  have N8 := Fr.app N0 Nq8
  have K8 : Keep h0 T8.heap [o0] := K0.trans Kq8 all0
  have Z8 : n0 ≤ T8.heap.size := Nat.le_trans Z0 Kq8.1
  have x9 := own_staK I0 Kq8 all0
  have x10 := own_staK I1 Kq8 all0
  have x11 := own_staK I2 Kq8 all0
  have x12 := own_staK I3 Kq8 all0
  have x13 := I4.keep Kq8
  have x14 := I5.keep Kq8 nin0
  have x15 := I6.keep Kq8 nin0
  have x16 := I7.keep Kq8 nin0
  have gg8_b36_0 : n0 ≤ b36_0 := Nat.le_trans Z0 gz8_b36_0
  have sz8_b36_0 : h0.size ≤ b36_0 := Nat.le_trans K0.1 gz8_b36_0
  have ne8_o0_b36_0 : o0 ≠ b36_0 := Nat.ne_of_lt (Nat.lt_of_lt_of_le I4.lt gz8_b36_0)
  have ne8_o1_b36_0 : o1 ≠ b36_0 := Nat.ne_of_lt (Nat.lt_of_lt_of_le I7.lt gz8_b36_0)
  have pre17 := Go.thn pre7 st8
  have pre18 : Go p e below T8 _ (mkF m 45 #[.val (.ref o0), .val (.ref o1), .val (.int 0), .val (.int 2), .val .null, .val (.ref b36_0)] [(.int 2), (.ref b36_0), (.ref o0)]) _ := fun t k => pre17 t (by
    refine XS.astore X8.here hx rfl (hb hby d3_39) rfl rfl (l' := #[.val (.ref o0), .val (.ref o1), .val (.int 0), .val (.int 2), .val .null, .val (.ref b36_0)]) rfl ?_
    refine XS.aloadN X8.here hx rfl (hb hby d3_41) rfl rfl ?_
    refine XS.aload X8.here hx rfl (hb hby d3_42) rfl rfl ?_
    refine XS.iloadN X8.here hx rfl (hb hby d3_44) rfl ?_
    exact k)
  obtain ⟨_, _, ⟨T19, L19, k19, n19⟩, -, X19, ⟨Lc19, hQ19, l19, y19, z19⟩, st19⟩ := Jvm.LawKit.callS X8 hx (y := Nm_15) hown (mvT hZ (wq hw 50 rfl)) (mvT hZ (wq hw 51 rfl)) (mvT hZ (wq hw 45 rfl)) (mvT hZ (wq hw 52 rfl)) (by decide) (backOf (W := 1) (rm10 l Z a0 hw [] b36_0 (2 : Int32) _ (4 : Int32) [(own_b0 w0), (own_b8 w0), (own_b0 w1), (own_b8 w1)] T8.heap n0 Z8 o8_0) hZ (wq hw 52 rfl) (wq hw 45 rfl) (by decide) (by decide)) (g := (mkF m 45 #[.val (.ref o0), .val (.ref o1), .val (.int 0), .val (.int 2), .val .null, .val (.ref b36_0)] [(.int 2), (.ref b36_0), (.ref o0)])) rfl (by rw [hml]; rfl) (argsL := [(.ref b36_0), (.int 2)]) (rest := [(.ref o0)]) (lenOf pd___BI_B rfl) rfl (w00 rfl) (hb hby d3_45) (fun _ _ => ⟨rfl, rfl, (by decide : 2 + 0 ≤ _), (by decide : 6 + 0 ≤ _)⟩)
  dsimp only [Pt.U, Pt.locs, Pt.cells, Pt.slots] at X19 l19 y19 z19 st19 hQ19
  subst l19 y19 z19
  obtain ⟨rfl, Nq19, e19⟩ := hQ19
  have N19 := Fr.app N8 Nq19
  have pre20 := Go.thn pre18 st19
  have pre21 : Go p e below T19 _ (mkF m 48 #[.val (.ref o0), .val (.ref o1), .val (.int 0), .val (.int 2), .val .null, .val (.ref b36_0)] [(.int 1), (.ref o0)]) _ := fun t k => pre20 t (by
    show Steps p.tables e below (T19.setTop (mkF m 48 #[.val (.ref o0), .val (.ref o1), .val (.int 0), .val (.int 2), .val .null, .val (.ref b36_0)] [(.int (f10 (2 : Int32) (4 : Int32))), (.ref o0)])) _
    rw [show f10 (2 : Int32) (4 : Int32) = (1 : Int32) from rfl]
    exact k)
  obtain ⟨T22, h22, X22, e22, W22, st22⟩ := putFN X19 hx hZ hown (wq hw 27 rfl) Via.refl e19 x15 x13 (Or.inr ⟨(wq hw 23 rfl), rfl, hnm⟩) (wq hw 7 rfl) (ty := .byte) (v' := (.int 1)) (by decide) rfl (by decide) (g := (mkF m 48 #[.val (.ref o0), .val (.ref o1), .val (.int 0), .val (.int 2), .val .null, .val (.ref b36_0)] [(.int 1), (.ref o0)])) rfl rfl (hb hby d3_48)
  have N22 := Fr.snoc X22 N19 gw_o0
  have K22 : Keep h0 h22 [o0] := K8.wr W22 (Or.inl (List.mem_of_getElem? (i := 0) rfl))
  have Z22 : n0 ≤ h22.size := Nat.le_trans Z8 (Keep.of_wr W22).1
  have x23 := x9.wr W22
  have x24 := x10.wr W22
  have x25 := x11.wr W22
  have x26 := x12.wr W22
  have x27 := x13.wr W22
  have x28 := x14.other W22 (Or.inr (slot_ne (Or.inr (wq hw 22 rfl)) (Or.inr (wq hw 23 rfl)) (by decide) (t := (.array .byte)) (t' := .byte) (by decide) (by decide)))
  have x29 := x15.same W22
  have x30 := x16.other W22 ne_o1_o0
  have x31 := o8_0.other W22 (Ne.symm ne8_o0_b36_0)
  have pre32 := Go.thn pre21 st22
  have pre33 : Go p e below T22 _ (mkF m 54 #[.val (.ref o0), .val (.ref o1), .val (.int 0), .val (.int 2), .val .null, .val (.ref b36_0)] [(.ref b36_0), (.ref o0)]) _ := fun t k => pre32 t (by
    refine XS.aloadN X22.here hx rfl (hb hby d3_51) rfl rfl ?_
    refine XS.aload X22.here hx rfl (hb hby d3_52) rfl rfl ?_
    exact k)
  obtain ⟨T34, h34, X34, e34, W34, st34⟩ := putF X22 hx hZ hown (host := "") (Or.inl (wq hw 26 rfl)) Via.refl e22 x28 x27 (Or.inr ⟨(wq hw 22 rfl), rfl, hnm⟩) (wq hw 7 rfl) (ty := (.array .byte)) (by decide) rfl rfl (g := (mkF m 54 #[.val (.ref o0), .val (.ref o1), .val (.int 0), .val (.int 2), .val .null, .val (.ref b36_0)] [(.ref b36_0), (.ref o0)])) rfl rfl (hb hby d3_54)
  have N34 := Fr.snoc X34 N22 gw_o0
  have K34 : Keep h0 h34 [o0] := K22.wr W34 (Or.inl (List.mem_of_getElem? (i := 0) rfl))
  have Z34 : n0 ≤ h34.size := Nat.le_trans Z22 (Keep.of_wr W34).1
  have x35 := x23.wr W34
  have x36 := x24.wr W34
  have x37 := x25.wr W34
  have x38 := x26.wr W34
  have x39 := x27.wr W34
  have x40 := x28.same W34
  have x41 := x29.other W34 (Or.inr (slot_ne (Or.inr (wq hw 23 rfl)) (Or.inr (wq hw 22 rfl)) (by decide) (t := .byte) (t' := (.array .byte)) (by decide) (by decide)))
  have x42 := x30.other W34 ne_o1_o0
  have x43 := x31.other W34 (Ne.symm ne8_o0_b36_0)
  have pre44 := Go.thn pre33 st34
  obtain ⟨fs, hr, hrun, hended, hW, hsame⟩ := X34.leave (v := none) (fun _ => rfl)
  refine ⟨_, _, ?_, hrun, hended, _, _, rfl, ?_, ⟨_, rfl⟩, hW, hsame.mono (by decide) (by decide)⟩
  · exact pre44 _ (X34.returnOut hx Bd.returns (hb hby d3_57) hr)
  · show Q3_2U Z o0 o1 wcs kc w0 w1 h0 n0 _ T34.heap _
    rw [e34]
    exact ⟨b36_0, _, rfl, N34, K34, sz8_b36_0, x39, x40, x41, x43⟩
def Q2_2U (Z : State) (o0 : Addr) (o1 : Addr) (wcs : Int32) (kc : ClassId) (w0 : Int32) (w1 : Int32) (h0 : Heap) (n0 : Nat) (v : Option Value) (h : Heap) (L : List Loc) : Prop := ∃ (b6_0 : Addr) (k_b6_0 : ClassId), v = none ∧ Fr n0 L ∧ Keep h0 h [o0] ∧ h0.size ≤ b6_0 ∧ Exa Z h o0 "java/lang/String" ∧ Fld Z h o0 "java/lang/String" "value" "[B" (.ref b6_0) ∧ Fld Z h o0 "java/lang/String" "coder" "B" (.int 1) ∧ Arv Z h b6_0 k_b6_0 .byte (4 : Int32) [(.int (own_b0 w0)), (.int (own_b8 w0)), (.int (own_b0 w1)), (.int (own_b8 w1))] (.int 0)
set_option maxRecDepth 65536 in
set_option maxHeartbeats 40000000 in
theorem rm2_2U (l : Launch) (Z : State) (a0 : Array Value) (hw : ∀ d ∈ tables_1, d.before a0 Z = true) (ws : List Jvm.Cond) (o0 : Addr) (o1 : Addr) (wcs : Int32) (kc : ClassId) (w0 : Int32) (w1 : Int32) (h0 : Heap) (n0 : Nat) (Z0 : n0 ≤ h0.size) (I0 : Sta Z h0 "java/lang/String" "COMPACT_STRINGS" "Z" (.int wcs)) (I1 : Sta Z h0 "java/lang/StringUTF16" "$assertionsDisabled" "Z" (.int 1)) (I2 : Sta Z h0 "java/lang/StringUTF16" "HI_BYTE_SHIFT" "I" (.int 0)) (I3 : Sta Z h0 "java/lang/StringUTF16" "LO_BYTE_SHIFT" "I" (.int 8)) (I4 : Exa Z h0 o0 "java/lang/String") (I5 : Fld Z h0 o0 "java/lang/String" "value" "[B" .null) (I6 : Fld Z h0 o0 "java/lang/String" "coder" "B" (.int 0)) (I7 : Arv Z h0 o1 kc .char (2 : Int32) [(.int w0), (.int w1)] (.int 0)) (gw_o0 : n0 ≤ o0) (ne_o1_o0 : o1 ≠ o0) (hcs : ¬ (wcs = (0 : Int32))) (r0 : own_chr w0) (r1 : own_chr w1) (hU : (255 : Int32) < w0 ∨ (255 : Int32) < w1) :
    Met1 l Nm_23 (Jvm.Cond.code Nm_23 jdk_42_method_3_code 2 none) ws (rom 5 2 6 74) #[(.ref o0), (.ref o1)] Z h0 (Q2_2U Z o0 o1 wcs kc w0 w1 h0 n0) := by
  refine MetFree.of_bodySF (plainFor_of_name pn_2) hisR ?_
  intro p e s m args below meth c s₁ Bd hml0 hP hK
  obtain ⟨rfl, hZ, hh⟩ := hP
  have hx := Bd.exec
  have hby := Bd.bytes
  have hml : c.maxLocals = 2 := hml0
  have hown : s.vm.findClass "java/lang/String" = some m.cls := findClass_of_methodNamed Bd.named
  have X0 : Stand p l e (rom 5 2 6 74) s m _ _ _ _ _ [] 0 0 := Stand.of_body Bd
  have e0 : s₁.heap = h0 := by rw [← hh, Bd.state]; rfl
  have N0 := Fr.nil n0
  have K0 : Keep h0 h0 [o0] := Keep.refl _ _
  have pre0 : Go p e below s₁ _ (mkF m 0 #[.val (.ref o0), .val (.ref o1)] []) _ := fun t k => castTop (ef_2_1L m o0 o1) k
  have pre1 : Go p e below s₁ _ (mkF m 4 #[.val (.ref o0), .val (.ref o1)] [(.ref o1), (.int 0), (.ref o1), (.ref o0)]) _ := fun t k => pre0 t (by
    refine XS.aloadN X0.here hx rfl (hb hby d2_0) rfl rfl ?_
    refine XS.aloadN X0.here hx rfl (hb hby d2_1) rfl rfl ?_
    refine XS.iconst X0.here hx rfl (hb hby d2_2) ?_
    refine XS.aloadN X0.here hx rfl (hb hby d2_3) rfl rfl ?_
    exact k)
  obtain ⟨cl2, Ar2, -, Sz2, Mn2, Hs2, -⟩ := id I7
  have pre3 : Go p e below s₁ _ (mkF m 5 #[.val (.ref o0), .val (.ref o1)] [(.int 2), (.int 0), (.ref o1), (.ref o0)]) _ := fun t k => pre1 t (by
    show Steps p.tables e below (s₁.setTop (mkF m 4 #[.val (.ref o0), .val (.ref o1)] [(.ref o1), (.int 0), (.ref o1), (.ref o0)])) _
    refine X0.arraylength hx (by rw [e0]; exact Ar2.1) (State.isArrayOf_alike hZ.alike Ar2.2.1) (g := (mkF m 4 #[.val (.ref o0), .val (.ref o1)] [(.ref o1), (.int 0), (.ref o1), (.ref o0)])) rfl rfl (hb hby d2_4) _ ?_
    rw [len_of Sz2 Mn2]
    exact k)
  have pre4 : Go p e below s₁ _ (mkF m 6 #[.val (.ref o0), .val (.ref o1)] [.null, (.int 2), (.int 0), (.ref o1), (.ref o0)]) _ := fun t k => pre3 t (by
    refine XS.aconstNull X0.here hx rfl (hb hby d2_5) ?_
    exact k)
  obtain ⟨_, _, ⟨T5, L5, k5, n5⟩, -, X5, ⟨Lc5, hQ5, l5, y5, z5⟩, st5⟩ := X0.specialBack hx (y := Nm_22) rfl hown (mvT hZ (wq hw 13 rfl)) (mvT hZ (wq hw 14 rfl)) (mvT hZ (wq hw 16 rfl)) (by decide) (backOf (W := 0) (rm3_2U l Z a0 hw [] o0 o1 wcs _ w0 w1 h0 n0 Z0 I0 I1 I2 I3 I4 I5 I6 I7 gw_o0 ne_o1_o0 hcs r0 r1 hU) hZ (wq hw 16 rfl) (wq hw 8 rfl) (by decide) (by decide)) (g := (mkF m 6 #[.val (.ref o0), .val (.ref o1)] [.null, (.int 2), (.int 0), (.ref o1), (.ref o0)])) rfl (by rw [hml]; rfl) (Steps.refl _) (a := o0) (argsL := [(.ref o1), (.int 0), (.int 2), .null]) (rest := []) (lenOf pd___CIILjava_lang_Void__V rfl) rfl (w00 rfl) (hb hby d2_6) (fun _ _ => ⟨rfl, e0, (by decide : 0 + 2 ≤ _), (by decide : 0 + 6 ≤ _)⟩)
  dsimp only [Pt.U, Pt.locs, Pt.cells, Pt.slots] at X5 l5 y5 z5 st5 hQ5
  subst l5 y5 z5
  obtain ⟨b6_0, k_b36_0_5, rfl, Nq5, Kq5, gz5_b6_0, o5_0, o5_1, o5_2, o5_3⟩ := hQ5
  have N5 := Fr.app N0 Nq5
  have K5 : Keep h0 T5.heap [o0] := K0.trans Kq5 (allS (Or.inl (List.mem_of_getElem? (i := 0) rfl)) all0)
  have Z5 : n0 ≤ T5.heap.size := Nat.le_trans Z0 Kq5.1
  have x6 := own_staK I0 Kq5 (allS (own_plE I4) all0)
  have x7 := own_staK I1 Kq5 (allS (own_plE I4) all0)
  have x8 := own_staK I2 Kq5 (allS (own_plE I4) all0)
  have x9 := own_staK I3 Kq5 (allS (own_plE I4) all0)
  have x10 := I4.keep Kq5
  have x11 := I7.keep Kq5 (ninS ne_o1_o0 nin0)
  have gg5_b6_0 : n0 ≤ b6_0 := Nat.le_trans Z0 gz5_b6_0
  have sz5_b6_0 : h0.size ≤ b6_0 := Nat.le_trans K0.1 gz5_b6_0
  have ne5_o0_b6_0 : o0 ≠ b6_0 := Nat.ne_of_lt (Nat.lt_of_lt_of_le I4.lt gz5_b6_0)
  have ne5_o1_b6_0 : o1 ≠ b6_0 := Nat.ne_of_lt (Nat.lt_of_lt_of_le I7.lt gz5_b6_0)
  have pre12 := Go.trn pre4 st5
  obtain ⟨fs, hr, hrun, hended, hW, hsame⟩ := X5.leave (v := none) (fun _ => rfl)
  refine ⟨_, _, ?_, hrun, hended, _, _, rfl, ?_, ⟨_, rfl⟩, hW, hsame.mono (by decide) (by decide)⟩
  · exact pre12 _ (X5.returnOut hx Bd.returns (hb hby d2_9) hr)
  · show Q2_2U Z o0 o1 wcs kc w0 w1 h0 n0 _ T5.heap _
    skip
    exact ⟨b6_0, _, rfl, N5, K5, sz5_b6_0, o5_0, o5_1, o5_2, o5_3⟩
def Q21_3_0 (Z : State) (o0 : Addr) (p2 : Int32) (ka : ClassId) (u0 : Int32) (u1 : Int32) (u2 : Int32) (u3 : Int32) (u4 : Int32) (u5 : Int32) (h0 : Heap) (n0 : Nat) (v : Option Value) (h : Heap) (L : List Loc) : Prop := v = none ∧ Fr n0 L ∧ Keep h0 h [o0] ∧ Arv Z h o0 ka .byte (6 : Int32) [(.int (own_b0 p2)), (.int (own_b8 p2)), (.int u2), (.int u3), (.int u4), (.int u5)] (.int 0)
set_option maxRecDepth 65536 in
set_option maxHeartbeats 40000000 in
theorem rm21_3_0 (l : Launch) (Z : State) (a0 : Array Value) (hw : ∀ d ∈ tables_1, d.before a0 Z = true) (ws : List Jvm.Cond) (o0 : Addr) (p2 : Int32) (ka : ClassId) (u0 : Int32) (u1 : Int32) (u2 : Int32) (u3 : Int32) (u4 : Int32) (u5 : Int32) (h0 : Heap) (n0 : Nat) (Z0 : n0 ≤ h0.size) (I0 : Sta Z h0 "java/lang/StringUTF16" "$assertionsDisabled" "Z" (.int 1)) (I1 : Sta Z h0 "java/lang/StringUTF16" "HI_BYTE_SHIFT" "I" (.int 0)) (I2 : Sta Z h0 "java/lang/StringUTF16" "LO_BYTE_SHIFT" "I" (.int 8)) (I3 : Arv Z h0 o0 ka .byte (6 : Int32) [(.int u0), (.int u1), (.int u2), (.int u3), (.int u4), (.int u5)] (.int 0)) (gw_o0 : n0 ≤ o0) :
    Met1 l Nm_18 (Jvm.Cond.code Nm_18 jdk_52_method_4_code 3 none) ws (rom 0 0 0 0) #[(.ref o0), (.int 0), (.int p2)] Z h0 (Q21_3_0 Z o0 p2 ka u0 u1 u2 u3 u4 u5 h0 n0) := by
  refine MetFree.of_bodySF (plainFor_of_name pn_21) hisR ?_
  intro p e s m args below meth c s₁ Bd hml0 hP hK
  obtain ⟨rfl, hZ, hh⟩ := hP
  have hx := Bd.exec
  have hby := Bd.bytes
  have hml : c.maxLocals = 3 := hml0
  have hown : s.vm.findClass "java/lang/StringUTF16" = some m.cls := findClass_of_methodNamed Bd.named
  have X0 : Stand p l e (rom 0 0 0 0) s m _ _ _ _ _ [] 0 0 := Stand.of_body Bd
  have e0 : s₁.heap = h0 := by rw [← hh, Bd.state]; rfl
  have N0 := Fr.nil n0
  have K0 : Keep h0 h0 [o0] := Keep.refl _ _
  have pre0 : Go p e below s₁ _ (mkF m 0 #[.val (.ref o0), .val (.int 0), .val (.int p2)] []) _ := fun t k => castTop (ef_21_1_0 m o0 p2) k
  obtain ⟨T1, X1, e1, st1⟩ := getS2 X0 hx hZ hown (host := "") (Or.inl (wq hw 94 rfl)) Via.refl e0 I0 (g := (mkF m 0 #[.val (.ref o0), .val (.int 0), .val (.int p2)] [])) rfl (hb hby d21_0)
  have pre2 := Go.thn pre0 st1
  have pre3 : Go p e below T1 _ (mkF m 38 #[.val (.ref o0), .val (.int 1), .val (.int p2)] [(.int p2), (.int 0), (.ref o0)]) _ := fun t k => pre2 t (by
    refine XS.ifYes X1.here hx rfl (pc0 := 3) (pc' := 28) rfl (hb hby d21_3) rfl (by decide) (by decide) (by decide) ?_
    refine XS.iloadN X1.here hx rfl (hb hby d21_28) rfl ?_
    refine XS.iconst X1.here hx rfl (hb hby d21_29) ?_
    refine XS.ishl X1.here hx rfl (hb hby d21_30) rfl ?_
    refine XS.istoreN X1.here hx rfl (hb hby d21_31) rfl (l' := #[.val (.ref o0), .val (.int 0), .val (.int p2)]) rfl ?_
    refine XS.aloadN X1.here hx rfl (hb hby d21_32) rfl rfl ?_
    refine XS.iloadN X1.here hx rfl (hb hby d21_33) rfl ?_
    refine XS.iinc X1.here hx rfl (hb hby d21_34) rfl (l' := #[.val (.ref o0), .val (.int 1), .val (.int p2)]) rfl ?_
    refine XS.iloadN X1.here hx rfl (hb hby d21_37) rfl ?_
    exact k)
  obtain ⟨T4, X4, e4, st4⟩ := getS2 X1 hx hZ hown (host := "") (Or.inl (wq hw 95 rfl)) Via.refl e1 I1 (g := (mkF m 38 #[.val (.ref o0), .val (.int 1), .val (.int p2)] [(.int p2), (.int 0), (.ref o0)])) rfl (hb hby d21_38)
  have pre5 := Go.thn pre3 st4
  have pre6 : Go p e below T4 _ (mkF m 43 #[.val (.ref o0), .val (.int 1), .val (.int p2)] [(.int ((p2 >>> ((0 : Int32) &&& 31)).toInt8.toInt32)), (.int 0), (.ref o0)]) _ := fun t k => pre5 t (by
    refine XS.ishr X4.here hx rfl (hb hby d21_41) rfl ?_
    refine XS.i2b X4.here hx rfl (hb hby d21_42) rfl ?_
    exact k)
  obtain ⟨cl7, Ar7, q7, Sz7, Mn7, Hs7, Gs7⟩ := id I3
  have hin7 : ¬ ((0 : Int32) < 0 ∨ cl7.slots.size ≤ ((0 : Int32)).toNatClampNeg) := inb_of Sz7 ⟨by decide, by decide⟩
  obtain ⟨T7, h7, X7, e7, W7, st7⟩ := stB X4 hx hZ e4 Ar7 (j := (0 : Int32)) hin7 (g := (mkF m 43 #[.val (.ref o0), .val (.int 1), .val (.int p2)] [(.int ((p2 >>> ((0 : Int32) &&& 31)).toInt8.toInt32)), (.int 0), (.ref o0)])) rfl rfl (hb hby d21_43)
  have V7 : Arv Z h7 o0 ka .byte (6 : Int32) [(.int (own_b0 p2)), (.int u1), (.int u2), (.int u3), (.int u4), (.int u5)] (.int 0) := Arv.set Ar7 q7 Sz7 Mn7 Hs7 Gs7 (fits_nar_byte _) W7 0 rfl (Nat.le_of_ble_eq_true rfl)
  have N7 := Fr.snoc X7 N0 gw_o0
  have K7 : Keep h0 h7 [o0] := K0.wr W7 (Or.inl (List.mem_of_getElem? (i := 0) rfl))
  have Z7 : n0 ≤ h7.size := Nat.le_trans Z0 (Keep.of_wr W7).1
  have x8 := I0.wr W7
  have x9 := I1.wr W7
  have x10 := I2.wr W7
  have pre11 := Go.thn pre6 st7
  have pre12 : Go p e below T7 _ (mkF m 47 #[.val (.ref o0), .val (.int 1), .val (.int p2)] [(.int p2), (.int 1), (.ref o0)]) _ := fun t k => pre11 t (by
    refine XS.aloadN X7.here hx rfl (hb hby d21_44) rfl rfl ?_
    refine XS.iloadN X7.here hx rfl (hb hby d21_45) rfl ?_
    refine XS.iloadN X7.here hx rfl (hb hby d21_46) rfl ?_
    exact k)
  obtain ⟨T13, X13, e13, st13⟩ := getS2 X7 hx hZ hown (host := "") (Or.inl (wq hw 96 rfl)) Via.refl e7 x10 (g := (mkF m 47 #[.val (.ref o0), .val (.int 1), .val (.int p2)] [(.int p2), (.int 1), (.ref o0)])) rfl (hb hby d21_47)
  have pre14 := Go.thn pre12 st13
  have pre15 : Go p e below T13 _ (mkF m 52 #[.val (.ref o0), .val (.int 1), .val (.int p2)] [(.int ((p2 >>> ((8 : Int32) &&& 31)).toInt8.toInt32)), (.int 1), (.ref o0)]) _ := fun t k => pre14 t (by
    refine XS.ishr X13.here hx rfl (hb hby d21_50) rfl ?_
    refine XS.i2b X13.here hx rfl (hb hby d21_51) rfl ?_
    exact k)
  obtain ⟨cl16, Ar16, q16, Sz16, Mn16, Hs16, Gs16⟩ := id V7
  have hin16 : ¬ ((1 : Int32) < 0 ∨ cl16.slots.size ≤ ((1 : Int32)).toNatClampNeg) := inb_of Sz16 ⟨by decide, by decide⟩
  obtain ⟨T16, h16, X16, e16, W16, st16⟩ := stB X13 hx hZ e13 Ar16 (j := (1 : Int32)) hin16 (g := (mkF m 52 #[.val (.ref o0), .val (.int 1), .val (.int p2)] [(.int ((p2 >>> ((8 : Int32) &&& 31)).toInt8.toInt32)), (.int 1), (.ref o0)])) rfl rfl (hb hby d21_52)
  have V16 : Arv Z h16 o0 ka .byte (6 : Int32) [(.int (own_b0 p2)), (.int (own_b8 p2)), (.int u2), (.int u3), (.int u4), (.int u5)] (.int 0) := Arv.set Ar16 q16 Sz16 Mn16 Hs16 Gs16 (fits_nar_byte _) W16 1 rfl (Nat.le_of_ble_eq_true rfl)
  have N16 := Fr.snoc X16 N7 gw_o0
  have K16 : Keep h0 h16 [o0] := K7.wr W16 (Or.inl (List.mem_of_getElem? (i := 0) rfl))
  have Z16 : n0 ≤ h16.size := Nat.le_trans Z7 (Keep.of_wr W16).1
  have x17 := x8.wr W16
  have x18 := x9.wr W16
  have x19 := x10.wr W16
  have pre20 := Go.thn pre15 st16
  obtain ⟨fs, hr, hrun, hended, hW, hsame⟩ := X16.leave (v := none) (fun _ => rfl)
  refine ⟨_, _, ?_, hrun, hended, _, _, rfl, ?_, ⟨_, rfl⟩, hW, hsame.mono (by decide) (by decide)⟩
  · exact pre20 _ (X16.returnOut hx Bd.returns (hb hby d21_53) hr)
  · show Q21_3_0 Z o0 p2 ka u0 u1 u2 u3 u4 u5 h0 n0 _ T16.heap _
    rw [e16]
    exact ⟨rfl, N16, K16, V16⟩
def Q21_3_1 (Z : State) (o0 : Addr) (p2 : Int32) (ka : ClassId) (u0 : Int32) (u1 : Int32) (u2 : Int32) (u3 : Int32) (u4 : Int32) (u5 : Int32) (h0 : Heap) (n0 : Nat) (v : Option Value) (h : Heap) (L : List Loc) : Prop := v = none ∧ Fr n0 L ∧ Keep h0 h [o0] ∧ Arv Z h o0 ka .byte (6 : Int32) [(.int u0), (.int u1), (.int (own_b0 p2)), (.int (own_b8 p2)), (.int u4), (.int u5)] (.int 0)
set_option maxRecDepth 65536 in
set_option maxHeartbeats 40000000 in
theorem rm21_3_1 (l : Launch) (Z : State) (a0 : Array Value) (hw : ∀ d ∈ tables_1, d.before a0 Z = true) (ws : List Jvm.Cond) (o0 : Addr) (p2 : Int32) (ka : ClassId) (u0 : Int32) (u1 : Int32) (u2 : Int32) (u3 : Int32) (u4 : Int32) (u5 : Int32) (h0 : Heap) (n0 : Nat) (Z0 : n0 ≤ h0.size) (I0 : Sta Z h0 "java/lang/StringUTF16" "$assertionsDisabled" "Z" (.int 1)) (I1 : Sta Z h0 "java/lang/StringUTF16" "HI_BYTE_SHIFT" "I" (.int 0)) (I2 : Sta Z h0 "java/lang/StringUTF16" "LO_BYTE_SHIFT" "I" (.int 8)) (I3 : Arv Z h0 o0 ka .byte (6 : Int32) [(.int u0), (.int u1), (.int u2), (.int u3), (.int u4), (.int u5)] (.int 0)) (gw_o0 : n0 ≤ o0) :
    Met1 l Nm_18 (Jvm.Cond.code Nm_18 jdk_52_method_4_code 3 none) ws (rom 0 0 0 0) #[(.ref o0), (.int 1), (.int p2)] Z h0 (Q21_3_1 Z o0 p2 ka u0 u1 u2 u3 u4 u5 h0 n0) := by
  refine MetFree.of_bodySF (plainFor_of_name pn_21) hisR ?_
  intro p e s m args below meth c s₁ Bd hml0 hP hK
  obtain ⟨rfl, hZ, hh⟩ := hP
  have hx := Bd.exec
  have hby := Bd.bytes
  have hml : c.maxLocals = 3 := hml0
  have hown : s.vm.findClass "java/lang/StringUTF16" = some m.cls := findClass_of_methodNamed Bd.named
  have X0 : Stand p l e (rom 0 0 0 0) s m _ _ _ _ _ [] 0 0 := Stand.of_body Bd
  have e0 : s₁.heap = h0 := by rw [← hh, Bd.state]; rfl
  have N0 := Fr.nil n0
  have K0 : Keep h0 h0 [o0] := Keep.refl _ _
  have pre0 : Go p e below s₁ _ (mkF m 0 #[.val (.ref o0), .val (.int 1), .val (.int p2)] []) _ := fun t k => castTop (ef_21_2_1 m o0 p2) k
  obtain ⟨T1, X1, e1, st1⟩ := getS2 X0 hx hZ hown (host := "") (Or.inl (wq hw 94 rfl)) Via.refl e0 I0 (g := (mkF m 0 #[.val (.ref o0), .val (.int 1), .val (.int p2)] [])) rfl (hb hby d21_0)
  have pre2 := Go.thn pre0 st1
  have pre3 : Go p e below T1 _ (mkF m 38 #[.val (.ref o0), .val (.int 3), .val (.int p2)] [(.int p2), (.int 2), (.ref o0)]) _ := fun t k => pre2 t (by
    refine XS.ifYes X1.here hx rfl (pc0 := 3) (pc' := 28) rfl (hb hby d21_3) rfl (by decide) (by decide) (by decide) ?_
    refine XS.iloadN X1.here hx rfl (hb hby d21_28) rfl ?_
    refine XS.iconst X1.here hx rfl (hb hby d21_29) ?_
    refine XS.ishl X1.here hx rfl (hb hby d21_30) rfl ?_
    refine XS.istoreN X1.here hx rfl (hb hby d21_31) rfl (l' := #[.val (.ref o0), .val (.int 2), .val (.int p2)]) rfl ?_
    refine XS.aloadN X1.here hx rfl (hb hby d21_32) rfl rfl ?_
    refine XS.iloadN X1.here hx rfl (hb hby d21_33) rfl ?_
    refine XS.iinc X1.here hx rfl (hb hby d21_34) rfl (l' := #[.val (.ref o0), .val (.int 3), .val (.int p2)]) rfl ?_
    refine XS.iloadN X1.here hx rfl (hb hby d21_37) rfl ?_
    exact k)
  obtain ⟨T4, X4, e4, st4⟩ := getS2 X1 hx hZ hown (host := "") (Or.inl (wq hw 95 rfl)) Via.refl e1 I1 (g := (mkF m 38 #[.val (.ref o0), .val (.int 3), .val (.int p2)] [(.int p2), (.int 2), (.ref o0)])) rfl (hb hby d21_38)
  have pre5 := Go.thn pre3 st4
  have pre6 : Go p e below T4 _ (mkF m 43 #[.val (.ref o0), .val (.int 3), .val (.int p2)] [(.int ((p2 >>> ((0 : Int32) &&& 31)).toInt8.toInt32)), (.int 2), (.ref o0)]) _ := fun t k => pre5 t (by
    refine XS.ishr X4.here hx rfl (hb hby d21_41) rfl ?_
    refine XS.i2b X4.here hx rfl (hb hby d21_42) rfl ?_
    exact k)
  obtain ⟨cl7, Ar7, q7, Sz7, Mn7, Hs7, Gs7⟩ := id I3
  have hin7 : ¬ ((2 : Int32) < 0 ∨ cl7.slots.size ≤ ((2 : Int32)).toNatClampNeg) := inb_of Sz7 ⟨by decide, by decide⟩
  obtain ⟨T7, h7, X7, e7, W7, st7⟩ := stB X4 hx hZ e4 Ar7 (j := (2 : Int32)) hin7 (g := (mkF m 43 #[.val (.ref o0), .val (.int 3), .val (.int p2)] [(.int ((p2 >>> ((0 : Int32) &&& 31)).toInt8.toInt32)), (.int 2), (.ref o0)])) rfl rfl (hb hby d21_43)
  have V7 : Arv Z h7 o0 ka .byte (6 : Int32) [(.int u0), (.int u1), (.int (own_b0 p2)), (.int u3), (.int u4), (.int u5)] (.int 0) := Arv.set Ar7 q7 Sz7 Mn7 Hs7 Gs7 (fits_nar_byte _) W7 2 rfl (Nat.le_of_ble_eq_true rfl)
  have N7 := Fr.snoc X7 N0 gw_o0
  have K7 : Keep h0 h7 [o0] := K0.wr W7 (Or.inl (List.mem_of_getElem? (i := 0) rfl))
  have Z7 : n0 ≤ h7.size := Nat.le_trans Z0 (Keep.of_wr W7).1
  have x8 := I0.wr W7
  have x9 := I1.wr W7
  have x10 := I2.wr W7
  have pre11 := Go.thn pre6 st7
  have pre12 : Go p e below T7 _ (mkF m 47 #[.val (.ref o0), .val (.int 3), .val (.int p2)] [(.int p2), (.int 3), (.ref o0)]) _ := fun t k => pre11 t (by
    refine XS.aloadN X7.here hx rfl (hb hby d21_44) rfl rfl ?_
    refine XS.iloadN X7.here hx rfl (hb hby d21_45) rfl ?_
    refine XS.iloadN X7.here hx rfl (hb hby d21_46) rfl ?_
    exact k)
  obtain ⟨T13, X13, e13, st13⟩ := getS2 X7 hx hZ hown (host := "") (Or.inl (wq hw 96 rfl)) Via.refl e7 x10 (g := (mkF m 47 #[.val (.ref o0), .val (.int 3), .val (.int p2)] [(.int p2), (.int 3), (.ref o0)])) rfl (hb hby d21_47)
  have pre14 := Go.thn pre12 st13
  have pre15 : Go p e below T13 _ (mkF m 52 #[.val (.ref o0), .val (.int 3), .val (.int p2)] [(.int ((p2 >>> ((8 : Int32) &&& 31)).toInt8.toInt32)), (.int 3), (.ref o0)]) _ := fun t k => pre14 t (by
    refine XS.ishr X13.here hx rfl (hb hby d21_50) rfl ?_
    refine XS.i2b X13.here hx rfl (hb hby d21_51) rfl ?_
    exact k)
  obtain ⟨cl16, Ar16, q16, Sz16, Mn16, Hs16, Gs16⟩ := id V7
  have hin16 : ¬ ((3 : Int32) < 0 ∨ cl16.slots.size ≤ ((3 : Int32)).toNatClampNeg) := inb_of Sz16 ⟨by decide, by decide⟩
  obtain ⟨T16, h16, X16, e16, W16, st16⟩ := stB X13 hx hZ e13 Ar16 (j := (3 : Int32)) hin16 (g := (mkF m 52 #[.val (.ref o0), .val (.int 3), .val (.int p2)] [(.int ((p2 >>> ((8 : Int32) &&& 31)).toInt8.toInt32)), (.int 3), (.ref o0)])) rfl rfl (hb hby d21_52)
  have V16 : Arv Z h16 o0 ka .byte (6 : Int32) [(.int u0), (.int u1), (.int (own_b0 p2)), (.int (own_b8 p2)), (.int u4), (.int u5)] (.int 0) := Arv.set Ar16 q16 Sz16 Mn16 Hs16 Gs16 (fits_nar_byte _) W16 3 rfl (Nat.le_of_ble_eq_true rfl)
  have N16 := Fr.snoc X16 N7 gw_o0
  have K16 : Keep h0 h16 [o0] := K7.wr W16 (Or.inl (List.mem_of_getElem? (i := 0) rfl))
  have Z16 : n0 ≤ h16.size := Nat.le_trans Z7 (Keep.of_wr W16).1
  have x17 := x8.wr W16
  have x18 := x9.wr W16
  have x19 := x10.wr W16
  have pre20 := Go.thn pre15 st16
  obtain ⟨fs, hr, hrun, hended, hW, hsame⟩ := X16.leave (v := none) (fun _ => rfl)
  refine ⟨_, _, ?_, hrun, hended, _, _, rfl, ?_, ⟨_, rfl⟩, hW, hsame.mono (by decide) (by decide)⟩
  · exact pre20 _ (X16.returnOut hx Bd.returns (hb hby d21_53) hr)
  · show Q21_3_1 Z o0 p2 ka u0 u1 u2 u3 u4 u5 h0 n0 _ T16.heap _
    rw [e16]
    exact ⟨rfl, N16, K16, V16⟩
theorem ef_21_3_2 (m : MethodId) (x0 : Addr) (x2 : Int32) : entryFrame m #[(.ref x0), (.int 2), (.int x2)] 3 = mkF m 0 #[.val (.ref x0), .val (.int 2), .val (.int x2)] [] := by first | (simp [entryFrame, mkF, argsToLocals, Value.category]; done) | rfl
def Q21_3_2 (Z : State) (o0 : Addr) (p2 : Int32) (ka : ClassId) (u0 : Int32) (u1 : Int32) (u2 : Int32) (u3 : Int32) (u4 : Int32) (u5 : Int32) (h0 : Heap) (n0 : Nat) (v : Option Value) (h : Heap) (L : List Loc) : Prop := v = none ∧ Fr n0 L ∧ Keep h0 h [o0] ∧ Arv Z h o0 ka .byte (6 : Int32) [(.int u0), (.int u1), (.int u2), (.int u3), (.int (own_b0 p2)), (.int (own_b8 p2))] (.int 0)
set_option maxRecDepth 65536 in
set_option maxHeartbeats 40000000 in
theorem rm21_3_2 (l : Launch) (Z : State) (a0 : Array Value) (hw : ∀ d ∈ tables_1, d.before a0 Z = true) (ws : List Jvm.Cond) (o0 : Addr) (p2 : Int32) (ka : ClassId) (u0 : Int32) (u1 : Int32) (u2 : Int32) (u3 : Int32) (u4 : Int32) (u5 : Int32) (h0 : Heap) (n0 : Nat) (Z0 : n0 ≤ h0.size) (I0 : Sta Z h0 "java/lang/StringUTF16" "$assertionsDisabled" "Z" (.int 1)) (I1 : Sta Z h0 "java/lang/StringUTF16" "HI_BYTE_SHIFT" "I" (.int 0)) (I2 : Sta Z h0 "java/lang/StringUTF16" "LO_BYTE_SHIFT" "I" (.int 8)) (I3 : Arv Z h0 o0 ka .byte (6 : Int32) [(.int u0), (.int u1), (.int u2), (.int u3), (.int u4), (.int u5)] (.int 0)) (gw_o0 : n0 ≤ o0) :
    Met1 l Nm_18 (Jvm.Cond.code Nm_18 jdk_52_method_4_code 3 none) ws (rom 0 0 0 0) #[(.ref o0), (.int 2), (.int p2)] Z h0 (Q21_3_2 Z o0 p2 ka u0 u1 u2 u3 u4 u5 h0 n0) := by
  refine MetFree.of_bodySF (plainFor_of_name pn_21) hisR ?_
  intro p e s m args below meth c s₁ Bd hml0 hP hK
  obtain ⟨rfl, hZ, hh⟩ := hP
  have hx := Bd.exec
  have hby := Bd.bytes
  have hml : c.maxLocals = 3 := hml0
  have hown : s.vm.findClass "java/lang/StringUTF16" = some m.cls := findClass_of_methodNamed Bd.named
  have X0 : Stand p l e (rom 0 0 0 0) s m _ _ _ _ _ [] 0 0 := Stand.of_body Bd
  have e0 : s₁.heap = h0 := by rw [← hh, Bd.state]; rfl
  have N0 := Fr.nil n0
  have K0 : Keep h0 h0 [o0] := Keep.refl _ _
  have pre0 : Go p e below s₁ _ (mkF m 0 #[.val (.ref o0), .val (.int 2), .val (.int p2)] []) _ := fun t k => castTop (ef_21_3_2 m o0 p2) k
  obtain ⟨T1, X1, e1, st1⟩ := getS2 X0 hx hZ hown (host := "") (Or.inl (wq hw 94 rfl)) Via.refl e0 I0 (g := (mkF m 0 #[.val (.ref o0), .val (.int 2), .val (.int p2)] [])) rfl (hb hby d21_0)
  have pre2 := Go.thn pre0 st1
  have pre3 : Go p e below T1 _ (mkF m 38 #[.val (.ref o0), .val (.int 5), .val (.int p2)] [(.int p2), (.int 4), (.ref o0)]) _ := fun t k => pre2 t (by
    refine XS.ifYes X1.here hx rfl (pc0 := 3) (pc' := 28) rfl (hb hby d21_3) rfl (by decide) (by decide) (by decide) ?_
    refine XS.iloadN X1.here hx rfl (hb hby d21_28) rfl ?_
    refine XS.iconst X1.here hx rfl (hb hby d21_29) ?_
    refine XS.ishl X1.here hx rfl (hb hby d21_30) rfl ?_
    refine XS.istoreN X1.here hx rfl (hb hby d21_31) rfl (l' := #[.val (.ref o0), .val (.int 4), .val (.int p2)]) rfl ?_
    refine XS.aloadN X1.here hx rfl (hb hby d21_32) rfl rfl ?_
    refine XS.iloadN X1.here hx rfl (hb hby d21_33) rfl ?_
    refine XS.iinc X1.here hx rfl (hb hby d21_34) rfl (l' := #[.val (.ref o0), .val (.int 5), .val (.int p2)]) rfl ?_
    refine XS.iloadN X1.here hx rfl (hb hby d21_37) rfl ?_
    exact k)
  obtain ⟨T4, X4, e4, st4⟩ := getS2 X1 hx hZ hown (host := "") (Or.inl (wq hw 95 rfl)) Via.refl e1 I1 (g := (mkF m 38 #[.val (.ref o0), .val (.int 5), .val (.int p2)] [(.int p2), (.int 4), (.ref o0)])) rfl (hb hby d21_38)
  have pre5 := Go.thn pre3 st4
  have pre6 : Go p e below T4 _ (mkF m 43 #[.val (.ref o0), .val (.int 5), .val (.int p2)] [(.int ((p2 >>> ((0 : Int32) &&& 31)).toInt8.toInt32)), (.int 4), (.ref o0)]) _ := fun t k => pre5 t (by
    refine XS.ishr X4.here hx rfl (hb hby d21_41) rfl ?_
    refine XS.i2b X4.here hx rfl (hb hby d21_42) rfl ?_
    exact k)
  obtain ⟨cl7, Ar7, q7, Sz7, Mn7, Hs7, Gs7⟩ := id I3
  have hin7 : ¬ ((4 : Int32) < 0 ∨ cl7.slots.size ≤ ((4 : Int32)).toNatClampNeg) := inb_of Sz7 ⟨by decide, by decide⟩
  obtain ⟨T7, h7, X7, e7, W7, st7⟩ := stB X4 hx hZ e4 Ar7 (j := (4 : Int32)) hin7 (g := (mkF m 43 #[.val (.ref o0), .val (.int 5), .val (.int p2)] [(.int ((p2 >>> ((0 : Int32) &&& 31)).toInt8.toInt32)), (.int 4), (.ref o0)])) rfl rfl (hb hby d21_43)
  have V7 : Arv Z h7 o0 ka .byte (6 : Int32) [(.int u0), (.int u1), (.int u2), (.int u3), (.int (own_b0 p2)), (.int u5)] (.int 0) := Arv.set Ar7 q7 Sz7 Mn7 Hs7 Gs7 (fits_nar_byte _) W7 4 rfl (Nat.le_of_ble_eq_true rfl)
  have N7 := Fr.snoc X7 N0 gw_o0
  have K7 : Keep h0 h7 [o0] := K0.wr W7 (Or.inl (List.mem_of_getElem? (i := 0) rfl))
  have Z7 : n0 ≤ h7.size := Nat.le_trans Z0 (Keep.of_wr W7).1
  have x8 := I0.wr W7
  have x9 := I1.wr W7
  have x10 := I2.wr W7
  have pre11 := Go.thn pre6 st7
  have pre12 : Go p e below T7 _ (mkF m 47 #[.val (.ref o0), .val (.int 5), .val (.int p2)] [(.int p2), (.int 5), (.ref o0)]) _ := fun t k => pre11 t (by
    refine XS.aloadN X7.here hx rfl (hb hby d21_44) rfl rfl ?_
    refine XS.iloadN X7.here hx rfl (hb hby d21_45) rfl ?_
    refine XS.iloadN X7.here hx rfl (hb hby d21_46) rfl ?_
    exact k)
  obtain ⟨T13, X13, e13, st13⟩ := getS2 X7 hx hZ hown (host := "") (Or.inl (wq hw 96 rfl)) Via.refl e7 x10 (g := (mkF m 47 #[.val (.ref o0), .val (.int 5), .val (.int p2)] [(.int p2), (.int 5), (.ref o0)])) rfl (hb hby d21_47)
  have pre14 := Go.thn pre12 st13
  have pre15 : Go p e below T13 _ (mkF m 52 #[.val (.ref o0), .val (.int 5), .val (.int p2)] [(.int ((p2 >>> ((8 : Int32) &&& 31)).toInt8.toInt32)), (.int 5), (.ref o0)]) _ := fun t k => pre14 t (by
    refine XS.ishr X13.here hx rfl (hb hby d21_50) rfl ?_
    refine XS.i2b X13.here hx rfl (hb hby d21_51) rfl ?_
    exact k)
  obtain ⟨cl16, Ar16, q16, Sz16, Mn16, Hs16, Gs16⟩ := id V7
  have hin16 : ¬ ((5 : Int32) < 0 ∨ cl16.slots.size ≤ ((5 : Int32)).toNatClampNeg) := inb_of Sz16 ⟨by decide, by decide⟩
  obtain ⟨T16, h16, X16, e16, W16, st16⟩ := stB X13 hx hZ e13 Ar16 (j := (5 : Int32)) hin16 (g := (mkF m 52 #[.val (.ref o0), .val (.int 5), .val (.int p2)] [(.int ((p2 >>> ((8 : Int32) &&& 31)).toInt8.toInt32)), (.int 5), (.ref o0)])) rfl rfl (hb hby d21_52)
  have V16 : Arv Z h16 o0 ka .byte (6 : Int32) [(.int u0), (.int u1), (.int u2), (.int u3), (.int (own_b0 p2)), (.int (own_b8 p2))] (.int 0) := Arv.set Ar16 q16 Sz16 Mn16 Hs16 Gs16 (fits_nar_byte _) W16 5 rfl (Nat.le_of_ble_eq_true rfl)
  have N16 := Fr.snoc X16 N7 gw_o0
  have K16 : Keep h0 h16 [o0] := K7.wr W16 (Or.inl (List.mem_of_getElem? (i := 0) rfl))
  have Z16 : n0 ≤ h16.size := Nat.le_trans Z7 (Keep.of_wr W16).1
  have x17 := x8.wr W16
  have x18 := x9.wr W16
  have x19 := x10.wr W16
  have pre20 := Go.thn pre15 st16
  obtain ⟨fs, hr, hrun, hended, hW, hsame⟩ := X16.leave (v := none) (fun _ => rfl)
  refine ⟨_, _, ?_, hrun, hended, _, _, rfl, ?_, ⟨_, rfl⟩, hW, hsame.mono (by decide) (by decide)⟩
  · exact pre20 _ (X16.returnOut hx Bd.returns (hb hby d21_53) hr)
  · show Q21_3_2 Z o0 p2 ka u0 u1 u2 u3 u4 u5 h0 n0 _ T16.heap _
    rw [e16]
    exact ⟨rfl, N16, K16, V16⟩
theorem ef_18_3 (m : MethodId) (x0 : Addr) : entryFrame m #[(.ref x0), (.int 0), (.int 3)] 5 = mkF m 0 #[.val (.ref x0), .val (.int 0), .val (.int 3), .unset, .unset] [] := by first | (simp [entryFrame, mkF, argsToLocals, Value.category]; done) | rfl
def Q18_3 (Z : State) (o0 : Addr) (kc : ClassId) (w0 : Int32) (w1 : Int32) (w2 : Int32) (h0 : Heap) (n0 : Nat) (v : Option Value) (h : Heap) (L : List Loc) : Prop := ∃ (b1_0 : Addr) (k_b1_0 : ClassId), v = (some (.ref b1_0)) ∧ Fr n0 L ∧ Keep h0 h [] ∧ h0.size ≤ b1_0 ∧ Arv Z h b1_0 k_b1_0 .byte (6 : Int32) [(.int (own_b0 w0)), (.int (own_b8 w0)), (.int (own_b0 w1)), (.int (own_b8 w1)), (.int (own_b0 w2)), (.int (own_b8 w2))] (.int 0)
set_option maxRecDepth 65536 in
set_option maxHeartbeats 40000000 in
theorem rm18_3 (l : Launch) (Z : State) (a0 : Array Value) (hw : ∀ d ∈ tables_1, d.before a0 Z = true) (ws : List Jvm.Cond) (o0 : Addr) (kc : ClassId) (w0 : Int32) (w1 : Int32) (w2 : Int32) (h0 : Heap) (n0 : Nat) (Z0 : n0 ≤ h0.size) (I0 : Sta Z h0 "java/lang/StringUTF16" "$assertionsDisabled" "Z" (.int 1)) (I1 : Sta Z h0 "java/lang/StringUTF16" "HI_BYTE_SHIFT" "I" (.int 0)) (I2 : Sta Z h0 "java/lang/StringUTF16" "LO_BYTE_SHIFT" "I" (.int 8)) (I3 : Arv Z h0 o0 kc .char (3 : Int32) [(.int w0), (.int w1), (.int w2)] (.int 0)) :
    Met1 l Nm_19 (Jvm.Cond.code Nm_19 jdk_52_method_14_code 5 (some (.array .byte))) ws (rom 2 1 6 24) #[(.ref o0), (.int 0), (.int 3)] Z h0 (Q18_3 Z o0 kc w0 w1 w2 h0 n0) := by
  refine MetFree.of_bodySF (plainFor_of_name pn_18) hisR ?_
  intro p e s m args below meth c s₁ Bd hml0 hP hK
  obtain ⟨rfl, hZ, hh⟩ := hP
  have hx := Bd.exec
  have hby := Bd.bytes
  have hml : c.maxLocals = 5 := hml0
  have hown : s.vm.findClass "java/lang/StringUTF16" = some m.cls := findClass_of_methodNamed Bd.named
  have X0 : Stand p l e (rom 2 1 6 24) s m _ _ _ _ _ [] 0 0 := Stand.of_body Bd
  have e0 : s₁.heap = h0 := by rw [← hh, Bd.state]; rfl
  have N0 := Fr.nil n0
  have K0 : Keep h0 h0 [] := Keep.refl _ _
  have pre0 : Go p e below s₁ _ (mkF m 0 #[.val (.ref o0), .val (.int 0), .val (.int 3), .unset, .unset] []) _ := fun t k => castTop (ef_18_3 m o0) k
  have pre1 : Go p e below s₁ _ (mkF m 1 #[.val (.ref o0), .val (.int 0), .val (.int 3), .unset, .unset] [(.int 3)]) _ := fun t k => pre0 t (by
    refine XS.iloadN X0.here hx rfl (hb hby d18_0) rfl ?_
    exact k)
  obtain ⟨_, _, ⟨T2, L2, k2, n2⟩, -, X2, ⟨Lc2, hQ2, l2, y2, z2⟩, st2⟩ := Jvm.LawKit.callS X0 hx (y := Nm_17) hown (mvT hZ (wq hw 84 rfl)) (mvT hZ (wq hw 85 rfl)) (mvT hZ (wq hw 45 rfl)) (mvT hZ (wq hw 86 rfl)) (by decide) (backOf (W := 0) (rm19_3 l Z a0 hw []  h0 n0 Z0) hZ (wq hw 86 rfl) (wq hw 45 rfl) (by decide) (by decide)) (g := (mkF m 1 #[.val (.ref o0), .val (.int 0), .val (.int 3), .unset, .unset] [(.int 3)])) rfl (by rw [hml]; rfl) (argsL := [(.int 3)]) (rest := []) (lenOf pd__I__B rfl) rfl (w00 rfl) (hb hby d18_1) (fun _ _ => ⟨rfl, e0, (by decide : 0 + 1 ≤ _), (by decide : 0 + 6 ≤ _)⟩)
  dsimp only [Pt.U, Pt.locs, Pt.cells, Pt.slots] at X2 l2 y2 z2 st2 hQ2
  subst l2 y2 z2
  obtain ⟨b1_0, k_b4_2, rfl, Nq2, Kq2, gz2_b1_0, o2_0⟩ := hQ2
  have N2 := Fr.app N0 Nq2
  have K2 : Keep h0 T2.heap [] := K0.trans Kq2 all0
  have Z2 : n0 ≤ T2.heap.size := Nat.le_trans Z0 Kq2.1
  have x3 := own_staK I0 Kq2 all0
  have x4 := own_staK I1 Kq2 all0
  have x5 := own_staK I2 Kq2 all0
  have x6 := I3.keep Kq2 nin0
  have gg2_b1_0 : n0 ≤ b1_0 := Nat.le_trans Z0 gz2_b1_0
  have sz2_b1_0 : h0.size ≤ b1_0 := Nat.le_trans K0.1 gz2_b1_0
  have ne2_o0_b1_0 : o0 ≠ b1_0 := Nat.ne_of_lt (Nat.lt_of_lt_of_le I3.lt gz2_b1_0)
  have pre7 := Go.thn pre1 st2
  have pre8 : Go p e below T2 _ (mkF m 19 #[.val (.ref o0), .val (.int 0), .val (.int 3), .val (.ref b1_0), .val (.int 0)] [(.int 0), (.ref o0), (.int 0), (.ref b1_0)]) _ := fun t k => pre7 t (by
    refine XS.astoreN X2.here hx rfl (hb hby d18_4) rfl rfl (l' := #[.val (.ref o0), .val (.int 0), .val (.int 3), .val (.ref b1_0), .unset]) rfl ?_
    refine XS.iconst X2.here hx rfl (hb hby d18_5) ?_
    refine XS.istore X2.here hx rfl (hb hby d18_6) rfl (l' := #[.val (.ref o0), .val (.int 0), .val (.int 3), .val (.ref b1_0), .val (.int 0)]) rfl ?_
    refine XS.iload X2.here hx rfl (hb hby d18_8) rfl ?_
    refine XS.iloadN X2.here hx rfl (hb hby d18_10) rfl ?_
    refine XS.icmpNo X2.here hx rfl (hb hby d18_11) rfl (by decide) ?_
    refine XS.aloadN X2.here hx rfl (hb hby d18_14) rfl rfl ?_
    refine XS.iload X2.here hx rfl (hb hby d18_15) rfl ?_
    refine XS.aloadN X2.here hx rfl (hb hby d18_17) rfl rfl ?_
    refine XS.iloadN X2.here hx rfl (hb hby d18_18) rfl ?_
    exact k)
  obtain ⟨cl9, Ar9, -, Sz9, Mn9, Hs9, -⟩ := id x6
  have hin9 : ¬ ((0 : Int32) < 0 ∨ cl9.slots.size ≤ ((0 : Int32)).toNatClampNeg) := inb_of Sz9 ⟨by decide, by decide⟩
  have hat9 : cl9.slots[((0 : Int32)).toNatClampNeg]? = some (.int w0) := Hs9.at hin9 rfl
  have pre10 : Go p e below T2 _ (mkF m 20 #[.val (.ref o0), .val (.int 0), .val (.int 3), .val (.ref b1_0), .val (.int 0)] [(.int w0), (.int 0), (.ref b1_0)]) _ := fun t k => pre8 t (by
    show Steps p.tables e below (T2.setTop (mkF m 19 #[.val (.ref o0), .val (.int 0), .val (.int 3), .val (.ref b1_0), .val (.int 0)] [(.int 0), (.ref o0), (.int 0), (.ref b1_0)])) _
    refine X2.caload hx (j := (0 : Int32)) (v := (.int w0)) Ar9.1 (State.isArrayOf_alike hZ.alike Ar9.2.1) Ar9.2.2 hin9 hat9 (g := (mkF m 19 #[.val (.ref o0), .val (.int 0), .val (.int 3), .val (.ref b1_0), .val (.int 0)] [(.int 0), (.ref o0), (.int 0), (.ref b1_0)])) rfl rfl (hb hby d18_19) _ ?_
    exact k)
  obtain ⟨_, _, ⟨T11, L11, k11, n11⟩, -, X11, ⟨Lc11, hQ11, l11, y11, z11⟩, st11⟩ := Jvm.LawKit.callS X2 hx (y := Nm_18) hown (mvT hZ (wq hw 91 rfl)) (mvT hZ (wq hw 92 rfl)) (mvT hZ (wq hw 45 rfl)) (mvT hZ (wq hw 93 rfl)) (by decide) (backOf (W := 0) (rm21_3_0 l Z a0 hw [] b1_0 w0 _ (0 : Int32) (0 : Int32) (0 : Int32) (0 : Int32) (0 : Int32) (0 : Int32) T2.heap n0 Z2 x3 x4 x5 o2_0 gg2_b1_0) hZ (wq hw 93 rfl) (wq hw 45 rfl) (by decide) (by decide)) (g := (mkF m 20 #[.val (.ref o0), .val (.int 0), .val (.int 3), .val (.ref b1_0), .val (.int 0)] [(.int w0), (.int 0), (.ref b1_0)])) rfl (by rw [hml]; rfl) (argsL := [(.ref b1_0), (.int 0), (.int w0)]) (rest := []) (lenOf pd___BII_V rfl) rfl (w00 rfl) (hb hby d18_20) (fun _ _ => ⟨rfl, rfl, (by decide : 1 + 0 ≤ _), (by decide : 6 + 0 ≤ _)⟩)
  dsimp only [Pt.U, Pt.locs, Pt.cells, Pt.slots] at X11 l11 y11 z11 st11 hQ11
  subst l11 y11 z11
  obtain ⟨rfl, Nq11, Kq11, o11_0⟩ := hQ11
  have N11 := Fr.app N2 Nq11
  have K11 : Keep h0 T11.heap [] := K2.trans Kq11 (allS (Or.inr sz2_b1_0) all0)
  have Z11 : n0 ≤ T11.heap.size := Nat.le_trans Z2 Kq11.1
  have x12 := own_staK x3 Kq11 (allS (own_plV o2_0) all0)
  have x13 := own_staK x4 Kq11 (allS (own_plV o2_0) all0)
  have x14 := own_staK x5 Kq11 (allS (own_plV o2_0) all0)
  have x15 := x6.keep Kq11 (ninS ne2_o0_b1_0 nin0)
  have pre16 := Go.thn pre10 st11
  have pre17 : Go p e below T11 _ (mkF m 19 #[.val (.ref o0), .val (.int 1), .val (.int 3), .val (.ref b1_0), .val (.int 1)] [(.int 1), (.ref o0), (.int 1), (.ref b1_0)]) _ := fun t k => pre16 t (by
    refine XS.iinc X11.here hx rfl (hb hby d18_23) rfl (l' := #[.val (.ref o0), .val (.int 1), .val (.int 3), .val (.ref b1_0), .val (.int 0)]) rfl ?_
    refine XS.iinc X11.here hx rfl (hb hby d18_26) rfl (l' := #[.val (.ref o0), .val (.int 1), .val (.int 3), .val (.ref b1_0), .val (.int 1)]) rfl ?_
    refine XS.goto X11.here hx rfl (pc0 := 29) (pc' := 8) rfl (hb hby d18_29) (by decide) (by decide) ?_
    refine XS.iload X11.here hx rfl (hb hby d18_8) rfl ?_
    refine XS.iloadN X11.here hx rfl (hb hby d18_10) rfl ?_
    refine XS.icmpNo X11.here hx rfl (hb hby d18_11) rfl (by decide) ?_
    refine XS.aloadN X11.here hx rfl (hb hby d18_14) rfl rfl ?_
    refine XS.iload X11.here hx rfl (hb hby d18_15) rfl ?_
    refine XS.aloadN X11.here hx rfl (hb hby d18_17) rfl rfl ?_
    refine XS.iloadN X11.here hx rfl (hb hby d18_18) rfl ?_
    exact k)
  obtain ⟨cl18, Ar18, -, Sz18, Mn18, Hs18, -⟩ := id x15
  have hin18 : ¬ ((1 : Int32) < 0 ∨ cl18.slots.size ≤ ((1 : Int32)).toNatClampNeg) := inb_of Sz18 ⟨by decide, by decide⟩
  have hat18 : cl18.slots[((1 : Int32)).toNatClampNeg]? = some (.int w1) := Hs18.at hin18 rfl
  have pre19 : Go p e below T11 _ (mkF m 20 #[.val (.ref o0), .val (.int 1), .val (.int 3), .val (.ref b1_0), .val (.int 1)] [(.int w1), (.int 1), (.ref b1_0)]) _ := fun t k => pre17 t (by
    show Steps p.tables e below (T11.setTop (mkF m 19 #[.val (.ref o0), .val (.int 1), .val (.int 3), .val (.ref b1_0), .val (.int 1)] [(.int 1), (.ref o0), (.int 1), (.ref b1_0)])) _
    refine X11.caload hx (j := (1 : Int32)) (v := (.int w1)) Ar18.1 (State.isArrayOf_alike hZ.alike Ar18.2.1) Ar18.2.2 hin18 hat18 (g := (mkF m 19 #[.val (.ref o0), .val (.int 1), .val (.int 3), .val (.ref b1_0), .val (.int 1)] [(.int 1), (.ref o0), (.int 1), (.ref b1_0)])) rfl rfl (hb hby d18_19) _ ?_
    exact k)
  obtain ⟨_, _, ⟨T20, L20, k20, n20⟩, -, X20, ⟨Lc20, hQ20, l20, y20, z20⟩, st20⟩ := Jvm.LawKit.callS X11 hx (y := Nm_18) hown (mvT hZ (wq hw 91 rfl)) (mvT hZ (wq hw 92 rfl)) (mvT hZ (wq hw 45 rfl)) (mvT hZ (wq hw 93 rfl)) (by decide) (backOf (W := 0) (rm21_3_1 l Z a0 hw [] b1_0 w1 _ (own_b0 w0) (own_b8 w0) (0 : Int32) (0 : Int32) (0 : Int32) (0 : Int32) T11.heap n0 Z11 x12 x13 x14 o11_0 gg2_b1_0) hZ (wq hw 93 rfl) (wq hw 45 rfl) (by decide) (by decide)) (g := (mkF m 20 #[.val (.ref o0), .val (.int 1), .val (.int 3), .val (.ref b1_0), .val (.int 1)] [(.int w1), (.int 1), (.ref b1_0)])) rfl (by rw [hml]; rfl) (argsL := [(.ref b1_0), (.int 1), (.int w1)]) (rest := []) (lenOf pd___BII_V rfl) rfl (w00 rfl) (hb hby d18_20) (fun _ _ => ⟨rfl, rfl, (by decide : 1 + 0 ≤ _), (by decide : 6 + 0 ≤ _)⟩)
  dsimp only [Pt.U, Pt.locs, Pt.cells, Pt.slots] at X20 l20 y20 z20 st20 hQ20
  subst l20 y20 z20
  obtain ⟨rfl, Nq20, Kq20, o20_0⟩ := hQ20
  have N20 := Fr.app N11 Nq20
  have K20 : Keep h0 T20.heap [] := K11.trans Kq20 (allS (Or.inr sz2_b1_0) all0)
  have Z20 : n0 ≤ T20.heap.size := Nat.le_trans Z11 Kq20.1
  have x21 := own_staK x12 Kq20 (allS (own_plV o11_0) all0)
  have x22 := own_staK x13 Kq20 (allS (own_plV o11_0) all0)
  have x23 := own_staK x14 Kq20 (allS (own_plV o11_0) all0)
  have x24 := x15.keep Kq20 (ninS ne2_o0_b1_0 nin0)
  have pre25 := Go.thn pre19 st20
  have pre26 : Go p e below T20 _ (mkF m 19 #[.val (.ref o0), .val (.int 2), .val (.int 3), .val (.ref b1_0), .val (.int 2)] [(.int 2), (.ref o0), (.int 2), (.ref b1_0)]) _ := fun t k => pre25 t (by
    refine XS.iinc X20.here hx rfl (hb hby d18_23) rfl (l' := #[.val (.ref o0), .val (.int 2), .val (.int 3), .val (.ref b1_0), .val (.int 1)]) rfl ?_
    refine XS.iinc X20.here hx rfl (hb hby d18_26) rfl (l' := #[.val (.ref o0), .val (.int 2), .val (.int 3), .val (.ref b1_0), .val (.int 2)]) rfl ?_
    refine XS.goto X20.here hx rfl (pc0 := 29) (pc' := 8) rfl (hb hby d18_29) (by decide) (by decide) ?_
    refine XS.iload X20.here hx rfl (hb hby d18_8) rfl ?_
    refine XS.iloadN X20.here hx rfl (hb hby d18_10) rfl ?_
    refine XS.icmpNo X20.here hx rfl (hb hby d18_11) rfl (by decide) ?_
    refine XS.aloadN X20.here hx rfl (hb hby d18_14) rfl rfl ?_
    refine XS.iload X20.here hx rfl (hb hby d18_15) rfl ?_
    refine XS.aloadN X20.here hx rfl (hb hby d18_17) rfl rfl ?_
    refine XS.iloadN X20.here hx rfl (hb hby d18_18) rfl ?_
    exact k)
  obtain ⟨cl27, Ar27, -, Sz27, Mn27, Hs27, -⟩ := id x24
  have hin27 : ¬ ((2 : Int32) < 0 ∨ cl27.slots.size ≤ ((2 : Int32)).toNatClampNeg) := inb_of Sz27 ⟨by decide, by decide⟩
  have hat27 : cl27.slots[((2 : Int32)).toNatClampNeg]? = some (.int w2) := Hs27.at hin27 rfl
  have pre28 : Go p e below T20 _ (mkF m 20 #[.val (.ref o0), .val (.int 2), .val (.int 3), .val (.ref b1_0), .val (.int 2)] [(.int w2), (.int 2), (.ref b1_0)]) _ := fun t k => pre26 t (by
    show Steps p.tables e below (T20.setTop (mkF m 19 #[.val (.ref o0), .val (.int 2), .val (.int 3), .val (.ref b1_0), .val (.int 2)] [(.int 2), (.ref o0), (.int 2), (.ref b1_0)])) _
    refine X20.caload hx (j := (2 : Int32)) (v := (.int w2)) Ar27.1 (State.isArrayOf_alike hZ.alike Ar27.2.1) Ar27.2.2 hin27 hat27 (g := (mkF m 19 #[.val (.ref o0), .val (.int 2), .val (.int 3), .val (.ref b1_0), .val (.int 2)] [(.int 2), (.ref o0), (.int 2), (.ref b1_0)])) rfl rfl (hb hby d18_19) _ ?_
    exact k)
  obtain ⟨_, _, ⟨T29, L29, k29, n29⟩, -, X29, ⟨Lc29, hQ29, l29, y29, z29⟩, st29⟩ := Jvm.LawKit.callS X20 hx (y := Nm_18) hown (mvT hZ (wq hw 91 rfl)) (mvT hZ (wq hw 92 rfl)) (mvT hZ (wq hw 45 rfl)) (mvT hZ (wq hw 93 rfl)) (by decide) (backOf (W := 0) (rm21_3_2 l Z a0 hw [] b1_0 w2 _ (own_b0 w0) (own_b8 w0) (own_b0 w1) (own_b8 w1) (0 : Int32) (0 : Int32) T20.heap n0 Z20 x21 x22 x23 o20_0 gg2_b1_0) hZ (wq hw 93 rfl) (wq hw 45 rfl) (by decide) (by decide)) (g := (mkF m 20 #[.val (.ref o0), .val (.int 2), .val (.int 3), .val (.ref b1_0), .val (.int 2)] [(.int w2), (.int 2), (.ref b1_0)])) rfl (by rw [hml]; rfl) (argsL := [(.ref b1_0), (.int 2), (.int w2)]) (rest := []) (lenOf pd___BII_V rfl) rfl (w00 rfl) (hb hby d18_20) (fun _ _ => ⟨rfl, rfl, (by decide : 1 + 0 ≤ _), (by decide : 6 + 0 ≤ _)⟩)
  dsimp only [Pt.U, Pt.locs, Pt.cells, Pt.slots] at X29 l29 y29 z29 st29 hQ29
  subst l29 y29 z29
  obtain ⟨rfl, Nq29, Kq29, o29_0⟩ := hQ29
  have N29 := Fr.app N20 Nq29
  have K29 : Keep h0 T29.heap [] := K20.trans Kq29 (allS (Or.inr sz2_b1_0) all0)
  have Z29 : n0 ≤ T29.heap.size := Nat.le_trans Z20 Kq29.1
  have x30 := own_staK x21 Kq29 (allS (own_plV o20_0) all0)
  have x31 := own_staK x22 Kq29 (allS (own_plV o20_0) all0)
  have x32 := own_staK x23 Kq29 (allS (own_plV o20_0) all0)
  have x33 := x24.keep Kq29 (ninS ne2_o0_b1_0 nin0)
  have pre34 := Go.thn pre28 st29
  have pre35 : Go p e below T29 _ (mkF m 33 #[.val (.ref o0), .val (.int 3), .val (.int 3), .val (.ref b1_0), .val (.int 3)] [(.ref b1_0)]) _ := fun t k => pre34 t (by
    refine XS.iinc X29.here hx rfl (hb hby d18_23) rfl (l' := #[.val (.ref o0), .val (.int 3), .val (.int 3), .val (.ref b1_0), .val (.int 2)]) rfl ?_
    refine XS.iinc X29.here hx rfl (hb hby d18_26) rfl (l' := #[.val (.ref o0), .val (.int 3), .val (.int 3), .val (.ref b1_0), .val (.int 3)]) rfl ?_
    refine XS.goto X29.here hx rfl (pc0 := 29) (pc' := 8) rfl (hb hby d18_29) (by decide) (by decide) ?_
    refine XS.iload X29.here hx rfl (hb hby d18_8) rfl ?_
    refine XS.iloadN X29.here hx rfl (hb hby d18_10) rfl ?_
    refine XS.icmpYes X29.here hx rfl (pc0 := 11) (pc' := 32) rfl (hb hby d18_11) rfl (by decide) (by decide) (by decide) ?_
    refine XS.aloadN X29.here hx rfl (hb hby d18_32) rfl rfl ?_
    exact k)
  obtain ⟨fs, hr, hrun, hended, hW, hsame⟩ := X29.leave (v := some (.ref b1_0)) (fun h => by rw [Bd.returns] at h; cases h)
  refine ⟨_, _, ?_, hrun, hended, _, _, rfl, ?_, ⟨_, rfl⟩, hW, hsame.mono (by decide) (by decide)⟩
  · refine pre35 _ ?_
    jvm_step X29.here [X29.here.top, hx, (hb hby d18_33), X29.method', Bd.returns, Value.isRef, FieldType.isReference]
    first | (intro acts; rw [hr _ acts rfl rfl rfl]) | rw [hr _ _ rfl rfl rfl]
    exact Steps.refl _
  · show Q18_3 Z o0 kc w0 w1 w2 h0 n0 _ T29.heap _
    skip
    exact ⟨b1_0, _, rfl, N29, K29, sz2_b1_0, o29_0⟩
theorem ef_9_3 (m : MethodId) (x0 : Addr) (x2 : Addr) : entryFrame m #[(.ref x0), (.int 0), (.ref x2), (.int 0), (.int 3)] 7 = mkF m 0 #[.val (.ref x0), .val (.int 0), .val (.ref x2), .val (.int 0), .val (.int 3), .unset, .unset] [] := by first | (simp [entryFrame, mkF, argsToLocals, Value.category]; done) | rfl
def g9_3_o2_0 (w0 : Int32) : Int32 := (if (255 : Int32) < w0 then (0 : Int32) else ((w0.toInt8.toInt32).toInt8.toInt32))
def g9_3_o2_1 (w0 : Int32) (w1 : Int32) : Int32 := (if (255 : Int32) < w0 then (0 : Int32) else (if (255 : Int32) < w1 then (0 : Int32) else ((w1.toInt8.toInt32).toInt8.toInt32)))
def g9_3_o2_2 (w0 : Int32) (w1 : Int32) (w2 : Int32) : Int32 := (if (255 : Int32) < w0 then (0 : Int32) else (if (255 : Int32) < w1 then (0 : Int32) else (if (255 : Int32) < w2 then (0 : Int32) else ((w2.toInt8.toInt32).toInt8.toInt32))))
def f9_3 (w0 : Int32) (w1 : Int32) (w2 : Int32) : Int32 := (if (255 : Int32) < w0 then (0 : Int32) else (if (255 : Int32) < w1 then (1 : Int32) else (if (255 : Int32) < w2 then (2 : Int32) else (3 : Int32))))
def Q9_3 (Z : State) (o0 : Addr) (o2 : Addr) (kc : ClassId) (w0 : Int32) (w1 : Int32) (w2 : Int32) (kb : ClassId) (h0 : Heap) (n0 : Nat) (v : Option Value) (h : Heap) (L : List Loc) : Prop := v = (some (.int (f9_3 w0 w1 w2))) ∧ Fr n0 L ∧ Keep h0 h [o2] ∧ Arv Z h o2 kb .byte (3 : Int32) [(.int (g9_3_o2_0 w0)), (.int (g9_3_o2_1 w0 w1)), (.int (g9_3_o2_2 w0 w1 w2))] (.int 0)
set_option maxRecDepth 65536 in
set_option maxHeartbeats 40000000 in
theorem rm9_3 (l : Launch) (Z : State) (a0 : Array Value) (hw : ∀ d ∈ tables_1, d.before a0 Z = true) (ws : List Jvm.Cond) (o0 : Addr) (o2 : Addr) (kc : ClassId) (w0 : Int32) (w1 : Int32) (w2 : Int32) (kb : ClassId) (h0 : Heap) (n0 : Nat) (Z0 : n0 ≤ h0.size) (I0 : Arv Z h0 o0 kc .char (3 : Int32) [(.int w0), (.int w1), (.int w2)] (.int 0)) (I1 : Arv Z h0 o2 kb .byte (3 : Int32) [(.int 0), (.int 0), (.int 0)] (.int 0)) (gw_o2 : n0 ≤ o2) (ne_o0_o2 : o0 ≠ o2) :
    Met1 l Nm_20 (Jvm.Cond.code Nm_20 jdk_52_method_21_code 7 (some .int)) ws (rom 0 0 0 0) #[(.ref o0), (.int 0), (.ref o2), (.int 0), (.int 3)] Z h0 (Q9_3 Z o0 o2 kc w0 w1 w2 kb h0 n0) := by
  refine MetFree.of_bodySF (plainFor_of_name pn_9) hisR ?_
  intro p e s m args below meth c s₁ Bd hml0 hP hK
  obtain ⟨rfl, hZ, hh⟩ := hP
  have hx := Bd.exec
  have hby := Bd.bytes
  have hml : c.maxLocals = 7 := hml0
  have hown : s.vm.findClass "java/lang/StringUTF16" = some m.cls := findClass_of_methodNamed Bd.named
  have X0 : Stand p l e (rom 0 0 0 0) s m _ _ _ _ _ [] 0 0 := Stand.of_body Bd
  have e0 : s₁.heap = h0 := by rw [← hh, Bd.state]; rfl
  have N0 := Fr.nil n0
  have K0 : Keep h0 h0 [o2] := Keep.refl _ _
  have pre0 : Go p e below s₁ _ (mkF m 0 #[.val (.ref o0), .val (.int 0), .val (.ref o2), .val (.int 0), .val (.int 3), .unset, .unset] []) _ := fun t k => castTop (ef_9_3 m o0 o2) k
  have pre4 : Go p e below s₁ _ (mkF m 12 #[.val (.ref o0), .val (.int 0), .val (.ref o2), .val (.int 0), .val (.int 3), .val (.int 0), .unset] [(.int 0), (.ref o0)]) _ := fun t k => pre0 t (by
    refine XS.iconst X0.here hx rfl (hb hby d9_0) ?_
    refine XS.istore X0.here hx rfl (hb hby d9_1) rfl (l' := #[.val (.ref o0), .val (.int 0), .val (.ref o2), .val (.int 0), .val (.int 3), .val (.int 0), .unset]) rfl ?_
    refine XS.iload X0.here hx rfl (hb hby d9_3) rfl ?_
    refine XS.iload X0.here hx rfl (hb hby d9_5) rfl ?_
    refine XS.icmpNo X0.here hx rfl (hb hby d9_7) rfl (by decide) ?_
    refine XS.aloadN X0.here hx rfl (hb hby d9_10) rfl rfl ?_
    refine XS.iloadN X0.here hx rfl (hb hby d9_11) rfl ?_
    exact k)
  obtain ⟨cl5, Ar5, -, Sz5, Mn5, Hs5, -⟩ := id I0
  have hin5 : ¬ ((0 : Int32) < 0 ∨ cl5.slots.size ≤ ((0 : Int32)).toNatClampNeg) := inb_of Sz5 ⟨by decide, by decide⟩
  have hat5 : cl5.slots[((0 : Int32)).toNatClampNeg]? = some (.int w0) := Hs5.at hin5 rfl
  have pre6 : Go p e below s₁ _ (mkF m 13 #[.val (.ref o0), .val (.int 0), .val (.ref o2), .val (.int 0), .val (.int 3), .val (.int 0), .unset] [(.int w0)]) _ := fun t k => pre4 t (by
    show Steps p.tables e below (s₁.setTop (mkF m 12 #[.val (.ref o0), .val (.int 0), .val (.ref o2), .val (.int 0), .val (.int 3), .val (.int 0), .unset] [(.int 0), (.ref o0)])) _
    refine X0.caload hx (j := (0 : Int32)) (v := (.int w0)) (by rw [e0]; exact Ar5.1) (State.isArrayOf_alike hZ.alike Ar5.2.1) Ar5.2.2 hin5 hat5 (g := (mkF m 12 #[.val (.ref o0), .val (.int 0), .val (.ref o2), .val (.int 0), .val (.int 3), .val (.int 0), .unset] [(.int 0), (.ref o0)])) rfl rfl (hb hby d9_12) _ ?_
    exact k)
  have pre7 : Go p e below s₁ _ (mkF m 20 #[.val (.ref o0), .val (.int 0), .val (.ref o2), .val (.int 0), .val (.int 3), .val (.int 0), .val (.int w0)] [(.int 255), (.int w0)]) _ := fun t k => pre6 t (by
    refine XS.istore X0.here hx rfl (hb hby d9_13) rfl (l' := #[.val (.ref o0), .val (.int 0), .val (.ref o2), .val (.int 0), .val (.int 3), .val (.int 0), .val (.int w0)]) rfl ?_
    refine XS.iload X0.here hx rfl (hb hby d9_15) rfl ?_
    refine XS.sipush X0.here hx rfl (hb hby d9_17) ?_
    exact k)
  by_cases hc20_1 : (255 : Int32) < w0
  · have pre8 : Go p e below s₁ _ (mkF m 25 #[.val (.ref o0), .val (.int 0), .val (.ref o2), .val (.int 0), .val (.int 3), .val (.int 0), .val (.int w0)] [(.int 0)]) _ := fun t k => pre7 t (by
      refine XS.icmpNo X0.here hx rfl (hb hby d9_20) rfl (tlt hc20_1).2.2.2 ?_
      refine XS.iload X0.here hx rfl (hb hby d9_23) rfl ?_
      exact k)
    obtain ⟨fs, hr, hrun, hended, hW, hsame⟩ := X0.leave (v := some (.int 0)) (fun h => by rw [Bd.returns] at h; cases h)
    refine ⟨_, _, ?_, hrun, hended, _, _, rfl, ?_, ⟨_, rfl⟩, hW, hsame.mono (by decide) (by decide)⟩
    · exact pre8 _ (retI X0 hx Bd.returns (hb hby d9_25) hr)
    · show Q9_3 Z o0 o2 kc w0 w1 w2 kb h0 n0 _ s₁.heap _
      rw [e0]
      exact ⟨by simp only [f9_3, if_pos hc20_1], N0, K0, by rw [show (g9_3_o2_0 w0) = (0 : Int32) from by simp only [g9_3_o2_0, if_pos hc20_1], show (g9_3_o2_1 w0 w1) = (0 : Int32) from by simp only [g9_3_o2_1, if_pos hc20_1], show (g9_3_o2_2 w0 w1 w2) = (0 : Int32) from by simp only [g9_3_o2_2, if_pos hc20_1]]; exact I1⟩
  · have pre9 : Go p e below s₁ _ (mkF m 31 #[.val (.ref o0), .val (.int 0), .val (.ref o2), .val (.int 0), .val (.int 3), .val (.int 0), .val (.int w0)] [(.int (w0.toInt8.toInt32)), (.int 0), (.ref o2)]) _ := fun t k => pre7 t (by
      refine XS.icmpYes X0.here hx rfl (pc0 := 20) (pc' := 26) rfl (hb hby d9_20) rfl (flt hc20_1).2.2.2 (by decide) (by decide) ?_
      refine XS.aloadN X0.here hx rfl (hb hby d9_26) rfl rfl ?_
      refine XS.iloadN X0.here hx rfl (hb hby d9_27) rfl ?_
      refine XS.iload X0.here hx rfl (hb hby d9_28) rfl ?_
      refine XS.i2b X0.here hx rfl (hb hby d9_30) rfl ?_
      exact k)
    obtain ⟨cl10, Ar10, q10, Sz10, Mn10, Hs10, Gs10⟩ := id I1
    have hin10 : ¬ ((0 : Int32) < 0 ∨ cl10.slots.size ≤ ((0 : Int32)).toNatClampNeg) := inb_of Sz10 ⟨by decide, by decide⟩
    obtain ⟨T10, h10, X10, e10, W10, st10⟩ := stB X0 hx hZ e0 Ar10 (j := (0 : Int32)) hin10 (g := (mkF m 31 #[.val (.ref o0), .val (.int 0), .val (.ref o2), .val (.int 0), .val (.int 3), .val (.int 0), .val (.int w0)] [(.int (w0.toInt8.toInt32)), (.int 0), (.ref o2)])) rfl rfl (hb hby d9_31)
    have V10 : Arv Z h10 o2 kb .byte (3 : Int32) [(.int ((w0.toInt8.toInt32).toInt8.toInt32)), (.int 0), (.int 0)] (.int 0) := Arv.set Ar10 q10 Sz10 Mn10 Hs10 Gs10 (fits_nar_byte _) W10 0 rfl (Nat.le_of_ble_eq_true rfl)
    have N10 := Fr.snoc X10 N0 gw_o2
    have K10 : Keep h0 h10 [o2] := K0.wr W10 (Or.inl (List.mem_of_getElem? (i := 0) rfl))
    have Z10 : n0 ≤ h10.size := Nat.le_trans Z0 (Keep.of_wr W10).1
    have x11 := I0.other W10 ne_o0_o2
    have pre12 := Go.thn pre9 st10
    have pre13 : Go p e below T10 _ (mkF m 12 #[.val (.ref o0), .val (.int 1), .val (.ref o2), .val (.int 1), .val (.int 3), .val (.int 1), .val (.int w0)] [(.int 1), (.ref o0)]) _ := fun t k => pre12 t (by
      refine XS.iinc X10.here hx rfl (hb hby d9_32) rfl (l' := #[.val (.ref o0), .val (.int 1), .val (.ref o2), .val (.int 0), .val (.int 3), .val (.int 0), .val (.int w0)]) rfl ?_
      refine XS.iinc X10.here hx rfl (hb hby d9_35) rfl (l' := #[.val (.ref o0), .val (.int 1), .val (.ref o2), .val (.int 1), .val (.int 3), .val (.int 0), .val (.int w0)]) rfl ?_
      refine XS.iinc X10.here hx rfl (hb hby d9_38) rfl (l' := #[.val (.ref o0), .val (.int 1), .val (.ref o2), .val (.int 1), .val (.int 3), .val (.int 1), .val (.int w0)]) rfl ?_
      refine XS.goto X10.here hx rfl (pc0 := 41) (pc' := 3) rfl (hb hby d9_41) (by decide) (by decide) ?_
      refine XS.iload X10.here hx rfl (hb hby d9_3) rfl ?_
      refine XS.iload X10.here hx rfl (hb hby d9_5) rfl ?_
      refine XS.icmpNo X10.here hx rfl (hb hby d9_7) rfl (by decide) ?_
      refine XS.aloadN X10.here hx rfl (hb hby d9_10) rfl rfl ?_
      refine XS.iloadN X10.here hx rfl (hb hby d9_11) rfl ?_
      exact k)
    obtain ⟨cl14, Ar14, -, Sz14, Mn14, Hs14, -⟩ := id x11
    have hin14 : ¬ ((1 : Int32) < 0 ∨ cl14.slots.size ≤ ((1 : Int32)).toNatClampNeg) := inb_of Sz14 ⟨by decide, by decide⟩
    have hat14 : cl14.slots[((1 : Int32)).toNatClampNeg]? = some (.int w1) := Hs14.at hin14 rfl
    have pre15 : Go p e below T10 _ (mkF m 13 #[.val (.ref o0), .val (.int 1), .val (.ref o2), .val (.int 1), .val (.int 3), .val (.int 1), .val (.int w0)] [(.int w1)]) _ := fun t k => pre13 t (by
      show Steps p.tables e below (T10.setTop (mkF m 12 #[.val (.ref o0), .val (.int 1), .val (.ref o2), .val (.int 1), .val (.int 3), .val (.int 1), .val (.int w0)] [(.int 1), (.ref o0)])) _
      refine X10.caload hx (j := (1 : Int32)) (v := (.int w1)) (by rw [e10]; exact Ar14.1) (State.isArrayOf_alike hZ.alike Ar14.2.1) Ar14.2.2 hin14 hat14 (g := (mkF m 12 #[.val (.ref o0), .val (.int 1), .val (.ref o2), .val (.int 1), .val (.int 3), .val (.int 1), .val (.int w0)] [(.int 1), (.ref o0)])) rfl rfl (hb hby d9_12) _ ?_
      exact k)
    have pre16 : Go p e below T10 _ (mkF m 20 #[.val (.ref o0), .val (.int 1), .val (.ref o2), .val (.int 1), .val (.int 3), .val (.int 1), .val (.int w1)] [(.int 255), (.int w1)]) _ := fun t k => pre15 t (by
      refine XS.istore X10.here hx rfl (hb hby d9_13) rfl (l' := #[.val (.ref o0), .val (.int 1), .val (.ref o2), .val (.int 1), .val (.int 3), .val (.int 1), .val (.int w1)]) rfl ?_
      refine XS.iload X10.here hx rfl (hb hby d9_15) rfl ?_
      refine XS.sipush X10.here hx rfl (hb hby d9_17) ?_
      exact k)
    by_cases hc20_2 : (255 : Int32) < w1
    · have pre17 : Go p e below T10 _ (mkF m 25 #[.val (.ref o0), .val (.int 1), .val (.ref o2), .val (.int 1), .val (.int 3), .val (.int 1), .val (.int w1)] [(.int 1)]) _ := fun t k => pre16 t (by
        refine XS.icmpNo X10.here hx rfl (hb hby d9_20) rfl (tlt hc20_2).2.2.2 ?_
        refine XS.iload X10.here hx rfl (hb hby d9_23) rfl ?_
        exact k)
      obtain ⟨fs, hr, hrun, hended, hW, hsame⟩ := X10.leave (v := some (.int 1)) (fun h => by rw [Bd.returns] at h; cases h)
      refine ⟨_, _, ?_, hrun, hended, _, _, rfl, ?_, ⟨_, rfl⟩, hW, hsame.mono (by decide) (by decide)⟩
      · exact pre17 _ (retI X10 hx Bd.returns (hb hby d9_25) hr)
      · show Q9_3 Z o0 o2 kc w0 w1 w2 kb h0 n0 _ T10.heap _
        rw [e10]
        exact ⟨by simp only [f9_3, if_neg hc20_1, if_pos hc20_2], N10, K10, by rw [show (g9_3_o2_0 w0) = ((w0.toInt8.toInt32).toInt8.toInt32) from by simp only [g9_3_o2_0, if_neg hc20_1, if_pos hc20_2], show (g9_3_o2_1 w0 w1) = (0 : Int32) from by simp only [g9_3_o2_1, if_neg hc20_1, if_pos hc20_2], show (g9_3_o2_2 w0 w1 w2) = (0 : Int32) from by simp only [g9_3_o2_2, if_neg hc20_1, if_pos hc20_2]]; exact V10⟩
    · have pre18 : Go p e below T10 _ (mkF m 31 #[.val (.ref o0), .val (.int 1), .val (.ref o2), .val (.int 1), .val (.int 3), .val (.int 1), .val (.int w1)] [(.int (w1.toInt8.toInt32)), (.int 1), (.ref o2)]) _ := fun t k => pre16 t (by
        refine XS.icmpYes X10.here hx rfl (pc0 := 20) (pc' := 26) rfl (hb hby d9_20) rfl (flt hc20_2).2.2.2 (by decide) (by decide) ?_
        refine XS.aloadN X10.here hx rfl (hb hby d9_26) rfl rfl ?_
        refine XS.iloadN X10.here hx rfl (hb hby d9_27) rfl ?_
        refine XS.iload X10.here hx rfl (hb hby d9_28) rfl ?_
        refine XS.i2b X10.here hx rfl (hb hby d9_30) rfl ?_
        exact k)
      obtain ⟨cl19, Ar19, q19, Sz19, Mn19, Hs19, Gs19⟩ := id V10
      have hin19 : ¬ ((1 : Int32) < 0 ∨ cl19.slots.size ≤ ((1 : Int32)).toNatClampNeg) := inb_of Sz19 ⟨by decide, by decide⟩
      obtain ⟨T19, h19, X19, e19, W19, st19⟩ := stB X10 hx hZ e10 Ar19 (j := (1 : Int32)) hin19 (g := (mkF m 31 #[.val (.ref o0), .val (.int 1), .val (.ref o2), .val (.int 1), .val (.int 3), .val (.int 1), .val (.int w1)] [(.int (w1.toInt8.toInt32)), (.int 1), (.ref o2)])) rfl rfl (hb hby d9_31)
      have V19 : Arv Z h19 o2 kb .byte (3 : Int32) [(.int ((w0.toInt8.toInt32).toInt8.toInt32)), (.int ((w1.toInt8.toInt32).toInt8.toInt32)), (.int 0)] (.int 0) := Arv.set Ar19 q19 Sz19 Mn19 Hs19 Gs19 (fits_nar_byte _) W19 1 rfl (Nat.le_of_ble_eq_true rfl)
      have N19 := Fr.snoc X19 N10 gw_o2
      have K19 : Keep h0 h19 [o2] := K10.wr W19 (Or.inl (List.mem_of_getElem? (i := 0) rfl))
      have Z19 : n0 ≤ h19.size := Nat.le_trans Z10 (Keep.of_wr W19).1
      have x20 := x11.other W19 ne_o0_o2
      have pre21 := Go.thn pre18 st19
      have pre22 : Go p e below T19 _ (mkF m 12 #[.val (.ref o0), .val (.int 2), .val (.ref o2), .val (.int 2), .val (.int 3), .val (.int 2), .val (.int w1)] [(.int 2), (.ref o0)]) _ := fun t k => pre21 t (by
        refine XS.iinc X19.here hx rfl (hb hby d9_32) rfl (l' := #[.val (.ref o0), .val (.int 2), .val (.ref o2), .val (.int 1), .val (.int 3), .val (.int 1), .val (.int w1)]) rfl ?_
        refine XS.iinc X19.here hx rfl (hb hby d9_35) rfl (l' := #[.val (.ref o0), .val (.int 2), .val (.ref o2), .val (.int 2), .val (.int 3), .val (.int 1), .val (.int w1)]) rfl ?_
        refine XS.iinc X19.here hx rfl (hb hby d9_38) rfl (l' := #[.val (.ref o0), .val (.int 2), .val (.ref o2), .val (.int 2), .val (.int 3), .val (.int 2), .val (.int w1)]) rfl ?_
        refine XS.goto X19.here hx rfl (pc0 := 41) (pc' := 3) rfl (hb hby d9_41) (by decide) (by decide) ?_
        refine XS.iload X19.here hx rfl (hb hby d9_3) rfl ?_
        refine XS.iload X19.here hx rfl (hb hby d9_5) rfl ?_
        refine XS.icmpNo X19.here hx rfl (hb hby d9_7) rfl (by decide) ?_
        refine XS.aloadN X19.here hx rfl (hb hby d9_10) rfl rfl ?_
        refine XS.iloadN X19.here hx rfl (hb hby d9_11) rfl ?_
        exact k)
      obtain ⟨cl23, Ar23, -, Sz23, Mn23, Hs23, -⟩ := id x20
      have hin23 : ¬ ((2 : Int32) < 0 ∨ cl23.slots.size ≤ ((2 : Int32)).toNatClampNeg) := inb_of Sz23 ⟨by decide, by decide⟩
      have hat23 : cl23.slots[((2 : Int32)).toNatClampNeg]? = some (.int w2) := Hs23.at hin23 rfl
      have pre24 : Go p e below T19 _ (mkF m 13 #[.val (.ref o0), .val (.int 2), .val (.ref o2), .val (.int 2), .val (.int 3), .val (.int 2), .val (.int w1)] [(.int w2)]) _ := fun t k => pre22 t (by
        show Steps p.tables e below (T19.setTop (mkF m 12 #[.val (.ref o0), .val (.int 2), .val (.ref o2), .val (.int 2), .val (.int 3), .val (.int 2), .val (.int w1)] [(.int 2), (.ref o0)])) _
        refine X19.caload hx (j := (2 : Int32)) (v := (.int w2)) (by rw [e19]; exact Ar23.1) (State.isArrayOf_alike hZ.alike Ar23.2.1) Ar23.2.2 hin23 hat23 (g := (mkF m 12 #[.val (.ref o0), .val (.int 2), .val (.ref o2), .val (.int 2), .val (.int 3), .val (.int 2), .val (.int w1)] [(.int 2), (.ref o0)])) rfl rfl (hb hby d9_12) _ ?_
        exact k)
      have pre25 : Go p e below T19 _ (mkF m 20 #[.val (.ref o0), .val (.int 2), .val (.ref o2), .val (.int 2), .val (.int 3), .val (.int 2), .val (.int w2)] [(.int 255), (.int w2)]) _ := fun t k => pre24 t (by
        refine XS.istore X19.here hx rfl (hb hby d9_13) rfl (l' := #[.val (.ref o0), .val (.int 2), .val (.ref o2), .val (.int 2), .val (.int 3), .val (.int 2), .val (.int w2)]) rfl ?_
        refine XS.iload X19.here hx rfl (hb hby d9_15) rfl ?_
        refine XS.sipush X19.here hx rfl (hb hby d9_17) ?_
        exact k)
      by_cases hc20_3 : (255 : Int32) < w2
      · have pre26 : Go p e below T19 _ (mkF m 25 #[.val (.ref o0), .val (.int 2), .val (.ref o2), .val (.int 2), .val (.int 3), .val (.int 2), .val (.int w2)] [(.int 2)]) _ := fun t k => pre25 t (by
          refine XS.icmpNo X19.here hx rfl (hb hby d9_20) rfl (tlt hc20_3).2.2.2 ?_
          refine XS.iload X19.here hx rfl (hb hby d9_23) rfl ?_
          exact k)
        obtain ⟨fs, hr, hrun, hended, hW, hsame⟩ := X19.leave (v := some (.int 2)) (fun h => by rw [Bd.returns] at h; cases h)
        refine ⟨_, _, ?_, hrun, hended, _, _, rfl, ?_, ⟨_, rfl⟩, hW, hsame.mono (by decide) (by decide)⟩
        · exact pre26 _ (retI X19 hx Bd.returns (hb hby d9_25) hr)
        · show Q9_3 Z o0 o2 kc w0 w1 w2 kb h0 n0 _ T19.heap _
          rw [e19]
          exact ⟨by simp only [f9_3, if_neg hc20_1, if_neg hc20_2, if_pos hc20_3], N19, K19, by rw [show (g9_3_o2_0 w0) = ((w0.toInt8.toInt32).toInt8.toInt32) from by simp only [g9_3_o2_0, if_neg hc20_1, if_neg hc20_2, if_pos hc20_3], show (g9_3_o2_1 w0 w1) = ((w1.toInt8.toInt32).toInt8.toInt32) from by simp only [g9_3_o2_1, if_neg hc20_1, if_neg hc20_2, if_pos hc20_3], show (g9_3_o2_2 w0 w1 w2) = (0 : Int32) from by simp only [g9_3_o2_2, if_neg hc20_1, if_neg hc20_2, if_pos hc20_3]]; exact V19⟩
      · have pre27 : Go p e below T19 _ (mkF m 31 #[.val (.ref o0), .val (.int 2), .val (.ref o2), .val (.int 2), .val (.int 3), .val (.int 2), .val (.int w2)] [(.int (w2.toInt8.toInt32)), (.int 2), (.ref o2)]) _ := fun t k => pre25 t (by
          refine XS.icmpYes X19.here hx rfl (pc0 := 20) (pc' := 26) rfl (hb hby d9_20) rfl (flt hc20_3).2.2.2 (by decide) (by decide) ?_
          refine XS.aloadN X19.here hx rfl (hb hby d9_26) rfl rfl ?_
          refine XS.iloadN X19.here hx rfl (hb hby d9_27) rfl ?_
          refine XS.iload X19.here hx rfl (hb hby d9_28) rfl ?_
          refine XS.i2b X19.here hx rfl (hb hby d9_30) rfl ?_
          exact k)
        obtain ⟨cl28, Ar28, q28, Sz28, Mn28, Hs28, Gs28⟩ := id V19
        have hin28 : ¬ ((2 : Int32) < 0 ∨ cl28.slots.size ≤ ((2 : Int32)).toNatClampNeg) := inb_of Sz28 ⟨by decide, by decide⟩
        obtain ⟨T28, h28, X28, e28, W28, st28⟩ := stB X19 hx hZ e19 Ar28 (j := (2 : Int32)) hin28 (g := (mkF m 31 #[.val (.ref o0), .val (.int 2), .val (.ref o2), .val (.int 2), .val (.int 3), .val (.int 2), .val (.int w2)] [(.int (w2.toInt8.toInt32)), (.int 2), (.ref o2)])) rfl rfl (hb hby d9_31)
        have V28 : Arv Z h28 o2 kb .byte (3 : Int32) [(.int ((w0.toInt8.toInt32).toInt8.toInt32)), (.int ((w1.toInt8.toInt32).toInt8.toInt32)), (.int ((w2.toInt8.toInt32).toInt8.toInt32))] (.int 0) := Arv.set Ar28 q28 Sz28 Mn28 Hs28 Gs28 (fits_nar_byte _) W28 2 rfl (Nat.le_of_ble_eq_true rfl)
        have N28 := Fr.snoc X28 N19 gw_o2
        have K28 : Keep h0 h28 [o2] := K19.wr W28 (Or.inl (List.mem_of_getElem? (i := 0) rfl))
        have Z28 : n0 ≤ h28.size := Nat.le_trans Z19 (Keep.of_wr W28).1
        have x29 := x20.other W28 ne_o0_o2
        have pre30 := Go.thn pre27 st28
        have pre31 : Go p e below T28 _ (mkF m 46 #[.val (.ref o0), .val (.int 3), .val (.ref o2), .val (.int 3), .val (.int 3), .val (.int 3), .val (.int w2)] [(.int 3)]) _ := fun t k => pre30 t (by
          refine XS.iinc X28.here hx rfl (hb hby d9_32) rfl (l' := #[.val (.ref o0), .val (.int 3), .val (.ref o2), .val (.int 2), .val (.int 3), .val (.int 2), .val (.int w2)]) rfl ?_
          refine XS.iinc X28.here hx rfl (hb hby d9_35) rfl (l' := #[.val (.ref o0), .val (.int 3), .val (.ref o2), .val (.int 3), .val (.int 3), .val (.int 2), .val (.int w2)]) rfl ?_
          refine XS.iinc X28.here hx rfl (hb hby d9_38) rfl (l' := #[.val (.ref o0), .val (.int 3), .val (.ref o2), .val (.int 3), .val (.int 3), .val (.int 3), .val (.int w2)]) rfl ?_
          refine XS.goto X28.here hx rfl (pc0 := 41) (pc' := 3) rfl (hb hby d9_41) (by decide) (by decide) ?_
          refine XS.iload X28.here hx rfl (hb hby d9_3) rfl ?_
          refine XS.iload X28.here hx rfl (hb hby d9_5) rfl ?_
          refine XS.icmpYes X28.here hx rfl (pc0 := 7) (pc' := 44) rfl (hb hby d9_7) rfl (by decide) (by decide) (by decide) ?_
          refine XS.iload X28.here hx rfl (hb hby d9_44) rfl ?_
          exact k)
        obtain ⟨fs, hr, hrun, hended, hW, hsame⟩ := X28.leave (v := some (.int 3)) (fun h => by rw [Bd.returns] at h; cases h)
        refine ⟨_, _, ?_, hrun, hended, _, _, rfl, ?_, ⟨_, rfl⟩, hW, hsame.mono (by decide) (by decide)⟩
        · exact pre31 _ (retI X28 hx Bd.returns (hb hby d9_46) hr)
        · show Q9_3 Z o0 o2 kc w0 w1 w2 kb h0 n0 _ T28.heap _
          rw [e28]
          exact ⟨by simp only [f9_3, if_neg hc20_1, if_neg hc20_2, if_neg hc20_3], N28, K28, by rw [show (g9_3_o2_0 w0) = ((w0.toInt8.toInt32).toInt8.toInt32) from by simp only [g9_3_o2_0, if_neg hc20_1, if_neg hc20_2, if_neg hc20_3], show (g9_3_o2_1 w0 w1) = ((w1.toInt8.toInt32).toInt8.toInt32) from by simp only [g9_3_o2_1, if_neg hc20_1, if_neg hc20_2, if_neg hc20_3], show (g9_3_o2_2 w0 w1 w2) = ((w2.toInt8.toInt32).toInt8.toInt32) from by simp only [g9_3_o2_2, if_neg hc20_1, if_neg hc20_2, if_neg hc20_3]]; exact V28⟩
theorem own_all3 {w0 w1 w2 : Int32} (h0 : ¬ ((255 : Int32) < w0)) (h1 : ¬ ((255 : Int32) < w1)) (h2 : ¬ ((255 : Int32) < w2)) : f9_3 w0 w1 w2 = (3 : Int32) := by simp only [f9_3, if_neg h0, if_neg h1, if_neg h2]
theorem own_fst3 {w0 w1 w2 : Int32} (hU : (255 : Int32) < w0 ∨ (255 : Int32) < w1 ∨ (255 : Int32) < w2) : (f9_3 w0 w1 w2 = (0 : Int32) ∧ (255 : Int32) < w0) ∨ (f9_3 w0 w1 w2 = (1 : Int32) ∧ (255 : Int32) < w1) ∨ (f9_3 w0 w1 w2 = (2 : Int32) ∧ (255 : Int32) < w2) := by
  unfold f9_3
  by_cases h0 : (255 : Int32) < w0
  · exact Or.inl (⟨by simp only [if_pos h0], h0⟩)
  by_cases h1 : (255 : Int32) < w1
  · exact Or.inr (Or.inl (⟨by simp only [if_neg h0, if_pos h1], h1⟩))
  by_cases h2 : (255 : Int32) < w2
  · exact Or.inr (Or.inr (⟨by simp only [if_neg h0, if_neg h1, if_pos h2], h2⟩))
  exact absurd hU (by simp only [not_or]; exact ⟨h0, h1, h2⟩)
theorem own_ne3 {w0 w1 w2 : Int32} (hU : (255 : Int32) < w0 ∨ (255 : Int32) < w1 ∨ (255 : Int32) < w2) : ¬ (f9_3 w0 w1 w2 = (3 : Int32)) := by
  rcases own_fst3 hU with ⟨e, g⟩ | ⟨e, g⟩ | ⟨e, g⟩ <;> rw [e] <;> decide
theorem own_ix3 {w0 w1 w2 : Int32} (hU : (255 : Int32) < w0 ∨ (255 : Int32) < w1 ∨ (255 : Int32) < w2) : (¬ (((f9_3 w0 w1 w2) <<< ((1 : Int32) &&& 31)) < (0 : Int32))) ∧ (((f9_3 w0 w1 w2) <<< ((1 : Int32) &&& 31)) < (6 : Int32)) ∧ (¬ ((((f9_3 w0 w1 w2) <<< ((1 : Int32) &&& 31)) + (1 : Int32)) < (0 : Int32))) ∧ ((((f9_3 w0 w1 w2) <<< ((1 : Int32) &&& 31)) + (1 : Int32)) < (6 : Int32)) := by
  rcases own_fst3 hU with ⟨e, g⟩ | ⟨e, g⟩ | ⟨e, g⟩ <;> rw [e] <;> decide
theorem own_gt3 {w0 w1 w2 : Int32} (r0 : own_chr w0) (r1 : own_chr w1) (r2 : own_chr w2) (hU : (255 : Int32) < w0 ∨ (255 : Int32) < w1 ∨ (255 : Int32) < w2) : (255 : Int32) < f22 (f9_3 w0 w1 w2) [(own_b0 w0), (own_b8 w0), (own_b0 w1), (own_b8 w1), (own_b0 w2), (own_b8 w2)] := by
  rcases own_fst3 hU with ⟨e, g⟩ | ⟨e, g⟩ | ⟨e, g⟩ <;> rw [e]
  · rw [show f22 (0 : Int32) [(own_b0 w0), (own_b8 w0), (own_b0 w1), (own_b8 w1), (own_b0 w2), (own_b8 w2)] = w0 from own_rt r0]; exact g
  · rw [show f22 (1 : Int32) [(own_b0 w0), (own_b8 w0), (own_b0 w1), (own_b8 w1), (own_b0 w2), (own_b8 w2)] = w1 from own_rt r1]; exact g
  · rw [show f22 (2 : Int32) [(own_b0 w0), (own_b8 w0), (own_b0 w1), (own_b8 w1), (own_b0 w2), (own_b8 w2)] = w2 from own_rt r2]; exact g
theorem ef_8_3L (m : MethodId) (x0 : Addr) : entryFrame m #[(.ref x0), (.int 0), (.int 3)] 6 = mkF m 0 #[.val (.ref x0), .val (.int 0), .val (.int 3), .unset, .unset, .unset] [] := by first | (simp [entryFrame, mkF, argsToLocals, Value.category]; done) | rfl
def Q8_3L (Z : State) (o0 : Addr) (kc : ClassId) (w0 : Int32) (w1 : Int32) (w2 : Int32) (h0 : Heap) (n0 : Nat) (v : Option Value) (h : Heap) (L : List Loc) : Prop := ∃ (b1 : Addr) (k_b1 : ClassId), v = (some (.ref b1)) ∧ Fr n0 L ∧ Keep h0 h [] ∧ h0.size ≤ b1 ∧ Arv Z h b1 k_b1 .byte (3 : Int32) [(.int (g9_3_o2_0 w0)), (.int (g9_3_o2_1 w0 w1)), (.int (g9_3_o2_2 w0 w1 w2))] (.int 0)
set_option maxRecDepth 65536 in
set_option maxHeartbeats 40000000 in
theorem rm8_3L (l : Launch) (Z : State) (a0 : Array Value) (hw : ∀ d ∈ tables_1, d.before a0 Z = true) (ws : List Jvm.Cond) (o0 : Addr) (kc : ClassId) (w0 : Int32) (w1 : Int32) (w2 : Int32) (h0 : Heap) (n0 : Nat) (Z0 : n0 ≤ h0.size) (I0 : Sta Z h0 "java/lang/StringUTF16" "$assertionsDisabled" "Z" (.int 1)) (I1 : Sta Z h0 "java/lang/StringUTF16" "HI_BYTE_SHIFT" "I" (.int 0)) (I2 : Sta Z h0 "java/lang/StringUTF16" "LO_BYTE_SHIFT" "I" (.int 8)) (I3 : Arv Z h0 o0 kc .char (3 : Int32) [(.int w0), (.int w1), (.int w2)] (.int 0)) (hl0 : ¬ ((255 : Int32) < w0)) (hl1 : ¬ ((255 : Int32) < w1)) (hl2 : ¬ ((255 : Int32) < w2)) :
    Met1 l Nm_21 (Jvm.Cond.code Nm_21 jdk_52_method_16_code 6 (some (.array .byte))) ws (rom 1 1 3 18) #[(.ref o0), (.int 0), (.int 3)] Z h0 (Q8_3L Z o0 kc w0 w1 w2 h0 n0) := by
  refine MetFree.of_bodySF (plainFor_of_name pn_8) hisR ?_
  intro p e s m args below meth c s₁ Bd hml0 hP hK
  obtain ⟨rfl, hZ, hh⟩ := hP
  have hx := Bd.exec
  have hby := Bd.bytes
  have hml : c.maxLocals = 6 := hml0
  have hown : s.vm.findClass "java/lang/StringUTF16" = some m.cls := findClass_of_methodNamed Bd.named
  have X0 : Stand p l e (rom 1 1 3 18) s m _ _ _ _ _ [] 0 0 := Stand.of_body Bd
  have e0 : s₁.heap = h0 := by rw [← hh, Bd.state]; rfl
  have N0 := Fr.nil n0
  have K0 : Keep h0 h0 [] := Keep.refl _ _
  have pre0 : Go p e below s₁ _ (mkF m 0 #[.val (.ref o0), .val (.int 0), .val (.int 3), .unset, .unset, .unset] []) _ := fun t k => castTop (ef_8_3L m o0) k
  have pre1 : Go p e below s₁ _ (mkF m 1 #[.val (.ref o0), .val (.int 0), .val (.int 3), .unset, .unset, .unset] [(.int 3)]) _ := fun t k => pre0 t (by
    refine XS.iloadN X0.here hx rfl (hb hby d8_0) rfl ?_
    exact k)
  obtain ⟨T2, h2, k2, X2, e2, E2, A2, st2⟩ := newP X0 hx hZ (wq hw 21 rfl) e0 (g := (mkF m 1 #[.val (.ref o0), .val (.int 0), .val (.int 3), .unset, .unset, .unset] [(.int 3)])) rfl (hb hby d8_1) rfl (by decide) (cap := 3) (by decide) (by decide) (by decide) (by decide)
  obtain ⟨b1, g2⟩ : ∃ z, z = h0.size := ⟨_, rfl⟩
  rw [← g2] at A2 st2
  have gg2 : n0 ≤ b1 := Nat.le_trans Z0 (Nat.le_of_eq g2.symm)
  have sz2 : h0.size ≤ b1 := Nat.le_trans K0.1 (Nat.le_of_eq g2.symm)
  have K2 : Keep h0 h2 [] := K0.ext E2
  have Z2 : n0 ≤ h2.size := Nat.le_trans Z0 E2.1
  have V2 : Arv Z h2 b1 k2 .byte (3 : Int32) [(.int 0), (.int 0), (.int 0)] (.int 0) := (Arv.new A2 (by decide)).pad (pad_rep [] (.int 0) 3)
  have ne2_o0 : o0 ≠ b1 := Nat.ne_of_lt (Nat.lt_of_lt_of_le I3.lt (Nat.le_of_eq g2.symm))
  have x3 := I0.ext E2
  have x4 := I1.ext E2
  have x5 := I2.ext E2
  have x6 := I3.ext E2
  have pre7 := Go.thn pre1 st2
  have pre8 : Go p e below T2 _ (mkF m 9 #[.val (.ref o0), .val (.int 0), .val (.int 3), .val (.ref b1), .unset, .unset] [(.int 3), (.int 0), (.ref b1), (.int 0), (.ref o0)]) _ := fun t k => pre7 t (by
    refine XS.astoreN X2.here hx rfl (hb hby d8_3) rfl rfl (l' := #[.val (.ref o0), .val (.int 0), .val (.int 3), .val (.ref b1), .unset, .unset]) rfl ?_
    refine XS.aloadN X2.here hx rfl (hb hby d8_4) rfl rfl ?_
    refine XS.iloadN X2.here hx rfl (hb hby d8_5) rfl ?_
    refine XS.aloadN X2.here hx rfl (hb hby d8_6) rfl rfl ?_
    refine XS.iconst X2.here hx rfl (hb hby d8_7) ?_
    refine XS.iloadN X2.here hx rfl (hb hby d8_8) rfl ?_
    exact k)
  obtain ⟨_, _, ⟨T9, L9, k9, n9⟩, -, X9, ⟨Lc9, hQ9, l9, y9, z9⟩, st9⟩ := Jvm.LawKit.callS X2 hx (y := Nm_20) hown (mvT hZ (wq hw 47 rfl)) (mvT hZ (wq hw 48 rfl)) (mvT hZ (wq hw 45 rfl)) (mvT hZ (wq hw 49 rfl)) (by decide) (backOf (W := 0) (rm9_3 l Z a0 hw [] o0 b1 _ w0 w1 w2 _ h2 n0 Z2 x6 V2 gg2 ne2_o0) hZ (wq hw 49 rfl) (wq hw 45 rfl) (by decide) (by decide)) (g := (mkF m 9 #[.val (.ref o0), .val (.int 0), .val (.int 3), .val (.ref b1), .unset, .unset] [(.int 3), (.int 0), (.ref b1), (.int 0), (.ref o0)])) rfl (by rw [hml]; rfl) (argsL := [(.ref o0), (.int 0), (.ref b1), (.int 0), (.int 3)]) (rest := []) (lenOf pd___CI_BII_I rfl) rfl (w00 rfl) (hb hby d8_9) (fun _ _ => ⟨rfl, e2, (by decide : 1 + 0 ≤ _), (by decide : 3 + 0 ≤ _)⟩)
  dsimp only [Pt.U, Pt.locs, Pt.cells, Pt.slots] at X9 l9 y9 z9 st9 hQ9
  subst l9 y9 z9
  obtain ⟨rfl, Nq9, Kq9, o9_0⟩ := hQ9
  have N9 := Fr.app N0 Nq9
  have K9 : Keep h0 T9.heap [] := K2.trans Kq9 (allS (Or.inr sz2) all0)
  have Z9 : n0 ≤ T9.heap.size := Nat.le_trans Z2 Kq9.1
  have x10 := own_staK x3 Kq9 (allS (own_plV V2) all0)
  have x11 := own_staK x4 Kq9 (allS (own_plV V2) all0)
  have x12 := own_staK x5 Kq9 (allS (own_plV V2) all0)
  have x13 := x6.keep Kq9 (ninS ne2_o0 nin0)
  have pre14 := Go.thn pre8 st9
  have pre15 : Go p e below T9 _ (mkF m 58 #[.val (.ref o0), .val (.int 0), .val (.int 3), .val (.ref b1), .val (.int 3), .unset] [(.ref b1)]) _ := fun t k => pre14 t (by
    show Steps p.tables e below (T9.setTop (mkF m 12 #[.val (.ref o0), .val (.int 0), .val (.int 3), .val (.ref b1), .unset, .unset] [(.int (f9_3 w0 w1 w2))])) _
    rw [own_all3 hl0 hl1 hl2]
    refine XS.istore X9.here hx rfl (hb hby d8_12) rfl (l' := #[.val (.ref o0), .val (.int 0), .val (.int 3), .val (.ref b1), .val (.int 3), .unset]) rfl ?_
    refine XS.iload X9.here hx rfl (hb hby d8_14) rfl ?_
    refine XS.iloadN X9.here hx rfl (hb hby d8_16) rfl ?_
    refine XS.icmpYes X9.here hx rfl (pc0 := 17) (pc' := 57) rfl (hb hby d8_17) rfl (by decide) (by decide) (by decide) ?_
    refine XS.aloadN X9.here hx rfl (hb hby d8_57) rfl rfl ?_
    exact k)
  obtain ⟨fs, hr, hrun, hended, hW, hsame⟩ := X9.leave (v := some (.ref b1)) (fun h => by rw [Bd.returns] at h; cases h)
  refine ⟨_, _, ?_, hrun, hended, _, _, rfl, ?_, ⟨_, rfl⟩, hW, hsame.mono (by decide) (by decide)⟩
  · refine pre15 _ ?_
    jvm_step X9.here [X9.here.top, hx, (hb hby d8_58), X9.method', Bd.returns, Value.isRef, FieldType.isReference]
    first | (intro acts; rw [hr _ acts rfl rfl rfl]) | rw [hr _ _ rfl rfl rfl]
    exact Steps.refl _
  · show Q8_3L Z o0 kc w0 w1 w2 h0 n0 _ T9.heap _
    skip
    exact ⟨b1, _, rfl, N9, K9, sz2, o9_0⟩
def Q8_3U (Z : State) (o0 : Addr) (kc : ClassId) (w0 : Int32) (w1 : Int32) (w2 : Int32) (h0 : Heap) (n0 : Nat) (v : Option Value) (h : Heap) (L : List Loc) : Prop := ∃ (b23_0 : Addr) (k_b23_0 : ClassId), v = (some (.ref b23_0)) ∧ Fr n0 L ∧ Keep h0 h [] ∧ h0.size ≤ b23_0 ∧ Arv Z h b23_0 k_b23_0 .byte (6 : Int32) [(.int (own_b0 w0)), (.int (own_b8 w0)), (.int (own_b0 w1)), (.int (own_b8 w1)), (.int (own_b0 w2)), (.int (own_b8 w2))] (.int 0)
set_option maxRecDepth 65536 in
set_option maxHeartbeats 40000000 in
theorem rm8_3U (l : Launch) (Z : State) (a0 : Array Value) (hw : ∀ d ∈ tables_1, d.before a0 Z = true) (ws : List Jvm.Cond) (o0 : Addr) (kc : ClassId) (w0 : Int32) (w1 : Int32) (w2 : Int32) (h0 : Heap) (n0 : Nat) (Z0 : n0 ≤ h0.size) (I0 : Sta Z h0 "java/lang/StringUTF16" "$assertionsDisabled" "Z" (.int 1)) (I1 : Sta Z h0 "java/lang/StringUTF16" "HI_BYTE_SHIFT" "I" (.int 0)) (I2 : Sta Z h0 "java/lang/StringUTF16" "LO_BYTE_SHIFT" "I" (.int 8)) (I3 : Arv Z h0 o0 kc .char (3 : Int32) [(.int w0), (.int w1), (.int w2)] (.int 0)) (r0 : own_chr w0) (r1 : own_chr w1) (r2 : own_chr w2) (hU : (255 : Int32) < w0 ∨ (255 : Int32) < w1 ∨ (255 : Int32) < w2) :
    Met1 l Nm_21 (Jvm.Cond.code Nm_21 jdk_52_method_16_code 6 (some (.array .byte))) ws (rom 3 2 9 40) #[(.ref o0), (.int 0), (.int 3)] Z h0 (Q8_3U Z o0 kc w0 w1 w2 h0 n0) := by
  refine MetFree.of_bodySF (plainFor_of_name pn_8) hisR ?_
  intro p e s m args below meth c s₁ Bd hml0 hP hK
  obtain ⟨rfl, hZ, hh⟩ := hP
  have hx := Bd.exec
  have hby := Bd.bytes
  have hml : c.maxLocals = 6 := hml0
  have hown : s.vm.findClass "java/lang/StringUTF16" = some m.cls := findClass_of_methodNamed Bd.named
  have X0 : Stand p l e (rom 3 2 9 40) s m _ _ _ _ _ [] 0 0 := Stand.of_body Bd
  have e0 : s₁.heap = h0 := by rw [← hh, Bd.state]; rfl
  have N0 := Fr.nil n0
  have K0 : Keep h0 h0 [] := Keep.refl _ _
  have pre0 : Go p e below s₁ _ (mkF m 0 #[.val (.ref o0), .val (.int 0), .val (.int 3), .unset, .unset, .unset] []) _ := fun t k => castTop (ef_8_3L m o0) k
  have pre1 : Go p e below s₁ _ (mkF m 1 #[.val (.ref o0), .val (.int 0), .val (.int 3), .unset, .unset, .unset] [(.int 3)]) _ := fun t k => pre0 t (by
    refine XS.iloadN X0.here hx rfl (hb hby d8_0) rfl ?_
    exact k)
  obtain ⟨T2, h2, k2, X2, e2, E2, A2, st2⟩ := newP X0 hx hZ (wq hw 21 rfl) e0 (g := (mkF m 1 #[.val (.ref o0), .val (.int 0), .val (.int 3), .unset, .unset, .unset] [(.int 3)])) rfl (hb hby d8_1) rfl (by decide) (cap := 3) (by decide) (by decide) (by decide) (by decide)
  obtain ⟨b1, g2⟩ : ∃ z, z = h0.size := ⟨_, rfl⟩
  rw [← g2] at A2 st2
  have gg2 : n0 ≤ b1 := Nat.le_trans Z0 (Nat.le_of_eq g2.symm)
  have sz2 : h0.size ≤ b1 := Nat.le_trans K0.1 (Nat.le_of_eq g2.symm)
  have K2 : Keep h0 h2 [] := K0.ext E2
  have Z2 : n0 ≤ h2.size := Nat.le_trans Z0 E2.1
  have V2 : Arv Z h2 b1 k2 .byte (3 : Int32) [(.int 0), (.int 0), (.int 0)] (.int 0) := (Arv.new A2 (by decide)).pad (pad_rep [] (.int 0) 3)
  have ne2_o0 : o0 ≠ b1 := Nat.ne_of_lt (Nat.lt_of_lt_of_le I3.lt (Nat.le_of_eq g2.symm))
  have x3 := I0.ext E2
  have x4 := I1.ext E2
  have x5 := I2.ext E2
  have x6 := I3.ext E2
  have pre7 := Go.thn pre1 st2
  have pre8 : Go p e below T2 _ (mkF m 9 #[.val (.ref o0), .val (.int 0), .val (.int 3), .val (.ref b1), .unset, .unset] [(.int 3), (.int 0), (.ref b1), (.int 0), (.ref o0)]) _ := fun t k => pre7 t (by
    refine XS.astoreN X2.here hx rfl (hb hby d8_3) rfl rfl (l' := #[.val (.ref o0), .val (.int 0), .val (.int 3), .val (.ref b1), .unset, .unset]) rfl ?_
    refine XS.aloadN X2.here hx rfl (hb hby d8_4) rfl rfl ?_
    refine XS.iloadN X2.here hx rfl (hb hby d8_5) rfl ?_
    refine XS.aloadN X2.here hx rfl (hb hby d8_6) rfl rfl ?_
    refine XS.iconst X2.here hx rfl (hb hby d8_7) ?_
    refine XS.iloadN X2.here hx rfl (hb hby d8_8) rfl ?_
    exact k)
  obtain ⟨_, _, ⟨T9, L9, k9, n9⟩, -, X9, ⟨Lc9, hQ9, l9, y9, z9⟩, st9⟩ := Jvm.LawKit.callS X2 hx (y := Nm_20) hown (mvT hZ (wq hw 47 rfl)) (mvT hZ (wq hw 48 rfl)) (mvT hZ (wq hw 45 rfl)) (mvT hZ (wq hw 49 rfl)) (by decide) (backOf (W := 0) (rm9_3 l Z a0 hw [] o0 b1 _ w0 w1 w2 _ h2 n0 Z2 x6 V2 gg2 ne2_o0) hZ (wq hw 49 rfl) (wq hw 45 rfl) (by decide) (by decide)) (g := (mkF m 9 #[.val (.ref o0), .val (.int 0), .val (.int 3), .val (.ref b1), .unset, .unset] [(.int 3), (.int 0), (.ref b1), (.int 0), (.ref o0)])) rfl (by rw [hml]; rfl) (argsL := [(.ref o0), (.int 0), (.ref b1), (.int 0), (.int 3)]) (rest := []) (lenOf pd___CI_BII_I rfl) rfl (w00 rfl) (hb hby d8_9) (fun _ _ => ⟨rfl, e2, (by decide : 1 + 0 ≤ _), (by decide : 3 + 0 ≤ _)⟩)
  dsimp only [Pt.U, Pt.locs, Pt.cells, Pt.slots] at X9 l9 y9 z9 st9 hQ9
  subst l9 y9 z9
  obtain ⟨rfl, Nq9, Kq9, o9_0⟩ := hQ9
  have N9 := Fr.app N0 Nq9
  have K9 : Keep h0 T9.heap [] := K2.trans Kq9 (allS (Or.inr sz2) all0)
  have Z9 : n0 ≤ T9.heap.size := Nat.le_trans Z2 Kq9.1
  have x10 := own_staK x3 Kq9 (allS (own_plV V2) all0)
  have x11 := own_staK x4 Kq9 (allS (own_plV V2) all0)
  have x12 := own_staK x5 Kq9 (allS (own_plV V2) all0)
  have x13 := x6.keep Kq9 (ninS ne2_o0 nin0)
  have pre14 := Go.thn pre8 st9
  have pre15 : Go p e below T9 _ (mkF m 23 #[.val (.ref o0), .val (.int 0), .val (.int 3), .val (.ref b1), .val (.int (f9_3 w0 w1 w2)), .unset] [(.int 3), (.int 0), (.ref o0)]) _ := fun t k => pre14 t (by
    refine XS.istore X9.here hx rfl (hb hby d8_12) rfl (l' := #[.val (.ref o0), .val (.int 0), .val (.int 3), .val (.ref b1), .val (.int (f9_3 w0 w1 w2)), .unset]) rfl ?_
    refine XS.iload X9.here hx rfl (hb hby d8_14) rfl ?_
    refine XS.iloadN X9.here hx rfl (hb hby d8_16) rfl ?_
    refine XS.icmpNo X9.here hx rfl (hb hby d8_17) rfl (feq (own_ne3 hU)).1 ?_
    refine XS.aloadN X9.here hx rfl (hb hby d8_20) rfl rfl ?_
    refine XS.iloadN X9.here hx rfl (hb hby d8_21) rfl ?_
    refine XS.iloadN X9.here hx rfl (hb hby d8_22) rfl ?_
    exact k)
  obtain ⟨_, _, ⟨T16, L16, k16, n16⟩, -, X16, ⟨Lc16, hQ16, l16, y16, z16⟩, st16⟩ := Jvm.LawKit.callS X9 hx (y := Nm_19) hown (mvT hZ (wq hw 81 rfl)) (mvT hZ (wq hw 82 rfl)) (mvT hZ (wq hw 45 rfl)) (mvT hZ (wq hw 83 rfl)) (by decide) (backOf (W := 0) (rm18_3 l Z a0 hw [] o0 _ w0 w1 w2 T9.heap n0 Z9 x10 x11 x12 x13) hZ (wq hw 83 rfl) (wq hw 45 rfl) (by decide) (by decide)) (g := (mkF m 23 #[.val (.ref o0), .val (.int 0), .val (.int 3), .val (.ref b1), .val (.int (f9_3 w0 w1 w2)), .unset] [(.int 3), (.int 0), (.ref o0)])) rfl (by rw [hml]; rfl) (argsL := [(.ref o0), (.int 0), (.int 3)]) (rest := []) (lenOf pd___CII__B rfl) rfl (w00 rfl) (hb hby d8_23) (fun _ _ => ⟨rfl, rfl, (by decide : 1 + 1 ≤ _), (by decide : 3 + 6 ≤ _)⟩)
  dsimp only [Pt.U, Pt.locs, Pt.cells, Pt.slots] at X16 l16 y16 z16 st16 hQ16
  subst l16 y16 z16
  obtain ⟨b23_0, k_b1_0_16, rfl, Nq16, Kq16, gz16_b23_0, o16_0⟩ := hQ16
  have N16 := Fr.app N9 Nq16
  have K16 : Keep h0 T16.heap [] := K9.trans Kq16 all0
  have Z16 : n0 ≤ T16.heap.size := Nat.le_trans Z9 Kq16.1
  have x17 := own_staK x10 Kq16 all0
  have x18 := own_staK x11 Kq16 all0
  have x19 := own_staK x12 Kq16 all0
  have x20 := x13.keep Kq16 nin0
  have x21 := o9_0.keep Kq16 nin0
  have gg16_b23_0 : n0 ≤ b23_0 := Nat.le_trans Z9 gz16_b23_0
  have sz16_b23_0 : h0.size ≤ b23_0 := Nat.le_trans K9.1 gz16_b23_0
  have ne16_o0_b23_0 : o0 ≠ b23_0 := Nat.ne_of_lt (Nat.lt_of_lt_of_le x13.lt gz16_b23_0)
  have ne16_b1_b23_0 : b1 ≠ b23_0 := Nat.ne_of_lt (Nat.lt_of_lt_of_le o9_0.lt gz16_b23_0)
  have pre22 := Go.thn pre15 st16
  have pre23 : Go p e below T16 _ (mkF m 32 #[.val (.ref o0), .val (.int 0), .val (.int 3), .val (.ref b1), .val (.int (f9_3 w0 w1 w2)), .val (.ref b23_0)] [(.int (f9_3 w0 w1 w2)), (.ref b23_0)]) _ := fun t k => pre22 t (by
    refine XS.astore X16.here hx rfl (hb hby d8_26) rfl rfl (l' := #[.val (.ref o0), .val (.int 0), .val (.int 3), .val (.ref b1), .val (.int (f9_3 w0 w1 w2)), .val (.ref b23_0)]) rfl ?_
    refine XS.aload X16.here hx rfl (hb hby d8_28) rfl rfl ?_
    refine XS.iload X16.here hx rfl (hb hby d8_30) rfl ?_
    exact k)
  obtain ⟨_, _, ⟨T24, L24, k24, n24⟩, -, X24, ⟨Lc24, hQ24, l24, y24, z24⟩, st24⟩ := Jvm.LawKit.callS X16 hx (y := Nm_9) hown (mvT hZ (wq hw 97 rfl)) (mvT hZ (wq hw 98 rfl)) (mvT hZ (wq hw 45 rfl)) (mvT hZ (wq hw 99 rfl)) (by decide) (backOf (W := 0) (rm22 l Z a0 hw [] b23_0 (f9_3 w0 w1 w2) _ (6 : Int32) [(own_b0 w0), (own_b8 w0), (own_b0 w1), (own_b8 w1), (own_b0 w2), (own_b8 w2)] T16.heap n0 Z16 x17 x18 x19 o16_0 (own_ix3 hU).1 (own_ix3 hU).2.1 (own_ix3 hU).2.2.1 (own_ix3 hU).2.2.2) hZ (wq hw 99 rfl) (wq hw 45 rfl) (by decide) (by decide)) (g := (mkF m 32 #[.val (.ref o0), .val (.int 0), .val (.int 3), .val (.ref b1), .val (.int (f9_3 w0 w1 w2)), .val (.ref b23_0)] [(.int (f9_3 w0 w1 w2)), (.ref b23_0)])) rfl (by rw [hml]; rfl) (argsL := [(.ref b23_0), (.int (f9_3 w0 w1 w2))]) (rest := []) (lenOf pd___BI_C rfl) rfl (w00 rfl) (hb hby d8_32) (fun _ _ => ⟨rfl, rfl, (by decide : 2 + 0 ≤ _), (by decide : 9 + 0 ≤ _)⟩)
  dsimp only [Pt.U, Pt.locs, Pt.cells, Pt.slots] at X24 l24 y24 z24 st24 hQ24
  subst l24 y24 z24
  obtain ⟨rfl, Nq24, e24⟩ := hQ24
  have N24 := Fr.app N16 Nq24
  have pre25 := Go.thn pre23 st24
  have pre26 : Go p e below T24 _ (mkF m 56 #[.val (.ref o0), .val (.int 0), .val (.int 3), .val (.ref b1), .val (.int (f9_3 w0 w1 w2)), .val (.ref b23_0)] [(.ref b23_0)]) _ := fun t k => pre25 t (by
    refine XS.sipush X24.here hx rfl (hb hby d8_35) ?_
    refine XS.icmpYes X24.here hx rfl (pc0 := 38) (pc' := 54) rfl (hb hby d8_38) rfl (tlt (own_gt3 r0 r1 r2 hU)).2.2.1 (by decide) (by decide) ?_
    refine XS.aload X24.here hx rfl (hb hby d8_54) rfl rfl ?_
    exact k)
  obtain ⟨fs, hr, hrun, hended, hW, hsame⟩ := X24.leave (v := some (.ref b23_0)) (fun h => by rw [Bd.returns] at h; cases h)
  refine ⟨_, _, ?_, hrun, hended, _, _, rfl, ?_, ⟨_, rfl⟩, hW, hsame.mono (by decide) (by decide)⟩
  · refine pre26 _ ?_
    jvm_step X24.here [X24.here.top, hx, (hb hby d8_56), X24.method', Bd.returns, Value.isRef, FieldType.isReference]
    first | (intro acts; rw [hr _ acts rfl rfl rfl]) | rw [hr _ _ rfl rfl rfl]
    exact Steps.refl _
  · show Q8_3U Z o0 kc w0 w1 w2 h0 n0 _ T24.heap _
    rw [e24]
    exact ⟨b23_0, _, rfl, N24, K16, sz16_b23_0, o16_0⟩
theorem ef_3_3L (m : MethodId) (x0 : Addr) (x1 : Addr) : entryFrame m #[(.ref x0), (.ref x1), (.int 0), (.int 3), .null] 6 = mkF m 0 #[.val (.ref x0), .val (.ref x1), .val (.int 0), .val (.int 3), .val .null, .unset] [] := by first | (simp [entryFrame, mkF, argsToLocals, Value.category]; done) | rfl
def Q3_3L (Z : State) (o0 : Addr) (o1 : Addr) (wcs : Int32) (kc : ClassId) (w0 : Int32) (w1 : Int32) (w2 : Int32) (h0 : Heap) (n0 : Nat) (v : Option Value) (h : Heap) (L : List Loc) : Prop := ∃ (b36_0 : Addr) (k_b36_0 : ClassId), v = none ∧ Fr n0 L ∧ Keep h0 h [o0] ∧ h0.size ≤ b36_0 ∧ Exa Z h o0 "java/lang/String" ∧ Fld Z h o0 "java/lang/String" "value" "[B" (.ref b36_0) ∧ Fld Z h o0 "java/lang/String" "coder" "B" (.int 0) ∧ Arv Z h b36_0 k_b36_0 .byte (3 : Int32) [(.int (g9_3_o2_0 w0)), (.int (g9_3_o2_1 w0 w1)), (.int (g9_3_o2_2 w0 w1 w2))] (.int 0)
set_option maxRecDepth 65536 in
set_option maxHeartbeats 40000000 in
theorem rm3_3L (l : Launch) (Z : State) (a0 : Array Value) (hw : ∀ d ∈ tables_1, d.before a0 Z = true) (ws : List Jvm.Cond) (o0 : Addr) (o1 : Addr) (wcs : Int32) (kc : ClassId) (w0 : Int32) (w1 : Int32) (w2 : Int32) (h0 : Heap) (n0 : Nat) (Z0 : n0 ≤ h0.size) (I0 : Sta Z h0 "java/lang/String" "COMPACT_STRINGS" "Z" (.int wcs)) (I1 : Sta Z h0 "java/lang/StringUTF16" "$assertionsDisabled" "Z" (.int 1)) (I2 : Sta Z h0 "java/lang/StringUTF16" "HI_BYTE_SHIFT" "I" (.int 0)) (I3 : Sta Z h0 "java/lang/StringUTF16" "LO_BYTE_SHIFT" "I" (.int 8)) (I4 : Exa Z h0 o0 "java/lang/String") (I5 : Fld Z h0 o0 "java/lang/String" "value" "[B" .null) (I6 : Fld Z h0 o0 "java/lang/String" "coder" "B" (.int 0)) (I7 : Arv Z h0 o1 kc .char (3 : Int32) [(.int w0), (.int w1), (.int w2)] (.int 0)) (gw_o0 : n0 ≤ o0) (ne_o1_o0 : o1 ≠ o0) (hcs : ¬ (wcs = (0 : Int32))) (hl0 : ¬ ((255 : Int32) < w0)) (hl1 : ¬ ((255 : Int32) < w1)) (hl2 : ¬ ((255 : Int32) < w2)) :
    Met1 l Nm_22 (Jvm.Cond.code Nm_22 jdk_42_method_149_code 6 none) ws (rom 2 1 3 35) #[(.ref o0), (.ref o1), (.int 0), (.int 3), .null] Z h0 (Q3_3L Z o0 o1 wcs kc w0 w1 w2 h0 n0) := by
  refine MetFree.of_bodySF (plainFor_of_name pn_3) hisR ?_
  intro p e s m args below meth c s₁ Bd hml0 hP hK
  obtain ⟨rfl, hZ, hh⟩ := hP
  have hx := Bd.exec
  have hby := Bd.bytes
  have hml : c.maxLocals = 6 := hml0
  have hown : s.vm.findClass "java/lang/String" = some m.cls := findClass_of_methodNamed Bd.named
  have hnm := (name_of_methodNamed Bd.named Bd.method).1
  have X0 : Stand p l e (rom 2 1 3 35) s m _ _ _ _ _ [] 0 0 := Stand.of_body Bd
  have e0 : s₁.heap = h0 := by rw [← hh, Bd.state]; rfl
  have N0 := Fr.nil n0
  have K0 : Keep h0 h0 [o0] := Keep.refl _ _
  have pre0 : Go p e below s₁ _ (mkF m 0 #[.val (.ref o0), .val (.ref o1), .val (.int 0), .val (.int 3), .val .null, .unset] []) _ := fun t k => castTop (ef_3_3L m o0 o1) k
  have pre1 : Go p e below s₁ _ (mkF m 1 #[.val (.ref o0), .val (.ref o1), .val (.int 0), .val (.int 3), .val .null, .unset] [(.ref o0)]) _ := fun t k => pre0 t (by
    refine XS.aloadN X0.here hx rfl (hb hby d3_0) rfl rfl ?_
    exact k)
  obtain ⟨T2, X2, e2, st2⟩ := initO X0 hx hZ hown (wq hw 17 rfl) (wq hw 18 rfl) (wq hw 19 rfl) e0 (g := (mkF m 1 #[.val (.ref o0), .val (.ref o1), .val (.int 0), .val (.int 3), .val .null, .unset] [(.ref o0)])) rfl (by rw [hml]; rfl) rfl (hb hby d3_1) (by decide) (W := 0) (w00 rfl) (by decide)
  have pre3 := Go.thn pre1 st2
  have pre4 : Go p e below T2 _ (mkF m 27 #[.val (.ref o0), .val (.ref o1), .val (.int 0), .val (.int 3), .val .null, .unset] []) _ := fun t k => pre3 t (by
    refine XS.iloadN X2.here hx rfl (hb hby d3_4) rfl ?_
    refine XS.ifYes X2.here hx rfl (pc0 := 5) (pc' := 27) rfl (hb hby d3_5) rfl (by decide) (by decide) (by decide) ?_
    exact k)
  obtain ⟨T5, X5, e5, st5⟩ := getS2 X2 hx hZ hown (host := "") (Or.inl (wq hw 42 rfl)) Via.refl e2 I0 (g := (mkF m 27 #[.val (.ref o0), .val (.ref o1), .val (.int 0), .val (.int 3), .val .null, .unset] [])) rfl (hb hby d3_27)
  have pre6 := Go.thn pre4 st5
  have pre7 : Go p e below T5 _ (mkF m 36 #[.val (.ref o0), .val (.ref o1), .val (.int 0), .val (.int 3), .val .null, .unset] [(.int 3), (.int 0), (.ref o1)]) _ := fun t k => pre6 t (by
    refine XS.ifNo X5.here hx rfl (hb hby d3_30) rfl ((if0 _ _).trans (feq hcs).1) ?_
    refine XS.aloadN X5.here hx rfl (hb hby d3_33) rfl rfl ?_
    refine XS.iloadN X5.here hx rfl (hb hby d3_34) rfl ?_
    refine XS.iloadN X5.here hx rfl (hb hby d3_35) rfl ?_
    exact k)
  obtain ⟨_, _, ⟨T8, L8, k8, n8⟩, -, X8, ⟨Lc8, hQ8, l8, y8, z8⟩, st8⟩ := Jvm.LawKit.callS X5 hx (y := Nm_21) hown (mvT hZ (wq hw 43 rfl)) (mvT hZ (wq hw 44 rfl)) (mvT hZ (wq hw 45 rfl)) (mvT hZ (wq hw 46 rfl)) (by decide) (backOf (W := 0) (rm8_3L l Z a0 hw [] o1 _ w0 w1 w2 h0 n0 Z0 I1 I2 I3 I7 hl0 hl1 hl2) hZ (wq hw 46 rfl) (wq hw 45 rfl) (by decide) (by decide)) (g := (mkF m 36 #[.val (.ref o0), .val (.ref o1), .val (.int 0), .val (.int 3), .val .null, .unset] [(.int 3), (.int 0), (.ref o1)])) rfl (by rw [hml]; rfl) (argsL := [(.ref o1), (.int 0), (.int 3)]) (rest := []) (lenOf pd___CII__B rfl) rfl (w00 rfl) (hb hby d3_36) (fun _ _ => ⟨rfl, e5, (by decide : 0 + 1 ≤ _), (by decide : 0 + 3 ≤ _)⟩)
  dsimp only [Pt.U, Pt.locs, Pt.cells, Pt.slots] at X8 l8 y8 z8 st8 hQ8
  subst l8 y8 z8
  obtain ⟨b36_0, k_b1_8, rfl, Nq8, Kq8, gz8_b36_0, o8_0⟩ := hQ8
  have N8 := Fr.app N0 Nq8
  have K8 : Keep h0 T8.heap [o0] := K0.trans Kq8 all0
  have Z8 : n0 ≤ T8.heap.size := Nat.le_trans Z0 Kq8.1
  have x9 := own_staK I0 Kq8 all0
  have x10 := own_staK I1 Kq8 all0
  have x11 := own_staK I2 Kq8 all0
  have x12 := own_staK I3 Kq8 all0
  have x13 := I4.keep Kq8
  have x14 := I5.keep Kq8 nin0
  have x15 := I6.keep Kq8 nin0
  have x16 := I7.keep Kq8 nin0
  have gg8_b36_0 : n0 ≤ b36_0 := Nat.le_trans Z0 gz8_b36_0
  have sz8_b36_0 : h0.size ≤ b36_0 := Nat.le_trans K0.1 gz8_b36_0
  have ne8_o0_b36_0 : o0 ≠ b36_0 := Nat.ne_of_lt (Nat.lt_of_lt_of_le I4.lt gz8_b36_0)
  have ne8_o1_b36_0 : o1 ≠ b36_0 := Nat.ne_of_lt (Nat.lt_of_lt_of_le I7.lt gz8_b36_0)
  have pre17 := Go.thn pre7 st8
  have pre18 : Go p e below T8 _ (mkF m 45 #[.val (.ref o0), .val (.ref o1), .val (.int 0), .val (.int 3), .val .null, .val (.ref b36_0)] [(.int 3), (.ref b36_0), (.ref o0)]) _ := fun t k => pre17 t (by
    refine XS.astore X8.here hx rfl (hb hby d3_39) rfl rfl (l' := #[.val (.ref o0), .val (.ref o1), .val (.int 0), .val (.int 3), .val .null, .val (.ref b36_0)]) rfl ?_
    refine XS.aloadN X8.here hx rfl (hb hby d3_41) rfl rfl ?_
    refine XS.aload X8.here hx rfl (hb hby d3_42) rfl rfl ?_
    refine XS.iloadN X8.here hx rfl (hb hby d3_44) rfl ?_
    exact k)
  obtain ⟨_, _, ⟨T19, L19, k19, n19⟩, -, X19, ⟨Lc19, hQ19, l19, y19, z19⟩, st19⟩ := Jvm.LawKit.callS X8 hx (y := Nm_15) hown (mvT hZ (wq hw 50 rfl)) (mvT hZ (wq hw 51 rfl)) (mvT hZ (wq hw 45 rfl)) (mvT hZ (wq hw 52 rfl)) (by decide) (backOf (W := 1) (rm10 l Z a0 hw [] b36_0 (3 : Int32) _ (3 : Int32) [(g9_3_o2_0 w0), (g9_3_o2_1 w0 w1), (g9_3_o2_2 w0 w1 w2)] T8.heap n0 Z8 o8_0) hZ (wq hw 52 rfl) (wq hw 45 rfl) (by decide) (by decide)) (g := (mkF m 45 #[.val (.ref o0), .val (.ref o1), .val (.int 0), .val (.int 3), .val .null, .val (.ref b36_0)] [(.int 3), (.ref b36_0), (.ref o0)])) rfl (by rw [hml]; rfl) (argsL := [(.ref b36_0), (.int 3)]) (rest := [(.ref o0)]) (lenOf pd___BI_B rfl) rfl (w00 rfl) (hb hby d3_45) (fun _ _ => ⟨rfl, rfl, (by decide : 1 + 0 ≤ _), (by decide : 3 + 0 ≤ _)⟩)
  dsimp only [Pt.U, Pt.locs, Pt.cells, Pt.slots] at X19 l19 y19 z19 st19 hQ19
  subst l19 y19 z19
  obtain ⟨rfl, Nq19, e19⟩ := hQ19
  have N19 := Fr.app N8 Nq19
  have pre20 := Go.thn pre18 st19
  have pre21 : Go p e below T19 _ (mkF m 48 #[.val (.ref o0), .val (.ref o1), .val (.int 0), .val (.int 3), .val .null, .val (.ref b36_0)] [(.int 0), (.ref o0)]) _ := fun t k => pre20 t (by
    show Steps p.tables e below (T19.setTop (mkF m 48 #[.val (.ref o0), .val (.ref o1), .val (.int 0), .val (.int 3), .val .null, .val (.ref b36_0)] [(.int (f10 (3 : Int32) (3 : Int32))), (.ref o0)])) _
    rw [show f10 (3 : Int32) (3 : Int32) = (0 : Int32) from rfl]
    exact k)
  obtain ⟨T22, h22, X22, e22, W22, st22⟩ := putFN X19 hx hZ hown (wq hw 27 rfl) Via.refl e19 x15 x13 (Or.inr ⟨(wq hw 23 rfl), rfl, hnm⟩) (wq hw 7 rfl) (ty := .byte) (v' := (.int 0)) (by decide) rfl (by decide) (g := (mkF m 48 #[.val (.ref o0), .val (.ref o1), .val (.int 0), .val (.int 3), .val .null, .val (.ref b36_0)] [(.int 0), (.ref o0)])) rfl rfl (hb hby d3_48)
  have N22 := Fr.snoc X22 N19 gw_o0
  have K22 : Keep h0 h22 [o0] := K8.wr W22 (Or.inl (List.mem_of_getElem? (i := 0) rfl))
  have Z22 : n0 ≤ h22.size := Nat.le_trans Z8 (Keep.of_wr W22).1
  have x23 := x9.wr W22
  have x24 := x10.wr W22
  have x25 := x11.wr W22
  have x26 := x12.wr W22
  have x27 := x13.wr W22
  have x28 := x14.other W22 (Or.inr (slot_ne (Or.inr (wq hw 22 rfl)) (Or.inr (wq hw 23 rfl)) (by decide) (t := (.array .byte)) (t' := .byte) (by decide) (by decide)))
  have x29 := x15.same W22
  have x30 := x16.other W22 ne_o1_o0
  have x31 := o8_0.other W22 (Ne.symm ne8_o0_b36_0)
  have pre32 := Go.thn pre21 st22
  have pre33 : Go p e below T22 _ (mkF m 54 #[.val (.ref o0), .val (.ref o1), .val (.int 0), .val (.int 3), .val .null, .val (.ref b36_0)] [(.ref b36_0), (.ref o0)]) _ := fun t k => pre32 t (by
    refine XS.aloadN X22.here hx rfl (hb hby d3_51) rfl rfl ?_
    refine XS.aload X22.here hx rfl (hb hby d3_52) rfl rfl ?_
    exact k)
  obtain ⟨T34, h34, X34, e34, W34, st34⟩ := putF X22 hx hZ hown (host := "") (Or.inl (wq hw 26 rfl)) Via.refl e22 x28 x27 (Or.inr ⟨(wq hw 22 rfl), rfl, hnm⟩) (wq hw 7 rfl) (ty := (.array .byte)) (by decide) rfl rfl (g := (mkF m 54 #[.val (.ref o0), .val (.ref o1), .val (.int 0), .val (.int 3), .val .null, .val (.ref b36_0)] [(.ref b36_0), (.ref o0)])) rfl rfl (hb hby d3_54)
  have N34 := Fr.snoc X34 N22 gw_o0
  have K34 : Keep h0 h34 [o0] := K22.wr W34 (Or.inl (List.mem_of_getElem? (i := 0) rfl))
  have Z34 : n0 ≤ h34.size := Nat.le_trans Z22 (Keep.of_wr W34).1
  have x35 := x23.wr W34
  have x36 := x24.wr W34
  have x37 := x25.wr W34
  have x38 := x26.wr W34
  have x39 := x27.wr W34
  have x40 := x28.same W34
  have x41 := x29.other W34 (Or.inr (slot_ne (Or.inr (wq hw 23 rfl)) (Or.inr (wq hw 22 rfl)) (by decide) (t := .byte) (t' := (.array .byte)) (by decide) (by decide)))
  have x42 := x30.other W34 ne_o1_o0
  have x43 := x31.other W34 (Ne.symm ne8_o0_b36_0)
  have pre44 := Go.thn pre33 st34
  obtain ⟨fs, hr, hrun, hended, hW, hsame⟩ := X34.leave (v := none) (fun _ => rfl)
  refine ⟨_, _, ?_, hrun, hended, _, _, rfl, ?_, ⟨_, rfl⟩, hW, hsame.mono (by decide) (by decide)⟩
  · exact pre44 _ (X34.returnOut hx Bd.returns (hb hby d3_57) hr)
  · show Q3_3L Z o0 o1 wcs kc w0 w1 w2 h0 n0 _ T34.heap _
    rw [e34]
    exact ⟨b36_0, _, rfl, N34, K34, sz8_b36_0, x39, x40, x41, x43⟩
def Q2_3L (Z : State) (o0 : Addr) (o1 : Addr) (wcs : Int32) (kc : ClassId) (w0 : Int32) (w1 : Int32) (w2 : Int32) (h0 : Heap) (n0 : Nat) (v : Option Value) (h : Heap) (L : List Loc) : Prop := ∃ (b6_0 : Addr) (k_b6_0 : ClassId), v = none ∧ Fr n0 L ∧ Keep h0 h [o0] ∧ h0.size ≤ b6_0 ∧ Exa Z h o0 "java/lang/String" ∧ Fld Z h o0 "java/lang/String" "value" "[B" (.ref b6_0) ∧ Fld Z h o0 "java/lang/String" "coder" "B" (.int 0) ∧ Arv Z h b6_0 k_b6_0 .byte (3 : Int32) [(.int (g9_3_o2_0 w0)), (.int (g9_3_o2_1 w0 w1)), (.int (g9_3_o2_2 w0 w1 w2))] (.int 0)
set_option maxRecDepth 65536 in
set_option maxHeartbeats 40000000 in
theorem rm2_3L (l : Launch) (Z : State) (a0 : Array Value) (hw : ∀ d ∈ tables_1, d.before a0 Z = true) (ws : List Jvm.Cond) (o0 : Addr) (o1 : Addr) (wcs : Int32) (kc : ClassId) (w0 : Int32) (w1 : Int32) (w2 : Int32) (h0 : Heap) (n0 : Nat) (Z0 : n0 ≤ h0.size) (I0 : Sta Z h0 "java/lang/String" "COMPACT_STRINGS" "Z" (.int wcs)) (I1 : Sta Z h0 "java/lang/StringUTF16" "$assertionsDisabled" "Z" (.int 1)) (I2 : Sta Z h0 "java/lang/StringUTF16" "HI_BYTE_SHIFT" "I" (.int 0)) (I3 : Sta Z h0 "java/lang/StringUTF16" "LO_BYTE_SHIFT" "I" (.int 8)) (I4 : Exa Z h0 o0 "java/lang/String") (I5 : Fld Z h0 o0 "java/lang/String" "value" "[B" .null) (I6 : Fld Z h0 o0 "java/lang/String" "coder" "B" (.int 0)) (I7 : Arv Z h0 o1 kc .char (3 : Int32) [(.int w0), (.int w1), (.int w2)] (.int 0)) (gw_o0 : n0 ≤ o0) (ne_o1_o0 : o1 ≠ o0) (hcs : ¬ (wcs = (0 : Int32))) (hl0 : ¬ ((255 : Int32) < w0)) (hl1 : ¬ ((255 : Int32) < w1)) (hl2 : ¬ ((255 : Int32) < w2)) :
    Met1 l Nm_23 (Jvm.Cond.code Nm_23 jdk_42_method_3_code 2 none) ws (rom 3 1 3 52) #[(.ref o0), (.ref o1)] Z h0 (Q2_3L Z o0 o1 wcs kc w0 w1 w2 h0 n0) := by
  refine MetFree.of_bodySF (plainFor_of_name pn_2) hisR ?_
  intro p e s m args below meth c s₁ Bd hml0 hP hK
  obtain ⟨rfl, hZ, hh⟩ := hP
  have hx := Bd.exec
  have hby := Bd.bytes
  have hml : c.maxLocals = 2 := hml0
  have hown : s.vm.findClass "java/lang/String" = some m.cls := findClass_of_methodNamed Bd.named
  have X0 : Stand p l e (rom 3 1 3 52) s m _ _ _ _ _ [] 0 0 := Stand.of_body Bd
  have e0 : s₁.heap = h0 := by rw [← hh, Bd.state]; rfl
  have N0 := Fr.nil n0
  have K0 : Keep h0 h0 [o0] := Keep.refl _ _
  have pre0 : Go p e below s₁ _ (mkF m 0 #[.val (.ref o0), .val (.ref o1)] []) _ := fun t k => castTop (ef_2_1L m o0 o1) k
  have pre1 : Go p e below s₁ _ (mkF m 4 #[.val (.ref o0), .val (.ref o1)] [(.ref o1), (.int 0), (.ref o1), (.ref o0)]) _ := fun t k => pre0 t (by
    refine XS.aloadN X0.here hx rfl (hb hby d2_0) rfl rfl ?_
    refine XS.aloadN X0.here hx rfl (hb hby d2_1) rfl rfl ?_
    refine XS.iconst X0.here hx rfl (hb hby d2_2) ?_
    refine XS.aloadN X0.here hx rfl (hb hby d2_3) rfl rfl ?_
    exact k)
  obtain ⟨cl2, Ar2, -, Sz2, Mn2, Hs2, -⟩ := id I7
  have pre3 : Go p e below s₁ _ (mkF m 5 #[.val (.ref o0), .val (.ref o1)] [(.int 3), (.int 0), (.ref o1), (.ref o0)]) _ := fun t k => pre1 t (by
    show Steps p.tables e below (s₁.setTop (mkF m 4 #[.val (.ref o0), .val (.ref o1)] [(.ref o1), (.int 0), (.ref o1), (.ref o0)])) _
    refine X0.arraylength hx (by rw [e0]; exact Ar2.1) (State.isArrayOf_alike hZ.alike Ar2.2.1) (g := (mkF m 4 #[.val (.ref o0), .val (.ref o1)] [(.ref o1), (.int 0), (.ref o1), (.ref o0)])) rfl rfl (hb hby d2_4) _ ?_
    rw [len_of Sz2 Mn2]
    exact k)
  have pre4 : Go p e below s₁ _ (mkF m 6 #[.val (.ref o0), .val (.ref o1)] [.null, (.int 3), (.int 0), (.ref o1), (.ref o0)]) _ := fun t k => pre3 t (by
    refine XS.aconstNull X0.here hx rfl (hb hby d2_5) ?_
    exact k)
  obtain ⟨_, _, ⟨T5, L5, k5, n5⟩, -, X5, ⟨Lc5, hQ5, l5, y5, z5⟩, st5⟩ := X0.specialBack hx (y := Nm_22) rfl hown (mvT hZ (wq hw 13 rfl)) (mvT hZ (wq hw 14 rfl)) (mvT hZ (wq hw 16 rfl)) (by decide) (backOf (W := 0) (rm3_3L l Z a0 hw [] o0 o1 wcs _ w0 w1 w2 h0 n0 Z0 I0 I1 I2 I3 I4 I5 I6 I7 gw_o0 ne_o1_o0 hcs hl0 hl1 hl2) hZ (wq hw 16 rfl) (wq hw 8 rfl) (by decide) (by decide)) (g := (mkF m 6 #[.val (.ref o0), .val (.ref o1)] [.null, (.int 3), (.int 0), (.ref o1), (.ref o0)])) rfl (by rw [hml]; rfl) (Steps.refl _) (a := o0) (argsL := [(.ref o1), (.int 0), (.int 3), .null]) (rest := []) (lenOf pd___CIILjava_lang_Void__V rfl) rfl (w00 rfl) (hb hby d2_6) (fun _ _ => ⟨rfl, e0, (by decide : 0 + 1 ≤ _), (by decide : 0 + 3 ≤ _)⟩)
  dsimp only [Pt.U, Pt.locs, Pt.cells, Pt.slots] at X5 l5 y5 z5 st5 hQ5
  subst l5 y5 z5
  obtain ⟨b6_0, k_b36_0_5, rfl, Nq5, Kq5, gz5_b6_0, o5_0, o5_1, o5_2, o5_3⟩ := hQ5
  have N5 := Fr.app N0 Nq5
  have K5 : Keep h0 T5.heap [o0] := K0.trans Kq5 (allS (Or.inl (List.mem_of_getElem? (i := 0) rfl)) all0)
  have Z5 : n0 ≤ T5.heap.size := Nat.le_trans Z0 Kq5.1
  have x6 := own_staK I0 Kq5 (allS (own_plE I4) all0)
  have x7 := own_staK I1 Kq5 (allS (own_plE I4) all0)
  have x8 := own_staK I2 Kq5 (allS (own_plE I4) all0)
  have x9 := own_staK I3 Kq5 (allS (own_plE I4) all0)
  have x10 := I4.keep Kq5
  have x11 := I7.keep Kq5 (ninS ne_o1_o0 nin0)
  have gg5_b6_0 : n0 ≤ b6_0 := Nat.le_trans Z0 gz5_b6_0
  have sz5_b6_0 : h0.size ≤ b6_0 := Nat.le_trans K0.1 gz5_b6_0
  have ne5_o0_b6_0 : o0 ≠ b6_0 := Nat.ne_of_lt (Nat.lt_of_lt_of_le I4.lt gz5_b6_0)
  have ne5_o1_b6_0 : o1 ≠ b6_0 := Nat.ne_of_lt (Nat.lt_of_lt_of_le I7.lt gz5_b6_0)
  have pre12 := Go.trn pre4 st5
  obtain ⟨fs, hr, hrun, hended, hW, hsame⟩ := X5.leave (v := none) (fun _ => rfl)
  refine ⟨_, _, ?_, hrun, hended, _, _, rfl, ?_, ⟨_, rfl⟩, hW, hsame.mono (by decide) (by decide)⟩
  · exact pre12 _ (X5.returnOut hx Bd.returns (hb hby d2_9) hr)
  · show Q2_3L Z o0 o1 wcs kc w0 w1 w2 h0 n0 _ T5.heap _
    skip
    exact ⟨b6_0, _, rfl, N5, K5, sz5_b6_0, o5_0, o5_1, o5_2, o5_3⟩
def Q3_3U (Z : State) (o0 : Addr) (o1 : Addr) (wcs : Int32) (kc : ClassId) (w0 : Int32) (w1 : Int32) (w2 : Int32) (h0 : Heap) (n0 : Nat) (v : Option Value) (h : Heap) (L : List Loc) : Prop := ∃ (b36_0 : Addr) (k_b36_0 : ClassId), v = none ∧ Fr n0 L ∧ Keep h0 h [o0] ∧ h0.size ≤ b36_0 ∧ Exa Z h o0 "java/lang/String" ∧ Fld Z h o0 "java/lang/String" "value" "[B" (.ref b36_0) ∧ Fld Z h o0 "java/lang/String" "coder" "B" (.int 1) ∧ Arv Z h b36_0 k_b36_0 .byte (6 : Int32) [(.int (own_b0 w0)), (.int (own_b8 w0)), (.int (own_b0 w1)), (.int (own_b8 w1)), (.int (own_b0 w2)), (.int (own_b8 w2))] (.int 0)
set_option maxRecDepth 65536 in
set_option maxHeartbeats 40000000 in
theorem rm3_3U (l : Launch) (Z : State) (a0 : Array Value) (hw : ∀ d ∈ tables_1, d.before a0 Z = true) (ws : List Jvm.Cond) (o0 : Addr) (o1 : Addr) (wcs : Int32) (kc : ClassId) (w0 : Int32) (w1 : Int32) (w2 : Int32) (h0 : Heap) (n0 : Nat) (Z0 : n0 ≤ h0.size) (I0 : Sta Z h0 "java/lang/String" "COMPACT_STRINGS" "Z" (.int wcs)) (I1 : Sta Z h0 "java/lang/StringUTF16" "$assertionsDisabled" "Z" (.int 1)) (I2 : Sta Z h0 "java/lang/StringUTF16" "HI_BYTE_SHIFT" "I" (.int 0)) (I3 : Sta Z h0 "java/lang/StringUTF16" "LO_BYTE_SHIFT" "I" (.int 8)) (I4 : Exa Z h0 o0 "java/lang/String") (I5 : Fld Z h0 o0 "java/lang/String" "value" "[B" .null) (I6 : Fld Z h0 o0 "java/lang/String" "coder" "B" (.int 0)) (I7 : Arv Z h0 o1 kc .char (3 : Int32) [(.int w0), (.int w1), (.int w2)] (.int 0)) (gw_o0 : n0 ≤ o0) (ne_o1_o0 : o1 ≠ o0) (hcs : ¬ (wcs = (0 : Int32))) (r0 : own_chr w0) (r1 : own_chr w1) (r2 : own_chr w2) (hU : (255 : Int32) < w0 ∨ (255 : Int32) < w1 ∨ (255 : Int32) < w2) :
    Met1 l Nm_22 (Jvm.Cond.code Nm_22 jdk_42_method_149_code 6 none) ws (rom 4 2 9 57) #[(.ref o0), (.ref o1), (.int 0), (.int 3), .null] Z h0 (Q3_3U Z o0 o1 wcs kc w0 w1 w2 h0 n0) := by
  refine MetFree.of_bodySF (plainFor_of_name pn_3) hisR ?_
  intro p e s m args below meth c s₁ Bd hml0 hP hK
  obtain ⟨rfl, hZ, hh⟩ := hP
  have hx := Bd.exec
  have hby := Bd.bytes
  have hml : c.maxLocals = 6 := hml0
  have hown : s.vm.findClass "java/lang/String" = some m.cls := findClass_of_methodNamed Bd.named
  have hnm := (name_of_methodNamed Bd.named Bd.method).1
  have X0 : Stand p l e (rom 4 2 9 57) s m _ _ _ _ _ [] 0 0 := Stand.of_body Bd
  have e0 : s₁.heap = h0 := by rw [← hh, Bd.state]; rfl
  have N0 := Fr.nil n0
  have K0 : Keep h0 h0 [o0] := Keep.refl _ _
  have pre0 : Go p e below s₁ _ (mkF m 0 #[.val (.ref o0), .val (.ref o1), .val (.int 0), .val (.int 3), .val .null, .unset] []) _ := fun t k => castTop (ef_3_3L m o0 o1) k
  have pre1 : Go p e below s₁ _ (mkF m 1 #[.val (.ref o0), .val (.ref o1), .val (.int 0), .val (.int 3), .val .null, .unset] [(.ref o0)]) _ := fun t k => pre0 t (by
    refine XS.aloadN X0.here hx rfl (hb hby d3_0) rfl rfl ?_
    exact k)
  obtain ⟨T2, X2, e2, st2⟩ := initO X0 hx hZ hown (wq hw 17 rfl) (wq hw 18 rfl) (wq hw 19 rfl) e0 (g := (mkF m 1 #[.val (.ref o0), .val (.ref o1), .val (.int 0), .val (.int 3), .val .null, .unset] [(.ref o0)])) rfl (by rw [hml]; rfl) rfl (hb hby d3_1) (by decide) (W := 0) (w00 rfl) (by decide)
  have pre3 := Go.thn pre1 st2
  have pre4 : Go p e below T2 _ (mkF m 27 #[.val (.ref o0), .val (.ref o1), .val (.int 0), .val (.int 3), .val .null, .unset] []) _ := fun t k => pre3 t (by
    refine XS.iloadN X2.here hx rfl (hb hby d3_4) rfl ?_
    refine XS.ifYes X2.here hx rfl (pc0 := 5) (pc' := 27) rfl (hb hby d3_5) rfl (by decide) (by decide) (by decide) ?_
    exact k)
  obtain ⟨T5, X5, e5, st5⟩ := getS2 X2 hx hZ hown (host := "") (Or.inl (wq hw 42 rfl)) Via.refl e2 I0 (g := (mkF m 27 #[.val (.ref o0), .val (.ref o1), .val (.int 0), .val (.int 3), .val .null, .unset] [])) rfl (hb hby d3_27)
  have pre6 := Go.thn pre4 st5
  have pre7 : Go p e below T5 _ (mkF m 36 #[.val (.ref o0), .val (.ref o1), .val (.int 0), .val (.int 3), .val .null, .unset] [(.int 3), (.int 0), (.ref o1)]) _ := fun t k => pre6 t (by
    refine XS.ifNo X5.here hx rfl (hb hby d3_30) rfl ((if0 _ _).trans (feq hcs).1) ?_
    refine XS.aloadN X5.here hx rfl (hb hby d3_33) rfl rfl ?_
    refine XS.iloadN X5.here hx rfl (hb hby d3_34) rfl ?_
    refine XS.iloadN X5.here hx rfl (hb hby d3_35) rfl ?_
    exact k)
  obtain ⟨_, _, ⟨T8, L8, k8, n8⟩, -, X8, ⟨Lc8, hQ8, l8, y8, z8⟩, st8⟩ := Jvm.LawKit.callS X5 hx (y := Nm_21) hown (mvT hZ (wq hw 43 rfl)) (mvT hZ (wq hw 44 rfl)) (mvT hZ (wq hw 45 rfl)) (mvT hZ (wq hw 46 rfl)) (by decide) (backOf (W := 0) (rm8_3U l Z a0 hw [] o1 _ w0 w1 w2 h0 n0 Z0 I1 I2 I3 I7 r0 r1 r2 hU) hZ (wq hw 46 rfl) (wq hw 45 rfl) (by decide) (by decide)) (g := (mkF m 36 #[.val (.ref o0), .val (.ref o1), .val (.int 0), .val (.int 3), .val .null, .unset] [(.int 3), (.int 0), (.ref o1)])) rfl (by rw [hml]; rfl) (argsL := [(.ref o1), (.int 0), (.int 3)]) (rest := []) (lenOf pd___CII__B rfl) rfl (w00 rfl) (hb hby d3_36) (fun _ _ => ⟨rfl, e5, (by decide : 0 + 2 ≤ _), (by decide : 0 + 9 ≤ _)⟩)
  dsimp only [Pt.U, Pt.locs, Pt.cells, Pt.slots] at X8 l8 y8 z8 st8 hQ8
  subst l8 y8 z8
  obtain ⟨b36_0, k_b23_0_8, rfl, Nq8, Kq8, gz8_b36_0, o8_0⟩ := hQ8
  have N8 := Fr.app N0 Nq8
  have K8 : Keep h0 T8.heap [o0] := K0.trans Kq8 all0
  have Z8 : n0 ≤ T8.heap.size := Nat.le_trans Z0 Kq8.1
  have x9 := own_staK I0 Kq8 all0
  have x10 := own_staK I1 Kq8 all0
  have x11 := own_staK I2 Kq8 all0
  have x12 := own_staK I3 Kq8 all0
  have x13 := I4.keep Kq8
  have x14 := I5.keep Kq8 nin0
  have x15 := I6.keep Kq8 nin0
  have x16 := I7.keep Kq8 nin0
  have gg8_b36_0 : n0 ≤ b36_0 := Nat.le_trans Z0 gz8_b36_0
  have sz8_b36_0 : h0.size ≤ b36_0 := Nat.le_trans K0.1 gz8_b36_0
  have ne8_o0_b36_0 : o0 ≠ b36_0 := Nat.ne_of_lt (Nat.lt_of_lt_of_le I4.lt gz8_b36_0)
  have ne8_o1_b36_0 : o1 ≠ b36_0 := Nat.ne_of_lt (Nat.lt_of_lt_of_le I7.lt gz8_b36_0)
  have pre17 := Go.thn pre7 st8
  have pre18 : Go p e below T8 _ (mkF m 45 #[.val (.ref o0), .val (.ref o1), .val (.int 0), .val (.int 3), .val .null, .val (.ref b36_0)] [(.int 3), (.ref b36_0), (.ref o0)]) _ := fun t k => pre17 t (by
    refine XS.astore X8.here hx rfl (hb hby d3_39) rfl rfl (l' := #[.val (.ref o0), .val (.ref o1), .val (.int 0), .val (.int 3), .val .null, .val (.ref b36_0)]) rfl ?_
    refine XS.aloadN X8.here hx rfl (hb hby d3_41) rfl rfl ?_
    refine XS.aload X8.here hx rfl (hb hby d3_42) rfl rfl ?_
    refine XS.iloadN X8.here hx rfl (hb hby d3_44) rfl ?_
    exact k)
  obtain ⟨_, _, ⟨T19, L19, k19, n19⟩, -, X19, ⟨Lc19, hQ19, l19, y19, z19⟩, st19⟩ := Jvm.LawKit.callS X8 hx (y := Nm_15) hown (mvT hZ (wq hw 50 rfl)) (mvT hZ (wq hw 51 rfl)) (mvT hZ (wq hw 45 rfl)) (mvT hZ (wq hw 52 rfl)) (by decide) (backOf (W := 1) (rm10 l Z a0 hw [] b36_0 (3 : Int32) _ (6 : Int32) [(own_b0 w0), (own_b8 w0), (own_b0 w1), (own_b8 w1), (own_b0 w2), (own_b8 w2)] T8.heap n0 Z8 o8_0) hZ (wq hw 52 rfl) (wq hw 45 rfl) (by decide) (by decide)) (g := (mkF m 45 #[.val (.ref o0), .val (.ref o1), .val (.int 0), .val (.int 3), .val .null, .val (.ref b36_0)] [(.int 3), (.ref b36_0), (.ref o0)])) rfl (by rw [hml]; rfl) (argsL := [(.ref b36_0), (.int 3)]) (rest := [(.ref o0)]) (lenOf pd___BI_B rfl) rfl (w00 rfl) (hb hby d3_45) (fun _ _ => ⟨rfl, rfl, (by decide : 2 + 0 ≤ _), (by decide : 9 + 0 ≤ _)⟩)
  dsimp only [Pt.U, Pt.locs, Pt.cells, Pt.slots] at X19 l19 y19 z19 st19 hQ19
  subst l19 y19 z19
  obtain ⟨rfl, Nq19, e19⟩ := hQ19
  have N19 := Fr.app N8 Nq19
  have pre20 := Go.thn pre18 st19
  have pre21 : Go p e below T19 _ (mkF m 48 #[.val (.ref o0), .val (.ref o1), .val (.int 0), .val (.int 3), .val .null, .val (.ref b36_0)] [(.int 1), (.ref o0)]) _ := fun t k => pre20 t (by
    show Steps p.tables e below (T19.setTop (mkF m 48 #[.val (.ref o0), .val (.ref o1), .val (.int 0), .val (.int 3), .val .null, .val (.ref b36_0)] [(.int (f10 (3 : Int32) (6 : Int32))), (.ref o0)])) _
    rw [show f10 (3 : Int32) (6 : Int32) = (1 : Int32) from rfl]
    exact k)
  obtain ⟨T22, h22, X22, e22, W22, st22⟩ := putFN X19 hx hZ hown (wq hw 27 rfl) Via.refl e19 x15 x13 (Or.inr ⟨(wq hw 23 rfl), rfl, hnm⟩) (wq hw 7 rfl) (ty := .byte) (v' := (.int 1)) (by decide) rfl (by decide) (g := (mkF m 48 #[.val (.ref o0), .val (.ref o1), .val (.int 0), .val (.int 3), .val .null, .val (.ref b36_0)] [(.int 1), (.ref o0)])) rfl rfl (hb hby d3_48)
  have N22 := Fr.snoc X22 N19 gw_o0
  have K22 : Keep h0 h22 [o0] := K8.wr W22 (Or.inl (List.mem_of_getElem? (i := 0) rfl))
  have Z22 : n0 ≤ h22.size := Nat.le_trans Z8 (Keep.of_wr W22).1
  have x23 := x9.wr W22
  have x24 := x10.wr W22
  have x25 := x11.wr W22
  have x26 := x12.wr W22
  have x27 := x13.wr W22
  have x28 := x14.other W22 (Or.inr (slot_ne (Or.inr (wq hw 22 rfl)) (Or.inr (wq hw 23 rfl)) (by decide) (t := (.array .byte)) (t' := .byte) (by decide) (by decide)))
  have x29 := x15.same W22
  have x30 := x16.other W22 ne_o1_o0
  have x31 := o8_0.other W22 (Ne.symm ne8_o0_b36_0)
  have pre32 := Go.thn pre21 st22
  have pre33 : Go p e below T22 _ (mkF m 54 #[.val (.ref o0), .val (.ref o1), .val (.int 0), .val (.int 3), .val .null, .val (.ref b36_0)] [(.ref b36_0), (.ref o0)]) _ := fun t k => pre32 t (by
    refine XS.aloadN X22.here hx rfl (hb hby d3_51) rfl rfl ?_
    refine XS.aload X22.here hx rfl (hb hby d3_52) rfl rfl ?_
    exact k)
  obtain ⟨T34, h34, X34, e34, W34, st34⟩ := putF X22 hx hZ hown (host := "") (Or.inl (wq hw 26 rfl)) Via.refl e22 x28 x27 (Or.inr ⟨(wq hw 22 rfl), rfl, hnm⟩) (wq hw 7 rfl) (ty := (.array .byte)) (by decide) rfl rfl (g := (mkF m 54 #[.val (.ref o0), .val (.ref o1), .val (.int 0), .val (.int 3), .val .null, .val (.ref b36_0)] [(.ref b36_0), (.ref o0)])) rfl rfl (hb hby d3_54)
  have N34 := Fr.snoc X34 N22 gw_o0
  have K34 : Keep h0 h34 [o0] := K22.wr W34 (Or.inl (List.mem_of_getElem? (i := 0) rfl))
  have Z34 : n0 ≤ h34.size := Nat.le_trans Z22 (Keep.of_wr W34).1
  have x35 := x23.wr W34
  have x36 := x24.wr W34
  have x37 := x25.wr W34
  have x38 := x26.wr W34
  have x39 := x27.wr W34
  have x40 := x28.same W34
  have x41 := x29.other W34 (Or.inr (slot_ne (Or.inr (wq hw 23 rfl)) (Or.inr (wq hw 22 rfl)) (by decide) (t := .byte) (t' := (.array .byte)) (by decide) (by decide)))
  have x42 := x30.other W34 ne_o1_o0
  have x43 := x31.other W34 (Ne.symm ne8_o0_b36_0)
  have pre44 := Go.thn pre33 st34
  obtain ⟨fs, hr, hrun, hended, hW, hsame⟩ := X34.leave (v := none) (fun _ => rfl)
  refine ⟨_, _, ?_, hrun, hended, _, _, rfl, ?_, ⟨_, rfl⟩, hW, hsame.mono (by decide) (by decide)⟩
  · exact pre44 _ (X34.returnOut hx Bd.returns (hb hby d3_57) hr)
  · show Q3_3U Z o0 o1 wcs kc w0 w1 w2 h0 n0 _ T34.heap _
    rw [e34]
    exact ⟨b36_0, _, rfl, N34, K34, sz8_b36_0, x39, x40, x41, x43⟩
def Q2_3U (Z : State) (o0 : Addr) (o1 : Addr) (wcs : Int32) (kc : ClassId) (w0 : Int32) (w1 : Int32) (w2 : Int32) (h0 : Heap) (n0 : Nat) (v : Option Value) (h : Heap) (L : List Loc) : Prop := ∃ (b6_0 : Addr) (k_b6_0 : ClassId), v = none ∧ Fr n0 L ∧ Keep h0 h [o0] ∧ h0.size ≤ b6_0 ∧ Exa Z h o0 "java/lang/String" ∧ Fld Z h o0 "java/lang/String" "value" "[B" (.ref b6_0) ∧ Fld Z h o0 "java/lang/String" "coder" "B" (.int 1) ∧ Arv Z h b6_0 k_b6_0 .byte (6 : Int32) [(.int (own_b0 w0)), (.int (own_b8 w0)), (.int (own_b0 w1)), (.int (own_b8 w1)), (.int (own_b0 w2)), (.int (own_b8 w2))] (.int 0)
set_option maxRecDepth 65536 in
set_option maxHeartbeats 40000000 in
theorem rm2_3U (l : Launch) (Z : State) (a0 : Array Value) (hw : ∀ d ∈ tables_1, d.before a0 Z = true) (ws : List Jvm.Cond) (o0 : Addr) (o1 : Addr) (wcs : Int32) (kc : ClassId) (w0 : Int32) (w1 : Int32) (w2 : Int32) (h0 : Heap) (n0 : Nat) (Z0 : n0 ≤ h0.size) (I0 : Sta Z h0 "java/lang/String" "COMPACT_STRINGS" "Z" (.int wcs)) (I1 : Sta Z h0 "java/lang/StringUTF16" "$assertionsDisabled" "Z" (.int 1)) (I2 : Sta Z h0 "java/lang/StringUTF16" "HI_BYTE_SHIFT" "I" (.int 0)) (I3 : Sta Z h0 "java/lang/StringUTF16" "LO_BYTE_SHIFT" "I" (.int 8)) (I4 : Exa Z h0 o0 "java/lang/String") (I5 : Fld Z h0 o0 "java/lang/String" "value" "[B" .null) (I6 : Fld Z h0 o0 "java/lang/String" "coder" "B" (.int 0)) (I7 : Arv Z h0 o1 kc .char (3 : Int32) [(.int w0), (.int w1), (.int w2)] (.int 0)) (gw_o0 : n0 ≤ o0) (ne_o1_o0 : o1 ≠ o0) (hcs : ¬ (wcs = (0 : Int32))) (r0 : own_chr w0) (r1 : own_chr w1) (r2 : own_chr w2) (hU : (255 : Int32) < w0 ∨ (255 : Int32) < w1 ∨ (255 : Int32) < w2) :
    Met1 l Nm_23 (Jvm.Cond.code Nm_23 jdk_42_method_3_code 2 none) ws (rom 5 2 9 74) #[(.ref o0), (.ref o1)] Z h0 (Q2_3U Z o0 o1 wcs kc w0 w1 w2 h0 n0) := by
  refine MetFree.of_bodySF (plainFor_of_name pn_2) hisR ?_
  intro p e s m args below meth c s₁ Bd hml0 hP hK
  obtain ⟨rfl, hZ, hh⟩ := hP
  have hx := Bd.exec
  have hby := Bd.bytes
  have hml : c.maxLocals = 2 := hml0
  have hown : s.vm.findClass "java/lang/String" = some m.cls := findClass_of_methodNamed Bd.named
  have X0 : Stand p l e (rom 5 2 9 74) s m _ _ _ _ _ [] 0 0 := Stand.of_body Bd
  have e0 : s₁.heap = h0 := by rw [← hh, Bd.state]; rfl
  have N0 := Fr.nil n0
  have K0 : Keep h0 h0 [o0] := Keep.refl _ _
  have pre0 : Go p e below s₁ _ (mkF m 0 #[.val (.ref o0), .val (.ref o1)] []) _ := fun t k => castTop (ef_2_1L m o0 o1) k
  have pre1 : Go p e below s₁ _ (mkF m 4 #[.val (.ref o0), .val (.ref o1)] [(.ref o1), (.int 0), (.ref o1), (.ref o0)]) _ := fun t k => pre0 t (by
    refine XS.aloadN X0.here hx rfl (hb hby d2_0) rfl rfl ?_
    refine XS.aloadN X0.here hx rfl (hb hby d2_1) rfl rfl ?_
    refine XS.iconst X0.here hx rfl (hb hby d2_2) ?_
    refine XS.aloadN X0.here hx rfl (hb hby d2_3) rfl rfl ?_
    exact k)
  obtain ⟨cl2, Ar2, -, Sz2, Mn2, Hs2, -⟩ := id I7
  have pre3 : Go p e below s₁ _ (mkF m 5 #[.val (.ref o0), .val (.ref o1)] [(.int 3), (.int 0), (.ref o1), (.ref o0)]) _ := fun t k => pre1 t (by
    show Steps p.tables e below (s₁.setTop (mkF m 4 #[.val (.ref o0), .val (.ref o1)] [(.ref o1), (.int 0), (.ref o1), (.ref o0)])) _
    refine X0.arraylength hx (by rw [e0]; exact Ar2.1) (State.isArrayOf_alike hZ.alike Ar2.2.1) (g := (mkF m 4 #[.val (.ref o0), .val (.ref o1)] [(.ref o1), (.int 0), (.ref o1), (.ref o0)])) rfl rfl (hb hby d2_4) _ ?_
    rw [len_of Sz2 Mn2]
    exact k)
  have pre4 : Go p e below s₁ _ (mkF m 6 #[.val (.ref o0), .val (.ref o1)] [.null, (.int 3), (.int 0), (.ref o1), (.ref o0)]) _ := fun t k => pre3 t (by
    refine XS.aconstNull X0.here hx rfl (hb hby d2_5) ?_
    exact k)
  obtain ⟨_, _, ⟨T5, L5, k5, n5⟩, -, X5, ⟨Lc5, hQ5, l5, y5, z5⟩, st5⟩ := X0.specialBack hx (y := Nm_22) rfl hown (mvT hZ (wq hw 13 rfl)) (mvT hZ (wq hw 14 rfl)) (mvT hZ (wq hw 16 rfl)) (by decide) (backOf (W := 0) (rm3_3U l Z a0 hw [] o0 o1 wcs _ w0 w1 w2 h0 n0 Z0 I0 I1 I2 I3 I4 I5 I6 I7 gw_o0 ne_o1_o0 hcs r0 r1 r2 hU) hZ (wq hw 16 rfl) (wq hw 8 rfl) (by decide) (by decide)) (g := (mkF m 6 #[.val (.ref o0), .val (.ref o1)] [.null, (.int 3), (.int 0), (.ref o1), (.ref o0)])) rfl (by rw [hml]; rfl) (Steps.refl _) (a := o0) (argsL := [(.ref o1), (.int 0), (.int 3), .null]) (rest := []) (lenOf pd___CIILjava_lang_Void__V rfl) rfl (w00 rfl) (hb hby d2_6) (fun _ _ => ⟨rfl, e0, (by decide : 0 + 2 ≤ _), (by decide : 0 + 9 ≤ _)⟩)
  dsimp only [Pt.U, Pt.locs, Pt.cells, Pt.slots] at X5 l5 y5 z5 st5 hQ5
  subst l5 y5 z5
  obtain ⟨b6_0, k_b36_0_5, rfl, Nq5, Kq5, gz5_b6_0, o5_0, o5_1, o5_2, o5_3⟩ := hQ5
  have N5 := Fr.app N0 Nq5
  have K5 : Keep h0 T5.heap [o0] := K0.trans Kq5 (allS (Or.inl (List.mem_of_getElem? (i := 0) rfl)) all0)
  have Z5 : n0 ≤ T5.heap.size := Nat.le_trans Z0 Kq5.1
  have x6 := own_staK I0 Kq5 (allS (own_plE I4) all0)
  have x7 := own_staK I1 Kq5 (allS (own_plE I4) all0)
  have x8 := own_staK I2 Kq5 (allS (own_plE I4) all0)
  have x9 := own_staK I3 Kq5 (allS (own_plE I4) all0)
  have x10 := I4.keep Kq5
  have x11 := I7.keep Kq5 (ninS ne_o1_o0 nin0)
  have gg5_b6_0 : n0 ≤ b6_0 := Nat.le_trans Z0 gz5_b6_0
  have sz5_b6_0 : h0.size ≤ b6_0 := Nat.le_trans K0.1 gz5_b6_0
  have ne5_o0_b6_0 : o0 ≠ b6_0 := Nat.ne_of_lt (Nat.lt_of_lt_of_le I4.lt gz5_b6_0)
  have ne5_o1_b6_0 : o1 ≠ b6_0 := Nat.ne_of_lt (Nat.lt_of_lt_of_le I7.lt gz5_b6_0)
  have pre12 := Go.trn pre4 st5
  obtain ⟨fs, hr, hrun, hended, hW, hsame⟩ := X5.leave (v := none) (fun _ => rfl)
  refine ⟨_, _, ?_, hrun, hended, _, _, rfl, ?_, ⟨_, rfl⟩, hW, hsame.mono (by decide) (by decide)⟩
  · exact pre12 _ (X5.returnOut hx Bd.returns (hb hby d2_9) hr)
  · show Q2_3U Z o0 o1 wcs kc w0 w1 w2 h0 n0 _ T5.heap _
    skip
    exact ⟨b6_0, _, rfl, N5, K5, sz5_b6_0, o5_0, o5_1, o5_2, o5_3⟩
def Q21_4_0 (Z : State) (o0 : Addr) (p2 : Int32) (ka : ClassId) (u0 : Int32) (u1 : Int32) (u2 : Int32) (u3 : Int32) (u4 : Int32) (u5 : Int32) (u6 : Int32) (u7 : Int32) (h0 : Heap) (n0 : Nat) (v : Option Value) (h : Heap) (L : List Loc) : Prop := v = none ∧ Fr n0 L ∧ Keep h0 h [o0] ∧ Arv Z h o0 ka .byte (8 : Int32) [(.int (own_b0 p2)), (.int (own_b8 p2)), (.int u2), (.int u3), (.int u4), (.int u5), (.int u6), (.int u7)] (.int 0)
set_option maxRecDepth 65536 in
set_option maxHeartbeats 40000000 in
theorem rm21_4_0 (l : Launch) (Z : State) (a0 : Array Value) (hw : ∀ d ∈ tables_1, d.before a0 Z = true) (ws : List Jvm.Cond) (o0 : Addr) (p2 : Int32) (ka : ClassId) (u0 : Int32) (u1 : Int32) (u2 : Int32) (u3 : Int32) (u4 : Int32) (u5 : Int32) (u6 : Int32) (u7 : Int32) (h0 : Heap) (n0 : Nat) (Z0 : n0 ≤ h0.size) (I0 : Sta Z h0 "java/lang/StringUTF16" "$assertionsDisabled" "Z" (.int 1)) (I1 : Sta Z h0 "java/lang/StringUTF16" "HI_BYTE_SHIFT" "I" (.int 0)) (I2 : Sta Z h0 "java/lang/StringUTF16" "LO_BYTE_SHIFT" "I" (.int 8)) (I3 : Arv Z h0 o0 ka .byte (8 : Int32) [(.int u0), (.int u1), (.int u2), (.int u3), (.int u4), (.int u5), (.int u6), (.int u7)] (.int 0)) (gw_o0 : n0 ≤ o0) :
    Met1 l Nm_18 (Jvm.Cond.code Nm_18 jdk_52_method_4_code 3 none) ws (rom 0 0 0 0) #[(.ref o0), (.int 0), (.int p2)] Z h0 (Q21_4_0 Z o0 p2 ka u0 u1 u2 u3 u4 u5 u6 u7 h0 n0) := by
  refine MetFree.of_bodySF (plainFor_of_name pn_21) hisR ?_
  intro p e s m args below meth c s₁ Bd hml0 hP hK
  obtain ⟨rfl, hZ, hh⟩ := hP
  have hx := Bd.exec
  have hby := Bd.bytes
  have hml : c.maxLocals = 3 := hml0
  have hown : s.vm.findClass "java/lang/StringUTF16" = some m.cls := findClass_of_methodNamed Bd.named
  have X0 : Stand p l e (rom 0 0 0 0) s m _ _ _ _ _ [] 0 0 := Stand.of_body Bd
  have e0 : s₁.heap = h0 := by rw [← hh, Bd.state]; rfl
  have N0 := Fr.nil n0
  have K0 : Keep h0 h0 [o0] := Keep.refl _ _
  have pre0 : Go p e below s₁ _ (mkF m 0 #[.val (.ref o0), .val (.int 0), .val (.int p2)] []) _ := fun t k => castTop (ef_21_1_0 m o0 p2) k
  obtain ⟨T1, X1, e1, st1⟩ := getS2 X0 hx hZ hown (host := "") (Or.inl (wq hw 94 rfl)) Via.refl e0 I0 (g := (mkF m 0 #[.val (.ref o0), .val (.int 0), .val (.int p2)] [])) rfl (hb hby d21_0)
  have pre2 := Go.thn pre0 st1
  have pre3 : Go p e below T1 _ (mkF m 38 #[.val (.ref o0), .val (.int 1), .val (.int p2)] [(.int p2), (.int 0), (.ref o0)]) _ := fun t k => pre2 t (by
    refine XS.ifYes X1.here hx rfl (pc0 := 3) (pc' := 28) rfl (hb hby d21_3) rfl (by decide) (by decide) (by decide) ?_
    refine XS.iloadN X1.here hx rfl (hb hby d21_28) rfl ?_
    refine XS.iconst X1.here hx rfl (hb hby d21_29) ?_
    refine XS.ishl X1.here hx rfl (hb hby d21_30) rfl ?_
    refine XS.istoreN X1.here hx rfl (hb hby d21_31) rfl (l' := #[.val (.ref o0), .val (.int 0), .val (.int p2)]) rfl ?_
    refine XS.aloadN X1.here hx rfl (hb hby d21_32) rfl rfl ?_
    refine XS.iloadN X1.here hx rfl (hb hby d21_33) rfl ?_
    refine XS.iinc X1.here hx rfl (hb hby d21_34) rfl (l' := #[.val (.ref o0), .val (.int 1), .val (.int p2)]) rfl ?_
    refine XS.iloadN X1.here hx rfl (hb hby d21_37) rfl ?_
    exact k)
  obtain ⟨T4, X4, e4, st4⟩ := getS2 X1 hx hZ hown (host := "") (Or.inl (wq hw 95 rfl)) Via.refl e1 I1 (g := (mkF m 38 #[.val (.ref o0), .val (.int 1), .val (.int p2)] [(.int p2), (.int 0), (.ref o0)])) rfl (hb hby d21_38)
  have pre5 := Go.thn pre3 st4
  have pre6 : Go p e below T4 _ (mkF m 43 #[.val (.ref o0), .val (.int 1), .val (.int p2)] [(.int ((p2 >>> ((0 : Int32) &&& 31)).toInt8.toInt32)), (.int 0), (.ref o0)]) _ := fun t k => pre5 t (by
    refine XS.ishr X4.here hx rfl (hb hby d21_41) rfl ?_
    refine XS.i2b X4.here hx rfl (hb hby d21_42) rfl ?_
    exact k)
  obtain ⟨cl7, Ar7, q7, Sz7, Mn7, Hs7, Gs7⟩ := id I3
  have hin7 : ¬ ((0 : Int32) < 0 ∨ cl7.slots.size ≤ ((0 : Int32)).toNatClampNeg) := inb_of Sz7 ⟨by decide, by decide⟩
  obtain ⟨T7, h7, X7, e7, W7, st7⟩ := stB X4 hx hZ e4 Ar7 (j := (0 : Int32)) hin7 (g := (mkF m 43 #[.val (.ref o0), .val (.int 1), .val (.int p2)] [(.int ((p2 >>> ((0 : Int32) &&& 31)).toInt8.toInt32)), (.int 0), (.ref o0)])) rfl rfl (hb hby d21_43)
  have V7 : Arv Z h7 o0 ka .byte (8 : Int32) [(.int (own_b0 p2)), (.int u1), (.int u2), (.int u3), (.int u4), (.int u5), (.int u6), (.int u7)] (.int 0) := Arv.set Ar7 q7 Sz7 Mn7 Hs7 Gs7 (fits_nar_byte _) W7 0 rfl (Nat.le_of_ble_eq_true rfl)
  have N7 := Fr.snoc X7 N0 gw_o0
  have K7 : Keep h0 h7 [o0] := K0.wr W7 (Or.inl (List.mem_of_getElem? (i := 0) rfl))
  have Z7 : n0 ≤ h7.size := Nat.le_trans Z0 (Keep.of_wr W7).1
  have x8 := I0.wr W7
  have x9 := I1.wr W7
  have x10 := I2.wr W7
  have pre11 := Go.thn pre6 st7
  have pre12 : Go p e below T7 _ (mkF m 47 #[.val (.ref o0), .val (.int 1), .val (.int p2)] [(.int p2), (.int 1), (.ref o0)]) _ := fun t k => pre11 t (by
    refine XS.aloadN X7.here hx rfl (hb hby d21_44) rfl rfl ?_
    refine XS.iloadN X7.here hx rfl (hb hby d21_45) rfl ?_
    refine XS.iloadN X7.here hx rfl (hb hby d21_46) rfl ?_
    exact k)
  obtain ⟨T13, X13, e13, st13⟩ := getS2 X7 hx hZ hown (host := "") (Or.inl (wq hw 96 rfl)) Via.refl e7 x10 (g := (mkF m 47 #[.val (.ref o0), .val (.int 1), .val (.int p2)] [(.int p2), (.int 1), (.ref o0)])) rfl (hb hby d21_47)
  have pre14 := Go.thn pre12 st13
  have pre15 : Go p e below T13 _ (mkF m 52 #[.val (.ref o0), .val (.int 1), .val (.int p2)] [(.int ((p2 >>> ((8 : Int32) &&& 31)).toInt8.toInt32)), (.int 1), (.ref o0)]) _ := fun t k => pre14 t (by
    refine XS.ishr X13.here hx rfl (hb hby d21_50) rfl ?_
    refine XS.i2b X13.here hx rfl (hb hby d21_51) rfl ?_
    exact k)
  obtain ⟨cl16, Ar16, q16, Sz16, Mn16, Hs16, Gs16⟩ := id V7
  have hin16 : ¬ ((1 : Int32) < 0 ∨ cl16.slots.size ≤ ((1 : Int32)).toNatClampNeg) := inb_of Sz16 ⟨by decide, by decide⟩
  obtain ⟨T16, h16, X16, e16, W16, st16⟩ := stB X13 hx hZ e13 Ar16 (j := (1 : Int32)) hin16 (g := (mkF m 52 #[.val (.ref o0), .val (.int 1), .val (.int p2)] [(.int ((p2 >>> ((8 : Int32) &&& 31)).toInt8.toInt32)), (.int 1), (.ref o0)])) rfl rfl (hb hby d21_52)
  have V16 : Arv Z h16 o0 ka .byte (8 : Int32) [(.int (own_b0 p2)), (.int (own_b8 p2)), (.int u2), (.int u3), (.int u4), (.int u5), (.int u6), (.int u7)] (.int 0) := Arv.set Ar16 q16 Sz16 Mn16 Hs16 Gs16 (fits_nar_byte _) W16 1 rfl (Nat.le_of_ble_eq_true rfl)
  have N16 := Fr.snoc X16 N7 gw_o0
  have K16 : Keep h0 h16 [o0] := K7.wr W16 (Or.inl (List.mem_of_getElem? (i := 0) rfl))
  have Z16 : n0 ≤ h16.size := Nat.le_trans Z7 (Keep.of_wr W16).1
  have x17 := x8.wr W16
  have x18 := x9.wr W16
  have x19 := x10.wr W16
  have pre20 := Go.thn pre15 st16
  obtain ⟨fs, hr, hrun, hended, hW, hsame⟩ := X16.leave (v := none) (fun _ => rfl)
  refine ⟨_, _, ?_, hrun, hended, _, _, rfl, ?_, ⟨_, rfl⟩, hW, hsame.mono (by decide) (by decide)⟩
  · exact pre20 _ (X16.returnOut hx Bd.returns (hb hby d21_53) hr)
  · show Q21_4_0 Z o0 p2 ka u0 u1 u2 u3 u4 u5 u6 u7 h0 n0 _ T16.heap _
    rw [e16]
    exact ⟨rfl, N16, K16, V16⟩
def Q21_4_1 (Z : State) (o0 : Addr) (p2 : Int32) (ka : ClassId) (u0 : Int32) (u1 : Int32) (u2 : Int32) (u3 : Int32) (u4 : Int32) (u5 : Int32) (u6 : Int32) (u7 : Int32) (h0 : Heap) (n0 : Nat) (v : Option Value) (h : Heap) (L : List Loc) : Prop := v = none ∧ Fr n0 L ∧ Keep h0 h [o0] ∧ Arv Z h o0 ka .byte (8 : Int32) [(.int u0), (.int u1), (.int (own_b0 p2)), (.int (own_b8 p2)), (.int u4), (.int u5), (.int u6), (.int u7)] (.int 0)
set_option maxRecDepth 65536 in
set_option maxHeartbeats 40000000 in
theorem rm21_4_1 (l : Launch) (Z : State) (a0 : Array Value) (hw : ∀ d ∈ tables_1, d.before a0 Z = true) (ws : List Jvm.Cond) (o0 : Addr) (p2 : Int32) (ka : ClassId) (u0 : Int32) (u1 : Int32) (u2 : Int32) (u3 : Int32) (u4 : Int32) (u5 : Int32) (u6 : Int32) (u7 : Int32) (h0 : Heap) (n0 : Nat) (Z0 : n0 ≤ h0.size) (I0 : Sta Z h0 "java/lang/StringUTF16" "$assertionsDisabled" "Z" (.int 1)) (I1 : Sta Z h0 "java/lang/StringUTF16" "HI_BYTE_SHIFT" "I" (.int 0)) (I2 : Sta Z h0 "java/lang/StringUTF16" "LO_BYTE_SHIFT" "I" (.int 8)) (I3 : Arv Z h0 o0 ka .byte (8 : Int32) [(.int u0), (.int u1), (.int u2), (.int u3), (.int u4), (.int u5), (.int u6), (.int u7)] (.int 0)) (gw_o0 : n0 ≤ o0) :
    Met1 l Nm_18 (Jvm.Cond.code Nm_18 jdk_52_method_4_code 3 none) ws (rom 0 0 0 0) #[(.ref o0), (.int 1), (.int p2)] Z h0 (Q21_4_1 Z o0 p2 ka u0 u1 u2 u3 u4 u5 u6 u7 h0 n0) := by
  refine MetFree.of_bodySF (plainFor_of_name pn_21) hisR ?_
  intro p e s m args below meth c s₁ Bd hml0 hP hK
  obtain ⟨rfl, hZ, hh⟩ := hP
  have hx := Bd.exec
  have hby := Bd.bytes
  have hml : c.maxLocals = 3 := hml0
  have hown : s.vm.findClass "java/lang/StringUTF16" = some m.cls := findClass_of_methodNamed Bd.named
  have X0 : Stand p l e (rom 0 0 0 0) s m _ _ _ _ _ [] 0 0 := Stand.of_body Bd
  have e0 : s₁.heap = h0 := by rw [← hh, Bd.state]; rfl
  have N0 := Fr.nil n0
  have K0 : Keep h0 h0 [o0] := Keep.refl _ _
  have pre0 : Go p e below s₁ _ (mkF m 0 #[.val (.ref o0), .val (.int 1), .val (.int p2)] []) _ := fun t k => castTop (ef_21_2_1 m o0 p2) k
  obtain ⟨T1, X1, e1, st1⟩ := getS2 X0 hx hZ hown (host := "") (Or.inl (wq hw 94 rfl)) Via.refl e0 I0 (g := (mkF m 0 #[.val (.ref o0), .val (.int 1), .val (.int p2)] [])) rfl (hb hby d21_0)
  have pre2 := Go.thn pre0 st1
  have pre3 : Go p e below T1 _ (mkF m 38 #[.val (.ref o0), .val (.int 3), .val (.int p2)] [(.int p2), (.int 2), (.ref o0)]) _ := fun t k => pre2 t (by
    refine XS.ifYes X1.here hx rfl (pc0 := 3) (pc' := 28) rfl (hb hby d21_3) rfl (by decide) (by decide) (by decide) ?_
    refine XS.iloadN X1.here hx rfl (hb hby d21_28) rfl ?_
    refine XS.iconst X1.here hx rfl (hb hby d21_29) ?_
    refine XS.ishl X1.here hx rfl (hb hby d21_30) rfl ?_
    refine XS.istoreN X1.here hx rfl (hb hby d21_31) rfl (l' := #[.val (.ref o0), .val (.int 2), .val (.int p2)]) rfl ?_
    refine XS.aloadN X1.here hx rfl (hb hby d21_32) rfl rfl ?_
    refine XS.iloadN X1.here hx rfl (hb hby d21_33) rfl ?_
    refine XS.iinc X1.here hx rfl (hb hby d21_34) rfl (l' := #[.val (.ref o0), .val (.int 3), .val (.int p2)]) rfl ?_
    refine XS.iloadN X1.here hx rfl (hb hby d21_37) rfl ?_
    exact k)
  obtain ⟨T4, X4, e4, st4⟩ := getS2 X1 hx hZ hown (host := "") (Or.inl (wq hw 95 rfl)) Via.refl e1 I1 (g := (mkF m 38 #[.val (.ref o0), .val (.int 3), .val (.int p2)] [(.int p2), (.int 2), (.ref o0)])) rfl (hb hby d21_38)
  have pre5 := Go.thn pre3 st4
  have pre6 : Go p e below T4 _ (mkF m 43 #[.val (.ref o0), .val (.int 3), .val (.int p2)] [(.int ((p2 >>> ((0 : Int32) &&& 31)).toInt8.toInt32)), (.int 2), (.ref o0)]) _ := fun t k => pre5 t (by
    refine XS.ishr X4.here hx rfl (hb hby d21_41) rfl ?_
    refine XS.i2b X4.here hx rfl (hb hby d21_42) rfl ?_
    exact k)
  obtain ⟨cl7, Ar7, q7, Sz7, Mn7, Hs7, Gs7⟩ := id I3
  have hin7 : ¬ ((2 : Int32) < 0 ∨ cl7.slots.size ≤ ((2 : Int32)).toNatClampNeg) := inb_of Sz7 ⟨by decide, by decide⟩
  obtain ⟨T7, h7, X7, e7, W7, st7⟩ := stB X4 hx hZ e4 Ar7 (j := (2 : Int32)) hin7 (g := (mkF m 43 #[.val (.ref o0), .val (.int 3), .val (.int p2)] [(.int ((p2 >>> ((0 : Int32) &&& 31)).toInt8.toInt32)), (.int 2), (.ref o0)])) rfl rfl (hb hby d21_43)
  have V7 : Arv Z h7 o0 ka .byte (8 : Int32) [(.int u0), (.int u1), (.int (own_b0 p2)), (.int u3), (.int u4), (.int u5), (.int u6), (.int u7)] (.int 0) := Arv.set Ar7 q7 Sz7 Mn7 Hs7 Gs7 (fits_nar_byte _) W7 2 rfl (Nat.le_of_ble_eq_true rfl)
  have N7 := Fr.snoc X7 N0 gw_o0
  have K7 : Keep h0 h7 [o0] := K0.wr W7 (Or.inl (List.mem_of_getElem? (i := 0) rfl))
  have Z7 : n0 ≤ h7.size := Nat.le_trans Z0 (Keep.of_wr W7).1
  have x8 := I0.wr W7
  have x9 := I1.wr W7
  have x10 := I2.wr W7
  have pre11 := Go.thn pre6 st7
  have pre12 : Go p e below T7 _ (mkF m 47 #[.val (.ref o0), .val (.int 3), .val (.int p2)] [(.int p2), (.int 3), (.ref o0)]) _ := fun t k => pre11 t (by
    refine XS.aloadN X7.here hx rfl (hb hby d21_44) rfl rfl ?_
    refine XS.iloadN X7.here hx rfl (hb hby d21_45) rfl ?_
    refine XS.iloadN X7.here hx rfl (hb hby d21_46) rfl ?_
    exact k)
  obtain ⟨T13, X13, e13, st13⟩ := getS2 X7 hx hZ hown (host := "") (Or.inl (wq hw 96 rfl)) Via.refl e7 x10 (g := (mkF m 47 #[.val (.ref o0), .val (.int 3), .val (.int p2)] [(.int p2), (.int 3), (.ref o0)])) rfl (hb hby d21_47)
  have pre14 := Go.thn pre12 st13
  have pre15 : Go p e below T13 _ (mkF m 52 #[.val (.ref o0), .val (.int 3), .val (.int p2)] [(.int ((p2 >>> ((8 : Int32) &&& 31)).toInt8.toInt32)), (.int 3), (.ref o0)]) _ := fun t k => pre14 t (by
    refine XS.ishr X13.here hx rfl (hb hby d21_50) rfl ?_
    refine XS.i2b X13.here hx rfl (hb hby d21_51) rfl ?_
    exact k)
  obtain ⟨cl16, Ar16, q16, Sz16, Mn16, Hs16, Gs16⟩ := id V7
  have hin16 : ¬ ((3 : Int32) < 0 ∨ cl16.slots.size ≤ ((3 : Int32)).toNatClampNeg) := inb_of Sz16 ⟨by decide, by decide⟩
  obtain ⟨T16, h16, X16, e16, W16, st16⟩ := stB X13 hx hZ e13 Ar16 (j := (3 : Int32)) hin16 (g := (mkF m 52 #[.val (.ref o0), .val (.int 3), .val (.int p2)] [(.int ((p2 >>> ((8 : Int32) &&& 31)).toInt8.toInt32)), (.int 3), (.ref o0)])) rfl rfl (hb hby d21_52)
  have V16 : Arv Z h16 o0 ka .byte (8 : Int32) [(.int u0), (.int u1), (.int (own_b0 p2)), (.int (own_b8 p2)), (.int u4), (.int u5), (.int u6), (.int u7)] (.int 0) := Arv.set Ar16 q16 Sz16 Mn16 Hs16 Gs16 (fits_nar_byte _) W16 3 rfl (Nat.le_of_ble_eq_true rfl)
  have N16 := Fr.snoc X16 N7 gw_o0
  have K16 : Keep h0 h16 [o0] := K7.wr W16 (Or.inl (List.mem_of_getElem? (i := 0) rfl))
  have Z16 : n0 ≤ h16.size := Nat.le_trans Z7 (Keep.of_wr W16).1
  have x17 := x8.wr W16
  have x18 := x9.wr W16
  have x19 := x10.wr W16
  have pre20 := Go.thn pre15 st16
  obtain ⟨fs, hr, hrun, hended, hW, hsame⟩ := X16.leave (v := none) (fun _ => rfl)
  refine ⟨_, _, ?_, hrun, hended, _, _, rfl, ?_, ⟨_, rfl⟩, hW, hsame.mono (by decide) (by decide)⟩
  · exact pre20 _ (X16.returnOut hx Bd.returns (hb hby d21_53) hr)
  · show Q21_4_1 Z o0 p2 ka u0 u1 u2 u3 u4 u5 u6 u7 h0 n0 _ T16.heap _
    rw [e16]
    exact ⟨rfl, N16, K16, V16⟩
def Q21_4_2 (Z : State) (o0 : Addr) (p2 : Int32) (ka : ClassId) (u0 : Int32) (u1 : Int32) (u2 : Int32) (u3 : Int32) (u4 : Int32) (u5 : Int32) (u6 : Int32) (u7 : Int32) (h0 : Heap) (n0 : Nat) (v : Option Value) (h : Heap) (L : List Loc) : Prop := v = none ∧ Fr n0 L ∧ Keep h0 h [o0] ∧ Arv Z h o0 ka .byte (8 : Int32) [(.int u0), (.int u1), (.int u2), (.int u3), (.int (own_b0 p2)), (.int (own_b8 p2)), (.int u6), (.int u7)] (.int 0)
set_option maxRecDepth 65536 in
set_option maxHeartbeats 40000000 in
theorem rm21_4_2 (l : Launch) (Z : State) (a0 : Array Value) (hw : ∀ d ∈ tables_1, d.before a0 Z = true) (ws : List Jvm.Cond) (o0 : Addr) (p2 : Int32) (ka : ClassId) (u0 : Int32) (u1 : Int32) (u2 : Int32) (u3 : Int32) (u4 : Int32) (u5 : Int32) (u6 : Int32) (u7 : Int32) (h0 : Heap) (n0 : Nat) (Z0 : n0 ≤ h0.size) (I0 : Sta Z h0 "java/lang/StringUTF16" "$assertionsDisabled" "Z" (.int 1)) (I1 : Sta Z h0 "java/lang/StringUTF16" "HI_BYTE_SHIFT" "I" (.int 0)) (I2 : Sta Z h0 "java/lang/StringUTF16" "LO_BYTE_SHIFT" "I" (.int 8)) (I3 : Arv Z h0 o0 ka .byte (8 : Int32) [(.int u0), (.int u1), (.int u2), (.int u3), (.int u4), (.int u5), (.int u6), (.int u7)] (.int 0)) (gw_o0 : n0 ≤ o0) :
    Met1 l Nm_18 (Jvm.Cond.code Nm_18 jdk_52_method_4_code 3 none) ws (rom 0 0 0 0) #[(.ref o0), (.int 2), (.int p2)] Z h0 (Q21_4_2 Z o0 p2 ka u0 u1 u2 u3 u4 u5 u6 u7 h0 n0) := by
  refine MetFree.of_bodySF (plainFor_of_name pn_21) hisR ?_
  intro p e s m args below meth c s₁ Bd hml0 hP hK
  obtain ⟨rfl, hZ, hh⟩ := hP
  have hx := Bd.exec
  have hby := Bd.bytes
  have hml : c.maxLocals = 3 := hml0
  have hown : s.vm.findClass "java/lang/StringUTF16" = some m.cls := findClass_of_methodNamed Bd.named
  have X0 : Stand p l e (rom 0 0 0 0) s m _ _ _ _ _ [] 0 0 := Stand.of_body Bd
  have e0 : s₁.heap = h0 := by rw [← hh, Bd.state]; rfl
  have N0 := Fr.nil n0
  have K0 : Keep h0 h0 [o0] := Keep.refl _ _
  have pre0 : Go p e below s₁ _ (mkF m 0 #[.val (.ref o0), .val (.int 2), .val (.int p2)] []) _ := fun t k => castTop (ef_21_3_2 m o0 p2) k
  obtain ⟨T1, X1, e1, st1⟩ := getS2 X0 hx hZ hown (host := "") (Or.inl (wq hw 94 rfl)) Via.refl e0 I0 (g := (mkF m 0 #[.val (.ref o0), .val (.int 2), .val (.int p2)] [])) rfl (hb hby d21_0)
  have pre2 := Go.thn pre0 st1
  have pre3 : Go p e below T1 _ (mkF m 38 #[.val (.ref o0), .val (.int 5), .val (.int p2)] [(.int p2), (.int 4), (.ref o0)]) _ := fun t k => pre2 t (by
    refine XS.ifYes X1.here hx rfl (pc0 := 3) (pc' := 28) rfl (hb hby d21_3) rfl (by decide) (by decide) (by decide) ?_
    refine XS.iloadN X1.here hx rfl (hb hby d21_28) rfl ?_
    refine XS.iconst X1.here hx rfl (hb hby d21_29) ?_
    refine XS.ishl X1.here hx rfl (hb hby d21_30) rfl ?_
    refine XS.istoreN X1.here hx rfl (hb hby d21_31) rfl (l' := #[.val (.ref o0), .val (.int 4), .val (.int p2)]) rfl ?_
    refine XS.aloadN X1.here hx rfl (hb hby d21_32) rfl rfl ?_
    refine XS.iloadN X1.here hx rfl (hb hby d21_33) rfl ?_
    refine XS.iinc X1.here hx rfl (hb hby d21_34) rfl (l' := #[.val (.ref o0), .val (.int 5), .val (.int p2)]) rfl ?_
    refine XS.iloadN X1.here hx rfl (hb hby d21_37) rfl ?_
    exact k)
  obtain ⟨T4, X4, e4, st4⟩ := getS2 X1 hx hZ hown (host := "") (Or.inl (wq hw 95 rfl)) Via.refl e1 I1 (g := (mkF m 38 #[.val (.ref o0), .val (.int 5), .val (.int p2)] [(.int p2), (.int 4), (.ref o0)])) rfl (hb hby d21_38)
  have pre5 := Go.thn pre3 st4
  have pre6 : Go p e below T4 _ (mkF m 43 #[.val (.ref o0), .val (.int 5), .val (.int p2)] [(.int ((p2 >>> ((0 : Int32) &&& 31)).toInt8.toInt32)), (.int 4), (.ref o0)]) _ := fun t k => pre5 t (by
    refine XS.ishr X4.here hx rfl (hb hby d21_41) rfl ?_
    refine XS.i2b X4.here hx rfl (hb hby d21_42) rfl ?_
    exact k)
  obtain ⟨cl7, Ar7, q7, Sz7, Mn7, Hs7, Gs7⟩ := id I3
  have hin7 : ¬ ((4 : Int32) < 0 ∨ cl7.slots.size ≤ ((4 : Int32)).toNatClampNeg) := inb_of Sz7 ⟨by decide, by decide⟩
  obtain ⟨T7, h7, X7, e7, W7, st7⟩ := stB X4 hx hZ e4 Ar7 (j := (4 : Int32)) hin7 (g := (mkF m 43 #[.val (.ref o0), .val (.int 5), .val (.int p2)] [(.int ((p2 >>> ((0 : Int32) &&& 31)).toInt8.toInt32)), (.int 4), (.ref o0)])) rfl rfl (hb hby d21_43)
  have V7 : Arv Z h7 o0 ka .byte (8 : Int32) [(.int u0), (.int u1), (.int u2), (.int u3), (.int (own_b0 p2)), (.int u5), (.int u6), (.int u7)] (.int 0) := Arv.set Ar7 q7 Sz7 Mn7 Hs7 Gs7 (fits_nar_byte _) W7 4 rfl (Nat.le_of_ble_eq_true rfl)
  have N7 := Fr.snoc X7 N0 gw_o0
  have K7 : Keep h0 h7 [o0] := K0.wr W7 (Or.inl (List.mem_of_getElem? (i := 0) rfl))
  have Z7 : n0 ≤ h7.size := Nat.le_trans Z0 (Keep.of_wr W7).1
  have x8 := I0.wr W7
  have x9 := I1.wr W7
  have x10 := I2.wr W7
  have pre11 := Go.thn pre6 st7
  have pre12 : Go p e below T7 _ (mkF m 47 #[.val (.ref o0), .val (.int 5), .val (.int p2)] [(.int p2), (.int 5), (.ref o0)]) _ := fun t k => pre11 t (by
    refine XS.aloadN X7.here hx rfl (hb hby d21_44) rfl rfl ?_
    refine XS.iloadN X7.here hx rfl (hb hby d21_45) rfl ?_
    refine XS.iloadN X7.here hx rfl (hb hby d21_46) rfl ?_
    exact k)
  obtain ⟨T13, X13, e13, st13⟩ := getS2 X7 hx hZ hown (host := "") (Or.inl (wq hw 96 rfl)) Via.refl e7 x10 (g := (mkF m 47 #[.val (.ref o0), .val (.int 5), .val (.int p2)] [(.int p2), (.int 5), (.ref o0)])) rfl (hb hby d21_47)
  have pre14 := Go.thn pre12 st13
  have pre15 : Go p e below T13 _ (mkF m 52 #[.val (.ref o0), .val (.int 5), .val (.int p2)] [(.int ((p2 >>> ((8 : Int32) &&& 31)).toInt8.toInt32)), (.int 5), (.ref o0)]) _ := fun t k => pre14 t (by
    refine XS.ishr X13.here hx rfl (hb hby d21_50) rfl ?_
    refine XS.i2b X13.here hx rfl (hb hby d21_51) rfl ?_
    exact k)
  obtain ⟨cl16, Ar16, q16, Sz16, Mn16, Hs16, Gs16⟩ := id V7
  have hin16 : ¬ ((5 : Int32) < 0 ∨ cl16.slots.size ≤ ((5 : Int32)).toNatClampNeg) := inb_of Sz16 ⟨by decide, by decide⟩
  obtain ⟨T16, h16, X16, e16, W16, st16⟩ := stB X13 hx hZ e13 Ar16 (j := (5 : Int32)) hin16 (g := (mkF m 52 #[.val (.ref o0), .val (.int 5), .val (.int p2)] [(.int ((p2 >>> ((8 : Int32) &&& 31)).toInt8.toInt32)), (.int 5), (.ref o0)])) rfl rfl (hb hby d21_52)
  have V16 : Arv Z h16 o0 ka .byte (8 : Int32) [(.int u0), (.int u1), (.int u2), (.int u3), (.int (own_b0 p2)), (.int (own_b8 p2)), (.int u6), (.int u7)] (.int 0) := Arv.set Ar16 q16 Sz16 Mn16 Hs16 Gs16 (fits_nar_byte _) W16 5 rfl (Nat.le_of_ble_eq_true rfl)
  have N16 := Fr.snoc X16 N7 gw_o0
  have K16 : Keep h0 h16 [o0] := K7.wr W16 (Or.inl (List.mem_of_getElem? (i := 0) rfl))
  have Z16 : n0 ≤ h16.size := Nat.le_trans Z7 (Keep.of_wr W16).1
  have x17 := x8.wr W16
  have x18 := x9.wr W16
  have x19 := x10.wr W16
  have pre20 := Go.thn pre15 st16
  obtain ⟨fs, hr, hrun, hended, hW, hsame⟩ := X16.leave (v := none) (fun _ => rfl)
  refine ⟨_, _, ?_, hrun, hended, _, _, rfl, ?_, ⟨_, rfl⟩, hW, hsame.mono (by decide) (by decide)⟩
  · exact pre20 _ (X16.returnOut hx Bd.returns (hb hby d21_53) hr)
  · show Q21_4_2 Z o0 p2 ka u0 u1 u2 u3 u4 u5 u6 u7 h0 n0 _ T16.heap _
    rw [e16]
    exact ⟨rfl, N16, K16, V16⟩
theorem ef_21_4_3 (m : MethodId) (x0 : Addr) (x2 : Int32) : entryFrame m #[(.ref x0), (.int 3), (.int x2)] 3 = mkF m 0 #[.val (.ref x0), .val (.int 3), .val (.int x2)] [] := by first | (simp [entryFrame, mkF, argsToLocals, Value.category]; done) | rfl
def Q21_4_3 (Z : State) (o0 : Addr) (p2 : Int32) (ka : ClassId) (u0 : Int32) (u1 : Int32) (u2 : Int32) (u3 : Int32) (u4 : Int32) (u5 : Int32) (u6 : Int32) (u7 : Int32) (h0 : Heap) (n0 : Nat) (v : Option Value) (h : Heap) (L : List Loc) : Prop := v = none ∧ Fr n0 L ∧ Keep h0 h [o0] ∧ Arv Z h o0 ka .byte (8 : Int32) [(.int u0), (.int u1), (.int u2), (.int u3), (.int u4), (.int u5), (.int (own_b0 p2)), (.int (own_b8 p2))] (.int 0)
set_option maxRecDepth 65536 in
set_option maxHeartbeats 40000000 in
theorem rm21_4_3 (l : Launch) (Z : State) (a0 : Array Value) (hw : ∀ d ∈ tables_1, d.before a0 Z = true) (ws : List Jvm.Cond) (o0 : Addr) (p2 : Int32) (ka : ClassId) (u0 : Int32) (u1 : Int32) (u2 : Int32) (u3 : Int32) (u4 : Int32) (u5 : Int32) (u6 : Int32) (u7 : Int32) (h0 : Heap) (n0 : Nat) (Z0 : n0 ≤ h0.size) (I0 : Sta Z h0 "java/lang/StringUTF16" "$assertionsDisabled" "Z" (.int 1)) (I1 : Sta Z h0 "java/lang/StringUTF16" "HI_BYTE_SHIFT" "I" (.int 0)) (I2 : Sta Z h0 "java/lang/StringUTF16" "LO_BYTE_SHIFT" "I" (.int 8)) (I3 : Arv Z h0 o0 ka .byte (8 : Int32) [(.int u0), (.int u1), (.int u2), (.int u3), (.int u4), (.int u5), (.int u6), (.int u7)] (.int 0)) (gw_o0 : n0 ≤ o0) :
    Met1 l Nm_18 (Jvm.Cond.code Nm_18 jdk_52_method_4_code 3 none) ws (rom 0 0 0 0) #[(.ref o0), (.int 3), (.int p2)] Z h0 (Q21_4_3 Z o0 p2 ka u0 u1 u2 u3 u4 u5 u6 u7 h0 n0) := by
  refine MetFree.of_bodySF (plainFor_of_name pn_21) hisR ?_
  intro p e s m args below meth c s₁ Bd hml0 hP hK
  obtain ⟨rfl, hZ, hh⟩ := hP
  have hx := Bd.exec
  have hby := Bd.bytes
  have hml : c.maxLocals = 3 := hml0
  have hown : s.vm.findClass "java/lang/StringUTF16" = some m.cls := findClass_of_methodNamed Bd.named
  have X0 : Stand p l e (rom 0 0 0 0) s m _ _ _ _ _ [] 0 0 := Stand.of_body Bd
  have e0 : s₁.heap = h0 := by rw [← hh, Bd.state]; rfl
  have N0 := Fr.nil n0
  have K0 : Keep h0 h0 [o0] := Keep.refl _ _
  have pre0 : Go p e below s₁ _ (mkF m 0 #[.val (.ref o0), .val (.int 3), .val (.int p2)] []) _ := fun t k => castTop (ef_21_4_3 m o0 p2) k
  obtain ⟨T1, X1, e1, st1⟩ := getS2 X0 hx hZ hown (host := "") (Or.inl (wq hw 94 rfl)) Via.refl e0 I0 (g := (mkF m 0 #[.val (.ref o0), .val (.int 3), .val (.int p2)] [])) rfl (hb hby d21_0)
  have pre2 := Go.thn pre0 st1
  have pre3 : Go p e below T1 _ (mkF m 38 #[.val (.ref o0), .val (.int 7), .val (.int p2)] [(.int p2), (.int 6), (.ref o0)]) _ := fun t k => pre2 t (by
    refine XS.ifYes X1.here hx rfl (pc0 := 3) (pc' := 28) rfl (hb hby d21_3) rfl (by decide) (by decide) (by decide) ?_
    refine XS.iloadN X1.here hx rfl (hb hby d21_28) rfl ?_
    refine XS.iconst X1.here hx rfl (hb hby d21_29) ?_
    refine XS.ishl X1.here hx rfl (hb hby d21_30) rfl ?_
    refine XS.istoreN X1.here hx rfl (hb hby d21_31) rfl (l' := #[.val (.ref o0), .val (.int 6), .val (.int p2)]) rfl ?_
    refine XS.aloadN X1.here hx rfl (hb hby d21_32) rfl rfl ?_
    refine XS.iloadN X1.here hx rfl (hb hby d21_33) rfl ?_
    refine XS.iinc X1.here hx rfl (hb hby d21_34) rfl (l' := #[.val (.ref o0), .val (.int 7), .val (.int p2)]) rfl ?_
    refine XS.iloadN X1.here hx rfl (hb hby d21_37) rfl ?_
    exact k)
  obtain ⟨T4, X4, e4, st4⟩ := getS2 X1 hx hZ hown (host := "") (Or.inl (wq hw 95 rfl)) Via.refl e1 I1 (g := (mkF m 38 #[.val (.ref o0), .val (.int 7), .val (.int p2)] [(.int p2), (.int 6), (.ref o0)])) rfl (hb hby d21_38)
  have pre5 := Go.thn pre3 st4
  have pre6 : Go p e below T4 _ (mkF m 43 #[.val (.ref o0), .val (.int 7), .val (.int p2)] [(.int ((p2 >>> ((0 : Int32) &&& 31)).toInt8.toInt32)), (.int 6), (.ref o0)]) _ := fun t k => pre5 t (by
    refine XS.ishr X4.here hx rfl (hb hby d21_41) rfl ?_
    refine XS.i2b X4.here hx rfl (hb hby d21_42) rfl ?_
    exact k)
  obtain ⟨cl7, Ar7, q7, Sz7, Mn7, Hs7, Gs7⟩ := id I3
  have hin7 : ¬ ((6 : Int32) < 0 ∨ cl7.slots.size ≤ ((6 : Int32)).toNatClampNeg) := inb_of Sz7 ⟨by decide, by decide⟩
  obtain ⟨T7, h7, X7, e7, W7, st7⟩ := stB X4 hx hZ e4 Ar7 (j := (6 : Int32)) hin7 (g := (mkF m 43 #[.val (.ref o0), .val (.int 7), .val (.int p2)] [(.int ((p2 >>> ((0 : Int32) &&& 31)).toInt8.toInt32)), (.int 6), (.ref o0)])) rfl rfl (hb hby d21_43)
  have V7 : Arv Z h7 o0 ka .byte (8 : Int32) [(.int u0), (.int u1), (.int u2), (.int u3), (.int u4), (.int u5), (.int (own_b0 p2)), (.int u7)] (.int 0) := Arv.set Ar7 q7 Sz7 Mn7 Hs7 Gs7 (fits_nar_byte _) W7 6 rfl (Nat.le_of_ble_eq_true rfl)
  have N7 := Fr.snoc X7 N0 gw_o0
  have K7 : Keep h0 h7 [o0] := K0.wr W7 (Or.inl (List.mem_of_getElem? (i := 0) rfl))
  have Z7 : n0 ≤ h7.size := Nat.le_trans Z0 (Keep.of_wr W7).1
  have x8 := I0.wr W7
  have x9 := I1.wr W7
  have x10 := I2.wr W7
  have pre11 := Go.thn pre6 st7
  have pre12 : Go p e below T7 _ (mkF m 47 #[.val (.ref o0), .val (.int 7), .val (.int p2)] [(.int p2), (.int 7), (.ref o0)]) _ := fun t k => pre11 t (by
    refine XS.aloadN X7.here hx rfl (hb hby d21_44) rfl rfl ?_
    refine XS.iloadN X7.here hx rfl (hb hby d21_45) rfl ?_
    refine XS.iloadN X7.here hx rfl (hb hby d21_46) rfl ?_
    exact k)
  obtain ⟨T13, X13, e13, st13⟩ := getS2 X7 hx hZ hown (host := "") (Or.inl (wq hw 96 rfl)) Via.refl e7 x10 (g := (mkF m 47 #[.val (.ref o0), .val (.int 7), .val (.int p2)] [(.int p2), (.int 7), (.ref o0)])) rfl (hb hby d21_47)
  have pre14 := Go.thn pre12 st13
  have pre15 : Go p e below T13 _ (mkF m 52 #[.val (.ref o0), .val (.int 7), .val (.int p2)] [(.int ((p2 >>> ((8 : Int32) &&& 31)).toInt8.toInt32)), (.int 7), (.ref o0)]) _ := fun t k => pre14 t (by
    refine XS.ishr X13.here hx rfl (hb hby d21_50) rfl ?_
    refine XS.i2b X13.here hx rfl (hb hby d21_51) rfl ?_
    exact k)
  obtain ⟨cl16, Ar16, q16, Sz16, Mn16, Hs16, Gs16⟩ := id V7
  have hin16 : ¬ ((7 : Int32) < 0 ∨ cl16.slots.size ≤ ((7 : Int32)).toNatClampNeg) := inb_of Sz16 ⟨by decide, by decide⟩
  obtain ⟨T16, h16, X16, e16, W16, st16⟩ := stB X13 hx hZ e13 Ar16 (j := (7 : Int32)) hin16 (g := (mkF m 52 #[.val (.ref o0), .val (.int 7), .val (.int p2)] [(.int ((p2 >>> ((8 : Int32) &&& 31)).toInt8.toInt32)), (.int 7), (.ref o0)])) rfl rfl (hb hby d21_52)
  have V16 : Arv Z h16 o0 ka .byte (8 : Int32) [(.int u0), (.int u1), (.int u2), (.int u3), (.int u4), (.int u5), (.int (own_b0 p2)), (.int (own_b8 p2))] (.int 0) := Arv.set Ar16 q16 Sz16 Mn16 Hs16 Gs16 (fits_nar_byte _) W16 7 rfl (Nat.le_of_ble_eq_true rfl)
  have N16 := Fr.snoc X16 N7 gw_o0
  have K16 : Keep h0 h16 [o0] := K7.wr W16 (Or.inl (List.mem_of_getElem? (i := 0) rfl))
  have Z16 : n0 ≤ h16.size := Nat.le_trans Z7 (Keep.of_wr W16).1
  have x17 := x8.wr W16
  have x18 := x9.wr W16
  have x19 := x10.wr W16
  have pre20 := Go.thn pre15 st16
  obtain ⟨fs, hr, hrun, hended, hW, hsame⟩ := X16.leave (v := none) (fun _ => rfl)
  refine ⟨_, _, ?_, hrun, hended, _, _, rfl, ?_, ⟨_, rfl⟩, hW, hsame.mono (by decide) (by decide)⟩
  · exact pre20 _ (X16.returnOut hx Bd.returns (hb hby d21_53) hr)
  · show Q21_4_3 Z o0 p2 ka u0 u1 u2 u3 u4 u5 u6 u7 h0 n0 _ T16.heap _
    rw [e16]
    exact ⟨rfl, N16, K16, V16⟩
theorem ef_18_4 (m : MethodId) (x0 : Addr) : entryFrame m #[(.ref x0), (.int 0), (.int 4)] 5 = mkF m 0 #[.val (.ref x0), .val (.int 0), .val (.int 4), .unset, .unset] [] := by first | (simp [entryFrame, mkF, argsToLocals, Value.category]; done) | rfl
def Q18_4 (Z : State) (o0 : Addr) (kc : ClassId) (w0 : Int32) (w1 : Int32) (w2 : Int32) (w3 : Int32) (h0 : Heap) (n0 : Nat) (v : Option Value) (h : Heap) (L : List Loc) : Prop := ∃ (b1_0 : Addr) (k_b1_0 : ClassId), v = (some (.ref b1_0)) ∧ Fr n0 L ∧ Keep h0 h [] ∧ h0.size ≤ b1_0 ∧ Arv Z h b1_0 k_b1_0 .byte (8 : Int32) [(.int (own_b0 w0)), (.int (own_b8 w0)), (.int (own_b0 w1)), (.int (own_b8 w1)), (.int (own_b0 w2)), (.int (own_b8 w2)), (.int (own_b0 w3)), (.int (own_b8 w3))] (.int 0)
set_option maxRecDepth 65536 in
set_option maxHeartbeats 40000000 in
theorem rm18_4 (l : Launch) (Z : State) (a0 : Array Value) (hw : ∀ d ∈ tables_1, d.before a0 Z = true) (ws : List Jvm.Cond) (o0 : Addr) (kc : ClassId) (w0 : Int32) (w1 : Int32) (w2 : Int32) (w3 : Int32) (h0 : Heap) (n0 : Nat) (Z0 : n0 ≤ h0.size) (I0 : Sta Z h0 "java/lang/StringUTF16" "$assertionsDisabled" "Z" (.int 1)) (I1 : Sta Z h0 "java/lang/StringUTF16" "HI_BYTE_SHIFT" "I" (.int 0)) (I2 : Sta Z h0 "java/lang/StringUTF16" "LO_BYTE_SHIFT" "I" (.int 8)) (I3 : Arv Z h0 o0 kc .char (4 : Int32) [(.int w0), (.int w1), (.int w2), (.int w3)] (.int 0)) :
    Met1 l Nm_19 (Jvm.Cond.code Nm_19 jdk_52_method_14_code 5 (some (.array .byte))) ws (rom 2 1 8 24) #[(.ref o0), (.int 0), (.int 4)] Z h0 (Q18_4 Z o0 kc w0 w1 w2 w3 h0 n0) := by
  refine MetFree.of_bodySF (plainFor_of_name pn_18) hisR ?_
  intro p e s m args below meth c s₁ Bd hml0 hP hK
  obtain ⟨rfl, hZ, hh⟩ := hP
  have hx := Bd.exec
  have hby := Bd.bytes
  have hml : c.maxLocals = 5 := hml0
  have hown : s.vm.findClass "java/lang/StringUTF16" = some m.cls := findClass_of_methodNamed Bd.named
  have X0 : Stand p l e (rom 2 1 8 24) s m _ _ _ _ _ [] 0 0 := Stand.of_body Bd
  have e0 : s₁.heap = h0 := by rw [← hh, Bd.state]; rfl
  have N0 := Fr.nil n0
  have K0 : Keep h0 h0 [] := Keep.refl _ _
  have pre0 : Go p e below s₁ _ (mkF m 0 #[.val (.ref o0), .val (.int 0), .val (.int 4), .unset, .unset] []) _ := fun t k => castTop (ef_18_4 m o0) k
  have pre1 : Go p e below s₁ _ (mkF m 1 #[.val (.ref o0), .val (.int 0), .val (.int 4), .unset, .unset] [(.int 4)]) _ := fun t k => pre0 t (by
    refine XS.iloadN X0.here hx rfl (hb hby d18_0) rfl ?_
    exact k)
  obtain ⟨_, _, ⟨T2, L2, k2, n2⟩, -, X2, ⟨Lc2, hQ2, l2, y2, z2⟩, st2⟩ := Jvm.LawKit.callS X0 hx (y := Nm_17) hown (mvT hZ (wq hw 84 rfl)) (mvT hZ (wq hw 85 rfl)) (mvT hZ (wq hw 45 rfl)) (mvT hZ (wq hw 86 rfl)) (by decide) (backOf (W := 0) (rm19_4 l Z a0 hw []  h0 n0 Z0) hZ (wq hw 86 rfl) (wq hw 45 rfl) (by decide) (by decide)) (g := (mkF m 1 #[.val (.ref o0), .val (.int 0), .val (.int 4), .unset, .unset] [(.int 4)])) rfl (by rw [hml]; rfl) (argsL := [(.int 4)]) (rest := []) (lenOf pd__I__B rfl) rfl (w00 rfl) (hb hby d18_1) (fun _ _ => ⟨rfl, e0, (by decide : 0 + 1 ≤ _), (by decide : 0 + 8 ≤ _)⟩)
  dsimp only [Pt.U, Pt.locs, Pt.cells, Pt.slots] at X2 l2 y2 z2 st2 hQ2
  subst l2 y2 z2
  obtain ⟨b1_0, k_b4_2, rfl, Nq2, Kq2, gz2_b1_0, o2_0⟩ := hQ2
  have N2 := Fr.app N0 Nq2
  have K2 : Keep h0 T2.heap [] := K0.trans Kq2 all0
  have Z2 : n0 ≤ T2.heap.size := Nat.le_trans Z0 Kq2.1
  have x3 := own_staK I0 Kq2 all0
  have x4 := own_staK I1 Kq2 all0
  have x5 := own_staK I2 Kq2 all0
  have x6 := I3.keep Kq2 nin0
  have gg2_b1_0 : n0 ≤ b1_0 := Nat.le_trans Z0 gz2_b1_0
  have sz2_b1_0 : h0.size ≤ b1_0 := Nat.le_trans K0.1 gz2_b1_0
  have ne2_o0_b1_0 : o0 ≠ b1_0 := Nat.ne_of_lt (Nat.lt_of_lt_of_le I3.lt gz2_b1_0)
  have pre7 := Go.thn pre1 st2
  have pre8 : Go p e below T2 _ (mkF m 19 #[.val (.ref o0), .val (.int 0), .val (.int 4), .val (.ref b1_0), .val (.int 0)] [(.int 0), (.ref o0), (.int 0), (.ref b1_0)]) _ := fun t k => pre7 t (by
    refine XS.astoreN X2.here hx rfl (hb hby d18_4) rfl rfl (l' := #[.val (.ref o0), .val (.int 0), .val (.int 4), .val (.ref b1_0), .unset]) rfl ?_
    refine XS.iconst X2.here hx rfl (hb hby d18_5) ?_
    refine XS.istore X2.here hx rfl (hb hby d18_6) rfl (l' := #[.val (.ref o0), .val (.int 0), .val (.int 4), .val (.ref b1_0), .val (.int 0)]) rfl ?_
    refine XS.iload X2.here hx rfl (hb hby d18_8) rfl ?_
    refine XS.iloadN X2.here hx rfl (hb hby d18_10) rfl ?_
    refine XS.icmpNo X2.here hx rfl (hb hby d18_11) rfl (by decide) ?_
    refine XS.aloadN X2.here hx rfl (hb hby d18_14) rfl rfl ?_
    refine XS.iload X2.here hx rfl (hb hby d18_15) rfl ?_
    refine XS.aloadN X2.here hx rfl (hb hby d18_17) rfl rfl ?_
    refine XS.iloadN X2.here hx rfl (hb hby d18_18) rfl ?_
    exact k)
  obtain ⟨cl9, Ar9, -, Sz9, Mn9, Hs9, -⟩ := id x6
  have hin9 : ¬ ((0 : Int32) < 0 ∨ cl9.slots.size ≤ ((0 : Int32)).toNatClampNeg) := inb_of Sz9 ⟨by decide, by decide⟩
  have hat9 : cl9.slots[((0 : Int32)).toNatClampNeg]? = some (.int w0) := Hs9.at hin9 rfl
  have pre10 : Go p e below T2 _ (mkF m 20 #[.val (.ref o0), .val (.int 0), .val (.int 4), .val (.ref b1_0), .val (.int 0)] [(.int w0), (.int 0), (.ref b1_0)]) _ := fun t k => pre8 t (by
    show Steps p.tables e below (T2.setTop (mkF m 19 #[.val (.ref o0), .val (.int 0), .val (.int 4), .val (.ref b1_0), .val (.int 0)] [(.int 0), (.ref o0), (.int 0), (.ref b1_0)])) _
    refine X2.caload hx (j := (0 : Int32)) (v := (.int w0)) Ar9.1 (State.isArrayOf_alike hZ.alike Ar9.2.1) Ar9.2.2 hin9 hat9 (g := (mkF m 19 #[.val (.ref o0), .val (.int 0), .val (.int 4), .val (.ref b1_0), .val (.int 0)] [(.int 0), (.ref o0), (.int 0), (.ref b1_0)])) rfl rfl (hb hby d18_19) _ ?_
    exact k)
  obtain ⟨_, _, ⟨T11, L11, k11, n11⟩, -, X11, ⟨Lc11, hQ11, l11, y11, z11⟩, st11⟩ := Jvm.LawKit.callS X2 hx (y := Nm_18) hown (mvT hZ (wq hw 91 rfl)) (mvT hZ (wq hw 92 rfl)) (mvT hZ (wq hw 45 rfl)) (mvT hZ (wq hw 93 rfl)) (by decide) (backOf (W := 0) (rm21_4_0 l Z a0 hw [] b1_0 w0 _ (0 : Int32) (0 : Int32) (0 : Int32) (0 : Int32) (0 : Int32) (0 : Int32) (0 : Int32) (0 : Int32) T2.heap n0 Z2 x3 x4 x5 o2_0 gg2_b1_0) hZ (wq hw 93 rfl) (wq hw 45 rfl) (by decide) (by decide)) (g := (mkF m 20 #[.val (.ref o0), .val (.int 0), .val (.int 4), .val (.ref b1_0), .val (.int 0)] [(.int w0), (.int 0), (.ref b1_0)])) rfl (by rw [hml]; rfl) (argsL := [(.ref b1_0), (.int 0), (.int w0)]) (rest := []) (lenOf pd___BII_V rfl) rfl (w00 rfl) (hb hby d18_20) (fun _ _ => ⟨rfl, rfl, (by decide : 1 + 0 ≤ _), (by decide : 8 + 0 ≤ _)⟩)
  dsimp only [Pt.U, Pt.locs, Pt.cells, Pt.slots] at X11 l11 y11 z11 st11 hQ11
  subst l11 y11 z11
  obtain ⟨rfl, Nq11, Kq11, o11_0⟩ := hQ11
  have N11 := Fr.app N2 Nq11
  have K11 : Keep h0 T11.heap [] := K2.trans Kq11 (allS (Or.inr sz2_b1_0) all0)
  have Z11 : n0 ≤ T11.heap.size := Nat.le_trans Z2 Kq11.1
  have x12 := own_staK x3 Kq11 (allS (own_plV o2_0) all0)
  have x13 := own_staK x4 Kq11 (allS (own_plV o2_0) all0)
  have x14 := own_staK x5 Kq11 (allS (own_plV o2_0) all0)
  have x15 := x6.keep Kq11 (ninS ne2_o0_b1_0 nin0)
  have pre16 := Go.thn pre10 st11
  have pre17 : Go p e below T11 _ (mkF m 19 #[.val (.ref o0), .val (.int 1), .val (.int 4), .val (.ref b1_0), .val (.int 1)] [(.int 1), (.ref o0), (.int 1), (.ref b1_0)]) _ := fun t k => pre16 t (by
    refine XS.iinc X11.here hx rfl (hb hby d18_23) rfl (l' := #[.val (.ref o0), .val (.int 1), .val (.int 4), .val (.ref b1_0), .val (.int 0)]) rfl ?_
    refine XS.iinc X11.here hx rfl (hb hby d18_26) rfl (l' := #[.val (.ref o0), .val (.int 1), .val (.int 4), .val (.ref b1_0), .val (.int 1)]) rfl ?_
    refine XS.goto X11.here hx rfl (pc0 := 29) (pc' := 8) rfl (hb hby d18_29) (by decide) (by decide) ?_
    refine XS.iload X11.here hx rfl (hb hby d18_8) rfl ?_
    refine XS.iloadN X11.here hx rfl (hb hby d18_10) rfl ?_
    refine XS.icmpNo X11.here hx rfl (hb hby d18_11) rfl (by decide) ?_
    refine XS.aloadN X11.here hx rfl (hb hby d18_14) rfl rfl ?_
    refine XS.iload X11.here hx rfl (hb hby d18_15) rfl ?_
    refine XS.aloadN X11.here hx rfl (hb hby d18_17) rfl rfl ?_
    refine XS.iloadN X11.here hx rfl (hb hby d18_18) rfl ?_
    exact k)
  obtain ⟨cl18, Ar18, -, Sz18, Mn18, Hs18, -⟩ := id x15
  have hin18 : ¬ ((1 : Int32) < 0 ∨ cl18.slots.size ≤ ((1 : Int32)).toNatClampNeg) := inb_of Sz18 ⟨by decide, by decide⟩
  have hat18 : cl18.slots[((1 : Int32)).toNatClampNeg]? = some (.int w1) := Hs18.at hin18 rfl
  have pre19 : Go p e below T11 _ (mkF m 20 #[.val (.ref o0), .val (.int 1), .val (.int 4), .val (.ref b1_0), .val (.int 1)] [(.int w1), (.int 1), (.ref b1_0)]) _ := fun t k => pre17 t (by
    show Steps p.tables e below (T11.setTop (mkF m 19 #[.val (.ref o0), .val (.int 1), .val (.int 4), .val (.ref b1_0), .val (.int 1)] [(.int 1), (.ref o0), (.int 1), (.ref b1_0)])) _
    refine X11.caload hx (j := (1 : Int32)) (v := (.int w1)) Ar18.1 (State.isArrayOf_alike hZ.alike Ar18.2.1) Ar18.2.2 hin18 hat18 (g := (mkF m 19 #[.val (.ref o0), .val (.int 1), .val (.int 4), .val (.ref b1_0), .val (.int 1)] [(.int 1), (.ref o0), (.int 1), (.ref b1_0)])) rfl rfl (hb hby d18_19) _ ?_
    exact k)
  obtain ⟨_, _, ⟨T20, L20, k20, n20⟩, -, X20, ⟨Lc20, hQ20, l20, y20, z20⟩, st20⟩ := Jvm.LawKit.callS X11 hx (y := Nm_18) hown (mvT hZ (wq hw 91 rfl)) (mvT hZ (wq hw 92 rfl)) (mvT hZ (wq hw 45 rfl)) (mvT hZ (wq hw 93 rfl)) (by decide) (backOf (W := 0) (rm21_4_1 l Z a0 hw [] b1_0 w1 _ (own_b0 w0) (own_b8 w0) (0 : Int32) (0 : Int32) (0 : Int32) (0 : Int32) (0 : Int32) (0 : Int32) T11.heap n0 Z11 x12 x13 x14 o11_0 gg2_b1_0) hZ (wq hw 93 rfl) (wq hw 45 rfl) (by decide) (by decide)) (g := (mkF m 20 #[.val (.ref o0), .val (.int 1), .val (.int 4), .val (.ref b1_0), .val (.int 1)] [(.int w1), (.int 1), (.ref b1_0)])) rfl (by rw [hml]; rfl) (argsL := [(.ref b1_0), (.int 1), (.int w1)]) (rest := []) (lenOf pd___BII_V rfl) rfl (w00 rfl) (hb hby d18_20) (fun _ _ => ⟨rfl, rfl, (by decide : 1 + 0 ≤ _), (by decide : 8 + 0 ≤ _)⟩)
  dsimp only [Pt.U, Pt.locs, Pt.cells, Pt.slots] at X20 l20 y20 z20 st20 hQ20
  subst l20 y20 z20
  obtain ⟨rfl, Nq20, Kq20, o20_0⟩ := hQ20
  have N20 := Fr.app N11 Nq20
  have K20 : Keep h0 T20.heap [] := K11.trans Kq20 (allS (Or.inr sz2_b1_0) all0)
  have Z20 : n0 ≤ T20.heap.size := Nat.le_trans Z11 Kq20.1
  have x21 := own_staK x12 Kq20 (allS (own_plV o11_0) all0)
  have x22 := own_staK x13 Kq20 (allS (own_plV o11_0) all0)
  have x23 := own_staK x14 Kq20 (allS (own_plV o11_0) all0)
  have x24 := x15.keep Kq20 (ninS ne2_o0_b1_0 nin0)
  have pre25 := Go.thn pre19 st20
  have pre26 : Go p e below T20 _ (mkF m 19 #[.val (.ref o0), .val (.int 2), .val (.int 4), .val (.ref b1_0), .val (.int 2)] [(.int 2), (.ref o0), (.int 2), (.ref b1_0)]) _ := fun t k => pre25 t (by
    refine XS.iinc X20.here hx rfl (hb hby d18_23) rfl (l' := #[.val (.ref o0), .val (.int 2), .val (.int 4), .val (.ref b1_0), .val (.int 1)]) rfl ?_
    refine XS.iinc X20.here hx rfl (hb hby d18_26) rfl (l' := #[.val (.ref o0), .val (.int 2), .val (.int 4), .val (.ref b1_0), .val (.int 2)]) rfl ?_
    refine XS.goto X20.here hx rfl (pc0 := 29) (pc' := 8) rfl (hb hby d18_29) (by decide) (by decide) ?_
    refine XS.iload X20.here hx rfl (hb hby d18_8) rfl ?_
    refine XS.iloadN X20.here hx rfl (hb hby d18_10) rfl ?_
    refine XS.icmpNo X20.here hx rfl (hb hby d18_11) rfl (by decide) ?_
    refine XS.aloadN X20.here hx rfl (hb hby d18_14) rfl rfl ?_
    refine XS.iload X20.here hx rfl (hb hby d18_15) rfl ?_
    refine XS.aloadN X20.here hx rfl (hb hby d18_17) rfl rfl ?_
    refine XS.iloadN X20.here hx rfl (hb hby d18_18) rfl ?_
    exact k)
  obtain ⟨cl27, Ar27, -, Sz27, Mn27, Hs27, -⟩ := id x24
  have hin27 : ¬ ((2 : Int32) < 0 ∨ cl27.slots.size ≤ ((2 : Int32)).toNatClampNeg) := inb_of Sz27 ⟨by decide, by decide⟩
  have hat27 : cl27.slots[((2 : Int32)).toNatClampNeg]? = some (.int w2) := Hs27.at hin27 rfl
  have pre28 : Go p e below T20 _ (mkF m 20 #[.val (.ref o0), .val (.int 2), .val (.int 4), .val (.ref b1_0), .val (.int 2)] [(.int w2), (.int 2), (.ref b1_0)]) _ := fun t k => pre26 t (by
    show Steps p.tables e below (T20.setTop (mkF m 19 #[.val (.ref o0), .val (.int 2), .val (.int 4), .val (.ref b1_0), .val (.int 2)] [(.int 2), (.ref o0), (.int 2), (.ref b1_0)])) _
    refine X20.caload hx (j := (2 : Int32)) (v := (.int w2)) Ar27.1 (State.isArrayOf_alike hZ.alike Ar27.2.1) Ar27.2.2 hin27 hat27 (g := (mkF m 19 #[.val (.ref o0), .val (.int 2), .val (.int 4), .val (.ref b1_0), .val (.int 2)] [(.int 2), (.ref o0), (.int 2), (.ref b1_0)])) rfl rfl (hb hby d18_19) _ ?_
    exact k)
  obtain ⟨_, _, ⟨T29, L29, k29, n29⟩, -, X29, ⟨Lc29, hQ29, l29, y29, z29⟩, st29⟩ := Jvm.LawKit.callS X20 hx (y := Nm_18) hown (mvT hZ (wq hw 91 rfl)) (mvT hZ (wq hw 92 rfl)) (mvT hZ (wq hw 45 rfl)) (mvT hZ (wq hw 93 rfl)) (by decide) (backOf (W := 0) (rm21_4_2 l Z a0 hw [] b1_0 w2 _ (own_b0 w0) (own_b8 w0) (own_b0 w1) (own_b8 w1) (0 : Int32) (0 : Int32) (0 : Int32) (0 : Int32) T20.heap n0 Z20 x21 x22 x23 o20_0 gg2_b1_0) hZ (wq hw 93 rfl) (wq hw 45 rfl) (by decide) (by decide)) (g := (mkF m 20 #[.val (.ref o0), .val (.int 2), .val (.int 4), .val (.ref b1_0), .val (.int 2)] [(.int w2), (.int 2), (.ref b1_0)])) rfl (by rw [hml]; rfl) (argsL := [(.ref b1_0), (.int 2), (.int w2)]) (rest := []) (lenOf pd___BII_V rfl) rfl (w00 rfl) (hb hby d18_20) (fun _ _ => ⟨rfl, rfl, (by decide : 1 + 0 ≤ _), (by decide : 8 + 0 ≤ _)⟩)
  dsimp only [Pt.U, Pt.locs, Pt.cells, Pt.slots] at X29 l29 y29 z29 st29 hQ29
  subst l29 y29 z29
  obtain ⟨rfl, Nq29, Kq29, o29_0⟩ := hQ29
  have N29 := Fr.app N20 Nq29
  have K29 : Keep h0 T29.heap [] := K20.trans Kq29 (allS (Or.inr sz2_b1_0) all0)
  have Z29 : n0 ≤ T29.heap.size := Nat.le_trans Z20 Kq29.1
  have x30 := own_staK x21 Kq29 (allS (own_plV o20_0) all0)
  have x31 := own_staK x22 Kq29 (allS (own_plV o20_0) all0)
  have x32 := own_staK x23 Kq29 (allS (own_plV o20_0) all0)
  have x33 := x24.keep Kq29 (ninS ne2_o0_b1_0 nin0)
  have pre34 := Go.thn pre28 st29
  have pre35 : Go p e below T29 _ (mkF m 19 #[.val (.ref o0), .val (.int 3), .val (.int 4), .val (.ref b1_0), .val (.int 3)] [(.int 3), (.ref o0), (.int 3), (.ref b1_0)]) _ := fun t k => pre34 t (by
    refine XS.iinc X29.here hx rfl (hb hby d18_23) rfl (l' := #[.val (.ref o0), .val (.int 3), .val (.int 4), .val (.ref b1_0), .val (.int 2)]) rfl ?_
    refine XS.iinc X29.here hx rfl (hb hby d18_26) rfl (l' := #[.val (.ref o0), .val (.int 3), .val (.int 4), .val (.ref b1_0), .val (.int 3)]) rfl ?_
    refine XS.goto X29.here hx rfl (pc0 := 29) (pc' := 8) rfl (hb hby d18_29) (by decide) (by decide) ?_
    refine XS.iload X29.here hx rfl (hb hby d18_8) rfl ?_
    refine XS.iloadN X29.here hx rfl (hb hby d18_10) rfl ?_
    refine XS.icmpNo X29.here hx rfl (hb hby d18_11) rfl (by decide) ?_
    refine XS.aloadN X29.here hx rfl (hb hby d18_14) rfl rfl ?_
    refine XS.iload X29.here hx rfl (hb hby d18_15) rfl ?_
    refine XS.aloadN X29.here hx rfl (hb hby d18_17) rfl rfl ?_
    refine XS.iloadN X29.here hx rfl (hb hby d18_18) rfl ?_
    exact k)
  obtain ⟨cl36, Ar36, -, Sz36, Mn36, Hs36, -⟩ := id x33
  have hin36 : ¬ ((3 : Int32) < 0 ∨ cl36.slots.size ≤ ((3 : Int32)).toNatClampNeg) := inb_of Sz36 ⟨by decide, by decide⟩
  have hat36 : cl36.slots[((3 : Int32)).toNatClampNeg]? = some (.int w3) := Hs36.at hin36 rfl
  have pre37 : Go p e below T29 _ (mkF m 20 #[.val (.ref o0), .val (.int 3), .val (.int 4), .val (.ref b1_0), .val (.int 3)] [(.int w3), (.int 3), (.ref b1_0)]) _ := fun t k => pre35 t (by
    show Steps p.tables e below (T29.setTop (mkF m 19 #[.val (.ref o0), .val (.int 3), .val (.int 4), .val (.ref b1_0), .val (.int 3)] [(.int 3), (.ref o0), (.int 3), (.ref b1_0)])) _
    refine X29.caload hx (j := (3 : Int32)) (v := (.int w3)) Ar36.1 (State.isArrayOf_alike hZ.alike Ar36.2.1) Ar36.2.2 hin36 hat36 (g := (mkF m 19 #[.val (.ref o0), .val (.int 3), .val (.int 4), .val (.ref b1_0), .val (.int 3)] [(.int 3), (.ref o0), (.int 3), (.ref b1_0)])) rfl rfl (hb hby d18_19) _ ?_
    exact k)
  obtain ⟨_, _, ⟨T38, L38, k38, n38⟩, -, X38, ⟨Lc38, hQ38, l38, y38, z38⟩, st38⟩ := Jvm.LawKit.callS X29 hx (y := Nm_18) hown (mvT hZ (wq hw 91 rfl)) (mvT hZ (wq hw 92 rfl)) (mvT hZ (wq hw 45 rfl)) (mvT hZ (wq hw 93 rfl)) (by decide) (backOf (W := 0) (rm21_4_3 l Z a0 hw [] b1_0 w3 _ (own_b0 w0) (own_b8 w0) (own_b0 w1) (own_b8 w1) (own_b0 w2) (own_b8 w2) (0 : Int32) (0 : Int32) T29.heap n0 Z29 x30 x31 x32 o29_0 gg2_b1_0) hZ (wq hw 93 rfl) (wq hw 45 rfl) (by decide) (by decide)) (g := (mkF m 20 #[.val (.ref o0), .val (.int 3), .val (.int 4), .val (.ref b1_0), .val (.int 3)] [(.int w3), (.int 3), (.ref b1_0)])) rfl (by rw [hml]; rfl) (argsL := [(.ref b1_0), (.int 3), (.int w3)]) (rest := []) (lenOf pd___BII_V rfl) rfl (w00 rfl) (hb hby d18_20) (fun _ _ => ⟨rfl, rfl, (by decide : 1 + 0 ≤ _), (by decide : 8 + 0 ≤ _)⟩)
  dsimp only [Pt.U, Pt.locs, Pt.cells, Pt.slots] at X38 l38 y38 z38 st38 hQ38
  subst l38 y38 z38
  obtain ⟨rfl, Nq38, Kq38, o38_0⟩ := hQ38
  have N38 := Fr.app N29 Nq38
  have K38 : Keep h0 T38.heap [] := K29.trans Kq38 (allS (Or.inr sz2_b1_0) all0)
  have Z38 : n0 ≤ T38.heap.size := Nat.le_trans Z29 Kq38.1
  have x39 := own_staK x30 Kq38 (allS (own_plV o29_0) all0)
  have x40 := own_staK x31 Kq38 (allS (own_plV o29_0) all0)
  have x41 := own_staK x32 Kq38 (allS (own_plV o29_0) all0)
  have x42 := x33.keep Kq38 (ninS ne2_o0_b1_0 nin0)
  have pre43 := Go.thn pre37 st38
  have pre44 : Go p e below T38 _ (mkF m 33 #[.val (.ref o0), .val (.int 4), .val (.int 4), .val (.ref b1_0), .val (.int 4)] [(.ref b1_0)]) _ := fun t k => pre43 t (by
    refine XS.iinc X38.here hx rfl (hb hby d18_23) rfl (l' := #[.val (.ref o0), .val (.int 4), .val (.int 4), .val (.ref b1_0), .val (.int 3)]) rfl ?_
    refine XS.iinc X38.here hx rfl (hb hby d18_26) rfl (l' := #[.val (.ref o0), .val (.int 4), .val (.int 4), .val (.ref b1_0), .val (.int 4)]) rfl ?_
    refine XS.goto X38.here hx rfl (pc0 := 29) (pc' := 8) rfl (hb hby d18_29) (by decide) (by decide) ?_
    refine XS.iload X38.here hx rfl (hb hby d18_8) rfl ?_
    refine XS.iloadN X38.here hx rfl (hb hby d18_10) rfl ?_
    refine XS.icmpYes X38.here hx rfl (pc0 := 11) (pc' := 32) rfl (hb hby d18_11) rfl (by decide) (by decide) (by decide) ?_
    refine XS.aloadN X38.here hx rfl (hb hby d18_32) rfl rfl ?_
    exact k)
  obtain ⟨fs, hr, hrun, hended, hW, hsame⟩ := X38.leave (v := some (.ref b1_0)) (fun h => by rw [Bd.returns] at h; cases h)
  refine ⟨_, _, ?_, hrun, hended, _, _, rfl, ?_, ⟨_, rfl⟩, hW, hsame.mono (by decide) (by decide)⟩
  · refine pre44 _ ?_
    jvm_step X38.here [X38.here.top, hx, (hb hby d18_33), X38.method', Bd.returns, Value.isRef, FieldType.isReference]
    first | (intro acts; rw [hr _ acts rfl rfl rfl]) | rw [hr _ _ rfl rfl rfl]
    exact Steps.refl _
  · show Q18_4 Z o0 kc w0 w1 w2 w3 h0 n0 _ T38.heap _
    skip
    exact ⟨b1_0, _, rfl, N38, K38, sz2_b1_0, o38_0⟩
theorem ef_9_4 (m : MethodId) (x0 : Addr) (x2 : Addr) : entryFrame m #[(.ref x0), (.int 0), (.ref x2), (.int 0), (.int 4)] 7 = mkF m 0 #[.val (.ref x0), .val (.int 0), .val (.ref x2), .val (.int 0), .val (.int 4), .unset, .unset] [] := by first | (simp [entryFrame, mkF, argsToLocals, Value.category]; done) | rfl
def g9_4_o2_0 (w0 : Int32) : Int32 := (if (255 : Int32) < w0 then (0 : Int32) else ((w0.toInt8.toInt32).toInt8.toInt32))
def g9_4_o2_1 (w0 : Int32) (w1 : Int32) : Int32 := (if (255 : Int32) < w0 then (0 : Int32) else (if (255 : Int32) < w1 then (0 : Int32) else ((w1.toInt8.toInt32).toInt8.toInt32)))
def g9_4_o2_2 (w0 : Int32) (w1 : Int32) (w2 : Int32) : Int32 := (if (255 : Int32) < w0 then (0 : Int32) else (if (255 : Int32) < w1 then (0 : Int32) else (if (255 : Int32) < w2 then (0 : Int32) else ((w2.toInt8.toInt32).toInt8.toInt32))))
def g9_4_o2_3 (w0 : Int32) (w1 : Int32) (w2 : Int32) (w3 : Int32) : Int32 := (if (255 : Int32) < w0 then (0 : Int32) else (if (255 : Int32) < w1 then (0 : Int32) else (if (255 : Int32) < w2 then (0 : Int32) else (if (255 : Int32) < w3 then (0 : Int32) else ((w3.toInt8.toInt32).toInt8.toInt32)))))
def f9_4 (w0 : Int32) (w1 : Int32) (w2 : Int32) (w3 : Int32) : Int32 := (if (255 : Int32) < w0 then (0 : Int32) else (if (255 : Int32) < w1 then (1 : Int32) else (if (255 : Int32) < w2 then (2 : Int32) else (if (255 : Int32) < w3 then (3 : Int32) else (4 : Int32)))))
def Q9_4 (Z : State) (o0 : Addr) (o2 : Addr) (kc : ClassId) (w0 : Int32) (w1 : Int32) (w2 : Int32) (w3 : Int32) (kb : ClassId) (h0 : Heap) (n0 : Nat) (v : Option Value) (h : Heap) (L : List Loc) : Prop := v = (some (.int (f9_4 w0 w1 w2 w3))) ∧ Fr n0 L ∧ Keep h0 h [o2] ∧ Arv Z h o2 kb .byte (4 : Int32) [(.int (g9_4_o2_0 w0)), (.int (g9_4_o2_1 w0 w1)), (.int (g9_4_o2_2 w0 w1 w2)), (.int (g9_4_o2_3 w0 w1 w2 w3))] (.int 0)
set_option maxRecDepth 65536 in
set_option maxHeartbeats 40000000 in
theorem rm9_4 (l : Launch) (Z : State) (a0 : Array Value) (hw : ∀ d ∈ tables_1, d.before a0 Z = true) (ws : List Jvm.Cond) (o0 : Addr) (o2 : Addr) (kc : ClassId) (w0 : Int32) (w1 : Int32) (w2 : Int32) (w3 : Int32) (kb : ClassId) (h0 : Heap) (n0 : Nat) (Z0 : n0 ≤ h0.size) (I0 : Arv Z h0 o0 kc .char (4 : Int32) [(.int w0), (.int w1), (.int w2), (.int w3)] (.int 0)) (I1 : Arv Z h0 o2 kb .byte (4 : Int32) [(.int 0), (.int 0), (.int 0), (.int 0)] (.int 0)) (gw_o2 : n0 ≤ o2) (ne_o0_o2 : o0 ≠ o2) :
    Met1 l Nm_20 (Jvm.Cond.code Nm_20 jdk_52_method_21_code 7 (some .int)) ws (rom 0 0 0 0) #[(.ref o0), (.int 0), (.ref o2), (.int 0), (.int 4)] Z h0 (Q9_4 Z o0 o2 kc w0 w1 w2 w3 kb h0 n0) := by
  refine MetFree.of_bodySF (plainFor_of_name pn_9) hisR ?_
  intro p e s m args below meth c s₁ Bd hml0 hP hK
  obtain ⟨rfl, hZ, hh⟩ := hP
  have hx := Bd.exec
  have hby := Bd.bytes
  have hml : c.maxLocals = 7 := hml0
  have hown : s.vm.findClass "java/lang/StringUTF16" = some m.cls := findClass_of_methodNamed Bd.named
  have X0 : Stand p l e (rom 0 0 0 0) s m _ _ _ _ _ [] 0 0 := Stand.of_body Bd
  have e0 : s₁.heap = h0 := by rw [← hh, Bd.state]; rfl
  have N0 := Fr.nil n0
  have K0 : Keep h0 h0 [o2] := Keep.refl _ _
  have pre0 : Go p e below s₁ _ (mkF m 0 #[.val (.ref o0), .val (.int 0), .val (.ref o2), .val (.int 0), .val (.int 4), .unset, .unset] []) _ := fun t k => castTop (ef_9_4 m o0 o2) k
  have pre5 : Go p e below s₁ _ (mkF m 12 #[.val (.ref o0), .val (.int 0), .val (.ref o2), .val (.int 0), .val (.int 4), .val (.int 0), .unset] [(.int 0), (.ref o0)]) _ := fun t k => pre0 t (by
    refine XS.iconst X0.here hx rfl (hb hby d9_0) ?_
    refine XS.istore X0.here hx rfl (hb hby d9_1) rfl (l' := #[.val (.ref o0), .val (.int 0), .val (.ref o2), .val (.int 0), .val (.int 4), .val (.int 0), .unset]) rfl ?_
    refine XS.iload X0.here hx rfl (hb hby d9_3) rfl ?_
    refine XS.iload X0.here hx rfl (hb hby d9_5) rfl ?_
    refine XS.icmpNo X0.here hx rfl (hb hby d9_7) rfl (by decide) ?_
    refine XS.aloadN X0.here hx rfl (hb hby d9_10) rfl rfl ?_
    refine XS.iloadN X0.here hx rfl (hb hby d9_11) rfl ?_
    exact k)
  obtain ⟨cl6, Ar6, -, Sz6, Mn6, Hs6, -⟩ := id I0
  have hin6 : ¬ ((0 : Int32) < 0 ∨ cl6.slots.size ≤ ((0 : Int32)).toNatClampNeg) := inb_of Sz6 ⟨by decide, by decide⟩
  have hat6 : cl6.slots[((0 : Int32)).toNatClampNeg]? = some (.int w0) := Hs6.at hin6 rfl
  have pre7 : Go p e below s₁ _ (mkF m 13 #[.val (.ref o0), .val (.int 0), .val (.ref o2), .val (.int 0), .val (.int 4), .val (.int 0), .unset] [(.int w0)]) _ := fun t k => pre5 t (by
    show Steps p.tables e below (s₁.setTop (mkF m 12 #[.val (.ref o0), .val (.int 0), .val (.ref o2), .val (.int 0), .val (.int 4), .val (.int 0), .unset] [(.int 0), (.ref o0)])) _
    refine X0.caload hx (j := (0 : Int32)) (v := (.int w0)) (by rw [e0]; exact Ar6.1) (State.isArrayOf_alike hZ.alike Ar6.2.1) Ar6.2.2 hin6 hat6 (g := (mkF m 12 #[.val (.ref o0), .val (.int 0), .val (.ref o2), .val (.int 0), .val (.int 4), .val (.int 0), .unset] [(.int 0), (.ref o0)])) rfl rfl (hb hby d9_12) _ ?_
    exact k)
  have pre8 : Go p e below s₁ _ (mkF m 20 #[.val (.ref o0), .val (.int 0), .val (.ref o2), .val (.int 0), .val (.int 4), .val (.int 0), .val (.int w0)] [(.int 255), (.int w0)]) _ := fun t k => pre7 t (by
    refine XS.istore X0.here hx rfl (hb hby d9_13) rfl (l' := #[.val (.ref o0), .val (.int 0), .val (.ref o2), .val (.int 0), .val (.int 4), .val (.int 0), .val (.int w0)]) rfl ?_
    refine XS.iload X0.here hx rfl (hb hby d9_15) rfl ?_
    refine XS.sipush X0.here hx rfl (hb hby d9_17) ?_
    exact k)
  by_cases hc20_1 : (255 : Int32) < w0
  · have pre9 : Go p e below s₁ _ (mkF m 25 #[.val (.ref o0), .val (.int 0), .val (.ref o2), .val (.int 0), .val (.int 4), .val (.int 0), .val (.int w0)] [(.int 0)]) _ := fun t k => pre8 t (by
      refine XS.icmpNo X0.here hx rfl (hb hby d9_20) rfl (tlt hc20_1).2.2.2 ?_
      refine XS.iload X0.here hx rfl (hb hby d9_23) rfl ?_
      exact k)
    obtain ⟨fs, hr, hrun, hended, hW, hsame⟩ := X0.leave (v := some (.int 0)) (fun h => by rw [Bd.returns] at h; cases h)
    refine ⟨_, _, ?_, hrun, hended, _, _, rfl, ?_, ⟨_, rfl⟩, hW, hsame.mono (by decide) (by decide)⟩
    · exact pre9 _ (retI X0 hx Bd.returns (hb hby d9_25) hr)
    · show Q9_4 Z o0 o2 kc w0 w1 w2 w3 kb h0 n0 _ s₁.heap _
      rw [e0]
      exact ⟨by simp only [f9_4, if_pos hc20_1], N0, K0, by rw [show (g9_4_o2_0 w0) = (0 : Int32) from by simp only [g9_4_o2_0, if_pos hc20_1], show (g9_4_o2_1 w0 w1) = (0 : Int32) from by simp only [g9_4_o2_1, if_pos hc20_1], show (g9_4_o2_2 w0 w1 w2) = (0 : Int32) from by simp only [g9_4_o2_2, if_pos hc20_1], show (g9_4_o2_3 w0 w1 w2 w3) = (0 : Int32) from by simp only [g9_4_o2_3, if_pos hc20_1]]; exact I1⟩
  · have pre10 : Go p e below s₁ _ (mkF m 31 #[.val (.ref o0), .val (.int 0), .val (.ref o2), .val (.int 0), .val (.int 4), .val (.int 0), .val (.int w0)] [(.int (w0.toInt8.toInt32)), (.int 0), (.ref o2)]) _ := fun t k => pre8 t (by
      refine XS.icmpYes X0.here hx rfl (pc0 := 20) (pc' := 26) rfl (hb hby d9_20) rfl (flt hc20_1).2.2.2 (by decide) (by decide) ?_
      refine XS.aloadN X0.here hx rfl (hb hby d9_26) rfl rfl ?_
      refine XS.iloadN X0.here hx rfl (hb hby d9_27) rfl ?_
      refine XS.iload X0.here hx rfl (hb hby d9_28) rfl ?_
      refine XS.i2b X0.here hx rfl (hb hby d9_30) rfl ?_
      exact k)
    obtain ⟨cl11, Ar11, q11, Sz11, Mn11, Hs11, Gs11⟩ := id I1
    have hin11 : ¬ ((0 : Int32) < 0 ∨ cl11.slots.size ≤ ((0 : Int32)).toNatClampNeg) := inb_of Sz11 ⟨by decide, by decide⟩
    obtain ⟨T11, h11, X11, e11, W11, st11⟩ := stB X0 hx hZ e0 Ar11 (j := (0 : Int32)) hin11 (g := (mkF m 31 #[.val (.ref o0), .val (.int 0), .val (.ref o2), .val (.int 0), .val (.int 4), .val (.int 0), .val (.int w0)] [(.int (w0.toInt8.toInt32)), (.int 0), (.ref o2)])) rfl rfl (hb hby d9_31)
    have V11 : Arv Z h11 o2 kb .byte (4 : Int32) [(.int ((w0.toInt8.toInt32).toInt8.toInt32)), (.int 0), (.int 0), (.int 0)] (.int 0) := Arv.set Ar11 q11 Sz11 Mn11 Hs11 Gs11 (fits_nar_byte _) W11 0 rfl (Nat.le_of_ble_eq_true rfl)
    have N11 := Fr.snoc X11 N0 gw_o2
    have K11 : Keep h0 h11 [o2] := K0.wr W11 (Or.inl (List.mem_of_getElem? (i := 0) rfl))
    have Z11 : n0 ≤ h11.size := Nat.le_trans Z0 (Keep.of_wr W11).1
    have x12 := I0.other W11 ne_o0_o2
    have pre13 := Go.thn pre10 st11
    have pre14 : Go p e below T11 _ (mkF m 12 #[.val (.ref o0), .val (.int 1), .val (.ref o2), .val (.int 1), .val (.int 4), .val (.int 1), .val (.int w0)] [(.int 1), (.ref o0)]) _ := fun t k => pre13 t (by
      refine XS.iinc X11.here hx rfl (hb hby d9_32) rfl (l' := #[.val (.ref o0), .val (.int 1), .val (.ref o2), .val (.int 0), .val (.int 4), .val (.int 0), .val (.int w0)]) rfl ?_
      refine XS.iinc X11.here hx rfl (hb hby d9_35) rfl (l' := #[.val (.ref o0), .val (.int 1), .val (.ref o2), .val (.int 1), .val (.int 4), .val (.int 0), .val (.int w0)]) rfl ?_
      refine XS.iinc X11.here hx rfl (hb hby d9_38) rfl (l' := #[.val (.ref o0), .val (.int 1), .val (.ref o2), .val (.int 1), .val (.int 4), .val (.int 1), .val (.int w0)]) rfl ?_
      refine XS.goto X11.here hx rfl (pc0 := 41) (pc' := 3) rfl (hb hby d9_41) (by decide) (by decide) ?_
      refine XS.iload X11.here hx rfl (hb hby d9_3) rfl ?_
      refine XS.iload X11.here hx rfl (hb hby d9_5) rfl ?_
      refine XS.icmpNo X11.here hx rfl (hb hby d9_7) rfl (by decide) ?_
      refine XS.aloadN X11.here hx rfl (hb hby d9_10) rfl rfl ?_
      refine XS.iloadN X11.here hx rfl (hb hby d9_11) rfl ?_
      exact k)
    obtain ⟨cl15, Ar15, -, Sz15, Mn15, Hs15, -⟩ := id x12
    have hin15 : ¬ ((1 : Int32) < 0 ∨ cl15.slots.size ≤ ((1 : Int32)).toNatClampNeg) := inb_of Sz15 ⟨by decide, by decide⟩
    have hat15 : cl15.slots[((1 : Int32)).toNatClampNeg]? = some (.int w1) := Hs15.at hin15 rfl
    have pre16 : Go p e below T11 _ (mkF m 13 #[.val (.ref o0), .val (.int 1), .val (.ref o2), .val (.int 1), .val (.int 4), .val (.int 1), .val (.int w0)] [(.int w1)]) _ := fun t k => pre14 t (by
      show Steps p.tables e below (T11.setTop (mkF m 12 #[.val (.ref o0), .val (.int 1), .val (.ref o2), .val (.int 1), .val (.int 4), .val (.int 1), .val (.int w0)] [(.int 1), (.ref o0)])) _
      refine X11.caload hx (j := (1 : Int32)) (v := (.int w1)) (by rw [e11]; exact Ar15.1) (State.isArrayOf_alike hZ.alike Ar15.2.1) Ar15.2.2 hin15 hat15 (g := (mkF m 12 #[.val (.ref o0), .val (.int 1), .val (.ref o2), .val (.int 1), .val (.int 4), .val (.int 1), .val (.int w0)] [(.int 1), (.ref o0)])) rfl rfl (hb hby d9_12) _ ?_
      exact k)
    have pre17 : Go p e below T11 _ (mkF m 20 #[.val (.ref o0), .val (.int 1), .val (.ref o2), .val (.int 1), .val (.int 4), .val (.int 1), .val (.int w1)] [(.int 255), (.int w1)]) _ := fun t k => pre16 t (by
      refine XS.istore X11.here hx rfl (hb hby d9_13) rfl (l' := #[.val (.ref o0), .val (.int 1), .val (.ref o2), .val (.int 1), .val (.int 4), .val (.int 1), .val (.int w1)]) rfl ?_
      refine XS.iload X11.here hx rfl (hb hby d9_15) rfl ?_
      refine XS.sipush X11.here hx rfl (hb hby d9_17) ?_
      exact k)
    by_cases hc20_2 : (255 : Int32) < w1
    · have pre18 : Go p e below T11 _ (mkF m 25 #[.val (.ref o0), .val (.int 1), .val (.ref o2), .val (.int 1), .val (.int 4), .val (.int 1), .val (.int w1)] [(.int 1)]) _ := fun t k => pre17 t (by
        refine XS.icmpNo X11.here hx rfl (hb hby d9_20) rfl (tlt hc20_2).2.2.2 ?_
        refine XS.iload X11.here hx rfl (hb hby d9_23) rfl ?_
        exact k)
      obtain ⟨fs, hr, hrun, hended, hW, hsame⟩ := X11.leave (v := some (.int 1)) (fun h => by rw [Bd.returns] at h; cases h)
      refine ⟨_, _, ?_, hrun, hended, _, _, rfl, ?_, ⟨_, rfl⟩, hW, hsame.mono (by decide) (by decide)⟩
      · exact pre18 _ (retI X11 hx Bd.returns (hb hby d9_25) hr)
      · show Q9_4 Z o0 o2 kc w0 w1 w2 w3 kb h0 n0 _ T11.heap _
        rw [e11]
        exact ⟨by simp only [f9_4, if_neg hc20_1, if_pos hc20_2], N11, K11, by rw [show (g9_4_o2_0 w0) = ((w0.toInt8.toInt32).toInt8.toInt32) from by simp only [g9_4_o2_0, if_neg hc20_1, if_pos hc20_2], show (g9_4_o2_1 w0 w1) = (0 : Int32) from by simp only [g9_4_o2_1, if_neg hc20_1, if_pos hc20_2], show (g9_4_o2_2 w0 w1 w2) = (0 : Int32) from by simp only [g9_4_o2_2, if_neg hc20_1, if_pos hc20_2], show (g9_4_o2_3 w0 w1 w2 w3) = (0 : Int32) from by simp only [g9_4_o2_3, if_neg hc20_1, if_pos hc20_2]]; exact V11⟩
    · have pre19 : Go p e below T11 _ (mkF m 31 #[.val (.ref o0), .val (.int 1), .val (.ref o2), .val (.int 1), .val (.int 4), .val (.int 1), .val (.int w1)] [(.int (w1.toInt8.toInt32)), (.int 1), (.ref o2)]) _ := fun t k => pre17 t (by
        refine XS.icmpYes X11.here hx rfl (pc0 := 20) (pc' := 26) rfl (hb hby d9_20) rfl (flt hc20_2).2.2.2 (by decide) (by decide) ?_
        refine XS.aloadN X11.here hx rfl (hb hby d9_26) rfl rfl ?_
        refine XS.iloadN X11.here hx rfl (hb hby d9_27) rfl ?_
        refine XS.iload X11.here hx rfl (hb hby d9_28) rfl ?_
        refine XS.i2b X11.here hx rfl (hb hby d9_30) rfl ?_
        exact k)
      obtain ⟨cl20, Ar20, q20, Sz20, Mn20, Hs20, Gs20⟩ := id V11
      have hin20 : ¬ ((1 : Int32) < 0 ∨ cl20.slots.size ≤ ((1 : Int32)).toNatClampNeg) := inb_of Sz20 ⟨by decide, by decide⟩
      obtain ⟨T20, h20, X20, e20, W20, st20⟩ := stB X11 hx hZ e11 Ar20 (j := (1 : Int32)) hin20 (g := (mkF m 31 #[.val (.ref o0), .val (.int 1), .val (.ref o2), .val (.int 1), .val (.int 4), .val (.int 1), .val (.int w1)] [(.int (w1.toInt8.toInt32)), (.int 1), (.ref o2)])) rfl rfl (hb hby d9_31)
      have V20 : Arv Z h20 o2 kb .byte (4 : Int32) [(.int ((w0.toInt8.toInt32).toInt8.toInt32)), (.int ((w1.toInt8.toInt32).toInt8.toInt32)), (.int 0), (.int 0)] (.int 0) := Arv.set Ar20 q20 Sz20 Mn20 Hs20 Gs20 (fits_nar_byte _) W20 1 rfl (Nat.le_of_ble_eq_true rfl)
      have N20 := Fr.snoc X20 N11 gw_o2
      have K20 : Keep h0 h20 [o2] := K11.wr W20 (Or.inl (List.mem_of_getElem? (i := 0) rfl))
      have Z20 : n0 ≤ h20.size := Nat.le_trans Z11 (Keep.of_wr W20).1
      have x21 := x12.other W20 ne_o0_o2
      have pre22 := Go.thn pre19 st20
      have pre23 : Go p e below T20 _ (mkF m 12 #[.val (.ref o0), .val (.int 2), .val (.ref o2), .val (.int 2), .val (.int 4), .val (.int 2), .val (.int w1)] [(.int 2), (.ref o0)]) _ := fun t k => pre22 t (by
        refine XS.iinc X20.here hx rfl (hb hby d9_32) rfl (l' := #[.val (.ref o0), .val (.int 2), .val (.ref o2), .val (.int 1), .val (.int 4), .val (.int 1), .val (.int w1)]) rfl ?_
        refine XS.iinc X20.here hx rfl (hb hby d9_35) rfl (l' := #[.val (.ref o0), .val (.int 2), .val (.ref o2), .val (.int 2), .val (.int 4), .val (.int 1), .val (.int w1)]) rfl ?_
        refine XS.iinc X20.here hx rfl (hb hby d9_38) rfl (l' := #[.val (.ref o0), .val (.int 2), .val (.ref o2), .val (.int 2), .val (.int 4), .val (.int 2), .val (.int w1)]) rfl ?_
        refine XS.goto X20.here hx rfl (pc0 := 41) (pc' := 3) rfl (hb hby d9_41) (by decide) (by decide) ?_
        refine XS.iload X20.here hx rfl (hb hby d9_3) rfl ?_
        refine XS.iload X20.here hx rfl (hb hby d9_5) rfl ?_
        refine XS.icmpNo X20.here hx rfl (hb hby d9_7) rfl (by decide) ?_
        refine XS.aloadN X20.here hx rfl (hb hby d9_10) rfl rfl ?_
        refine XS.iloadN X20.here hx rfl (hb hby d9_11) rfl ?_
        exact k)
      obtain ⟨cl24, Ar24, -, Sz24, Mn24, Hs24, -⟩ := id x21
      have hin24 : ¬ ((2 : Int32) < 0 ∨ cl24.slots.size ≤ ((2 : Int32)).toNatClampNeg) := inb_of Sz24 ⟨by decide, by decide⟩
      have hat24 : cl24.slots[((2 : Int32)).toNatClampNeg]? = some (.int w2) := Hs24.at hin24 rfl
      have pre25 : Go p e below T20 _ (mkF m 13 #[.val (.ref o0), .val (.int 2), .val (.ref o2), .val (.int 2), .val (.int 4), .val (.int 2), .val (.int w1)] [(.int w2)]) _ := fun t k => pre23 t (by
        show Steps p.tables e below (T20.setTop (mkF m 12 #[.val (.ref o0), .val (.int 2), .val (.ref o2), .val (.int 2), .val (.int 4), .val (.int 2), .val (.int w1)] [(.int 2), (.ref o0)])) _
        refine X20.caload hx (j := (2 : Int32)) (v := (.int w2)) (by rw [e20]; exact Ar24.1) (State.isArrayOf_alike hZ.alike Ar24.2.1) Ar24.2.2 hin24 hat24 (g := (mkF m 12 #[.val (.ref o0), .val (.int 2), .val (.ref o2), .val (.int 2), .val (.int 4), .val (.int 2), .val (.int w1)] [(.int 2), (.ref o0)])) rfl rfl (hb hby d9_12) _ ?_
        exact k)
      have pre26 : Go p e below T20 _ (mkF m 20 #[.val (.ref o0), .val (.int 2), .val (.ref o2), .val (.int 2), .val (.int 4), .val (.int 2), .val (.int w2)] [(.int 255), (.int w2)]) _ := fun t k => pre25 t (by
        refine XS.istore X20.here hx rfl (hb hby d9_13) rfl (l' := #[.val (.ref o0), .val (.int 2), .val (.ref o2), .val (.int 2), .val (.int 4), .val (.int 2), .val (.int w2)]) rfl ?_
        refine XS.iload X20.here hx rfl (hb hby d9_15) rfl ?_
        refine XS.sipush X20.here hx rfl (hb hby d9_17) ?_
        exact k)
      by_cases hc20_3 : (255 : Int32) < w2
      · have pre27 : Go p e below T20 _ (mkF m 25 #[.val (.ref o0), .val (.int 2), .val (.ref o2), .val (.int 2), .val (.int 4), .val (.int 2), .val (.int w2)] [(.int 2)]) _ := fun t k => pre26 t (by
          refine XS.icmpNo X20.here hx rfl (hb hby d9_20) rfl (tlt hc20_3).2.2.2 ?_
          refine XS.iload X20.here hx rfl (hb hby d9_23) rfl ?_
          exact k)
        obtain ⟨fs, hr, hrun, hended, hW, hsame⟩ := X20.leave (v := some (.int 2)) (fun h => by rw [Bd.returns] at h; cases h)
        refine ⟨_, _, ?_, hrun, hended, _, _, rfl, ?_, ⟨_, rfl⟩, hW, hsame.mono (by decide) (by decide)⟩
        · exact pre27 _ (retI X20 hx Bd.returns (hb hby d9_25) hr)
        · show Q9_4 Z o0 o2 kc w0 w1 w2 w3 kb h0 n0 _ T20.heap _
          rw [e20]
          exact ⟨by simp only [f9_4, if_neg hc20_1, if_neg hc20_2, if_pos hc20_3], N20, K20, by rw [show (g9_4_o2_0 w0) = ((w0.toInt8.toInt32).toInt8.toInt32) from by simp only [g9_4_o2_0, if_neg hc20_1, if_neg hc20_2, if_pos hc20_3], show (g9_4_o2_1 w0 w1) = ((w1.toInt8.toInt32).toInt8.toInt32) from by simp only [g9_4_o2_1, if_neg hc20_1, if_neg hc20_2, if_pos hc20_3], show (g9_4_o2_2 w0 w1 w2) = (0 : Int32) from by simp only [g9_4_o2_2, if_neg hc20_1, if_neg hc20_2, if_pos hc20_3], show (g9_4_o2_3 w0 w1 w2 w3) = (0 : Int32) from by simp only [g9_4_o2_3, if_neg hc20_1, if_neg hc20_2, if_pos hc20_3]]; exact V20⟩
      · have pre28 : Go p e below T20 _ (mkF m 31 #[.val (.ref o0), .val (.int 2), .val (.ref o2), .val (.int 2), .val (.int 4), .val (.int 2), .val (.int w2)] [(.int (w2.toInt8.toInt32)), (.int 2), (.ref o2)]) _ := fun t k => pre26 t (by
          refine XS.icmpYes X20.here hx rfl (pc0 := 20) (pc' := 26) rfl (hb hby d9_20) rfl (flt hc20_3).2.2.2 (by decide) (by decide) ?_
          refine XS.aloadN X20.here hx rfl (hb hby d9_26) rfl rfl ?_
          refine XS.iloadN X20.here hx rfl (hb hby d9_27) rfl ?_
          refine XS.iload X20.here hx rfl (hb hby d9_28) rfl ?_
          refine XS.i2b X20.here hx rfl (hb hby d9_30) rfl ?_
          exact k)
        obtain ⟨cl29, Ar29, q29, Sz29, Mn29, Hs29, Gs29⟩ := id V20
        have hin29 : ¬ ((2 : Int32) < 0 ∨ cl29.slots.size ≤ ((2 : Int32)).toNatClampNeg) := inb_of Sz29 ⟨by decide, by decide⟩
        obtain ⟨T29, h29, X29, e29, W29, st29⟩ := stB X20 hx hZ e20 Ar29 (j := (2 : Int32)) hin29 (g := (mkF m 31 #[.val (.ref o0), .val (.int 2), .val (.ref o2), .val (.int 2), .val (.int 4), .val (.int 2), .val (.int w2)] [(.int (w2.toInt8.toInt32)), (.int 2), (.ref o2)])) rfl rfl (hb hby d9_31)
        have V29 : Arv Z h29 o2 kb .byte (4 : Int32) [(.int ((w0.toInt8.toInt32).toInt8.toInt32)), (.int ((w1.toInt8.toInt32).toInt8.toInt32)), (.int ((w2.toInt8.toInt32).toInt8.toInt32)), (.int 0)] (.int 0) := Arv.set Ar29 q29 Sz29 Mn29 Hs29 Gs29 (fits_nar_byte _) W29 2 rfl (Nat.le_of_ble_eq_true rfl)
        have N29 := Fr.snoc X29 N20 gw_o2
        have K29 : Keep h0 h29 [o2] := K20.wr W29 (Or.inl (List.mem_of_getElem? (i := 0) rfl))
        have Z29 : n0 ≤ h29.size := Nat.le_trans Z20 (Keep.of_wr W29).1
        have x30 := x21.other W29 ne_o0_o2
        have pre31 := Go.thn pre28 st29
        have pre32 : Go p e below T29 _ (mkF m 12 #[.val (.ref o0), .val (.int 3), .val (.ref o2), .val (.int 3), .val (.int 4), .val (.int 3), .val (.int w2)] [(.int 3), (.ref o0)]) _ := fun t k => pre31 t (by
          refine XS.iinc X29.here hx rfl (hb hby d9_32) rfl (l' := #[.val (.ref o0), .val (.int 3), .val (.ref o2), .val (.int 2), .val (.int 4), .val (.int 2), .val (.int w2)]) rfl ?_
          refine XS.iinc X29.here hx rfl (hb hby d9_35) rfl (l' := #[.val (.ref o0), .val (.int 3), .val (.ref o2), .val (.int 3), .val (.int 4), .val (.int 2), .val (.int w2)]) rfl ?_
          refine XS.iinc X29.here hx rfl (hb hby d9_38) rfl (l' := #[.val (.ref o0), .val (.int 3), .val (.ref o2), .val (.int 3), .val (.int 4), .val (.int 3), .val (.int w2)]) rfl ?_
          refine XS.goto X29.here hx rfl (pc0 := 41) (pc' := 3) rfl (hb hby d9_41) (by decide) (by decide) ?_
          refine XS.iload X29.here hx rfl (hb hby d9_3) rfl ?_
          refine XS.iload X29.here hx rfl (hb hby d9_5) rfl ?_
          refine XS.icmpNo X29.here hx rfl (hb hby d9_7) rfl (by decide) ?_
          refine XS.aloadN X29.here hx rfl (hb hby d9_10) rfl rfl ?_
          refine XS.iloadN X29.here hx rfl (hb hby d9_11) rfl ?_
          exact k)
        obtain ⟨cl33, Ar33, -, Sz33, Mn33, Hs33, -⟩ := id x30
        have hin33 : ¬ ((3 : Int32) < 0 ∨ cl33.slots.size ≤ ((3 : Int32)).toNatClampNeg) := inb_of Sz33 ⟨by decide, by decide⟩
        have hat33 : cl33.slots[((3 : Int32)).toNatClampNeg]? = some (.int w3) := Hs33.at hin33 rfl
        have pre34 : Go p e below T29 _ (mkF m 13 #[.val (.ref o0), .val (.int 3), .val (.ref o2), .val (.int 3), .val (.int 4), .val (.int 3), .val (.int w2)] [(.int w3)]) _ := fun t k => pre32 t (by
          show Steps p.tables e below (T29.setTop (mkF m 12 #[.val (.ref o0), .val (.int 3), .val (.ref o2), .val (.int 3), .val (.int 4), .val (.int 3), .val (.int w2)] [(.int 3), (.ref o0)])) _
          refine X29.caload hx (j := (3 : Int32)) (v := (.int w3)) (by rw [e29]; exact Ar33.1) (State.isArrayOf_alike hZ.alike Ar33.2.1) Ar33.2.2 hin33 hat33 (g := (mkF m 12 #[.val (.ref o0), .val (.int 3), .val (.ref o2), .val (.int 3), .val (.int 4), .val (.int 3), .val (.int w2)] [(.int 3), (.ref o0)])) rfl rfl (hb hby d9_12) _ ?_
          exact k)
        have pre35 : Go p e below T29 _ (mkF m 20 #[.val (.ref o0), .val (.int 3), .val (.ref o2), .val (.int 3), .val (.int 4), .val (.int 3), .val (.int w3)] [(.int 255), (.int w3)]) _ := fun t k => pre34 t (by
          refine XS.istore X29.here hx rfl (hb hby d9_13) rfl (l' := #[.val (.ref o0), .val (.int 3), .val (.ref o2), .val (.int 3), .val (.int 4), .val (.int 3), .val (.int w3)]) rfl ?_
          refine XS.iload X29.here hx rfl (hb hby d9_15) rfl ?_
          refine XS.sipush X29.here hx rfl (hb hby d9_17) ?_
          exact k)
        by_cases hc20_4 : (255 : Int32) < w3
        · have pre36 : Go p e below T29 _ (mkF m 25 #[.val (.ref o0), .val (.int 3), .val (.ref o2), .val (.int 3), .val (.int 4), .val (.int 3), .val (.int w3)] [(.int 3)]) _ := fun t k => pre35 t (by
            refine XS.icmpNo X29.here hx rfl (hb hby d9_20) rfl (tlt hc20_4).2.2.2 ?_
            refine XS.iload X29.here hx rfl (hb hby d9_23) rfl ?_
            exact k)
          obtain ⟨fs, hr, hrun, hended, hW, hsame⟩ := X29.leave (v := some (.int 3)) (fun h => by rw [Bd.returns] at h; cases h)
          refine ⟨_, _, ?_, hrun, hended, _, _, rfl, ?_, ⟨_, rfl⟩, hW, hsame.mono (by decide) (by decide)⟩
          · exact pre36 _ (retI X29 hx Bd.returns (hb hby d9_25) hr)
          · show Q9_4 Z o0 o2 kc w0 w1 w2 w3 kb h0 n0 _ T29.heap _
            rw [e29]
            exact ⟨by simp only [f9_4, if_neg hc20_1, if_neg hc20_2, if_neg hc20_3, if_pos hc20_4], N29, K29, by rw [show (g9_4_o2_0 w0) = ((w0.toInt8.toInt32).toInt8.toInt32) from by simp only [g9_4_o2_0, if_neg hc20_1, if_neg hc20_2, if_neg hc20_3, if_pos hc20_4], show (g9_4_o2_1 w0 w1) = ((w1.toInt8.toInt32).toInt8.toInt32) from by simp only [g9_4_o2_1, if_neg hc20_1, if_neg hc20_2, if_neg hc20_3, if_pos hc20_4], show (g9_4_o2_2 w0 w1 w2) = ((w2.toInt8.toInt32).toInt8.toInt32) from by simp only [g9_4_o2_2, if_neg hc20_1, if_neg hc20_2, if_neg hc20_3, if_pos hc20_4], show (g9_4_o2_3 w0 w1 w2 w3) = (0 : Int32) from by simp only [g9_4_o2_3, if_neg hc20_1, if_neg hc20_2, if_neg hc20_3, if_pos hc20_4]]; exact V29⟩
        · have pre37 : Go p e below T29 _ (mkF m 31 #[.val (.ref o0), .val (.int 3), .val (.ref o2), .val (.int 3), .val (.int 4), .val (.int 3), .val (.int w3)] [(.int (w3.toInt8.toInt32)), (.int 3), (.ref o2)]) _ := fun t k => pre35 t (by
            refine XS.icmpYes X29.here hx rfl (pc0 := 20) (pc' := 26) rfl (hb hby d9_20) rfl (flt hc20_4).2.2.2 (by decide) (by decide) ?_
            refine XS.aloadN X29.here hx rfl (hb hby d9_26) rfl rfl ?_
            refine XS.iloadN X29.here hx rfl (hb hby d9_27) rfl ?_
            refine XS.iload X29.here hx rfl (hb hby d9_28) rfl ?_
            refine XS.i2b X29.here hx rfl (hb hby d9_30) rfl ?_
            exact k)
          obtain ⟨cl38, Ar38, q38, Sz38, Mn38, Hs38, Gs38⟩ := id V29
          have hin38 : ¬ ((3 : Int32) < 0 ∨ cl38.slots.size ≤ ((3 : Int32)).toNatClampNeg) := inb_of Sz38 ⟨by decide, by decide⟩
          obtain ⟨T38, h38, X38, e38, W38, st38⟩ := stB X29 hx hZ e29 Ar38 (j := (3 : Int32)) hin38 (g := (mkF m 31 #[.val (.ref o0), .val (.int 3), .val (.ref o2), .val (.int 3), .val (.int 4), .val (.int 3), .val (.int w3)] [(.int (w3.toInt8.toInt32)), (.int 3), (.ref o2)])) rfl rfl (hb hby d9_31)
          have V38 : Arv Z h38 o2 kb .byte (4 : Int32) [(.int ((w0.toInt8.toInt32).toInt8.toInt32)), (.int ((w1.toInt8.toInt32).toInt8.toInt32)), (.int ((w2.toInt8.toInt32).toInt8.toInt32)), (.int ((w3.toInt8.toInt32).toInt8.toInt32))] (.int 0) := Arv.set Ar38 q38 Sz38 Mn38 Hs38 Gs38 (fits_nar_byte _) W38 3 rfl (Nat.le_of_ble_eq_true rfl)
          have N38 := Fr.snoc X38 N29 gw_o2
          have K38 : Keep h0 h38 [o2] := K29.wr W38 (Or.inl (List.mem_of_getElem? (i := 0) rfl))
          have Z38 : n0 ≤ h38.size := Nat.le_trans Z29 (Keep.of_wr W38).1
          have x39 := x30.other W38 ne_o0_o2
          have pre40 := Go.thn pre37 st38
          have pre41 : Go p e below T38 _ (mkF m 46 #[.val (.ref o0), .val (.int 4), .val (.ref o2), .val (.int 4), .val (.int 4), .val (.int 4), .val (.int w3)] [(.int 4)]) _ := fun t k => pre40 t (by
            refine XS.iinc X38.here hx rfl (hb hby d9_32) rfl (l' := #[.val (.ref o0), .val (.int 4), .val (.ref o2), .val (.int 3), .val (.int 4), .val (.int 3), .val (.int w3)]) rfl ?_
            refine XS.iinc X38.here hx rfl (hb hby d9_35) rfl (l' := #[.val (.ref o0), .val (.int 4), .val (.ref o2), .val (.int 4), .val (.int 4), .val (.int 3), .val (.int w3)]) rfl ?_
            refine XS.iinc X38.here hx rfl (hb hby d9_38) rfl (l' := #[.val (.ref o0), .val (.int 4), .val (.ref o2), .val (.int 4), .val (.int 4), .val (.int 4), .val (.int w3)]) rfl ?_
            refine XS.goto X38.here hx rfl (pc0 := 41) (pc' := 3) rfl (hb hby d9_41) (by decide) (by decide) ?_
            refine XS.iload X38.here hx rfl (hb hby d9_3) rfl ?_
            refine XS.iload X38.here hx rfl (hb hby d9_5) rfl ?_
            refine XS.icmpYes X38.here hx rfl (pc0 := 7) (pc' := 44) rfl (hb hby d9_7) rfl (by decide) (by decide) (by decide) ?_
            refine XS.iload X38.here hx rfl (hb hby d9_44) rfl ?_
            exact k)
          obtain ⟨fs, hr, hrun, hended, hW, hsame⟩ := X38.leave (v := some (.int 4)) (fun h => by rw [Bd.returns] at h; cases h)
          refine ⟨_, _, ?_, hrun, hended, _, _, rfl, ?_, ⟨_, rfl⟩, hW, hsame.mono (by decide) (by decide)⟩
          · exact pre41 _ (retI X38 hx Bd.returns (hb hby d9_46) hr)
          · show Q9_4 Z o0 o2 kc w0 w1 w2 w3 kb h0 n0 _ T38.heap _
            rw [e38]
            exact ⟨by simp only [f9_4, if_neg hc20_1, if_neg hc20_2, if_neg hc20_3, if_neg hc20_4], N38, K38, by rw [show (g9_4_o2_0 w0) = ((w0.toInt8.toInt32).toInt8.toInt32) from by simp only [g9_4_o2_0, if_neg hc20_1, if_neg hc20_2, if_neg hc20_3, if_neg hc20_4], show (g9_4_o2_1 w0 w1) = ((w1.toInt8.toInt32).toInt8.toInt32) from by simp only [g9_4_o2_1, if_neg hc20_1, if_neg hc20_2, if_neg hc20_3, if_neg hc20_4], show (g9_4_o2_2 w0 w1 w2) = ((w2.toInt8.toInt32).toInt8.toInt32) from by simp only [g9_4_o2_2, if_neg hc20_1, if_neg hc20_2, if_neg hc20_3, if_neg hc20_4], show (g9_4_o2_3 w0 w1 w2 w3) = ((w3.toInt8.toInt32).toInt8.toInt32) from by simp only [g9_4_o2_3, if_neg hc20_1, if_neg hc20_2, if_neg hc20_3, if_neg hc20_4]]; exact V38⟩
theorem own_all4 {w0 w1 w2 w3 : Int32} (h0 : ¬ ((255 : Int32) < w0)) (h1 : ¬ ((255 : Int32) < w1)) (h2 : ¬ ((255 : Int32) < w2)) (h3 : ¬ ((255 : Int32) < w3)) : f9_4 w0 w1 w2 w3 = (4 : Int32) := by simp only [f9_4, if_neg h0, if_neg h1, if_neg h2, if_neg h3]
theorem own_fst4 {w0 w1 w2 w3 : Int32} (hU : (255 : Int32) < w0 ∨ (255 : Int32) < w1 ∨ (255 : Int32) < w2 ∨ (255 : Int32) < w3) : (f9_4 w0 w1 w2 w3 = (0 : Int32) ∧ (255 : Int32) < w0) ∨ (f9_4 w0 w1 w2 w3 = (1 : Int32) ∧ (255 : Int32) < w1) ∨ (f9_4 w0 w1 w2 w3 = (2 : Int32) ∧ (255 : Int32) < w2) ∨ (f9_4 w0 w1 w2 w3 = (3 : Int32) ∧ (255 : Int32) < w3) := by
  unfold f9_4
  by_cases h0 : (255 : Int32) < w0
  · exact Or.inl (⟨by simp only [if_pos h0], h0⟩)
  by_cases h1 : (255 : Int32) < w1
  · exact Or.inr (Or.inl (⟨by simp only [if_neg h0, if_pos h1], h1⟩))
  by_cases h2 : (255 : Int32) < w2
  · exact Or.inr (Or.inr (Or.inl (⟨by simp only [if_neg h0, if_neg h1, if_pos h2], h2⟩)))
  by_cases h3 : (255 : Int32) < w3
  · exact Or.inr (Or.inr (Or.inr (⟨by simp only [if_neg h0, if_neg h1, if_neg h2, if_pos h3], h3⟩)))
  exact absurd hU (by simp only [not_or]; exact ⟨h0, h1, h2, h3⟩)
theorem own_ne4 {w0 w1 w2 w3 : Int32} (hU : (255 : Int32) < w0 ∨ (255 : Int32) < w1 ∨ (255 : Int32) < w2 ∨ (255 : Int32) < w3) : ¬ (f9_4 w0 w1 w2 w3 = (4 : Int32)) := by
  rcases own_fst4 hU with ⟨e, g⟩ | ⟨e, g⟩ | ⟨e, g⟩ | ⟨e, g⟩ <;> rw [e] <;> decide
theorem own_ix4 {w0 w1 w2 w3 : Int32} (hU : (255 : Int32) < w0 ∨ (255 : Int32) < w1 ∨ (255 : Int32) < w2 ∨ (255 : Int32) < w3) : (¬ (((f9_4 w0 w1 w2 w3) <<< ((1 : Int32) &&& 31)) < (0 : Int32))) ∧ (((f9_4 w0 w1 w2 w3) <<< ((1 : Int32) &&& 31)) < (8 : Int32)) ∧ (¬ ((((f9_4 w0 w1 w2 w3) <<< ((1 : Int32) &&& 31)) + (1 : Int32)) < (0 : Int32))) ∧ ((((f9_4 w0 w1 w2 w3) <<< ((1 : Int32) &&& 31)) + (1 : Int32)) < (8 : Int32)) := by
  rcases own_fst4 hU with ⟨e, g⟩ | ⟨e, g⟩ | ⟨e, g⟩ | ⟨e, g⟩ <;> rw [e] <;> decide
theorem own_gt4 {w0 w1 w2 w3 : Int32} (r0 : own_chr w0) (r1 : own_chr w1) (r2 : own_chr w2) (r3 : own_chr w3) (hU : (255 : Int32) < w0 ∨ (255 : Int32) < w1 ∨ (255 : Int32) < w2 ∨ (255 : Int32) < w3) : (255 : Int32) < f22 (f9_4 w0 w1 w2 w3) [(own_b0 w0), (own_b8 w0), (own_b0 w1), (own_b8 w1), (own_b0 w2), (own_b8 w2), (own_b0 w3), (own_b8 w3)] := by
  rcases own_fst4 hU with ⟨e, g⟩ | ⟨e, g⟩ | ⟨e, g⟩ | ⟨e, g⟩ <;> rw [e]
  · rw [show f22 (0 : Int32) [(own_b0 w0), (own_b8 w0), (own_b0 w1), (own_b8 w1), (own_b0 w2), (own_b8 w2), (own_b0 w3), (own_b8 w3)] = w0 from own_rt r0]; exact g
  · rw [show f22 (1 : Int32) [(own_b0 w0), (own_b8 w0), (own_b0 w1), (own_b8 w1), (own_b0 w2), (own_b8 w2), (own_b0 w3), (own_b8 w3)] = w1 from own_rt r1]; exact g
  · rw [show f22 (2 : Int32) [(own_b0 w0), (own_b8 w0), (own_b0 w1), (own_b8 w1), (own_b0 w2), (own_b8 w2), (own_b0 w3), (own_b8 w3)] = w2 from own_rt r2]; exact g
  · rw [show f22 (3 : Int32) [(own_b0 w0), (own_b8 w0), (own_b0 w1), (own_b8 w1), (own_b0 w2), (own_b8 w2), (own_b0 w3), (own_b8 w3)] = w3 from own_rt r3]; exact g
theorem ef_8_4L (m : MethodId) (x0 : Addr) : entryFrame m #[(.ref x0), (.int 0), (.int 4)] 6 = mkF m 0 #[.val (.ref x0), .val (.int 0), .val (.int 4), .unset, .unset, .unset] [] := by first | (simp [entryFrame, mkF, argsToLocals, Value.category]; done) | rfl
def Q8_4L (Z : State) (o0 : Addr) (kc : ClassId) (w0 : Int32) (w1 : Int32) (w2 : Int32) (w3 : Int32) (h0 : Heap) (n0 : Nat) (v : Option Value) (h : Heap) (L : List Loc) : Prop := ∃ (b1 : Addr) (k_b1 : ClassId), v = (some (.ref b1)) ∧ Fr n0 L ∧ Keep h0 h [] ∧ h0.size ≤ b1 ∧ Arv Z h b1 k_b1 .byte (4 : Int32) [(.int (g9_4_o2_0 w0)), (.int (g9_4_o2_1 w0 w1)), (.int (g9_4_o2_2 w0 w1 w2)), (.int (g9_4_o2_3 w0 w1 w2 w3))] (.int 0)
set_option maxRecDepth 65536 in
set_option maxHeartbeats 40000000 in
theorem rm8_4L (l : Launch) (Z : State) (a0 : Array Value) (hw : ∀ d ∈ tables_1, d.before a0 Z = true) (ws : List Jvm.Cond) (o0 : Addr) (kc : ClassId) (w0 : Int32) (w1 : Int32) (w2 : Int32) (w3 : Int32) (h0 : Heap) (n0 : Nat) (Z0 : n0 ≤ h0.size) (I0 : Sta Z h0 "java/lang/StringUTF16" "$assertionsDisabled" "Z" (.int 1)) (I1 : Sta Z h0 "java/lang/StringUTF16" "HI_BYTE_SHIFT" "I" (.int 0)) (I2 : Sta Z h0 "java/lang/StringUTF16" "LO_BYTE_SHIFT" "I" (.int 8)) (I3 : Arv Z h0 o0 kc .char (4 : Int32) [(.int w0), (.int w1), (.int w2), (.int w3)] (.int 0)) (hl0 : ¬ ((255 : Int32) < w0)) (hl1 : ¬ ((255 : Int32) < w1)) (hl2 : ¬ ((255 : Int32) < w2)) (hl3 : ¬ ((255 : Int32) < w3)) :
    Met1 l Nm_21 (Jvm.Cond.code Nm_21 jdk_52_method_16_code 6 (some (.array .byte))) ws (rom 1 1 4 18) #[(.ref o0), (.int 0), (.int 4)] Z h0 (Q8_4L Z o0 kc w0 w1 w2 w3 h0 n0) := by
  refine MetFree.of_bodySF (plainFor_of_name pn_8) hisR ?_
  intro p e s m args below meth c s₁ Bd hml0 hP hK
  obtain ⟨rfl, hZ, hh⟩ := hP
  have hx := Bd.exec
  have hby := Bd.bytes
  have hml : c.maxLocals = 6 := hml0
  have hown : s.vm.findClass "java/lang/StringUTF16" = some m.cls := findClass_of_methodNamed Bd.named
  have X0 : Stand p l e (rom 1 1 4 18) s m _ _ _ _ _ [] 0 0 := Stand.of_body Bd
  have e0 : s₁.heap = h0 := by rw [← hh, Bd.state]; rfl
  have N0 := Fr.nil n0
  have K0 : Keep h0 h0 [] := Keep.refl _ _
  have pre0 : Go p e below s₁ _ (mkF m 0 #[.val (.ref o0), .val (.int 0), .val (.int 4), .unset, .unset, .unset] []) _ := fun t k => castTop (ef_8_4L m o0) k
  have pre1 : Go p e below s₁ _ (mkF m 1 #[.val (.ref o0), .val (.int 0), .val (.int 4), .unset, .unset, .unset] [(.int 4)]) _ := fun t k => pre0 t (by
    refine XS.iloadN X0.here hx rfl (hb hby d8_0) rfl ?_
    exact k)
  obtain ⟨T2, h2, k2, X2, e2, E2, A2, st2⟩ := newP X0 hx hZ (wq hw 21 rfl) e0 (g := (mkF m 1 #[.val (.ref o0), .val (.int 0), .val (.int 4), .unset, .unset, .unset] [(.int 4)])) rfl (hb hby d8_1) rfl (by decide) (cap := 4) (by decide) (by decide) (by decide) (by decide)
  obtain ⟨b1, g2⟩ : ∃ z, z = h0.size := ⟨_, rfl⟩
  rw [← g2] at A2 st2
  have gg2 : n0 ≤ b1 := Nat.le_trans Z0 (Nat.le_of_eq g2.symm)
  have sz2 : h0.size ≤ b1 := Nat.le_trans K0.1 (Nat.le_of_eq g2.symm)
  have K2 : Keep h0 h2 [] := K0.ext E2
  have Z2 : n0 ≤ h2.size := Nat.le_trans Z0 E2.1
  have V2 : Arv Z h2 b1 k2 .byte (4 : Int32) [(.int 0), (.int 0), (.int 0), (.int 0)] (.int 0) := (Arv.new A2 (by decide)).pad (pad_rep [] (.int 0) 4)
  have ne2_o0 : o0 ≠ b1 := Nat.ne_of_lt (Nat.lt_of_lt_of_le I3.lt (Nat.le_of_eq g2.symm))
  have x3 := I0.ext E2
  have x4 := I1.ext E2
  have x5 := I2.ext E2
  have x6 := I3.ext E2
  have pre7 := Go.thn pre1 st2
  have pre8 : Go p e below T2 _ (mkF m 9 #[.val (.ref o0), .val (.int 0), .val (.int 4), .val (.ref b1), .unset, .unset] [(.int 4), (.int 0), (.ref b1), (.int 0), (.ref o0)]) _ := fun t k => pre7 t (by
    refine XS.astoreN X2.here hx rfl (hb hby d8_3) rfl rfl (l' := #[.val (.ref o0), .val (.int 0), .val (.int 4), .val (.ref b1), .unset, .unset]) rfl ?_
    refine XS.aloadN X2.here hx rfl (hb hby d8_4) rfl rfl ?_
    refine XS.iloadN X2.here hx rfl (hb hby d8_5) rfl ?_
    refine XS.aloadN X2.here hx rfl (hb hby d8_6) rfl rfl ?_
    refine XS.iconst X2.here hx rfl (hb hby d8_7) ?_
    refine XS.iloadN X2.here hx rfl (hb hby d8_8) rfl ?_
    exact k)
  obtain ⟨_, _, ⟨T9, L9, k9, n9⟩, -, X9, ⟨Lc9, hQ9, l9, y9, z9⟩, st9⟩ := Jvm.LawKit.callS X2 hx (y := Nm_20) hown (mvT hZ (wq hw 47 rfl)) (mvT hZ (wq hw 48 rfl)) (mvT hZ (wq hw 45 rfl)) (mvT hZ (wq hw 49 rfl)) (by decide) (backOf (W := 0) (rm9_4 l Z a0 hw [] o0 b1 _ w0 w1 w2 w3 _ h2 n0 Z2 x6 V2 gg2 ne2_o0) hZ (wq hw 49 rfl) (wq hw 45 rfl) (by decide) (by decide)) (g := (mkF m 9 #[.val (.ref o0), .val (.int 0), .val (.int 4), .val (.ref b1), .unset, .unset] [(.int 4), (.int 0), (.ref b1), (.int 0), (.ref o0)])) rfl (by rw [hml]; rfl) (argsL := [(.ref o0), (.int 0), (.ref b1), (.int 0), (.int 4)]) (rest := []) (lenOf pd___CI_BII_I rfl) rfl (w00 rfl) (hb hby d8_9) (fun _ _ => ⟨rfl, e2, (by decide : 1 + 0 ≤ _), (by decide : 4 + 0 ≤ _)⟩)
  dsimp only [Pt.U, Pt.locs, Pt.cells, Pt.slots] at X9 l9 y9 z9 st9 hQ9
  subst l9 y9 z9
  obtain ⟨rfl, Nq9, Kq9, o9_0⟩ := hQ9
  have N9 := Fr.app N0 Nq9
  have K9 : Keep h0 T9.heap [] := K2.trans Kq9 (allS (Or.inr sz2) all0)
  have Z9 : n0 ≤ T9.heap.size := Nat.le_trans Z2 Kq9.1
  have x10 := own_staK x3 Kq9 (allS (own_plV V2) all0)
  have x11 := own_staK x4 Kq9 (allS (own_plV V2) all0)
  have x12 := own_staK x5 Kq9 (allS (own_plV V2) all0)
  have x13 := x6.keep Kq9 (ninS ne2_o0 nin0)
  have pre14 := Go.thn pre8 st9
  have pre15 : Go p e below T9 _ (mkF m 58 #[.val (.ref o0), .val (.int 0), .val (.int 4), .val (.ref b1), .val (.int 4), .unset] [(.ref b1)]) _ := fun t k => pre14 t (by
    show Steps p.tables e below (T9.setTop (mkF m 12 #[.val (.ref o0), .val (.int 0), .val (.int 4), .val (.ref b1), .unset, .unset] [(.int (f9_4 w0 w1 w2 w3))])) _
    rw [own_all4 hl0 hl1 hl2 hl3]
    refine XS.istore X9.here hx rfl (hb hby d8_12) rfl (l' := #[.val (.ref o0), .val (.int 0), .val (.int 4), .val (.ref b1), .val (.int 4), .unset]) rfl ?_
    refine XS.iload X9.here hx rfl (hb hby d8_14) rfl ?_
    refine XS.iloadN X9.here hx rfl (hb hby d8_16) rfl ?_
    refine XS.icmpYes X9.here hx rfl (pc0 := 17) (pc' := 57) rfl (hb hby d8_17) rfl (by decide) (by decide) (by decide) ?_
    refine XS.aloadN X9.here hx rfl (hb hby d8_57) rfl rfl ?_
    exact k)
  obtain ⟨fs, hr, hrun, hended, hW, hsame⟩ := X9.leave (v := some (.ref b1)) (fun h => by rw [Bd.returns] at h; cases h)
  refine ⟨_, _, ?_, hrun, hended, _, _, rfl, ?_, ⟨_, rfl⟩, hW, hsame.mono (by decide) (by decide)⟩
  · refine pre15 _ ?_
    jvm_step X9.here [X9.here.top, hx, (hb hby d8_58), X9.method', Bd.returns, Value.isRef, FieldType.isReference]
    first | (intro acts; rw [hr _ acts rfl rfl rfl]) | rw [hr _ _ rfl rfl rfl]
    exact Steps.refl _
  · show Q8_4L Z o0 kc w0 w1 w2 w3 h0 n0 _ T9.heap _
    skip
    exact ⟨b1, _, rfl, N9, K9, sz2, o9_0⟩
def Q8_4U (Z : State) (o0 : Addr) (kc : ClassId) (w0 : Int32) (w1 : Int32) (w2 : Int32) (w3 : Int32) (h0 : Heap) (n0 : Nat) (v : Option Value) (h : Heap) (L : List Loc) : Prop := ∃ (b23_0 : Addr) (k_b23_0 : ClassId), v = (some (.ref b23_0)) ∧ Fr n0 L ∧ Keep h0 h [] ∧ h0.size ≤ b23_0 ∧ Arv Z h b23_0 k_b23_0 .byte (8 : Int32) [(.int (own_b0 w0)), (.int (own_b8 w0)), (.int (own_b0 w1)), (.int (own_b8 w1)), (.int (own_b0 w2)), (.int (own_b8 w2)), (.int (own_b0 w3)), (.int (own_b8 w3))] (.int 0)
set_option maxRecDepth 65536 in
set_option maxHeartbeats 40000000 in
theorem rm8_4U (l : Launch) (Z : State) (a0 : Array Value) (hw : ∀ d ∈ tables_1, d.before a0 Z = true) (ws : List Jvm.Cond) (o0 : Addr) (kc : ClassId) (w0 : Int32) (w1 : Int32) (w2 : Int32) (w3 : Int32) (h0 : Heap) (n0 : Nat) (Z0 : n0 ≤ h0.size) (I0 : Sta Z h0 "java/lang/StringUTF16" "$assertionsDisabled" "Z" (.int 1)) (I1 : Sta Z h0 "java/lang/StringUTF16" "HI_BYTE_SHIFT" "I" (.int 0)) (I2 : Sta Z h0 "java/lang/StringUTF16" "LO_BYTE_SHIFT" "I" (.int 8)) (I3 : Arv Z h0 o0 kc .char (4 : Int32) [(.int w0), (.int w1), (.int w2), (.int w3)] (.int 0)) (r0 : own_chr w0) (r1 : own_chr w1) (r2 : own_chr w2) (r3 : own_chr w3) (hU : (255 : Int32) < w0 ∨ (255 : Int32) < w1 ∨ (255 : Int32) < w2 ∨ (255 : Int32) < w3) :
    Met1 l Nm_21 (Jvm.Cond.code Nm_21 jdk_52_method_16_code 6 (some (.array .byte))) ws (rom 3 2 12 40) #[(.ref o0), (.int 0), (.int 4)] Z h0 (Q8_4U Z o0 kc w0 w1 w2 w3 h0 n0) := by
  refine MetFree.of_bodySF (plainFor_of_name pn_8) hisR ?_
  intro p e s m args below meth c s₁ Bd hml0 hP hK
  obtain ⟨rfl, hZ, hh⟩ := hP
  have hx := Bd.exec
  have hby := Bd.bytes
  have hml : c.maxLocals = 6 := hml0
  have hown : s.vm.findClass "java/lang/StringUTF16" = some m.cls := findClass_of_methodNamed Bd.named
  have X0 : Stand p l e (rom 3 2 12 40) s m _ _ _ _ _ [] 0 0 := Stand.of_body Bd
  have e0 : s₁.heap = h0 := by rw [← hh, Bd.state]; rfl
  have N0 := Fr.nil n0
  have K0 : Keep h0 h0 [] := Keep.refl _ _
  have pre0 : Go p e below s₁ _ (mkF m 0 #[.val (.ref o0), .val (.int 0), .val (.int 4), .unset, .unset, .unset] []) _ := fun t k => castTop (ef_8_4L m o0) k
  have pre1 : Go p e below s₁ _ (mkF m 1 #[.val (.ref o0), .val (.int 0), .val (.int 4), .unset, .unset, .unset] [(.int 4)]) _ := fun t k => pre0 t (by
    refine XS.iloadN X0.here hx rfl (hb hby d8_0) rfl ?_
    exact k)
  obtain ⟨T2, h2, k2, X2, e2, E2, A2, st2⟩ := newP X0 hx hZ (wq hw 21 rfl) e0 (g := (mkF m 1 #[.val (.ref o0), .val (.int 0), .val (.int 4), .unset, .unset, .unset] [(.int 4)])) rfl (hb hby d8_1) rfl (by decide) (cap := 4) (by decide) (by decide) (by decide) (by decide)
  obtain ⟨b1, g2⟩ : ∃ z, z = h0.size := ⟨_, rfl⟩
  rw [← g2] at A2 st2
  have gg2 : n0 ≤ b1 := Nat.le_trans Z0 (Nat.le_of_eq g2.symm)
  have sz2 : h0.size ≤ b1 := Nat.le_trans K0.1 (Nat.le_of_eq g2.symm)
  have K2 : Keep h0 h2 [] := K0.ext E2
  have Z2 : n0 ≤ h2.size := Nat.le_trans Z0 E2.1
  have V2 : Arv Z h2 b1 k2 .byte (4 : Int32) [(.int 0), (.int 0), (.int 0), (.int 0)] (.int 0) := (Arv.new A2 (by decide)).pad (pad_rep [] (.int 0) 4)
  have ne2_o0 : o0 ≠ b1 := Nat.ne_of_lt (Nat.lt_of_lt_of_le I3.lt (Nat.le_of_eq g2.symm))
  have x3 := I0.ext E2
  have x4 := I1.ext E2
  have x5 := I2.ext E2
  have x6 := I3.ext E2
  have pre7 := Go.thn pre1 st2
  have pre8 : Go p e below T2 _ (mkF m 9 #[.val (.ref o0), .val (.int 0), .val (.int 4), .val (.ref b1), .unset, .unset] [(.int 4), (.int 0), (.ref b1), (.int 0), (.ref o0)]) _ := fun t k => pre7 t (by
    refine XS.astoreN X2.here hx rfl (hb hby d8_3) rfl rfl (l' := #[.val (.ref o0), .val (.int 0), .val (.int 4), .val (.ref b1), .unset, .unset]) rfl ?_
    refine XS.aloadN X2.here hx rfl (hb hby d8_4) rfl rfl ?_
    refine XS.iloadN X2.here hx rfl (hb hby d8_5) rfl ?_
    refine XS.aloadN X2.here hx rfl (hb hby d8_6) rfl rfl ?_
    refine XS.iconst X2.here hx rfl (hb hby d8_7) ?_
    refine XS.iloadN X2.here hx rfl (hb hby d8_8) rfl ?_
    exact k)
  obtain ⟨_, _, ⟨T9, L9, k9, n9⟩, -, X9, ⟨Lc9, hQ9, l9, y9, z9⟩, st9⟩ := Jvm.LawKit.callS X2 hx (y := Nm_20) hown (mvT hZ (wq hw 47 rfl)) (mvT hZ (wq hw 48 rfl)) (mvT hZ (wq hw 45 rfl)) (mvT hZ (wq hw 49 rfl)) (by decide) (backOf (W := 0) (rm9_4 l Z a0 hw [] o0 b1 _ w0 w1 w2 w3 _ h2 n0 Z2 x6 V2 gg2 ne2_o0) hZ (wq hw 49 rfl) (wq hw 45 rfl) (by decide) (by decide)) (g := (mkF m 9 #[.val (.ref o0), .val (.int 0), .val (.int 4), .val (.ref b1), .unset, .unset] [(.int 4), (.int 0), (.ref b1), (.int 0), (.ref o0)])) rfl (by rw [hml]; rfl) (argsL := [(.ref o0), (.int 0), (.ref b1), (.int 0), (.int 4)]) (rest := []) (lenOf pd___CI_BII_I rfl) rfl (w00 rfl) (hb hby d8_9) (fun _ _ => ⟨rfl, e2, (by decide : 1 + 0 ≤ _), (by decide : 4 + 0 ≤ _)⟩)
  dsimp only [Pt.U, Pt.locs, Pt.cells, Pt.slots] at X9 l9 y9 z9 st9 hQ9
  subst l9 y9 z9
  obtain ⟨rfl, Nq9, Kq9, o9_0⟩ := hQ9
  have N9 := Fr.app N0 Nq9
  have K9 : Keep h0 T9.heap [] := K2.trans Kq9 (allS (Or.inr sz2) all0)
  have Z9 : n0 ≤ T9.heap.size := Nat.le_trans Z2 Kq9.1
  have x10 := own_staK x3 Kq9 (allS (own_plV V2) all0)
  have x11 := own_staK x4 Kq9 (allS (own_plV V2) all0)
  have x12 := own_staK x5 Kq9 (allS (own_plV V2) all0)
  have x13 := x6.keep Kq9 (ninS ne2_o0 nin0)
  have pre14 := Go.thn pre8 st9
  have pre15 : Go p e below T9 _ (mkF m 23 #[.val (.ref o0), .val (.int 0), .val (.int 4), .val (.ref b1), .val (.int (f9_4 w0 w1 w2 w3)), .unset] [(.int 4), (.int 0), (.ref o0)]) _ := fun t k => pre14 t (by
    refine XS.istore X9.here hx rfl (hb hby d8_12) rfl (l' := #[.val (.ref o0), .val (.int 0), .val (.int 4), .val (.ref b1), .val (.int (f9_4 w0 w1 w2 w3)), .unset]) rfl ?_
    refine XS.iload X9.here hx rfl (hb hby d8_14) rfl ?_
    refine XS.iloadN X9.here hx rfl (hb hby d8_16) rfl ?_
    refine XS.icmpNo X9.here hx rfl (hb hby d8_17) rfl (feq (own_ne4 hU)).1 ?_
    refine XS.aloadN X9.here hx rfl (hb hby d8_20) rfl rfl ?_
    refine XS.iloadN X9.here hx rfl (hb hby d8_21) rfl ?_
    refine XS.iloadN X9.here hx rfl (hb hby d8_22) rfl ?_
    exact k)
  obtain ⟨_, _, ⟨T16, L16, k16, n16⟩, -, X16, ⟨Lc16, hQ16, l16, y16, z16⟩, st16⟩ := Jvm.LawKit.callS X9 hx (y := Nm_19) hown (mvT hZ (wq hw 81 rfl)) (mvT hZ (wq hw 82 rfl)) (mvT hZ (wq hw 45 rfl)) (mvT hZ (wq hw 83 rfl)) (by decide) (backOf (W := 0) (rm18_4 l Z a0 hw [] o0 _ w0 w1 w2 w3 T9.heap n0 Z9 x10 x11 x12 x13) hZ (wq hw 83 rfl) (wq hw 45 rfl) (by decide) (by decide)) (g := (mkF m 23 #[.val (.ref o0), .val (.int 0), .val (.int 4), .val (.ref b1), .val (.int (f9_4 w0 w1 w2 w3)), .unset] [(.int 4), (.int 0), (.ref o0)])) rfl (by rw [hml]; rfl) (argsL := [(.ref o0), (.int 0), (.int 4)]) (rest := []) (lenOf pd___CII__B rfl) rfl (w00 rfl) (hb hby d8_23) (fun _ _ => ⟨rfl, rfl, (by decide : 1 + 1 ≤ _), (by decide : 4 + 8 ≤ _)⟩)
  dsimp only [Pt.U, Pt.locs, Pt.cells, Pt.slots] at X16 l16 y16 z16 st16 hQ16
  subst l16 y16 z16
  obtain ⟨b23_0, k_b1_0_16, rfl, Nq16, Kq16, gz16_b23_0, o16_0⟩ := hQ16
  have N16 := Fr.app N9 Nq16
  have K16 : Keep h0 T16.heap [] := K9.trans Kq16 all0
  have Z16 : n0 ≤ T16.heap.size := Nat.le_trans Z9 Kq16.1
  have x17 := own_staK x10 Kq16 all0
  have x18 := own_staK x11 Kq16 all0
  have x19 := own_staK x12 Kq16 all0
  have x20 := x13.keep Kq16 nin0
  have x21 := o9_0.keep Kq16 nin0
  have gg16_b23_0 : n0 ≤ b23_0 := Nat.le_trans Z9 gz16_b23_0
  have sz16_b23_0 : h0.size ≤ b23_0 := Nat.le_trans K9.1 gz16_b23_0
  have ne16_o0_b23_0 : o0 ≠ b23_0 := Nat.ne_of_lt (Nat.lt_of_lt_of_le x13.lt gz16_b23_0)
  have ne16_b1_b23_0 : b1 ≠ b23_0 := Nat.ne_of_lt (Nat.lt_of_lt_of_le o9_0.lt gz16_b23_0)
  have pre22 := Go.thn pre15 st16
  have pre23 : Go p e below T16 _ (mkF m 32 #[.val (.ref o0), .val (.int 0), .val (.int 4), .val (.ref b1), .val (.int (f9_4 w0 w1 w2 w3)), .val (.ref b23_0)] [(.int (f9_4 w0 w1 w2 w3)), (.ref b23_0)]) _ := fun t k => pre22 t (by
    refine XS.astore X16.here hx rfl (hb hby d8_26) rfl rfl (l' := #[.val (.ref o0), .val (.int 0), .val (.int 4), .val (.ref b1), .val (.int (f9_4 w0 w1 w2 w3)), .val (.ref b23_0)]) rfl ?_
    refine XS.aload X16.here hx rfl (hb hby d8_28) rfl rfl ?_
    refine XS.iload X16.here hx rfl (hb hby d8_30) rfl ?_
    exact k)
  obtain ⟨_, _, ⟨T24, L24, k24, n24⟩, -, X24, ⟨Lc24, hQ24, l24, y24, z24⟩, st24⟩ := Jvm.LawKit.callS X16 hx (y := Nm_9) hown (mvT hZ (wq hw 97 rfl)) (mvT hZ (wq hw 98 rfl)) (mvT hZ (wq hw 45 rfl)) (mvT hZ (wq hw 99 rfl)) (by decide) (backOf (W := 0) (rm22 l Z a0 hw [] b23_0 (f9_4 w0 w1 w2 w3) _ (8 : Int32) [(own_b0 w0), (own_b8 w0), (own_b0 w1), (own_b8 w1), (own_b0 w2), (own_b8 w2), (own_b0 w3), (own_b8 w3)] T16.heap n0 Z16 x17 x18 x19 o16_0 (own_ix4 hU).1 (own_ix4 hU).2.1 (own_ix4 hU).2.2.1 (own_ix4 hU).2.2.2) hZ (wq hw 99 rfl) (wq hw 45 rfl) (by decide) (by decide)) (g := (mkF m 32 #[.val (.ref o0), .val (.int 0), .val (.int 4), .val (.ref b1), .val (.int (f9_4 w0 w1 w2 w3)), .val (.ref b23_0)] [(.int (f9_4 w0 w1 w2 w3)), (.ref b23_0)])) rfl (by rw [hml]; rfl) (argsL := [(.ref b23_0), (.int (f9_4 w0 w1 w2 w3))]) (rest := []) (lenOf pd___BI_C rfl) rfl (w00 rfl) (hb hby d8_32) (fun _ _ => ⟨rfl, rfl, (by decide : 2 + 0 ≤ _), (by decide : 12 + 0 ≤ _)⟩)
  dsimp only [Pt.U, Pt.locs, Pt.cells, Pt.slots] at X24 l24 y24 z24 st24 hQ24
  subst l24 y24 z24
  obtain ⟨rfl, Nq24, e24⟩ := hQ24
  have N24 := Fr.app N16 Nq24
  have pre25 := Go.thn pre23 st24
  have pre26 : Go p e below T24 _ (mkF m 56 #[.val (.ref o0), .val (.int 0), .val (.int 4), .val (.ref b1), .val (.int (f9_4 w0 w1 w2 w3)), .val (.ref b23_0)] [(.ref b23_0)]) _ := fun t k => pre25 t (by
    refine XS.sipush X24.here hx rfl (hb hby d8_35) ?_
    refine XS.icmpYes X24.here hx rfl (pc0 := 38) (pc' := 54) rfl (hb hby d8_38) rfl (tlt (own_gt4 r0 r1 r2 r3 hU)).2.2.1 (by decide) (by decide) ?_
    refine XS.aload X24.here hx rfl (hb hby d8_54) rfl rfl ?_
    exact k)
  obtain ⟨fs, hr, hrun, hended, hW, hsame⟩ := X24.leave (v := some (.ref b23_0)) (fun h => by rw [Bd.returns] at h; cases h)
  refine ⟨_, _, ?_, hrun, hended, _, _, rfl, ?_, ⟨_, rfl⟩, hW, hsame.mono (by decide) (by decide)⟩
  · refine pre26 _ ?_
    jvm_step X24.here [X24.here.top, hx, (hb hby d8_56), X24.method', Bd.returns, Value.isRef, FieldType.isReference]
    first | (intro acts; rw [hr _ acts rfl rfl rfl]) | rw [hr _ _ rfl rfl rfl]
    exact Steps.refl _
  · show Q8_4U Z o0 kc w0 w1 w2 w3 h0 n0 _ T24.heap _
    rw [e24]
    exact ⟨b23_0, _, rfl, N24, K16, sz16_b23_0, o16_0⟩
theorem ef_3_4L (m : MethodId) (x0 : Addr) (x1 : Addr) : entryFrame m #[(.ref x0), (.ref x1), (.int 0), (.int 4), .null] 6 = mkF m 0 #[.val (.ref x0), .val (.ref x1), .val (.int 0), .val (.int 4), .val .null, .unset] [] := by first | (simp [entryFrame, mkF, argsToLocals, Value.category]; done) | rfl
def Q3_4L (Z : State) (o0 : Addr) (o1 : Addr) (wcs : Int32) (kc : ClassId) (w0 : Int32) (w1 : Int32) (w2 : Int32) (w3 : Int32) (h0 : Heap) (n0 : Nat) (v : Option Value) (h : Heap) (L : List Loc) : Prop := ∃ (b36_0 : Addr) (k_b36_0 : ClassId), v = none ∧ Fr n0 L ∧ Keep h0 h [o0] ∧ h0.size ≤ b36_0 ∧ Exa Z h o0 "java/lang/String" ∧ Fld Z h o0 "java/lang/String" "value" "[B" (.ref b36_0) ∧ Fld Z h o0 "java/lang/String" "coder" "B" (.int 0) ∧ Arv Z h b36_0 k_b36_0 .byte (4 : Int32) [(.int (g9_4_o2_0 w0)), (.int (g9_4_o2_1 w0 w1)), (.int (g9_4_o2_2 w0 w1 w2)), (.int (g9_4_o2_3 w0 w1 w2 w3))] (.int 0)
set_option maxRecDepth 65536 in
set_option maxHeartbeats 40000000 in
theorem rm3_4L (l : Launch) (Z : State) (a0 : Array Value) (hw : ∀ d ∈ tables_1, d.before a0 Z = true) (ws : List Jvm.Cond) (o0 : Addr) (o1 : Addr) (wcs : Int32) (kc : ClassId) (w0 : Int32) (w1 : Int32) (w2 : Int32) (w3 : Int32) (h0 : Heap) (n0 : Nat) (Z0 : n0 ≤ h0.size) (I0 : Sta Z h0 "java/lang/String" "COMPACT_STRINGS" "Z" (.int wcs)) (I1 : Sta Z h0 "java/lang/StringUTF16" "$assertionsDisabled" "Z" (.int 1)) (I2 : Sta Z h0 "java/lang/StringUTF16" "HI_BYTE_SHIFT" "I" (.int 0)) (I3 : Sta Z h0 "java/lang/StringUTF16" "LO_BYTE_SHIFT" "I" (.int 8)) (I4 : Exa Z h0 o0 "java/lang/String") (I5 : Fld Z h0 o0 "java/lang/String" "value" "[B" .null) (I6 : Fld Z h0 o0 "java/lang/String" "coder" "B" (.int 0)) (I7 : Arv Z h0 o1 kc .char (4 : Int32) [(.int w0), (.int w1), (.int w2), (.int w3)] (.int 0)) (gw_o0 : n0 ≤ o0) (ne_o1_o0 : o1 ≠ o0) (hcs : ¬ (wcs = (0 : Int32))) (hl0 : ¬ ((255 : Int32) < w0)) (hl1 : ¬ ((255 : Int32) < w1)) (hl2 : ¬ ((255 : Int32) < w2)) (hl3 : ¬ ((255 : Int32) < w3)) :
    Met1 l Nm_22 (Jvm.Cond.code Nm_22 jdk_42_method_149_code 6 none) ws (rom 2 1 4 35) #[(.ref o0), (.ref o1), (.int 0), (.int 4), .null] Z h0 (Q3_4L Z o0 o1 wcs kc w0 w1 w2 w3 h0 n0) := by
  refine MetFree.of_bodySF (plainFor_of_name pn_3) hisR ?_
  intro p e s m args below meth c s₁ Bd hml0 hP hK
  obtain ⟨rfl, hZ, hh⟩ := hP
  have hx := Bd.exec
  have hby := Bd.bytes
  have hml : c.maxLocals = 6 := hml0
  have hown : s.vm.findClass "java/lang/String" = some m.cls := findClass_of_methodNamed Bd.named
  have hnm := (name_of_methodNamed Bd.named Bd.method).1
  have X0 : Stand p l e (rom 2 1 4 35) s m _ _ _ _ _ [] 0 0 := Stand.of_body Bd
  have e0 : s₁.heap = h0 := by rw [← hh, Bd.state]; rfl
  have N0 := Fr.nil n0
  have K0 : Keep h0 h0 [o0] := Keep.refl _ _
  have pre0 : Go p e below s₁ _ (mkF m 0 #[.val (.ref o0), .val (.ref o1), .val (.int 0), .val (.int 4), .val .null, .unset] []) _ := fun t k => castTop (ef_3_4L m o0 o1) k
  have pre1 : Go p e below s₁ _ (mkF m 1 #[.val (.ref o0), .val (.ref o1), .val (.int 0), .val (.int 4), .val .null, .unset] [(.ref o0)]) _ := fun t k => pre0 t (by
    refine XS.aloadN X0.here hx rfl (hb hby d3_0) rfl rfl ?_
    exact k)
  obtain ⟨T2, X2, e2, st2⟩ := initO X0 hx hZ hown (wq hw 17 rfl) (wq hw 18 rfl) (wq hw 19 rfl) e0 (g := (mkF m 1 #[.val (.ref o0), .val (.ref o1), .val (.int 0), .val (.int 4), .val .null, .unset] [(.ref o0)])) rfl (by rw [hml]; rfl) rfl (hb hby d3_1) (by decide) (W := 0) (w00 rfl) (by decide)
  have pre3 := Go.thn pre1 st2
  have pre4 : Go p e below T2 _ (mkF m 27 #[.val (.ref o0), .val (.ref o1), .val (.int 0), .val (.int 4), .val .null, .unset] []) _ := fun t k => pre3 t (by
    refine XS.iloadN X2.here hx rfl (hb hby d3_4) rfl ?_
    refine XS.ifYes X2.here hx rfl (pc0 := 5) (pc' := 27) rfl (hb hby d3_5) rfl (by decide) (by decide) (by decide) ?_
    exact k)
  obtain ⟨T5, X5, e5, st5⟩ := getS2 X2 hx hZ hown (host := "") (Or.inl (wq hw 42 rfl)) Via.refl e2 I0 (g := (mkF m 27 #[.val (.ref o0), .val (.ref o1), .val (.int 0), .val (.int 4), .val .null, .unset] [])) rfl (hb hby d3_27)
  have pre6 := Go.thn pre4 st5
  have pre7 : Go p e below T5 _ (mkF m 36 #[.val (.ref o0), .val (.ref o1), .val (.int 0), .val (.int 4), .val .null, .unset] [(.int 4), (.int 0), (.ref o1)]) _ := fun t k => pre6 t (by
    refine XS.ifNo X5.here hx rfl (hb hby d3_30) rfl ((if0 _ _).trans (feq hcs).1) ?_
    refine XS.aloadN X5.here hx rfl (hb hby d3_33) rfl rfl ?_
    refine XS.iloadN X5.here hx rfl (hb hby d3_34) rfl ?_
    refine XS.iloadN X5.here hx rfl (hb hby d3_35) rfl ?_
    exact k)
  obtain ⟨_, _, ⟨T8, L8, k8, n8⟩, -, X8, ⟨Lc8, hQ8, l8, y8, z8⟩, st8⟩ := Jvm.LawKit.callS X5 hx (y := Nm_21) hown (mvT hZ (wq hw 43 rfl)) (mvT hZ (wq hw 44 rfl)) (mvT hZ (wq hw 45 rfl)) (mvT hZ (wq hw 46 rfl)) (by decide) (backOf (W := 0) (rm8_4L l Z a0 hw [] o1 _ w0 w1 w2 w3 h0 n0 Z0 I1 I2 I3 I7 hl0 hl1 hl2 hl3) hZ (wq hw 46 rfl) (wq hw 45 rfl) (by decide) (by decide)) (g := (mkF m 36 #[.val (.ref o0), .val (.ref o1), .val (.int 0), .val (.int 4), .val .null, .unset] [(.int 4), (.int 0), (.ref o1)])) rfl (by rw [hml]; rfl) (argsL := [(.ref o1), (.int 0), (.int 4)]) (rest := []) (lenOf pd___CII__B rfl) rfl (w00 rfl) (hb hby d3_36) (fun _ _ => ⟨rfl, e5, (by decide : 0 + 1 ≤ _), (by decide : 0 + 4 ≤ _)⟩)
  dsimp only [Pt.U, Pt.locs, Pt.cells, Pt.slots] at X8 l8 y8 z8 st8 hQ8
  subst l8 y8 z8
  obtain ⟨b36_0, k_b1_8, rfl, Nq8, Kq8, gz8_b36_0, o8_0⟩ := hQ8
  have N8 := Fr.app N0 Nq8
  have K8 : Keep h0 T8.heap [o0] := K0.trans Kq8 all0
  have Z8 : n0 ≤ T8.heap.size := Nat.le_trans Z0 Kq8.1
  have x9 := own_staK I0 Kq8 all0
  have x10 := own_staK I1 Kq8 all0
  have x11 := own_staK I2 Kq8 all0
  have x12 := own_staK I3 Kq8 all0
  have x13 := I4.keep Kq8
  have x14 := I5.keep Kq8 nin0
  have x15 := I6.keep Kq8 nin0
  have x16 := I7.keep Kq8 nin0
  have gg8_b36_0 : n0 ≤ b36_0 := Nat.le_trans Z0 gz8_b36_0
  have sz8_b36_0 : h0.size ≤ b36_0 := Nat.le_trans K0.1 gz8_b36_0
  have ne8_o0_b36_0 : o0 ≠ b36_0 := Nat.ne_of_lt (Nat.lt_of_lt_of_le I4.lt gz8_b36_0)
  have ne8_o1_b36_0 : o1 ≠ b36_0 := Nat.ne_of_lt (Nat.lt_of_lt_of_le I7.lt gz8_b36_0)
  have pre17 := Go.thn pre7 st8
  have pre18 : Go p e below T8 _ (mkF m 45 #[.val (.ref o0), .val (.ref o1), .val (.int 0), .val (.int 4), .val .null, .val (.ref b36_0)] [(.int 4), (.ref b36_0), (.ref o0)]) _ := fun t k => pre17 t (by
    refine XS.astore X8.here hx rfl (hb hby d3_39) rfl rfl (l' := #[.val (.ref o0), .val (.ref o1), .val (.int 0), .val (.int 4), .val .null, .val (.ref b36_0)]) rfl ?_
    refine XS.aloadN X8.here hx rfl (hb hby d3_41) rfl rfl ?_
    refine XS.aload X8.here hx rfl (hb hby d3_42) rfl rfl ?_
    refine XS.iloadN X8.here hx rfl (hb hby d3_44) rfl ?_
    exact k)
  obtain ⟨_, _, ⟨T19, L19, k19, n19⟩, -, X19, ⟨Lc19, hQ19, l19, y19, z19⟩, st19⟩ := Jvm.LawKit.callS X8 hx (y := Nm_15) hown (mvT hZ (wq hw 50 rfl)) (mvT hZ (wq hw 51 rfl)) (mvT hZ (wq hw 45 rfl)) (mvT hZ (wq hw 52 rfl)) (by decide) (backOf (W := 1) (rm10 l Z a0 hw [] b36_0 (4 : Int32) _ (4 : Int32) [(g9_4_o2_0 w0), (g9_4_o2_1 w0 w1), (g9_4_o2_2 w0 w1 w2), (g9_4_o2_3 w0 w1 w2 w3)] T8.heap n0 Z8 o8_0) hZ (wq hw 52 rfl) (wq hw 45 rfl) (by decide) (by decide)) (g := (mkF m 45 #[.val (.ref o0), .val (.ref o1), .val (.int 0), .val (.int 4), .val .null, .val (.ref b36_0)] [(.int 4), (.ref b36_0), (.ref o0)])) rfl (by rw [hml]; rfl) (argsL := [(.ref b36_0), (.int 4)]) (rest := [(.ref o0)]) (lenOf pd___BI_B rfl) rfl (w00 rfl) (hb hby d3_45) (fun _ _ => ⟨rfl, rfl, (by decide : 1 + 0 ≤ _), (by decide : 4 + 0 ≤ _)⟩)
  dsimp only [Pt.U, Pt.locs, Pt.cells, Pt.slots] at X19 l19 y19 z19 st19 hQ19
  subst l19 y19 z19
  obtain ⟨rfl, Nq19, e19⟩ := hQ19
  have N19 := Fr.app N8 Nq19
  have pre20 := Go.thn pre18 st19
  have pre21 : Go p e below T19 _ (mkF m 48 #[.val (.ref o0), .val (.ref o1), .val (.int 0), .val (.int 4), .val .null, .val (.ref b36_0)] [(.int 0), (.ref o0)]) _ := fun t k => pre20 t (by
    show Steps p.tables e below (T19.setTop (mkF m 48 #[.val (.ref o0), .val (.ref o1), .val (.int 0), .val (.int 4), .val .null, .val (.ref b36_0)] [(.int (f10 (4 : Int32) (4 : Int32))), (.ref o0)])) _
    rw [show f10 (4 : Int32) (4 : Int32) = (0 : Int32) from rfl]
    exact k)
  obtain ⟨T22, h22, X22, e22, W22, st22⟩ := putFN X19 hx hZ hown (wq hw 27 rfl) Via.refl e19 x15 x13 (Or.inr ⟨(wq hw 23 rfl), rfl, hnm⟩) (wq hw 7 rfl) (ty := .byte) (v' := (.int 0)) (by decide) rfl (by decide) (g := (mkF m 48 #[.val (.ref o0), .val (.ref o1), .val (.int 0), .val (.int 4), .val .null, .val (.ref b36_0)] [(.int 0), (.ref o0)])) rfl rfl (hb hby d3_48)
  have N22 := Fr.snoc X22 N19 gw_o0
  have K22 : Keep h0 h22 [o0] := K8.wr W22 (Or.inl (List.mem_of_getElem? (i := 0) rfl))
  have Z22 : n0 ≤ h22.size := Nat.le_trans Z8 (Keep.of_wr W22).1
  have x23 := x9.wr W22
  have x24 := x10.wr W22
  have x25 := x11.wr W22
  have x26 := x12.wr W22
  have x27 := x13.wr W22
  have x28 := x14.other W22 (Or.inr (slot_ne (Or.inr (wq hw 22 rfl)) (Or.inr (wq hw 23 rfl)) (by decide) (t := (.array .byte)) (t' := .byte) (by decide) (by decide)))
  have x29 := x15.same W22
  have x30 := x16.other W22 ne_o1_o0
  have x31 := o8_0.other W22 (Ne.symm ne8_o0_b36_0)
  have pre32 := Go.thn pre21 st22
  have pre33 : Go p e below T22 _ (mkF m 54 #[.val (.ref o0), .val (.ref o1), .val (.int 0), .val (.int 4), .val .null, .val (.ref b36_0)] [(.ref b36_0), (.ref o0)]) _ := fun t k => pre32 t (by
    refine XS.aloadN X22.here hx rfl (hb hby d3_51) rfl rfl ?_
    refine XS.aload X22.here hx rfl (hb hby d3_52) rfl rfl ?_
    exact k)
  obtain ⟨T34, h34, X34, e34, W34, st34⟩ := putF X22 hx hZ hown (host := "") (Or.inl (wq hw 26 rfl)) Via.refl e22 x28 x27 (Or.inr ⟨(wq hw 22 rfl), rfl, hnm⟩) (wq hw 7 rfl) (ty := (.array .byte)) (by decide) rfl rfl (g := (mkF m 54 #[.val (.ref o0), .val (.ref o1), .val (.int 0), .val (.int 4), .val .null, .val (.ref b36_0)] [(.ref b36_0), (.ref o0)])) rfl rfl (hb hby d3_54)
  have N34 := Fr.snoc X34 N22 gw_o0
  have K34 : Keep h0 h34 [o0] := K22.wr W34 (Or.inl (List.mem_of_getElem? (i := 0) rfl))
  have Z34 : n0 ≤ h34.size := Nat.le_trans Z22 (Keep.of_wr W34).1
  have x35 := x23.wr W34
  have x36 := x24.wr W34
  have x37 := x25.wr W34
  have x38 := x26.wr W34
  have x39 := x27.wr W34
  have x40 := x28.same W34
  have x41 := x29.other W34 (Or.inr (slot_ne (Or.inr (wq hw 23 rfl)) (Or.inr (wq hw 22 rfl)) (by decide) (t := .byte) (t' := (.array .byte)) (by decide) (by decide)))
  have x42 := x30.other W34 ne_o1_o0
  have x43 := x31.other W34 (Ne.symm ne8_o0_b36_0)
  have pre44 := Go.thn pre33 st34
  obtain ⟨fs, hr, hrun, hended, hW, hsame⟩ := X34.leave (v := none) (fun _ => rfl)
  refine ⟨_, _, ?_, hrun, hended, _, _, rfl, ?_, ⟨_, rfl⟩, hW, hsame.mono (by decide) (by decide)⟩
  · exact pre44 _ (X34.returnOut hx Bd.returns (hb hby d3_57) hr)
  · show Q3_4L Z o0 o1 wcs kc w0 w1 w2 w3 h0 n0 _ T34.heap _
    rw [e34]
    exact ⟨b36_0, _, rfl, N34, K34, sz8_b36_0, x39, x40, x41, x43⟩
def Q2_4L (Z : State) (o0 : Addr) (o1 : Addr) (wcs : Int32) (kc : ClassId) (w0 : Int32) (w1 : Int32) (w2 : Int32) (w3 : Int32) (h0 : Heap) (n0 : Nat) (v : Option Value) (h : Heap) (L : List Loc) : Prop := ∃ (b6_0 : Addr) (k_b6_0 : ClassId), v = none ∧ Fr n0 L ∧ Keep h0 h [o0] ∧ h0.size ≤ b6_0 ∧ Exa Z h o0 "java/lang/String" ∧ Fld Z h o0 "java/lang/String" "value" "[B" (.ref b6_0) ∧ Fld Z h o0 "java/lang/String" "coder" "B" (.int 0) ∧ Arv Z h b6_0 k_b6_0 .byte (4 : Int32) [(.int (g9_4_o2_0 w0)), (.int (g9_4_o2_1 w0 w1)), (.int (g9_4_o2_2 w0 w1 w2)), (.int (g9_4_o2_3 w0 w1 w2 w3))] (.int 0)
set_option maxRecDepth 65536 in
set_option maxHeartbeats 40000000 in
theorem rm2_4L (l : Launch) (Z : State) (a0 : Array Value) (hw : ∀ d ∈ tables_1, d.before a0 Z = true) (ws : List Jvm.Cond) (o0 : Addr) (o1 : Addr) (wcs : Int32) (kc : ClassId) (w0 : Int32) (w1 : Int32) (w2 : Int32) (w3 : Int32) (h0 : Heap) (n0 : Nat) (Z0 : n0 ≤ h0.size) (I0 : Sta Z h0 "java/lang/String" "COMPACT_STRINGS" "Z" (.int wcs)) (I1 : Sta Z h0 "java/lang/StringUTF16" "$assertionsDisabled" "Z" (.int 1)) (I2 : Sta Z h0 "java/lang/StringUTF16" "HI_BYTE_SHIFT" "I" (.int 0)) (I3 : Sta Z h0 "java/lang/StringUTF16" "LO_BYTE_SHIFT" "I" (.int 8)) (I4 : Exa Z h0 o0 "java/lang/String") (I5 : Fld Z h0 o0 "java/lang/String" "value" "[B" .null) (I6 : Fld Z h0 o0 "java/lang/String" "coder" "B" (.int 0)) (I7 : Arv Z h0 o1 kc .char (4 : Int32) [(.int w0), (.int w1), (.int w2), (.int w3)] (.int 0)) (gw_o0 : n0 ≤ o0) (ne_o1_o0 : o1 ≠ o0) (hcs : ¬ (wcs = (0 : Int32))) (hl0 : ¬ ((255 : Int32) < w0)) (hl1 : ¬ ((255 : Int32) < w1)) (hl2 : ¬ ((255 : Int32) < w2)) (hl3 : ¬ ((255 : Int32) < w3)) :
    Met1 l Nm_23 (Jvm.Cond.code Nm_23 jdk_42_method_3_code 2 none) ws (rom 3 1 4 52) #[(.ref o0), (.ref o1)] Z h0 (Q2_4L Z o0 o1 wcs kc w0 w1 w2 w3 h0 n0) := by
  refine MetFree.of_bodySF (plainFor_of_name pn_2) hisR ?_
  intro p e s m args below meth c s₁ Bd hml0 hP hK
  obtain ⟨rfl, hZ, hh⟩ := hP
  have hx := Bd.exec
  have hby := Bd.bytes
  have hml : c.maxLocals = 2 := hml0
  have hown : s.vm.findClass "java/lang/String" = some m.cls := findClass_of_methodNamed Bd.named
  have X0 : Stand p l e (rom 3 1 4 52) s m _ _ _ _ _ [] 0 0 := Stand.of_body Bd
  have e0 : s₁.heap = h0 := by rw [← hh, Bd.state]; rfl
  have N0 := Fr.nil n0
  have K0 : Keep h0 h0 [o0] := Keep.refl _ _
  have pre0 : Go p e below s₁ _ (mkF m 0 #[.val (.ref o0), .val (.ref o1)] []) _ := fun t k => castTop (ef_2_1L m o0 o1) k
  have pre1 : Go p e below s₁ _ (mkF m 4 #[.val (.ref o0), .val (.ref o1)] [(.ref o1), (.int 0), (.ref o1), (.ref o0)]) _ := fun t k => pre0 t (by
    refine XS.aloadN X0.here hx rfl (hb hby d2_0) rfl rfl ?_
    refine XS.aloadN X0.here hx rfl (hb hby d2_1) rfl rfl ?_
    refine XS.iconst X0.here hx rfl (hb hby d2_2) ?_
    refine XS.aloadN X0.here hx rfl (hb hby d2_3) rfl rfl ?_
    exact k)
  obtain ⟨cl2, Ar2, -, Sz2, Mn2, Hs2, -⟩ := id I7
  have pre3 : Go p e below s₁ _ (mkF m 5 #[.val (.ref o0), .val (.ref o1)] [(.int 4), (.int 0), (.ref o1), (.ref o0)]) _ := fun t k => pre1 t (by
    show Steps p.tables e below (s₁.setTop (mkF m 4 #[.val (.ref o0), .val (.ref o1)] [(.ref o1), (.int 0), (.ref o1), (.ref o0)])) _
    refine X0.arraylength hx (by rw [e0]; exact Ar2.1) (State.isArrayOf_alike hZ.alike Ar2.2.1) (g := (mkF m 4 #[.val (.ref o0), .val (.ref o1)] [(.ref o1), (.int 0), (.ref o1), (.ref o0)])) rfl rfl (hb hby d2_4) _ ?_
    rw [len_of Sz2 Mn2]
    exact k)
  have pre4 : Go p e below s₁ _ (mkF m 6 #[.val (.ref o0), .val (.ref o1)] [.null, (.int 4), (.int 0), (.ref o1), (.ref o0)]) _ := fun t k => pre3 t (by
    refine XS.aconstNull X0.here hx rfl (hb hby d2_5) ?_
    exact k)
  obtain ⟨_, _, ⟨T5, L5, k5, n5⟩, -, X5, ⟨Lc5, hQ5, l5, y5, z5⟩, st5⟩ := X0.specialBack hx (y := Nm_22) rfl hown (mvT hZ (wq hw 13 rfl)) (mvT hZ (wq hw 14 rfl)) (mvT hZ (wq hw 16 rfl)) (by decide) (backOf (W := 0) (rm3_4L l Z a0 hw [] o0 o1 wcs _ w0 w1 w2 w3 h0 n0 Z0 I0 I1 I2 I3 I4 I5 I6 I7 gw_o0 ne_o1_o0 hcs hl0 hl1 hl2 hl3) hZ (wq hw 16 rfl) (wq hw 8 rfl) (by decide) (by decide)) (g := (mkF m 6 #[.val (.ref o0), .val (.ref o1)] [.null, (.int 4), (.int 0), (.ref o1), (.ref o0)])) rfl (by rw [hml]; rfl) (Steps.refl _) (a := o0) (argsL := [(.ref o1), (.int 0), (.int 4), .null]) (rest := []) (lenOf pd___CIILjava_lang_Void__V rfl) rfl (w00 rfl) (hb hby d2_6) (fun _ _ => ⟨rfl, e0, (by decide : 0 + 1 ≤ _), (by decide : 0 + 4 ≤ _)⟩)
  dsimp only [Pt.U, Pt.locs, Pt.cells, Pt.slots] at X5 l5 y5 z5 st5 hQ5
  subst l5 y5 z5
  obtain ⟨b6_0, k_b36_0_5, rfl, Nq5, Kq5, gz5_b6_0, o5_0, o5_1, o5_2, o5_3⟩ := hQ5
  have N5 := Fr.app N0 Nq5
  have K5 : Keep h0 T5.heap [o0] := K0.trans Kq5 (allS (Or.inl (List.mem_of_getElem? (i := 0) rfl)) all0)
  have Z5 : n0 ≤ T5.heap.size := Nat.le_trans Z0 Kq5.1
  have x6 := own_staK I0 Kq5 (allS (own_plE I4) all0)
  have x7 := own_staK I1 Kq5 (allS (own_plE I4) all0)
  have x8 := own_staK I2 Kq5 (allS (own_plE I4) all0)
  have x9 := own_staK I3 Kq5 (allS (own_plE I4) all0)
  have x10 := I4.keep Kq5
  have x11 := I7.keep Kq5 (ninS ne_o1_o0 nin0)
  have gg5_b6_0 : n0 ≤ b6_0 := Nat.le_trans Z0 gz5_b6_0
  have sz5_b6_0 : h0.size ≤ b6_0 := Nat.le_trans K0.1 gz5_b6_0
  have ne5_o0_b6_0 : o0 ≠ b6_0 := Nat.ne_of_lt (Nat.lt_of_lt_of_le I4.lt gz5_b6_0)
  have ne5_o1_b6_0 : o1 ≠ b6_0 := Nat.ne_of_lt (Nat.lt_of_lt_of_le I7.lt gz5_b6_0)
  have pre12 := Go.trn pre4 st5
  obtain ⟨fs, hr, hrun, hended, hW, hsame⟩ := X5.leave (v := none) (fun _ => rfl)
  refine ⟨_, _, ?_, hrun, hended, _, _, rfl, ?_, ⟨_, rfl⟩, hW, hsame.mono (by decide) (by decide)⟩
  · exact pre12 _ (X5.returnOut hx Bd.returns (hb hby d2_9) hr)
  · show Q2_4L Z o0 o1 wcs kc w0 w1 w2 w3 h0 n0 _ T5.heap _
    skip
    exact ⟨b6_0, _, rfl, N5, K5, sz5_b6_0, o5_0, o5_1, o5_2, o5_3⟩
def Q3_4U (Z : State) (o0 : Addr) (o1 : Addr) (wcs : Int32) (kc : ClassId) (w0 : Int32) (w1 : Int32) (w2 : Int32) (w3 : Int32) (h0 : Heap) (n0 : Nat) (v : Option Value) (h : Heap) (L : List Loc) : Prop := ∃ (b36_0 : Addr) (k_b36_0 : ClassId), v = none ∧ Fr n0 L ∧ Keep h0 h [o0] ∧ h0.size ≤ b36_0 ∧ Exa Z h o0 "java/lang/String" ∧ Fld Z h o0 "java/lang/String" "value" "[B" (.ref b36_0) ∧ Fld Z h o0 "java/lang/String" "coder" "B" (.int 1) ∧ Arv Z h b36_0 k_b36_0 .byte (8 : Int32) [(.int (own_b0 w0)), (.int (own_b8 w0)), (.int (own_b0 w1)), (.int (own_b8 w1)), (.int (own_b0 w2)), (.int (own_b8 w2)), (.int (own_b0 w3)), (.int (own_b8 w3))] (.int 0)
set_option maxRecDepth 65536 in
set_option maxHeartbeats 40000000 in
theorem rm3_4U (l : Launch) (Z : State) (a0 : Array Value) (hw : ∀ d ∈ tables_1, d.before a0 Z = true) (ws : List Jvm.Cond) (o0 : Addr) (o1 : Addr) (wcs : Int32) (kc : ClassId) (w0 : Int32) (w1 : Int32) (w2 : Int32) (w3 : Int32) (h0 : Heap) (n0 : Nat) (Z0 : n0 ≤ h0.size) (I0 : Sta Z h0 "java/lang/String" "COMPACT_STRINGS" "Z" (.int wcs)) (I1 : Sta Z h0 "java/lang/StringUTF16" "$assertionsDisabled" "Z" (.int 1)) (I2 : Sta Z h0 "java/lang/StringUTF16" "HI_BYTE_SHIFT" "I" (.int 0)) (I3 : Sta Z h0 "java/lang/StringUTF16" "LO_BYTE_SHIFT" "I" (.int 8)) (I4 : Exa Z h0 o0 "java/lang/String") (I5 : Fld Z h0 o0 "java/lang/String" "value" "[B" .null) (I6 : Fld Z h0 o0 "java/lang/String" "coder" "B" (.int 0)) (I7 : Arv Z h0 o1 kc .char (4 : Int32) [(.int w0), (.int w1), (.int w2), (.int w3)] (.int 0)) (gw_o0 : n0 ≤ o0) (ne_o1_o0 : o1 ≠ o0) (hcs : ¬ (wcs = (0 : Int32))) (r0 : own_chr w0) (r1 : own_chr w1) (r2 : own_chr w2) (r3 : own_chr w3) (hU : (255 : Int32) < w0 ∨ (255 : Int32) < w1 ∨ (255 : Int32) < w2 ∨ (255 : Int32) < w3) :
    Met1 l Nm_22 (Jvm.Cond.code Nm_22 jdk_42_method_149_code 6 none) ws (rom 4 2 12 57) #[(.ref o0), (.ref o1), (.int 0), (.int 4), .null] Z h0 (Q3_4U Z o0 o1 wcs kc w0 w1 w2 w3 h0 n0) := by
  refine MetFree.of_bodySF (plainFor_of_name pn_3) hisR ?_
  intro p e s m args below meth c s₁ Bd hml0 hP hK
  obtain ⟨rfl, hZ, hh⟩ := hP
  have hx := Bd.exec
  have hby := Bd.bytes
  have hml : c.maxLocals = 6 := hml0
  have hown : s.vm.findClass "java/lang/String" = some m.cls := findClass_of_methodNamed Bd.named
  have hnm := (name_of_methodNamed Bd.named Bd.method).1
  have X0 : Stand p l e (rom 4 2 12 57) s m _ _ _ _ _ [] 0 0 := Stand.of_body Bd
  have e0 : s₁.heap = h0 := by rw [← hh, Bd.state]; rfl
  have N0 := Fr.nil n0
  have K0 : Keep h0 h0 [o0] := Keep.refl _ _
  have pre0 : Go p e below s₁ _ (mkF m 0 #[.val (.ref o0), .val (.ref o1), .val (.int 0), .val (.int 4), .val .null, .unset] []) _ := fun t k => castTop (ef_3_4L m o0 o1) k
  have pre1 : Go p e below s₁ _ (mkF m 1 #[.val (.ref o0), .val (.ref o1), .val (.int 0), .val (.int 4), .val .null, .unset] [(.ref o0)]) _ := fun t k => pre0 t (by
    refine XS.aloadN X0.here hx rfl (hb hby d3_0) rfl rfl ?_
    exact k)
  obtain ⟨T2, X2, e2, st2⟩ := initO X0 hx hZ hown (wq hw 17 rfl) (wq hw 18 rfl) (wq hw 19 rfl) e0 (g := (mkF m 1 #[.val (.ref o0), .val (.ref o1), .val (.int 0), .val (.int 4), .val .null, .unset] [(.ref o0)])) rfl (by rw [hml]; rfl) rfl (hb hby d3_1) (by decide) (W := 0) (w00 rfl) (by decide)
  have pre3 := Go.thn pre1 st2
  have pre4 : Go p e below T2 _ (mkF m 27 #[.val (.ref o0), .val (.ref o1), .val (.int 0), .val (.int 4), .val .null, .unset] []) _ := fun t k => pre3 t (by
    refine XS.iloadN X2.here hx rfl (hb hby d3_4) rfl ?_
    refine XS.ifYes X2.here hx rfl (pc0 := 5) (pc' := 27) rfl (hb hby d3_5) rfl (by decide) (by decide) (by decide) ?_
    exact k)
  obtain ⟨T5, X5, e5, st5⟩ := getS2 X2 hx hZ hown (host := "") (Or.inl (wq hw 42 rfl)) Via.refl e2 I0 (g := (mkF m 27 #[.val (.ref o0), .val (.ref o1), .val (.int 0), .val (.int 4), .val .null, .unset] [])) rfl (hb hby d3_27)
  have pre6 := Go.thn pre4 st5
  have pre7 : Go p e below T5 _ (mkF m 36 #[.val (.ref o0), .val (.ref o1), .val (.int 0), .val (.int 4), .val .null, .unset] [(.int 4), (.int 0), (.ref o1)]) _ := fun t k => pre6 t (by
    refine XS.ifNo X5.here hx rfl (hb hby d3_30) rfl ((if0 _ _).trans (feq hcs).1) ?_
    refine XS.aloadN X5.here hx rfl (hb hby d3_33) rfl rfl ?_
    refine XS.iloadN X5.here hx rfl (hb hby d3_34) rfl ?_
    refine XS.iloadN X5.here hx rfl (hb hby d3_35) rfl ?_
    exact k)
  obtain ⟨_, _, ⟨T8, L8, k8, n8⟩, -, X8, ⟨Lc8, hQ8, l8, y8, z8⟩, st8⟩ := Jvm.LawKit.callS X5 hx (y := Nm_21) hown (mvT hZ (wq hw 43 rfl)) (mvT hZ (wq hw 44 rfl)) (mvT hZ (wq hw 45 rfl)) (mvT hZ (wq hw 46 rfl)) (by decide) (backOf (W := 0) (rm8_4U l Z a0 hw [] o1 _ w0 w1 w2 w3 h0 n0 Z0 I1 I2 I3 I7 r0 r1 r2 r3 hU) hZ (wq hw 46 rfl) (wq hw 45 rfl) (by decide) (by decide)) (g := (mkF m 36 #[.val (.ref o0), .val (.ref o1), .val (.int 0), .val (.int 4), .val .null, .unset] [(.int 4), (.int 0), (.ref o1)])) rfl (by rw [hml]; rfl) (argsL := [(.ref o1), (.int 0), (.int 4)]) (rest := []) (lenOf pd___CII__B rfl) rfl (w00 rfl) (hb hby d3_36) (fun _ _ => ⟨rfl, e5, (by decide : 0 + 2 ≤ _), (by decide : 0 + 12 ≤ _)⟩)
  dsimp only [Pt.U, Pt.locs, Pt.cells, Pt.slots] at X8 l8 y8 z8 st8 hQ8
  subst l8 y8 z8
  obtain ⟨b36_0, k_b23_0_8, rfl, Nq8, Kq8, gz8_b36_0, o8_0⟩ := hQ8
  have N8 := Fr.app N0 Nq8
  have K8 : Keep h0 T8.heap [o0] := K0.trans Kq8 all0
  have Z8 : n0 ≤ T8.heap.size := Nat.le_trans Z0 Kq8.1
  have x9 := own_staK I0 Kq8 all0
  have x10 := own_staK I1 Kq8 all0
  have x11 := own_staK I2 Kq8 all0
  have x12 := own_staK I3 Kq8 all0
  have x13 := I4.keep Kq8
  have x14 := I5.keep Kq8 nin0
  have x15 := I6.keep Kq8 nin0
  have x16 := I7.keep Kq8 nin0
  have gg8_b36_0 : n0 ≤ b36_0 := Nat.le_trans Z0 gz8_b36_0
  have sz8_b36_0 : h0.size ≤ b36_0 := Nat.le_trans K0.1 gz8_b36_0
  have ne8_o0_b36_0 : o0 ≠ b36_0 := Nat.ne_of_lt (Nat.lt_of_lt_of_le I4.lt gz8_b36_0)
  have ne8_o1_b36_0 : o1 ≠ b36_0 := Nat.ne_of_lt (Nat.lt_of_lt_of_le I7.lt gz8_b36_0)
  have pre17 := Go.thn pre7 st8
  have pre18 : Go p e below T8 _ (mkF m 45 #[.val (.ref o0), .val (.ref o1), .val (.int 0), .val (.int 4), .val .null, .val (.ref b36_0)] [(.int 4), (.ref b36_0), (.ref o0)]) _ := fun t k => pre17 t (by
    refine XS.astore X8.here hx rfl (hb hby d3_39) rfl rfl (l' := #[.val (.ref o0), .val (.ref o1), .val (.int 0), .val (.int 4), .val .null, .val (.ref b36_0)]) rfl ?_
    refine XS.aloadN X8.here hx rfl (hb hby d3_41) rfl rfl ?_
    refine XS.aload X8.here hx rfl (hb hby d3_42) rfl rfl ?_
    refine XS.iloadN X8.here hx rfl (hb hby d3_44) rfl ?_
    exact k)
  obtain ⟨_, _, ⟨T19, L19, k19, n19⟩, -, X19, ⟨Lc19, hQ19, l19, y19, z19⟩, st19⟩ := Jvm.LawKit.callS X8 hx (y := Nm_15) hown (mvT hZ (wq hw 50 rfl)) (mvT hZ (wq hw 51 rfl)) (mvT hZ (wq hw 45 rfl)) (mvT hZ (wq hw 52 rfl)) (by decide) (backOf (W := 1) (rm10 l Z a0 hw [] b36_0 (4 : Int32) _ (8 : Int32) [(own_b0 w0), (own_b8 w0), (own_b0 w1), (own_b8 w1), (own_b0 w2), (own_b8 w2), (own_b0 w3), (own_b8 w3)] T8.heap n0 Z8 o8_0) hZ (wq hw 52 rfl) (wq hw 45 rfl) (by decide) (by decide)) (g := (mkF m 45 #[.val (.ref o0), .val (.ref o1), .val (.int 0), .val (.int 4), .val .null, .val (.ref b36_0)] [(.int 4), (.ref b36_0), (.ref o0)])) rfl (by rw [hml]; rfl) (argsL := [(.ref b36_0), (.int 4)]) (rest := [(.ref o0)]) (lenOf pd___BI_B rfl) rfl (w00 rfl) (hb hby d3_45) (fun _ _ => ⟨rfl, rfl, (by decide : 2 + 0 ≤ _), (by decide : 12 + 0 ≤ _)⟩)
  dsimp only [Pt.U, Pt.locs, Pt.cells, Pt.slots] at X19 l19 y19 z19 st19 hQ19
  subst l19 y19 z19
  obtain ⟨rfl, Nq19, e19⟩ := hQ19
  have N19 := Fr.app N8 Nq19
  have pre20 := Go.thn pre18 st19
  have pre21 : Go p e below T19 _ (mkF m 48 #[.val (.ref o0), .val (.ref o1), .val (.int 0), .val (.int 4), .val .null, .val (.ref b36_0)] [(.int 1), (.ref o0)]) _ := fun t k => pre20 t (by
    show Steps p.tables e below (T19.setTop (mkF m 48 #[.val (.ref o0), .val (.ref o1), .val (.int 0), .val (.int 4), .val .null, .val (.ref b36_0)] [(.int (f10 (4 : Int32) (8 : Int32))), (.ref o0)])) _
    rw [show f10 (4 : Int32) (8 : Int32) = (1 : Int32) from rfl]
    exact k)
  obtain ⟨T22, h22, X22, e22, W22, st22⟩ := putFN X19 hx hZ hown (wq hw 27 rfl) Via.refl e19 x15 x13 (Or.inr ⟨(wq hw 23 rfl), rfl, hnm⟩) (wq hw 7 rfl) (ty := .byte) (v' := (.int 1)) (by decide) rfl (by decide) (g := (mkF m 48 #[.val (.ref o0), .val (.ref o1), .val (.int 0), .val (.int 4), .val .null, .val (.ref b36_0)] [(.int 1), (.ref o0)])) rfl rfl (hb hby d3_48)
  have N22 := Fr.snoc X22 N19 gw_o0
  have K22 : Keep h0 h22 [o0] := K8.wr W22 (Or.inl (List.mem_of_getElem? (i := 0) rfl))
  have Z22 : n0 ≤ h22.size := Nat.le_trans Z8 (Keep.of_wr W22).1
  have x23 := x9.wr W22
  have x24 := x10.wr W22
  have x25 := x11.wr W22
  have x26 := x12.wr W22
  have x27 := x13.wr W22
  have x28 := x14.other W22 (Or.inr (slot_ne (Or.inr (wq hw 22 rfl)) (Or.inr (wq hw 23 rfl)) (by decide) (t := (.array .byte)) (t' := .byte) (by decide) (by decide)))
  have x29 := x15.same W22
  have x30 := x16.other W22 ne_o1_o0
  have x31 := o8_0.other W22 (Ne.symm ne8_o0_b36_0)
  have pre32 := Go.thn pre21 st22
  have pre33 : Go p e below T22 _ (mkF m 54 #[.val (.ref o0), .val (.ref o1), .val (.int 0), .val (.int 4), .val .null, .val (.ref b36_0)] [(.ref b36_0), (.ref o0)]) _ := fun t k => pre32 t (by
    refine XS.aloadN X22.here hx rfl (hb hby d3_51) rfl rfl ?_
    refine XS.aload X22.here hx rfl (hb hby d3_52) rfl rfl ?_
    exact k)
  obtain ⟨T34, h34, X34, e34, W34, st34⟩ := putF X22 hx hZ hown (host := "") (Or.inl (wq hw 26 rfl)) Via.refl e22 x28 x27 (Or.inr ⟨(wq hw 22 rfl), rfl, hnm⟩) (wq hw 7 rfl) (ty := (.array .byte)) (by decide) rfl rfl (g := (mkF m 54 #[.val (.ref o0), .val (.ref o1), .val (.int 0), .val (.int 4), .val .null, .val (.ref b36_0)] [(.ref b36_0), (.ref o0)])) rfl rfl (hb hby d3_54)
  have N34 := Fr.snoc X34 N22 gw_o0
  have K34 : Keep h0 h34 [o0] := K22.wr W34 (Or.inl (List.mem_of_getElem? (i := 0) rfl))
  have Z34 : n0 ≤ h34.size := Nat.le_trans Z22 (Keep.of_wr W34).1
  have x35 := x23.wr W34
  have x36 := x24.wr W34
  have x37 := x25.wr W34
  have x38 := x26.wr W34
  have x39 := x27.wr W34
  have x40 := x28.same W34
  have x41 := x29.other W34 (Or.inr (slot_ne (Or.inr (wq hw 23 rfl)) (Or.inr (wq hw 22 rfl)) (by decide) (t := .byte) (t' := (.array .byte)) (by decide) (by decide)))
  have x42 := x30.other W34 ne_o1_o0
  have x43 := x31.other W34 (Ne.symm ne8_o0_b36_0)
  have pre44 := Go.thn pre33 st34
  obtain ⟨fs, hr, hrun, hended, hW, hsame⟩ := X34.leave (v := none) (fun _ => rfl)
  refine ⟨_, _, ?_, hrun, hended, _, _, rfl, ?_, ⟨_, rfl⟩, hW, hsame.mono (by decide) (by decide)⟩
  · exact pre44 _ (X34.returnOut hx Bd.returns (hb hby d3_57) hr)
  · show Q3_4U Z o0 o1 wcs kc w0 w1 w2 w3 h0 n0 _ T34.heap _
    rw [e34]
    exact ⟨b36_0, _, rfl, N34, K34, sz8_b36_0, x39, x40, x41, x43⟩
def Q2_4U (Z : State) (o0 : Addr) (o1 : Addr) (wcs : Int32) (kc : ClassId) (w0 : Int32) (w1 : Int32) (w2 : Int32) (w3 : Int32) (h0 : Heap) (n0 : Nat) (v : Option Value) (h : Heap) (L : List Loc) : Prop := ∃ (b6_0 : Addr) (k_b6_0 : ClassId), v = none ∧ Fr n0 L ∧ Keep h0 h [o0] ∧ h0.size ≤ b6_0 ∧ Exa Z h o0 "java/lang/String" ∧ Fld Z h o0 "java/lang/String" "value" "[B" (.ref b6_0) ∧ Fld Z h o0 "java/lang/String" "coder" "B" (.int 1) ∧ Arv Z h b6_0 k_b6_0 .byte (8 : Int32) [(.int (own_b0 w0)), (.int (own_b8 w0)), (.int (own_b0 w1)), (.int (own_b8 w1)), (.int (own_b0 w2)), (.int (own_b8 w2)), (.int (own_b0 w3)), (.int (own_b8 w3))] (.int 0)
set_option maxRecDepth 65536 in
set_option maxHeartbeats 40000000 in
theorem rm2_4U (l : Launch) (Z : State) (a0 : Array Value) (hw : ∀ d ∈ tables_1, d.before a0 Z = true) (ws : List Jvm.Cond) (o0 : Addr) (o1 : Addr) (wcs : Int32) (kc : ClassId) (w0 : Int32) (w1 : Int32) (w2 : Int32) (w3 : Int32) (h0 : Heap) (n0 : Nat) (Z0 : n0 ≤ h0.size) (I0 : Sta Z h0 "java/lang/String" "COMPACT_STRINGS" "Z" (.int wcs)) (I1 : Sta Z h0 "java/lang/StringUTF16" "$assertionsDisabled" "Z" (.int 1)) (I2 : Sta Z h0 "java/lang/StringUTF16" "HI_BYTE_SHIFT" "I" (.int 0)) (I3 : Sta Z h0 "java/lang/StringUTF16" "LO_BYTE_SHIFT" "I" (.int 8)) (I4 : Exa Z h0 o0 "java/lang/String") (I5 : Fld Z h0 o0 "java/lang/String" "value" "[B" .null) (I6 : Fld Z h0 o0 "java/lang/String" "coder" "B" (.int 0)) (I7 : Arv Z h0 o1 kc .char (4 : Int32) [(.int w0), (.int w1), (.int w2), (.int w3)] (.int 0)) (gw_o0 : n0 ≤ o0) (ne_o1_o0 : o1 ≠ o0) (hcs : ¬ (wcs = (0 : Int32))) (r0 : own_chr w0) (r1 : own_chr w1) (r2 : own_chr w2) (r3 : own_chr w3) (hU : (255 : Int32) < w0 ∨ (255 : Int32) < w1 ∨ (255 : Int32) < w2 ∨ (255 : Int32) < w3) :
    Met1 l Nm_23 (Jvm.Cond.code Nm_23 jdk_42_method_3_code 2 none) ws (rom 5 2 12 74) #[(.ref o0), (.ref o1)] Z h0 (Q2_4U Z o0 o1 wcs kc w0 w1 w2 w3 h0 n0) := by
  refine MetFree.of_bodySF (plainFor_of_name pn_2) hisR ?_
  intro p e s m args below meth c s₁ Bd hml0 hP hK
  obtain ⟨rfl, hZ, hh⟩ := hP
  have hx := Bd.exec
  have hby := Bd.bytes
  have hml : c.maxLocals = 2 := hml0
  have hown : s.vm.findClass "java/lang/String" = some m.cls := findClass_of_methodNamed Bd.named
  have X0 : Stand p l e (rom 5 2 12 74) s m _ _ _ _ _ [] 0 0 := Stand.of_body Bd
  have e0 : s₁.heap = h0 := by rw [← hh, Bd.state]; rfl
  have N0 := Fr.nil n0
  have K0 : Keep h0 h0 [o0] := Keep.refl _ _
  have pre0 : Go p e below s₁ _ (mkF m 0 #[.val (.ref o0), .val (.ref o1)] []) _ := fun t k => castTop (ef_2_1L m o0 o1) k
  have pre1 : Go p e below s₁ _ (mkF m 4 #[.val (.ref o0), .val (.ref o1)] [(.ref o1), (.int 0), (.ref o1), (.ref o0)]) _ := fun t k => pre0 t (by
    refine XS.aloadN X0.here hx rfl (hb hby d2_0) rfl rfl ?_
    refine XS.aloadN X0.here hx rfl (hb hby d2_1) rfl rfl ?_
    refine XS.iconst X0.here hx rfl (hb hby d2_2) ?_
    refine XS.aloadN X0.here hx rfl (hb hby d2_3) rfl rfl ?_
    exact k)
  obtain ⟨cl2, Ar2, -, Sz2, Mn2, Hs2, -⟩ := id I7
  have pre3 : Go p e below s₁ _ (mkF m 5 #[.val (.ref o0), .val (.ref o1)] [(.int 4), (.int 0), (.ref o1), (.ref o0)]) _ := fun t k => pre1 t (by
    show Steps p.tables e below (s₁.setTop (mkF m 4 #[.val (.ref o0), .val (.ref o1)] [(.ref o1), (.int 0), (.ref o1), (.ref o0)])) _
    refine X0.arraylength hx (by rw [e0]; exact Ar2.1) (State.isArrayOf_alike hZ.alike Ar2.2.1) (g := (mkF m 4 #[.val (.ref o0), .val (.ref o1)] [(.ref o1), (.int 0), (.ref o1), (.ref o0)])) rfl rfl (hb hby d2_4) _ ?_
    rw [len_of Sz2 Mn2]
    exact k)
  have pre4 : Go p e below s₁ _ (mkF m 6 #[.val (.ref o0), .val (.ref o1)] [.null, (.int 4), (.int 0), (.ref o1), (.ref o0)]) _ := fun t k => pre3 t (by
    refine XS.aconstNull X0.here hx rfl (hb hby d2_5) ?_
    exact k)
  obtain ⟨_, _, ⟨T5, L5, k5, n5⟩, -, X5, ⟨Lc5, hQ5, l5, y5, z5⟩, st5⟩ := X0.specialBack hx (y := Nm_22) rfl hown (mvT hZ (wq hw 13 rfl)) (mvT hZ (wq hw 14 rfl)) (mvT hZ (wq hw 16 rfl)) (by decide) (backOf (W := 0) (rm3_4U l Z a0 hw [] o0 o1 wcs _ w0 w1 w2 w3 h0 n0 Z0 I0 I1 I2 I3 I4 I5 I6 I7 gw_o0 ne_o1_o0 hcs r0 r1 r2 r3 hU) hZ (wq hw 16 rfl) (wq hw 8 rfl) (by decide) (by decide)) (g := (mkF m 6 #[.val (.ref o0), .val (.ref o1)] [.null, (.int 4), (.int 0), (.ref o1), (.ref o0)])) rfl (by rw [hml]; rfl) (Steps.refl _) (a := o0) (argsL := [(.ref o1), (.int 0), (.int 4), .null]) (rest := []) (lenOf pd___CIILjava_lang_Void__V rfl) rfl (w00 rfl) (hb hby d2_6) (fun _ _ => ⟨rfl, e0, (by decide : 0 + 2 ≤ _), (by decide : 0 + 12 ≤ _)⟩)
  dsimp only [Pt.U, Pt.locs, Pt.cells, Pt.slots] at X5 l5 y5 z5 st5 hQ5
  subst l5 y5 z5
  obtain ⟨b6_0, k_b36_0_5, rfl, Nq5, Kq5, gz5_b6_0, o5_0, o5_1, o5_2, o5_3⟩ := hQ5
  have N5 := Fr.app N0 Nq5
  have K5 : Keep h0 T5.heap [o0] := K0.trans Kq5 (allS (Or.inl (List.mem_of_getElem? (i := 0) rfl)) all0)
  have Z5 : n0 ≤ T5.heap.size := Nat.le_trans Z0 Kq5.1
  have x6 := own_staK I0 Kq5 (allS (own_plE I4) all0)
  have x7 := own_staK I1 Kq5 (allS (own_plE I4) all0)
  have x8 := own_staK I2 Kq5 (allS (own_plE I4) all0)
  have x9 := own_staK I3 Kq5 (allS (own_plE I4) all0)
  have x10 := I4.keep Kq5
  have x11 := I7.keep Kq5 (ninS ne_o1_o0 nin0)
  have gg5_b6_0 : n0 ≤ b6_0 := Nat.le_trans Z0 gz5_b6_0
  have sz5_b6_0 : h0.size ≤ b6_0 := Nat.le_trans K0.1 gz5_b6_0
  have ne5_o0_b6_0 : o0 ≠ b6_0 := Nat.ne_of_lt (Nat.lt_of_lt_of_le I4.lt gz5_b6_0)
  have ne5_o1_b6_0 : o1 ≠ b6_0 := Nat.ne_of_lt (Nat.lt_of_lt_of_le I7.lt gz5_b6_0)
  have pre12 := Go.trn pre4 st5
  obtain ⟨fs, hr, hrun, hended, hW, hsame⟩ := X5.leave (v := none) (fun _ => rfl)
  refine ⟨_, _, ?_, hrun, hended, _, _, rfl, ?_, ⟨_, rfl⟩, hW, hsame.mono (by decide) (by decide)⟩
  · exact pre12 _ (X5.returnOut hx Bd.returns (hb hby d2_9) hr)
  · show Q2_4U Z o0 o1 wcs kc w0 w1 w2 w3 h0 n0 _ T5.heap _
    skip
    exact ⟨b6_0, _, rfl, N5, K5, sz5_b6_0, o5_0, o5_1, o5_2, o5_3⟩
theorem d3_8 : decode jdk_42_method_149_code 8 = .ok (.aload_n 0, 1) := by decide +kernel
theorem d3_9 : decode jdk_42_method_149_code 9 = .ok (.ldc 7, 2) := by decide +kernel
theorem d3_11 : decode jdk_42_method_149_code 11 = .ok (.getfield 9, 3) := by decide +kernel
theorem d3_14 : decode jdk_42_method_149_code 14 = .ok (.putfield 9, 3) := by decide +kernel
theorem d3_17 : decode jdk_42_method_149_code 17 = .ok (.aload_n 0, 1) := by decide +kernel
theorem d3_18 : decode jdk_42_method_149_code 18 = .ok (.ldc 7, 2) := by decide +kernel
theorem d3_20 : decode jdk_42_method_149_code 20 = .ok (.getfield 15, 3) := by decide +kernel
theorem d3_23 : decode jdk_42_method_149_code 23 = .ok (.putfield 15, 3) := by decide +kernel
theorem d3_26 : decode jdk_42_method_149_code 26 = .ok (.return_, 1) := by decide +kernel
theorem ef_3_0 (m : MethodId) (x0 : Addr) (x1 : Addr) : entryFrame m #[(.ref x0), (.ref x1), (.int 0), (.int 0), .null] 6 = mkF m 0 #[.val (.ref x0), .val (.ref x1), .val (.int 0), .val (.int 0), .val .null, .unset] [] := by first | (simp [entryFrame, mkF, argsToLocals, Value.category]; done) | rfl
def Q3_0 (Z : State) (o0 : Addr) (o1 : Addr) (kc : ClassId) (h0 : Heap) (n0 : Nat) (v : Option Value) (h : Heap) (L : List Loc) : Prop := ∃ (lt9v : Addr) (k_lt9v : ClassId), v = none ∧ Fr n0 L ∧ Keep h0 h [o0] ∧ Exa Z h o0 "java/lang/String" ∧ Fld Z h o0 "java/lang/String" "value" "[B" (.ref lt9v) ∧ Fld Z h o0 "java/lang/String" "coder" "B" (.int 0) ∧ Arv Z h lt9v k_lt9v .byte (0 : Int32) [] (.int 0)
set_option maxRecDepth 65536 in
set_option maxHeartbeats 40000000 in
theorem rm3_0 (l : Launch) (Z : State) (a0 : Array Value) (hw : ∀ d ∈ tables_1, d.before a0 Z = true) (ws : List Jvm.Cond) (o0 : Addr) (o1 : Addr) (kc : ClassId) (h0 : Heap) (n0 : Nat) (Z0 : n0 ≤ h0.size) (I0 : Exa Z h0 o0 "java/lang/String") (I1 : Fld Z h0 o0 "java/lang/String" "value" "[B" .null) (I2 : Fld Z h0 o0 "java/lang/String" "coder" "B" (.int 0)) (I3 : Arv Z h0 o1 kc .char (0 : Int32) [] (.int 0)) (OLD : Old Z n0 h0) (gw_o0 : n0 ≤ o0) (ne_o1_o0 : o1 ≠ o0) (hcw : Jvm.Lit.compactW.before a0 Z = true) (hh7 : Jvm.Lit.constHeld Z "java/lang/String" 7) :
    MetFree l Nm_22 (head1 (Jvm.Cond.code Nm_22 jdk_42_method_149_code 6 none :: ws) (rom 1 2 4 12)) (fun a U => a = #[(.ref o0), (.ref o1), (.int 0), (.int 0), .null] ∧ Z.Warmed39 U.vm ∧ U.heap = h0 ∧ IB Z U.vm []) (fun _ _ _ _ _ => True) (fun _ U o U' => ∃ v L, o = .returned v ∧ Q3_0 Z o0 o1 kc h0 n0 v U'.heap L ∧ ReturnedEndW U o U' L (rom 1 2 4 12).cells (rom 1 2 4 12).slots) := by
  refine MetFree.of_bodySF (plainFor_of_name pn_3) hisR ?_
  intro p e s m args below meth c s₁ Bd hml0 hP hK
  obtain ⟨rfl, hZ, hh, IB0⟩ := hP
  have hx := Bd.exec
  have hby := Bd.bytes
  have hml : c.maxLocals = 6 := hml0
  have hown : s.vm.findClass "java/lang/String" = some m.cls := findClass_of_methodNamed Bd.named
  have hnm := (name_of_methodNamed Bd.named Bd.method).1
  have X0 : Stand p l e (rom 1 2 4 12) (s.setVm s.vm) m #[(.ref o0), (.ref o1), (.int 0), (.int 0), .null] below meth c s₁ [] 0 0 := by rw [State.setVm_self]; exact Stand.of_body Bd
  have hS0 : s.Since s.vm h0.size := (State.WarmedH.refl s).since _
  have kS0 : h0.size ≤ h0.size := Nat.le_refl _
  have hZ : Z.Warmed39 (s.setVm s.vm).vm := hZ
  have hown : (s.setVm s.vm).vm.findClass "java/lang/String" = some m.cls := hown
  have e0 : s₁.heap = h0 := by rw [← hh, Bd.state]; rfl
  have N0 := Fr.nil n0
  have K0 : Keep h0 h0 [o0] := Keep.refl _ _
  have pre0 : Go p e below s₁ _ (mkF m 0 #[.val (.ref o0), .val (.ref o1), .val (.int 0), .val (.int 0), .val .null, .unset] []) _ := fun t k => castTop (ef_3_0 m o0 o1) k
  have pre1 : Go p e below s₁ _ (mkF m 1 #[.val (.ref o0), .val (.ref o1), .val (.int 0), .val (.int 0), .val .null, .unset] [(.ref o0)]) _ := fun t k => pre0 t (by
    refine XS.aloadN X0.here hx rfl (hb hby d3_0) rfl rfl ?_
    exact k)
  obtain ⟨T2, X2, e2, st2⟩ := initO X0 hx hZ hown (wq hw 17 rfl) (wq hw 18 rfl) (wq hw 19 rfl) e0 (g := (mkF m 1 #[.val (.ref o0), .val (.ref o1), .val (.int 0), .val (.int 0), .val .null, .unset] [(.ref o0)])) rfl (by rw [hml]; rfl) rfl (hb hby d3_1) (by decide) (W := 0) (w00 rfl) (by decide)
  have pre3 := Go.thn pre1 st2
  have pre4 : Go p e below T2 _ (mkF m 9 #[.val (.ref o0), .val (.ref o1), .val (.int 0), .val (.int 0), .val .null, .unset] [(.ref o0)]) _ := fun t k => pre3 t (by
    refine XS.iloadN X2.here hx rfl (hb hby d3_4) rfl ?_
    refine XS.ifNo X2.here hx rfl (hb hby d3_5) rfl (by decide) ?_
    refine XS.aloadN X2.here hx rfl (hb hby d3_8) rfl rfl ?_
    exact k)
  obtain ⟨lt9, T5, h5, kk5, lt9v, kl5, X5, e5, E5, hS5, kS5, hZ, hown, El5, Fc5, Fv5, Vl5, lt5_a, lt5_b, IB5, Lt5, st5⟩ := ldcSVL X2 hx hZ hown (wq hw 20 rfl) (own_wS hw) e2 hS0 kS0 (Fr.nil _) (fun b cl q => by rw [hh]; exact OLD.2.2 b cl q) IB0 (by decide) hh7 hcw (vs := ([] : List Int32).map Value.int) (z := (0 : Int32)) ⟨by decide, by decide⟩ (by decide) (by decide) (g := (mkF m 9 #[.val (.ref o0), .val (.ref o1), .val (.int 0), .val (.int 0), .val .null, .unset] [(.ref o0)])) rfl (hb hby d3_9) (n := 0) (by decide) (by decide) (by decide) (by decide)
  have K5 : Keep h0 h5 [o0] := K0.ext E5
  have Z5 : n0 ≤ h5.size := Nat.le_trans Z0 E5.1
  have x6 := I0.ext E5
  have x7 := I1.ext E5
  have x8 := I2.ext E5
  have x9 := I3.ext E5
  have x10 := OLD.ext E5
  have nl5_o0 : lt9 ≠ o0 := own_fldne Fv5 x7 nofun
  have nv5_o0 : o0 ≠ lt9v := x6.neArv Vl5 (wq hw 7 rfl)
  have pre11 := Go.thn pre4 st5
  obtain ⟨T12, X12, e12, st12⟩ := getF X5 hx hZ hown (host := "") (Or.inl (wq hw 26 rfl)) Via.refl e5 Fv5 (g := (mkF m 11 #[.val (.ref o0), .val (.ref o1), .val (.int 0), .val (.int 0), .val .null, .unset] [(.ref lt9), (.ref o0)])) rfl rfl (hb hby d3_11)
  have pre13 := Go.thn pre11 st12
  obtain ⟨T14, h14, X14, e14, W14, st14⟩ := putF X12 hx hZ hown (host := "") (Or.inl (wq hw 26 rfl)) Via.refl e12 x7 x6 (Or.inr ⟨(wq hw 22 rfl), rfl, hnm⟩) (wq hw 7 rfl) (ty := (.array .byte)) (by decide) rfl rfl (g := (mkF m 14 #[.val (.ref o0), .val (.ref o1), .val (.int 0), .val (.int 0), .val .null, .unset] [(.ref lt9v), (.ref o0)])) rfl rfl (hb hby d3_14)
  have N14 := Fr.snoc X14 N0 gw_o0
  have K14 : Keep h0 h14 [o0] := K5.wr W14 (Or.inl (List.mem_of_getElem? (i := 0) rfl))
  have Z14 : n0 ≤ h14.size := Nat.le_trans Z5 (Keep.of_wr W14).1
  have x15 := x6.wr W14
  have x16 := x7.same W14
  have x17 := x8.other W14 (Or.inr (slot_ne (Or.inr (wq hw 23 rfl)) (Or.inr (wq hw 22 rfl)) (by decide) (t := .byte) (t' := (.array .byte)) (by decide) (by decide)))
  have x18 := x9.other W14 ne_o1_o0
  have x19 := x10.wr W14 gw_o0
  have x20 := El5.wr W14
  have x21 := Fc5.other W14 (Or.inl nl5_o0)
  have x22 := Fv5.other W14 (Or.inl nl5_o0)
  have x23 := Vl5.other W14 (Ne.symm nv5_o0)
  have pre24 := Go.thn pre13 st14
  have kS14 : _ ≤ h14.size := Nat.le_trans kS5 (Keep.of_wr W14).1
  have pre25 : Go p e below T14 _ (mkF m 18 #[.val (.ref o0), .val (.ref o1), .val (.int 0), .val (.int 0), .val .null, .unset] [(.ref o0)]) _ := fun t k => pre24 t (by
    refine XS.aloadN X14.here hx rfl (hb hby d3_17) rfl rfl ?_
    exact k)
  have pre27 : Go p e below T14 _ (mkF m 20 #[.val (.ref o0), .val (.ref o1), .val (.int 0), .val (.int 0), .val .null, .unset] [(.ref lt9), (.ref o0)]) _ := fun t k => pre25 t (ldcAgain X14 hx hZ hown (wq hw 20 rfl) Lt5 (g := (mkF m 18 #[.val (.ref o0), .val (.ref o1), .val (.int 0), .val (.int 0), .val .null, .unset] [(.ref o0)])) rfl (hb hby d3_18) _ k)
  obtain ⟨T28, X28, e28, st28⟩ := getF X14 hx hZ hown (host := "") (Or.inl (wq hw 27 rfl)) Via.refl e14 x21 (g := (mkF m 20 #[.val (.ref o0), .val (.ref o1), .val (.int 0), .val (.int 0), .val .null, .unset] [(.ref lt9), (.ref o0)])) rfl rfl (hb hby d3_20)
  have pre29 := Go.thn pre27 st28
  obtain ⟨T30, h30, X30, e30, W30, st30⟩ := putFN X28 hx hZ hown (wq hw 27 rfl) Via.refl e28 x17 x15 (Or.inr ⟨(wq hw 23 rfl), rfl, hnm⟩) (wq hw 7 rfl) (ty := .byte) (v' := (.int 0)) (by decide) rfl (by decide) (g := (mkF m 23 #[.val (.ref o0), .val (.ref o1), .val (.int 0), .val (.int 0), .val .null, .unset] [(.int 0), (.ref o0)])) rfl rfl (hb hby d3_23)
  have N30 := Fr.snoc X30 N14 gw_o0
  have K30 : Keep h0 h30 [o0] := K14.wr W30 (Or.inl (List.mem_of_getElem? (i := 0) rfl))
  have Z30 : n0 ≤ h30.size := Nat.le_trans Z14 (Keep.of_wr W30).1
  have x31 := x15.wr W30
  have x32 := x16.other W30 (Or.inr (slot_ne (Or.inr (wq hw 22 rfl)) (Or.inr (wq hw 23 rfl)) (by decide) (t := (.array .byte)) (t' := .byte) (by decide) (by decide)))
  have x33 := x17.same W30
  have x34 := x18.other W30 ne_o1_o0
  have x35 := x19.wr W30 gw_o0
  have x36 := x20.wr W30
  have x37 := x21.other W30 (Or.inl nl5_o0)
  have x38 := x22.other W30 (Or.inl nl5_o0)
  have x39 := x23.other W30 (Ne.symm nv5_o0)
  have pre40 := Go.thn pre29 st30
  have kS30 : _ ≤ h30.size := Nat.le_trans kS14 (Keep.of_wr W30).1
  obtain ⟨fs, hr, hrun, hended, hE⟩ := X30.leaveW hS5 (by rw [e30]; exact kS30) (v := none) (fun _ => rfl)
  refine ⟨_, _, ?_, hrun, hended, _, _, rfl, ?_, hE.1, hE.2.1, hE.2.2.1, hE.2.2.2.mono (by decide) (by decide)⟩
  · exact pre40 _ (X30.returnOut hx Bd.returns (hb hby d3_26) hr)
  · show Q3_0 Z o0 o1 kc h0 n0 _ T30.heap _
    rw [e30]
    exact ⟨lt9v, _, rfl, N30, K30, x31, x32, x33, x39⟩
def Q2_0 (Z : State) (o0 : Addr) (o1 : Addr) (kc : ClassId) (h0 : Heap) (n0 : Nat) (v : Option Value) (h : Heap) (L : List Loc) : Prop := ∃ (x6_0 : Addr) (k_x6_0 : ClassId), v = none ∧ Fr n0 L ∧ Keep h0 h [o0] ∧ Exa Z h o0 "java/lang/String" ∧ Fld Z h o0 "java/lang/String" "value" "[B" (.ref x6_0) ∧ Fld Z h o0 "java/lang/String" "coder" "B" (.int 0) ∧ Arv Z h x6_0 k_x6_0 .byte (0 : Int32) [] (.int 0)
set_option maxRecDepth 65536 in
set_option maxHeartbeats 40000000 in
theorem rm2_0 (l : Launch) (Z : State) (a0 : Array Value) (hw : ∀ d ∈ tables_1, d.before a0 Z = true) (ws : List Jvm.Cond) (o0 : Addr) (o1 : Addr) (kc : ClassId) (h0 : Heap) (n0 : Nat) (Z0 : n0 ≤ h0.size) (I0 : Exa Z h0 o0 "java/lang/String") (I1 : Fld Z h0 o0 "java/lang/String" "value" "[B" .null) (I2 : Fld Z h0 o0 "java/lang/String" "coder" "B" (.int 0)) (I3 : Arv Z h0 o1 kc .char (0 : Int32) [] (.int 0)) (OLD : Old Z n0 h0) (gw_o0 : n0 ≤ o0) (ne_o1_o0 : o1 ≠ o0) (hcw : Jvm.Lit.compactW.before a0 Z = true) (hh7 : Jvm.Lit.constHeld Z "java/lang/String" 7) :
    MetFree l Nm_23 (head1 (Jvm.Cond.code Nm_23 jdk_42_method_3_code 2 none :: ws) (rom 2 2 4 29)) (fun a U => a = #[(.ref o0), (.ref o1)] ∧ Z.Warmed39 U.vm ∧ U.heap = h0 ∧ IB Z U.vm []) (fun _ _ _ _ _ => True) (fun _ U o U' => ∃ v L, o = .returned v ∧ Q2_0 Z o0 o1 kc h0 n0 v U'.heap L ∧ ReturnedEndW U o U' L (rom 2 2 4 29).cells (rom 2 2 4 29).slots) := by
  refine MetFree.of_bodySF (plainFor_of_name pn_2) hisR ?_
  intro p e s m args below meth c s₁ Bd hml0 hP hK
  obtain ⟨rfl, hZ, hh, IB0⟩ := hP
  have hx := Bd.exec
  have hby := Bd.bytes
  have hml : c.maxLocals = 2 := hml0
  have hown : s.vm.findClass "java/lang/String" = some m.cls := findClass_of_methodNamed Bd.named
  have X0 : Stand p l e (rom 2 2 4 29) (s.setVm s.vm) m #[(.ref o0), (.ref o1)] below meth c s₁ [] 0 0 := by rw [State.setVm_self]; exact Stand.of_body Bd
  have hS0 : s.Since s.vm h0.size := (State.WarmedH.refl s).since _
  have kS0 : h0.size ≤ h0.size := Nat.le_refl _
  have hZ : Z.Warmed39 (s.setVm s.vm).vm := hZ
  have hown : (s.setVm s.vm).vm.findClass "java/lang/String" = some m.cls := hown
  have e0 : s₁.heap = h0 := by rw [← hh, Bd.state]; rfl
  have N0 := Fr.nil n0
  have K0 : Keep h0 h0 [o0] := Keep.refl _ _
  have pre0 : Go p e below s₁ _ (mkF m 0 #[.val (.ref o0), .val (.ref o1)] []) _ := fun t k => castTop (ef_2_1L m o0 o1) k
  have pre1 : Go p e below s₁ _ (mkF m 4 #[.val (.ref o0), .val (.ref o1)] [(.ref o1), (.int 0), (.ref o1), (.ref o0)]) _ := fun t k => pre0 t (by
    refine XS.aloadN X0.here hx rfl (hb hby d2_0) rfl rfl ?_
    refine XS.aloadN X0.here hx rfl (hb hby d2_1) rfl rfl ?_
    refine XS.iconst X0.here hx rfl (hb hby d2_2) ?_
    refine XS.aloadN X0.here hx rfl (hb hby d2_3) rfl rfl ?_
    exact k)
  obtain ⟨cl2, Ar2, -, Sz2, Mn2, Hs2, -⟩ := id I3
  have pre3 : Go p e below s₁ _ (mkF m 5 #[.val (.ref o0), .val (.ref o1)] [(.int 0), (.int 0), (.ref o1), (.ref o0)]) _ := fun t k => pre1 t (by
    show Steps p.tables e below (s₁.setTop (mkF m 4 #[.val (.ref o0), .val (.ref o1)] [(.ref o1), (.int 0), (.ref o1), (.ref o0)])) _
    refine X0.arraylength hx (by rw [e0]; exact Ar2.1) (State.isArrayOf_alike hZ.alike Ar2.2.1) (g := (mkF m 4 #[.val (.ref o0), .val (.ref o1)] [(.ref o1), (.int 0), (.ref o1), (.ref o0)])) rfl rfl (hb hby d2_4) _ ?_
    rw [len_of Sz2 Mn2]
    exact k)
  have pre4 : Go p e below s₁ _ (mkF m 6 #[.val (.ref o0), .val (.ref o1)] [.null, (.int 0), (.int 0), (.ref o1), (.ref o0)]) _ := fun t k => pre3 t (by
    refine XS.aconstNull X0.here hx rfl (hb hby d2_5) ?_
    exact k)
  obtain ⟨_, _, ⟨T5, L5, k5, n5⟩, -, X5, hSn5, hgn5, ⟨Lc5, hQ5, l5, y5, z5⟩, st5⟩ := X0.specialBackS hx (y := Nm_22) rfl hown (mvT hZ (wq hw 13 rfl)) (mvT hZ (wq hw 14 rfl)) (mvT hZ (wq hw 16 rfl)) (by decide) (own_backIB IB0 (W := 0) (rm3_0 l Z a0 hw [] o0 o1 _ h0 n0 Z0 I0 I1 I2 I3 OLD gw_o0 ne_o1_o0 hcw hh7) hZ (wq hw 16 rfl) (wq hw 8 rfl) (by decide) (by decide)) (g := (mkF m 6 #[.val (.ref o0), .val (.ref o1)] [.null, (.int 0), (.int 0), (.ref o1), (.ref o0)])) rfl (by rw [hml]; rfl) (Steps.refl _) (a := o0) (argsL := [(.ref o1), (.int 0), (.int 0), .null]) (rest := []) (lenOf pd___CIILjava_lang_Void__V rfl) rfl (w00 rfl) (hb hby d2_6) (fun _ _ => ⟨rfl, e0, (by decide : 0 + 2 ≤ _), (by decide : 0 + 4 ≤ _)⟩)
  dsimp only [Pt.U, Pt.locs, Pt.cells, Pt.slots] at X5 l5 y5 z5 st5 hQ5 hSn5 hgn5
  subst l5 y5 z5
  obtain ⟨X5, hS5, hZ, hown⟩ := rebS hS0 (by rw [e0]; exact kS0) X5 hSn5 hgn5 hZ hown
  obtain ⟨x6_0, k_lt9v_5, rfl, Nq5, Kq5, o5_0, o5_1, o5_2, o5_3⟩ := hQ5
  have N5 := Fr.app N0 Nq5
  have K5 : Keep h0 T5.heap [o0] := K0.trans Kq5 (allS (Or.inl (List.mem_of_getElem? (i := 0) rfl)) all0)
  have Z5 : n0 ≤ T5.heap.size := Nat.le_trans Z0 Kq5.1
  have x6 := I0.keep Kq5
  have x7 := I3.keep Kq5 (ninS ne_o1_o0 nin0)
  have x8 := OLD.keep Kq5 (allS gw_o0 all0)
  have pre9 := Go.trn pre4 st5
  obtain ⟨fs, hr, hrun, hended, hE⟩ := X5.leaveW hS5 (Nat.le_refl _) (v := none) (fun _ => rfl)
  refine ⟨_, _, ?_, hrun, hended, _, _, rfl, ?_, hE.1, hE.2.1, hE.2.2.1, hE.2.2.2.mono (by decide) (by decide)⟩
  · exact pre9 _ (X5.returnOut hx Bd.returns (hb hby d2_9) hr)
  · show Q2_0 Z o0 o1 kc h0 n0 _ T5.heap _
    skip
    exact ⟨x6_0, _, rfl, N5, K5, o5_0, o5_1, o5_2, o5_3⟩
theorem pn_0 : plainName "com/example/stint/stint/WholeNumberLeadingDigitsPinLaw" = true := by first | (simp [plainName, overriddenIn]; done) | decide +kernel
theorem pd___C_V : parseMethodDescriptor "([C)V" = some ⟨[(.array .char)], none⟩ := by decide +kernel
theorem pd__Ljava_lang_String__I : parseMethodDescriptor "(Ljava/lang/String;)I" = some ⟨[(.object "java/lang/String")], some .int⟩ := by decide +kernel
theorem ef_0 (m : MethodId) (x0 : Int32) (x1 : Int32) (x2 : Int32) (x3 : Int32) (x4 : Int32) : entryFrame m #[(.int x0), (.int x1), (.int x2), (.int x3), (.int x4)] maxLocals = mkF m 0 #[.val (.int x0), .val (.int x1), .val (.int x2), .val (.int x3), .val (.int x4), .unset, .unset, .unset, .unset, .unset, .unset, .unset] [] := by first | (simp [entryFrame, mkF, argsToLocals, Value.category, maxLocals]; done) | rfl
def f0_0L : Int32 := (if (f5_L (0 : Int32) []) = (0 : Int32) then (1 : Int32) else (0 : Int32))
set_option maxRecDepth 65536 in
set_option maxHeartbeats 40000000 in
theorem rm0_0L (l : Launch) (Z : State) (a0 : Array Value) (hw : ∀ d ∈ tables_1, d.before a0 Z = true) (ws : List Jvm.Cond) (p0 : Int32) (p1 : Int32) (p2 : Int32) (p3 : Int32) (p4 : Int32) (wcs : Int32) (wsf : Value) (h0 : Heap) (n0 : Nat) (Z0 : n0 ≤ h0.size) (I0 : Sta Z h0 "java/lang/String" "COMPACT_STRINGS" "Z" (.int wcs)) (I1 : Sta Z h0 "jdk/internal/util/Preconditions" "SIOOBE_FORMATTER" "Ljava/util/function/BiFunction;" wsf) (I2 : Sta Z h0 "java/lang/StringUTF16" "$assertionsDisabled" "Z" (.int 1)) (I3 : Sta Z h0 "java/lang/StringUTF16" "HI_BYTE_SHIFT" "I" (.int 0)) (I4 : Sta Z h0 "java/lang/StringUTF16" "LO_BYTE_SHIFT" "I" (.int 8)) (OLD : Old Z n0 h0) (hn : ((p0 &&& (2147483647 : Int32)) - (p0 &&& (2147483647 : Int32)) / (5 : Int32) * (5 : Int32)) = (0 : Int32)) (hcw : Jvm.Lit.compactW.before a0 Z = true) (hh7 : Jvm.Lit.constHeld Z "java/lang/String" 7) (hcs : ¬ (wcs = (0 : Int32))) (hsf : wsf.isRef = true) :
    MetFree l x (head1 (Jvm.Cond.code x code maxLocals ret :: ws) room_1) (fun a U => a = #[(.int p0), (.int p1), (.int p2), (.int p3), (.int p4)] ∧ Z.Warmed39 U.vm ∧ U.heap = h0 ∧ IB Z U.vm []) (fun _ _ _ _ _ => True) (fun _ U o U' => ∃ v L, o = .returned v ∧ QL (some (.int (f0_0L))) n0 v U'.heap L ∧ ReturnedEndW U o U' L room_1.cells room_1.slots) := by
  refine MetFree.of_bodySF (plainFor_of_name pn_0) hisR ?_
  intro p e s m args below meth c s₁ Bd hml0 hP hK
  obtain ⟨rfl, hZ, hh, IB0⟩ := hP
  have hx := Bd.exec
  have hby := Bd.bytes
  have hml : c.maxLocals = 12 := hml0
  have hown : s.vm.findClass "com/example/stint/stint/WholeNumberLeadingDigitsPinLaw" = some m.cls := findClass_of_methodNamed Bd.named
  have X0 : Stand p l e room_1 (s.setVm s.vm) m #[(.int p0), (.int p1), (.int p2), (.int p3), (.int p4)] below meth c s₁ [] 0 0 := by rw [State.setVm_self]; exact Stand.of_body Bd
  have hS0 : s.Since s.vm h0.size := (State.WarmedH.refl s).since _
  have kS0 : h0.size ≤ h0.size := Nat.le_refl _
  have hZ : Z.Warmed39 (s.setVm s.vm).vm := hZ
  have hown : (s.setVm s.vm).vm.findClass "com/example/stint/stint/WholeNumberLeadingDigitsPinLaw" = some m.cls := hown
  have e0 : s₁.heap = h0 := by rw [← hh, Bd.state]; rfl
  have N0 := Fr.nil n0
  have K0 : Keep h0 h0 [] := Keep.refl _ _
  have pre0 : Go p e below s₁ _ (mkF m 0 #[.val (.int p0), .val (.int p1), .val (.int p2), .val (.int p3), .val (.int p4), .unset, .unset, .unset, .unset, .unset, .unset, .unset] []) _ := fun t k => castTop (ef_0 m p0 p1 p2 p3 p4) k
  have pre2 : Go p e below s₁ _ (mkF m 9 #[.val (.int p0), .val (.int p1), .val (.int p2), .val (.int p3), .val (.int p4), .val (.int 0), .unset, .unset, .unset, .unset, .unset, .unset] [(.int p1)]) _ := fun t k => pre0 t (by
    refine XS.iloadN X0.here hx rfl (hb hby at_0) rfl ?_
    refine X0.ldcInt hx hown (mvT hZ (wq hw 0 rfl)) (g := (mkF m 1 #[.val (.int p0), .val (.int p1), .val (.int p2), .val (.int p3), .val (.int p4), .unset, .unset, .unset, .unset, .unset, .unset, .unset] [(.int p0)])) rfl (hb hby at_1) _ ?_
    refine XS.iand X0.here hx rfl (hb hby at_3) rfl ?_
    refine XS.iconst X0.here hx rfl (hb hby at_4) ?_
    refine XS.irem X0.here hx rfl (hb hby at_5) rfl (by decide) ?_
    show Steps p.tables e below (s₁.setTop (mkF m 6 #[.val (.int p0), .val (.int p1), .val (.int p2), .val (.int p3), .val (.int p4), .unset, .unset, .unset, .unset, .unset, .unset, .unset] [(.int ((p0 &&& (2147483647 : Int32)) - (p0 &&& (2147483647 : Int32)) / (5 : Int32) * (5 : Int32)))])) _
    rw [hn]
    refine XS.istore X0.here hx rfl (hb hby at_6) rfl (l' := #[.val (.int p0), .val (.int p1), .val (.int p2), .val (.int p3), .val (.int p4), .val (.int 0), .unset, .unset, .unset, .unset, .unset, .unset]) rfl ?_
    refine XS.iloadN X0.here hx rfl (hb hby at_8) rfl ?_
    exact k)
  obtain ⟨_, _, ⟨T3, L3, k3, n3⟩, -, X3, ⟨Lc3, hQ3, l3, y3, z3⟩, st3⟩ := Jvm.LawKit.callS X0 hx (y := Nm_0) hown (mvT hZ (wq hw 1 rfl)) (mvT hZ (wq hw 2 rfl)) (mvT hZ (wq hw 3 rfl)) (mvT hZ (wq hw 4 rfl)) (by decide) (backOf (W := 0) (rm1 l Z a0 hw [] p1 h0 n0 Z0) hZ (wq hw 4 rfl) (wq hw 3 rfl) (by decide) (by decide)) (g := (mkF m 9 #[.val (.int p0), .val (.int p1), .val (.int p2), .val (.int p3), .val (.int p4), .val (.int 0), .unset, .unset, .unset, .unset, .unset, .unset] [(.int p1)])) rfl (by rw [hml]; rfl) (argsL := [(.int p1)]) (rest := []) (lenOf pd__I_C rfl) rfl (w00 rfl) (hb hby at_9) (fun _ _ => ⟨rfl, e0, (by decide : 0 + 0 ≤ _), (by decide : 0 + 0 ≤ _)⟩)
  dsimp only [Pt.U, Pt.locs, Pt.cells, Pt.slots] at X3 l3 y3 z3 st3 hQ3
  subst l3 y3 z3
  obtain ⟨rfl, Nq3, e3⟩ := hQ3
  have N3 := Fr.app N0 Nq3
  have pre4 := Go.thn pre2 st3
  have pre5 : Go p e below T3 _ (mkF m 15 #[.val (.int p0), .val (.int p1), .val (.int p2), .val (.int p3), .val (.int p4), .val (.int 0), .val (.int (f1 p1)), .unset, .unset, .unset, .unset, .unset] [(.int p2)]) _ := fun t k => pre4 t (by
    refine XS.istore X3.here hx rfl (hb hby at_12) rfl (l' := #[.val (.int p0), .val (.int p1), .val (.int p2), .val (.int p3), .val (.int p4), .val (.int 0), .val (.int (f1 p1)), .unset, .unset, .unset, .unset, .unset]) rfl ?_
    refine XS.iloadN X3.here hx rfl (hb hby at_14) rfl ?_
    exact k)
  obtain ⟨_, _, ⟨T6, L6, k6, n6⟩, -, X6, ⟨Lc6, hQ6, l6, y6, z6⟩, st6⟩ := Jvm.LawKit.callS X3 hx (y := Nm_0) hown (mvT hZ (wq hw 1 rfl)) (mvT hZ (wq hw 2 rfl)) (mvT hZ (wq hw 3 rfl)) (mvT hZ (wq hw 4 rfl)) (by decide) (backOf (W := 0) (rm1 l Z a0 hw [] p2 h0 n0 Z0) hZ (wq hw 4 rfl) (wq hw 3 rfl) (by decide) (by decide)) (g := (mkF m 15 #[.val (.int p0), .val (.int p1), .val (.int p2), .val (.int p3), .val (.int p4), .val (.int 0), .val (.int (f1 p1)), .unset, .unset, .unset, .unset, .unset] [(.int p2)])) rfl (by rw [hml]; rfl) (argsL := [(.int p2)]) (rest := []) (lenOf pd__I_C rfl) rfl (w00 rfl) (hb hby at_15) (fun _ _ => ⟨rfl, e3, (by decide : 0 + 0 ≤ _), (by decide : 0 + 0 ≤ _)⟩)
  dsimp only [Pt.U, Pt.locs, Pt.cells, Pt.slots] at X6 l6 y6 z6 st6 hQ6
  subst l6 y6 z6
  obtain ⟨rfl, Nq6, e6⟩ := hQ6
  have N6 := Fr.app N3 Nq6
  have pre7 := Go.thn pre5 st6
  have pre8 : Go p e below T6 _ (mkF m 21 #[.val (.int p0), .val (.int p1), .val (.int p2), .val (.int p3), .val (.int p4), .val (.int 0), .val (.int (f1 p1)), .val (.int (f1 p2)), .unset, .unset, .unset, .unset] [(.int p3)]) _ := fun t k => pre7 t (by
    refine XS.istore X6.here hx rfl (hb hby at_18) rfl (l' := #[.val (.int p0), .val (.int p1), .val (.int p2), .val (.int p3), .val (.int p4), .val (.int 0), .val (.int (f1 p1)), .val (.int (f1 p2)), .unset, .unset, .unset, .unset]) rfl ?_
    refine XS.iloadN X6.here hx rfl (hb hby at_20) rfl ?_
    exact k)
  obtain ⟨_, _, ⟨T9, L9, k9, n9⟩, -, X9, ⟨Lc9, hQ9, l9, y9, z9⟩, st9⟩ := Jvm.LawKit.callS X6 hx (y := Nm_0) hown (mvT hZ (wq hw 1 rfl)) (mvT hZ (wq hw 2 rfl)) (mvT hZ (wq hw 3 rfl)) (mvT hZ (wq hw 4 rfl)) (by decide) (backOf (W := 0) (rm1 l Z a0 hw [] p3 h0 n0 Z0) hZ (wq hw 4 rfl) (wq hw 3 rfl) (by decide) (by decide)) (g := (mkF m 21 #[.val (.int p0), .val (.int p1), .val (.int p2), .val (.int p3), .val (.int p4), .val (.int 0), .val (.int (f1 p1)), .val (.int (f1 p2)), .unset, .unset, .unset, .unset] [(.int p3)])) rfl (by rw [hml]; rfl) (argsL := [(.int p3)]) (rest := []) (lenOf pd__I_C rfl) rfl (w00 rfl) (hb hby at_21) (fun _ _ => ⟨rfl, e6, (by decide : 0 + 0 ≤ _), (by decide : 0 + 0 ≤ _)⟩)
  dsimp only [Pt.U, Pt.locs, Pt.cells, Pt.slots] at X9 l9 y9 z9 st9 hQ9
  subst l9 y9 z9
  obtain ⟨rfl, Nq9, e9⟩ := hQ9
  have N9 := Fr.app N6 Nq9
  have pre10 := Go.thn pre8 st9
  have pre11 : Go p e below T9 _ (mkF m 28 #[.val (.int p0), .val (.int p1), .val (.int p2), .val (.int p3), .val (.int p4), .val (.int 0), .val (.int (f1 p1)), .val (.int (f1 p2)), .val (.int (f1 p3)), .unset, .unset, .unset] [(.int p4)]) _ := fun t k => pre10 t (by
    refine XS.istore X9.here hx rfl (hb hby at_24) rfl (l' := #[.val (.int p0), .val (.int p1), .val (.int p2), .val (.int p3), .val (.int p4), .val (.int 0), .val (.int (f1 p1)), .val (.int (f1 p2)), .val (.int (f1 p3)), .unset, .unset, .unset]) rfl ?_
    refine XS.iload X9.here hx rfl (hb hby at_26) rfl ?_
    exact k)
  obtain ⟨_, _, ⟨T12, L12, k12, n12⟩, -, X12, ⟨Lc12, hQ12, l12, y12, z12⟩, st12⟩ := Jvm.LawKit.callS X9 hx (y := Nm_0) hown (mvT hZ (wq hw 1 rfl)) (mvT hZ (wq hw 2 rfl)) (mvT hZ (wq hw 3 rfl)) (mvT hZ (wq hw 4 rfl)) (by decide) (backOf (W := 0) (rm1 l Z a0 hw [] p4 h0 n0 Z0) hZ (wq hw 4 rfl) (wq hw 3 rfl) (by decide) (by decide)) (g := (mkF m 28 #[.val (.int p0), .val (.int p1), .val (.int p2), .val (.int p3), .val (.int p4), .val (.int 0), .val (.int (f1 p1)), .val (.int (f1 p2)), .val (.int (f1 p3)), .unset, .unset, .unset] [(.int p4)])) rfl (by rw [hml]; rfl) (argsL := [(.int p4)]) (rest := []) (lenOf pd__I_C rfl) rfl (w00 rfl) (hb hby at_28) (fun _ _ => ⟨rfl, e9, (by decide : 0 + 0 ≤ _), (by decide : 0 + 0 ≤ _)⟩)
  dsimp only [Pt.U, Pt.locs, Pt.cells, Pt.slots] at X12 l12 y12 z12 st12 hQ12
  subst l12 y12 z12
  obtain ⟨rfl, Nq12, e12⟩ := hQ12
  have N12 := Fr.app N9 Nq12
  have pre13 := Go.thn pre11 st12
  have pre14 : Go p e below T12 _ (mkF m 38 #[.val (.int p0), .val (.int p1), .val (.int p2), .val (.int p3), .val (.int p4), .val (.int 0), .val (.int (f1 p1)), .val (.int (f1 p2)), .val (.int (f1 p3)), .val (.int (f1 p4)), .unset, .unset] []) _ := fun t k => pre13 t (by
    refine XS.istore X12.here hx rfl (hb hby at_31) rfl (l' := #[.val (.int p0), .val (.int p1), .val (.int p2), .val (.int p3), .val (.int p4), .val (.int 0), .val (.int (f1 p1)), .val (.int (f1 p2)), .val (.int (f1 p3)), .val (.int (f1 p4)), .unset, .unset]) rfl ?_
    refine XS.iload X12.here hx rfl (hb hby at_33) rfl ?_
    refine XS.ifNo X12.here hx rfl (hb hby at_35) rfl (by decide) ?_
    exact k)
  obtain ⟨T15, h15, X15, e15, E15, A15, D15, -, st15⟩ := newO X12 hx hZ hown (wq hw 6 rfl) (wq hw 7 rfl) (wq hw 8 rfl) e12 (g := (mkF m 38 #[.val (.int p0), .val (.int p1), .val (.int p2), .val (.int p3), .val (.int p4), .val (.int 0), .val (.int (f1 p1)), .val (.int (f1 p2)), .val (.int (f1 p3)), .val (.int (f1 p4)), .unset, .unset] [])) rfl (hb hby at_38) (by decide) (by decide)
  obtain ⟨b38, g15⟩ : ∃ z, z = h0.size := ⟨_, rfl⟩
  rw [← g15] at A15 D15 st15
  have gg15 : n0 ≤ b38 := Nat.le_trans Z0 (Nat.le_of_eq g15.symm)
  have sz15 : h0.size ≤ b38 := Nat.le_trans K0.1 (Nat.le_of_eq g15.symm)
  have K15 : Keep h0 h15 [] := K0.ext E15
  have Z15 : n0 ≤ h15.size := Nat.le_trans Z0 E15.1
  have x16 := I0.ext E15
  have x17 := I1.ext E15
  have x18 := I2.ext E15
  have x19 := I3.ext E15
  have x20 := I4.ext E15
  have x21 := OLD.ext E15
  have Fn15_value : Fld Z h15 b38 "java/lang/String" "value" "[B" .null := D15 (Or.inr (wq hw 22 rfl)) (ty := (.array .byte)) (by decide)
  have Fn15_coder : Fld Z h15 b38 "java/lang/String" "coder" "B" (.int 0) := D15 (Or.inr (wq hw 23 rfl)) (ty := .byte) (by decide)
  have pre22 := Go.thn pre14 st15
  have kS15 : _ ≤ h15.size := Nat.le_trans kS0 E15.1
  have pre23 : Go p e below T15 _ (mkF m 43 #[.val (.int p0), .val (.int p1), .val (.int p2), .val (.int p3), .val (.int p4), .val (.int 0), .val (.int (f1 p1)), .val (.int (f1 p2)), .val (.int (f1 p3)), .val (.int (f1 p4)), .unset, .unset] [(.int 0), (.ref b38), (.ref b38)]) _ := fun t k => pre22 t (by
    refine XS.dup X15.here hx rfl (hb hby at_41) rfl rfl ?_
    refine XS.iconst X15.here hx rfl (hb hby at_42) ?_
    exact k)
  obtain ⟨T24, h24, k24, X24, e24, E24, A24, st24⟩ := newP X15 hx hZ (wq hw 9 rfl) e15 (g := (mkF m 43 #[.val (.int p0), .val (.int p1), .val (.int p2), .val (.int p3), .val (.int p4), .val (.int 0), .val (.int (f1 p1)), .val (.int (f1 p2)), .val (.int (f1 p3)), .val (.int (f1 p4)), .unset, .unset] [(.int 0), (.ref b38), (.ref b38)])) rfl (hb hby at_43) rfl (by decide) (cap := 0) (by decide) (by decide) (by decide) (by decide)
  obtain ⟨b43, g24⟩ : ∃ z, z = h15.size := ⟨_, rfl⟩
  rw [← g24] at A24 st24
  have gg24 : n0 ≤ b43 := Nat.le_trans Z15 (Nat.le_of_eq g24.symm)
  have sz24 : h0.size ≤ b43 := Nat.le_trans K15.1 (Nat.le_of_eq g24.symm)
  have K24 : Keep h0 h24 [] := K15.ext E24
  have Z24 : n0 ≤ h24.size := Nat.le_trans Z15 E24.1
  have V24 : Arv Z h24 b43 k24 .char (0 : Int32) [] (.int 0) := (Arv.new A24 (by decide)).pad (pad_rep [] (.int 0) 0)
  have ne24_b38 : b38 ≠ b43 := Nat.ne_of_lt (Nat.lt_of_lt_of_le A15.lt (Nat.le_of_eq g24.symm))
  have x25 := x16.ext E24
  have x26 := x17.ext E24
  have x27 := x18.ext E24
  have x28 := x19.ext E24
  have x29 := x20.ext E24
  have x30 := x21.ext E24
  have x31 := A15.ext E24
  have x32 := Fn15_value.ext E24
  have x33 := Fn15_coder.ext E24
  have pre34 := Go.thn pre23 st24
  have kS24 : _ ≤ h24.size := Nat.le_trans kS15 E24.1
  obtain ⟨_, _, ⟨T35, L35, k35, n35⟩, -, X35, hSn35, hgn35, ⟨Lc35, hQ35, l35, y35, z35⟩, st35⟩ := X24.specialBackS hx (y := Nm_23) rfl hown (mvT hZ (wq hw 10 rfl)) (mvT hZ (wq hw 11 rfl)) (mvT hZ (wq hw 12 rfl)) (by decide) (own_backIB IB0 (W := 1) (rm2_0 l Z a0 hw [] b38 b43 _ h24 n0 Z24 x31 x32 x33 V24 x30 gg15 (Ne.symm ne24_b38) hcw hh7) hZ (wq hw 12 rfl) (wq hw 8 rfl) (by decide) (by decide)) (g := (mkF m 45 #[.val (.int p0), .val (.int p1), .val (.int p2), .val (.int p3), .val (.int p4), .val (.int 0), .val (.int (f1 p1)), .val (.int (f1 p2)), .val (.int (f1 p3)), .val (.int (f1 p4)), .unset, .unset] [(.ref b43), (.ref b38), (.ref b38)])) rfl (by rw [hml]; rfl) (Steps.refl _) (a := b38) (argsL := [(.ref b43)]) (rest := [(.ref b38)]) (lenOf pd___C_V rfl) rfl (w00 rfl) (hb hby at_45) (fun _ _ => ⟨rfl, e24, (by decide : 2 + 2 ≤ _), (by decide : 4 + 4 ≤ _)⟩)
  dsimp only [Pt.U, Pt.locs, Pt.cells, Pt.slots] at X35 l35 y35 z35 st35 hQ35 hSn35 hgn35
  subst l35 y35 z35
  obtain ⟨X35, hS35, hZ, hown⟩ := rebS hS0 (by rw [e24]; exact kS24) X35 hSn35 hgn35 hZ hown
  obtain ⟨x45_0, k_x6_0_35, rfl, Nq35, Kq35, o35_0, o35_1, o35_2, o35_3⟩ := hQ35
  have N35 := Fr.app N12 Nq35
  have K35 : Keep h0 T35.heap [] := K24.trans Kq35 (allS (Or.inr sz15) all0)
  have Z35 : n0 ≤ T35.heap.size := Nat.le_trans Z24 Kq35.1
  have x36 := own_staK x25 Kq35 (allS (own_plE x31) all0)
  have x37 := own_staK x26 Kq35 (allS (own_plE x31) all0)
  have x38 := own_staK x27 Kq35 (allS (own_plE x31) all0)
  have x39 := own_staK x28 Kq35 (allS (own_plE x31) all0)
  have x40 := own_staK x29 Kq35 (allS (own_plE x31) all0)
  have x41 := x30.keep Kq35 (allS gg15 all0)
  have x42 := x31.keep Kq35
  have x43 := V24.keep Kq35 (ninS (Ne.symm ne24_b38) nin0)
  have pre44 := Go.trn pre34 st35
  have pre45 : Go p e below T35 _ (mkF m 250 #[.val (.int p0), .val (.int p1), .val (.int p2), .val (.int p3), .val (.int p4), .val (.int 0), .val (.int (f1 p1)), .val (.int (f1 p2)), .val (.int (f1 p3)), .val (.int (f1 p4)), .val (.ref b38), .val (.int 0)] [(.ref b38)]) _ := fun t k => pre44 t (by
    refine XS.astore X35.here hx rfl (hb hby at_48) rfl rfl (l' := #[.val (.int p0), .val (.int p1), .val (.int p2), .val (.int p3), .val (.int p4), .val (.int 0), .val (.int (f1 p1)), .val (.int (f1 p2)), .val (.int (f1 p3)), .val (.int (f1 p4)), .val (.ref b38), .unset]) rfl ?_
    refine XS.goto X35.here hx rfl (pc0 := 50) (pc' := 178) rfl (hb hby at_50) (by decide) (by decide) ?_
    refine XS.iconst X35.here hx rfl (hb hby at_178) ?_
    refine XS.istore X35.here hx rfl (hb hby at_179) rfl (l' := #[.val (.int p0), .val (.int p1), .val (.int p2), .val (.int p3), .val (.int p4), .val (.int 0), .val (.int (f1 p1)), .val (.int (f1 p2)), .val (.int (f1 p3)), .val (.int (f1 p4)), .val (.ref b38), .val (.int 0)]) rfl ?_
    refine XS.iload X35.here hx rfl (hb hby at_181) rfl ?_
    refine XS.ifYes X35.here hx rfl (pc0 := 183) (pc' := 248) rfl (hb hby at_183) rfl (by decide) (by decide) (by decide) ?_
    refine XS.aload X35.here hx rfl (hb hby at_248) rfl rfl ?_
    exact k)
  obtain ⟨_, _, ⟨T46, L46, k46, n46⟩, -, X46, ⟨Lc46, hQ46, l46, y46, z46⟩, st46⟩ := Jvm.LawKit.callS X35 hx (y := Nm_14) hown (mvT hZ (wq hw 28 rfl)) (mvT hZ (wq hw 29 rfl)) (mvT hZ (wq hw 30 rfl)) (mvT hZ (wq hw 31 rfl)) (by decide) (backOf (W := 0) (rm5_L l Z a0 hw [] b38 wcs wsf x45_0 _ (0 : Int32) [] T35.heap n0 Z35 x36 x37 o35_0 o35_1 o35_2 o35_3 hcs hsf (Or.inl rfl) (by decide)) hZ (wq hw 31 rfl) (wq hw 30 rfl) (by decide) (by decide)) (g := (mkF m 250 #[.val (.int p0), .val (.int p1), .val (.int p2), .val (.int p3), .val (.int p4), .val (.int 0), .val (.int (f1 p1)), .val (.int (f1 p2)), .val (.int (f1 p3)), .val (.int (f1 p4)), .val (.ref b38), .val (.int 0)] [(.ref b38)])) rfl (by rw [hml]; rfl) (argsL := [(.ref b38)]) (rest := []) (lenOf pd__Ljava_lang_String__I rfl) rfl (w00 rfl) (hb hby at_250) (fun _ _ => ⟨rfl, rfl, (by decide : 4 + 0 ≤ _), (by decide : 8 + 0 ≤ _)⟩)
  dsimp only [Pt.U, Pt.locs, Pt.cells, Pt.slots] at X46 l46 y46 z46 st46 hQ46
  subst l46 y46 z46
  obtain ⟨rfl, Nq46, e46⟩ := hQ46
  have N46 := Fr.app N35 Nq46
  have pre47 := Go.thn pre45 st46
  have pre48 : Go p e below T46 _ (mkF m 255 #[.val (.int p0), .val (.int p1), .val (.int p2), .val (.int p3), .val (.int p4), .val (.int 0), .val (.int (f1 p1)), .val (.int (f1 p2)), .val (.int (f1 p3)), .val (.int (f1 p4)), .val (.ref b38), .val (.int 0)] [(.int 0), (.int (f5_L (0 : Int32) []))]) _ := fun t k => pre47 t (by
    refine XS.iload X46.here hx rfl (hb hby at_253) rfl ?_
    exact k)
  by_cases hc255_1 : (f5_L (0 : Int32) []) = (0 : Int32)
  · have pre49 : Go p e below T46 _ (mkF m 263 #[.val (.int p0), .val (.int p1), .val (.int p2), .val (.int p3), .val (.int p4), .val (.int 0), .val (.int (f1 p1)), .val (.int (f1 p2)), .val (.int (f1 p3)), .val (.int (f1 p4)), .val (.ref b38), .val (.int 0)] [(.int 1)]) _ := fun t k => pre48 t (by
      refine XS.icmpNo X46.here hx rfl (hb hby at_255) rfl (teq hc255_1).2 ?_
      refine XS.iconst X46.here hx rfl (hb hby at_258) ?_
      refine XS.goto X46.here hx rfl (pc0 := 259) (pc' := 263) rfl (hb hby at_259) (by decide) (by decide) ?_
      exact k)
    obtain ⟨fs, hr, hrun, hended, hE⟩ := X46.leaveW hS35 (by rw [e46]; exact (Nat.le_refl _)) (v := some (.int 1)) (fun h => by rw [Bd.returns] at h; cases h)
    refine ⟨_, _, ?_, hrun, hended, _, _, rfl, ?_, hE.1, hE.2.1, hE.2.2.1, hE.2.2.2.mono (by decide) (by decide)⟩
    · exact pre49 _ (retN X46 hx (t := .boolean) Bd.returns (by simp) (hb hby at_263) hr)
    · exact ⟨by simp only [f0_0L, if_pos hc255_1], N46, trivial⟩
  · have pre50 : Go p e below T46 _ (mkF m 263 #[.val (.int p0), .val (.int p1), .val (.int p2), .val (.int p3), .val (.int p4), .val (.int 0), .val (.int (f1 p1)), .val (.int (f1 p2)), .val (.int (f1 p3)), .val (.int (f1 p4)), .val (.ref b38), .val (.int 0)] [(.int 0)]) _ := fun t k => pre48 t (by
      refine XS.icmpYes X46.here hx rfl (pc0 := 255) (pc' := 262) rfl (hb hby at_255) rfl (feq hc255_1).2 (by decide) (by decide) ?_
      refine XS.iconst X46.here hx rfl (hb hby at_262) ?_
      exact k)
    obtain ⟨fs, hr, hrun, hended, hE⟩ := X46.leaveW hS35 (by rw [e46]; exact (Nat.le_refl _)) (v := some (.int 0)) (fun h => by rw [Bd.returns] at h; cases h)
    refine ⟨_, _, ?_, hrun, hended, _, _, rfl, ?_, hE.1, hE.2.1, hE.2.2.1, hE.2.2.2.mono (by decide) (by decide)⟩
    · exact pre50 _ (retN X46 hx (t := .boolean) Bd.returns (by simp) (hb hby at_263) hr)
    · exact ⟨by simp only [f0_0L, if_neg hc255_1], N46, trivial⟩
def v0_1L_248_l11 (p1 : Int32) : Int32 := (if (f11 (f1 p1)) = (0 : Int32) then (0 : Int32) else (1 : Int32))
def f0_1L (p1 : Int32) : Int32 := (if (f5_L (1 : Int32) [(g9_1_o2_0 (nar .char (f1 p1)))]) = (v0_1L_248_l11 p1) then (1 : Int32) else (0 : Int32))
set_option maxRecDepth 65536 in
set_option maxHeartbeats 40000000 in
theorem rm0_1L (l : Launch) (Z : State) (a0 : Array Value) (hw : ∀ d ∈ tables_1, d.before a0 Z = true) (ws : List Jvm.Cond) (p0 : Int32) (p1 : Int32) (p2 : Int32) (p3 : Int32) (p4 : Int32) (wcs : Int32) (wsf : Value) (h0 : Heap) (n0 : Nat) (Z0 : n0 ≤ h0.size) (I0 : Sta Z h0 "java/lang/String" "COMPACT_STRINGS" "Z" (.int wcs)) (I1 : Sta Z h0 "jdk/internal/util/Preconditions" "SIOOBE_FORMATTER" "Ljava/util/function/BiFunction;" wsf) (I2 : Sta Z h0 "java/lang/StringUTF16" "$assertionsDisabled" "Z" (.int 1)) (I3 : Sta Z h0 "java/lang/StringUTF16" "HI_BYTE_SHIFT" "I" (.int 0)) (I4 : Sta Z h0 "java/lang/StringUTF16" "LO_BYTE_SHIFT" "I" (.int 8)) (hn : ((p0 &&& (2147483647 : Int32)) - (p0 &&& (2147483647 : Int32)) / (5 : Int32) * (5 : Int32)) = (1 : Int32)) (hcs : ¬ (wcs = (0 : Int32))) (hsf : wsf.isRef = true) (hl0 : ¬ ((255 : Int32) < (nar .char (f1 p1)))) :
    Met1 l x (Jvm.Cond.code x code maxLocals ret) ws room_1 #[(.int p0), (.int p1), (.int p2), (.int p3), (.int p4)] Z h0 (QL (some (.int (f0_1L p1))) n0) := by
  refine MetFree.of_bodySF (plainFor_of_name pn_0) hisR ?_
  intro p e s m args below meth c s₁ Bd hml0 hP hK
  obtain ⟨rfl, hZ, hh⟩ := hP
  have hx := Bd.exec
  have hby := Bd.bytes
  have hml : c.maxLocals = 12 := hml0
  have hown : s.vm.findClass "com/example/stint/stint/WholeNumberLeadingDigitsPinLaw" = some m.cls := findClass_of_methodNamed Bd.named
  have X0 : Stand p l e room_1 s m _ _ _ _ _ [] 0 0 := Stand.of_body Bd
  have e0 : s₁.heap = h0 := by rw [← hh, Bd.state]; rfl
  have N0 := Fr.nil n0
  have K0 : Keep h0 h0 [] := Keep.refl _ _
  have pre0 : Go p e below s₁ _ (mkF m 0 #[.val (.int p0), .val (.int p1), .val (.int p2), .val (.int p3), .val (.int p4), .unset, .unset, .unset, .unset, .unset, .unset, .unset] []) _ := fun t k => castTop (ef_0 m p0 p1 p2 p3 p4) k
  have pre3 : Go p e below s₁ _ (mkF m 9 #[.val (.int p0), .val (.int p1), .val (.int p2), .val (.int p3), .val (.int p4), .val (.int 1), .unset, .unset, .unset, .unset, .unset, .unset] [(.int p1)]) _ := fun t k => pre0 t (by
    refine XS.iloadN X0.here hx rfl (hb hby at_0) rfl ?_
    refine X0.ldcInt hx hown (mvT hZ (wq hw 0 rfl)) (g := (mkF m 1 #[.val (.int p0), .val (.int p1), .val (.int p2), .val (.int p3), .val (.int p4), .unset, .unset, .unset, .unset, .unset, .unset, .unset] [(.int p0)])) rfl (hb hby at_1) _ ?_
    refine XS.iand X0.here hx rfl (hb hby at_3) rfl ?_
    refine XS.iconst X0.here hx rfl (hb hby at_4) ?_
    refine XS.irem X0.here hx rfl (hb hby at_5) rfl (by decide) ?_
    show Steps p.tables e below (s₁.setTop (mkF m 6 #[.val (.int p0), .val (.int p1), .val (.int p2), .val (.int p3), .val (.int p4), .unset, .unset, .unset, .unset, .unset, .unset, .unset] [(.int ((p0 &&& (2147483647 : Int32)) - (p0 &&& (2147483647 : Int32)) / (5 : Int32) * (5 : Int32)))])) _
    rw [hn]
    refine XS.istore X0.here hx rfl (hb hby at_6) rfl (l' := #[.val (.int p0), .val (.int p1), .val (.int p2), .val (.int p3), .val (.int p4), .val (.int 1), .unset, .unset, .unset, .unset, .unset, .unset]) rfl ?_
    refine XS.iloadN X0.here hx rfl (hb hby at_8) rfl ?_
    exact k)
  obtain ⟨_, _, ⟨T4, L4, k4, n4⟩, -, X4, ⟨Lc4, hQ4, l4, y4, z4⟩, st4⟩ := Jvm.LawKit.callS X0 hx (y := Nm_0) hown (mvT hZ (wq hw 1 rfl)) (mvT hZ (wq hw 2 rfl)) (mvT hZ (wq hw 3 rfl)) (mvT hZ (wq hw 4 rfl)) (by decide) (backOf (W := 0) (rm1 l Z a0 hw [] p1 h0 n0 Z0) hZ (wq hw 4 rfl) (wq hw 3 rfl) (by decide) (by decide)) (g := (mkF m 9 #[.val (.int p0), .val (.int p1), .val (.int p2), .val (.int p3), .val (.int p4), .val (.int 1), .unset, .unset, .unset, .unset, .unset, .unset] [(.int p1)])) rfl (by rw [hml]; rfl) (argsL := [(.int p1)]) (rest := []) (lenOf pd__I_C rfl) rfl (w00 rfl) (hb hby at_9) (fun _ _ => ⟨rfl, e0, (by decide : 0 + 0 ≤ _), (by decide : 0 + 0 ≤ _)⟩)
  dsimp only [Pt.U, Pt.locs, Pt.cells, Pt.slots] at X4 l4 y4 z4 st4 hQ4
  subst l4 y4 z4
  obtain ⟨rfl, Nq4, e4⟩ := hQ4
  have N4 := Fr.app N0 Nq4
  have pre5 := Go.thn pre3 st4
  have pre6 : Go p e below T4 _ (mkF m 15 #[.val (.int p0), .val (.int p1), .val (.int p2), .val (.int p3), .val (.int p4), .val (.int 1), .val (.int (f1 p1)), .unset, .unset, .unset, .unset, .unset] [(.int p2)]) _ := fun t k => pre5 t (by
    refine XS.istore X4.here hx rfl (hb hby at_12) rfl (l' := #[.val (.int p0), .val (.int p1), .val (.int p2), .val (.int p3), .val (.int p4), .val (.int 1), .val (.int (f1 p1)), .unset, .unset, .unset, .unset, .unset]) rfl ?_
    refine XS.iloadN X4.here hx rfl (hb hby at_14) rfl ?_
    exact k)
  obtain ⟨_, _, ⟨T7, L7, k7, n7⟩, -, X7, ⟨Lc7, hQ7, l7, y7, z7⟩, st7⟩ := Jvm.LawKit.callS X4 hx (y := Nm_0) hown (mvT hZ (wq hw 1 rfl)) (mvT hZ (wq hw 2 rfl)) (mvT hZ (wq hw 3 rfl)) (mvT hZ (wq hw 4 rfl)) (by decide) (backOf (W := 0) (rm1 l Z a0 hw [] p2 h0 n0 Z0) hZ (wq hw 4 rfl) (wq hw 3 rfl) (by decide) (by decide)) (g := (mkF m 15 #[.val (.int p0), .val (.int p1), .val (.int p2), .val (.int p3), .val (.int p4), .val (.int 1), .val (.int (f1 p1)), .unset, .unset, .unset, .unset, .unset] [(.int p2)])) rfl (by rw [hml]; rfl) (argsL := [(.int p2)]) (rest := []) (lenOf pd__I_C rfl) rfl (w00 rfl) (hb hby at_15) (fun _ _ => ⟨rfl, e4, (by decide : 0 + 0 ≤ _), (by decide : 0 + 0 ≤ _)⟩)
  dsimp only [Pt.U, Pt.locs, Pt.cells, Pt.slots] at X7 l7 y7 z7 st7 hQ7
  subst l7 y7 z7
  obtain ⟨rfl, Nq7, e7⟩ := hQ7
  have N7 := Fr.app N4 Nq7
  have pre8 := Go.thn pre6 st7
  have pre9 : Go p e below T7 _ (mkF m 21 #[.val (.int p0), .val (.int p1), .val (.int p2), .val (.int p3), .val (.int p4), .val (.int 1), .val (.int (f1 p1)), .val (.int (f1 p2)), .unset, .unset, .unset, .unset] [(.int p3)]) _ := fun t k => pre8 t (by
    refine XS.istore X7.here hx rfl (hb hby at_18) rfl (l' := #[.val (.int p0), .val (.int p1), .val (.int p2), .val (.int p3), .val (.int p4), .val (.int 1), .val (.int (f1 p1)), .val (.int (f1 p2)), .unset, .unset, .unset, .unset]) rfl ?_
    refine XS.iloadN X7.here hx rfl (hb hby at_20) rfl ?_
    exact k)
  obtain ⟨_, _, ⟨T10, L10, k10, n10⟩, -, X10, ⟨Lc10, hQ10, l10, y10, z10⟩, st10⟩ := Jvm.LawKit.callS X7 hx (y := Nm_0) hown (mvT hZ (wq hw 1 rfl)) (mvT hZ (wq hw 2 rfl)) (mvT hZ (wq hw 3 rfl)) (mvT hZ (wq hw 4 rfl)) (by decide) (backOf (W := 0) (rm1 l Z a0 hw [] p3 h0 n0 Z0) hZ (wq hw 4 rfl) (wq hw 3 rfl) (by decide) (by decide)) (g := (mkF m 21 #[.val (.int p0), .val (.int p1), .val (.int p2), .val (.int p3), .val (.int p4), .val (.int 1), .val (.int (f1 p1)), .val (.int (f1 p2)), .unset, .unset, .unset, .unset] [(.int p3)])) rfl (by rw [hml]; rfl) (argsL := [(.int p3)]) (rest := []) (lenOf pd__I_C rfl) rfl (w00 rfl) (hb hby at_21) (fun _ _ => ⟨rfl, e7, (by decide : 0 + 0 ≤ _), (by decide : 0 + 0 ≤ _)⟩)
  dsimp only [Pt.U, Pt.locs, Pt.cells, Pt.slots] at X10 l10 y10 z10 st10 hQ10
  subst l10 y10 z10
  obtain ⟨rfl, Nq10, e10⟩ := hQ10
  have N10 := Fr.app N7 Nq10
  have pre11 := Go.thn pre9 st10
  have pre12 : Go p e below T10 _ (mkF m 28 #[.val (.int p0), .val (.int p1), .val (.int p2), .val (.int p3), .val (.int p4), .val (.int 1), .val (.int (f1 p1)), .val (.int (f1 p2)), .val (.int (f1 p3)), .unset, .unset, .unset] [(.int p4)]) _ := fun t k => pre11 t (by
    refine XS.istore X10.here hx rfl (hb hby at_24) rfl (l' := #[.val (.int p0), .val (.int p1), .val (.int p2), .val (.int p3), .val (.int p4), .val (.int 1), .val (.int (f1 p1)), .val (.int (f1 p2)), .val (.int (f1 p3)), .unset, .unset, .unset]) rfl ?_
    refine XS.iload X10.here hx rfl (hb hby at_26) rfl ?_
    exact k)
  obtain ⟨_, _, ⟨T13, L13, k13, n13⟩, -, X13, ⟨Lc13, hQ13, l13, y13, z13⟩, st13⟩ := Jvm.LawKit.callS X10 hx (y := Nm_0) hown (mvT hZ (wq hw 1 rfl)) (mvT hZ (wq hw 2 rfl)) (mvT hZ (wq hw 3 rfl)) (mvT hZ (wq hw 4 rfl)) (by decide) (backOf (W := 0) (rm1 l Z a0 hw [] p4 h0 n0 Z0) hZ (wq hw 4 rfl) (wq hw 3 rfl) (by decide) (by decide)) (g := (mkF m 28 #[.val (.int p0), .val (.int p1), .val (.int p2), .val (.int p3), .val (.int p4), .val (.int 1), .val (.int (f1 p1)), .val (.int (f1 p2)), .val (.int (f1 p3)), .unset, .unset, .unset] [(.int p4)])) rfl (by rw [hml]; rfl) (argsL := [(.int p4)]) (rest := []) (lenOf pd__I_C rfl) rfl (w00 rfl) (hb hby at_28) (fun _ _ => ⟨rfl, e10, (by decide : 0 + 0 ≤ _), (by decide : 0 + 0 ≤ _)⟩)
  dsimp only [Pt.U, Pt.locs, Pt.cells, Pt.slots] at X13 l13 y13 z13 st13 hQ13
  subst l13 y13 z13
  obtain ⟨rfl, Nq13, e13⟩ := hQ13
  have N13 := Fr.app N10 Nq13
  have pre14 := Go.thn pre12 st13
  have pre15 : Go p e below T13 _ (mkF m 59 #[.val (.int p0), .val (.int p1), .val (.int p2), .val (.int p3), .val (.int p4), .val (.int 1), .val (.int (f1 p1)), .val (.int (f1 p2)), .val (.int (f1 p3)), .val (.int (f1 p4)), .unset, .unset] []) _ := fun t k => pre14 t (by
    refine XS.istore X13.here hx rfl (hb hby at_31) rfl (l' := #[.val (.int p0), .val (.int p1), .val (.int p2), .val (.int p3), .val (.int p4), .val (.int 1), .val (.int (f1 p1)), .val (.int (f1 p2)), .val (.int (f1 p3)), .val (.int (f1 p4)), .unset, .unset]) rfl ?_
    refine XS.iload X13.here hx rfl (hb hby at_33) rfl ?_
    refine XS.ifYes X13.here hx rfl (pc0 := 35) (pc' := 53) rfl (hb hby at_35) rfl (by decide) (by decide) (by decide) ?_
    refine XS.iload X13.here hx rfl (hb hby at_53) rfl ?_
    refine XS.iconst X13.here hx rfl (hb hby at_55) ?_
    refine XS.icmpNo X13.here hx rfl (hb hby at_56) rfl (by decide) ?_
    exact k)
  obtain ⟨T16, h16, X16, e16, E16, A16, D16, -, st16⟩ := newO X13 hx hZ hown (wq hw 6 rfl) (wq hw 7 rfl) (wq hw 8 rfl) e13 (g := (mkF m 59 #[.val (.int p0), .val (.int p1), .val (.int p2), .val (.int p3), .val (.int p4), .val (.int 1), .val (.int (f1 p1)), .val (.int (f1 p2)), .val (.int (f1 p3)), .val (.int (f1 p4)), .unset, .unset] [])) rfl (hb hby at_59) (by decide) (by decide)
  obtain ⟨b59, g16⟩ : ∃ z, z = h0.size := ⟨_, rfl⟩
  rw [← g16] at A16 D16 st16
  have gg16 : n0 ≤ b59 := Nat.le_trans Z0 (Nat.le_of_eq g16.symm)
  have sz16 : h0.size ≤ b59 := Nat.le_trans K0.1 (Nat.le_of_eq g16.symm)
  have K16 : Keep h0 h16 [] := K0.ext E16
  have Z16 : n0 ≤ h16.size := Nat.le_trans Z0 E16.1
  have x17 := I0.ext E16
  have x18 := I1.ext E16
  have x19 := I2.ext E16
  have x20 := I3.ext E16
  have x21 := I4.ext E16
  have Fn16_value : Fld Z h16 b59 "java/lang/String" "value" "[B" .null := D16 (Or.inr (wq hw 22 rfl)) (ty := (.array .byte)) (by decide)
  have Fn16_coder : Fld Z h16 b59 "java/lang/String" "coder" "B" (.int 0) := D16 (Or.inr (wq hw 23 rfl)) (ty := .byte) (by decide)
  have pre22 := Go.thn pre15 st16
  have pre23 : Go p e below T16 _ (mkF m 64 #[.val (.int p0), .val (.int p1), .val (.int p2), .val (.int p3), .val (.int p4), .val (.int 1), .val (.int (f1 p1)), .val (.int (f1 p2)), .val (.int (f1 p3)), .val (.int (f1 p4)), .unset, .unset] [(.int 1), (.ref b59), (.ref b59)]) _ := fun t k => pre22 t (by
    refine XS.dup X16.here hx rfl (hb hby at_62) rfl rfl ?_
    refine XS.iconst X16.here hx rfl (hb hby at_63) ?_
    exact k)
  obtain ⟨T24, h24, k24, X24, e24, E24, A24, st24⟩ := newP X16 hx hZ (wq hw 9 rfl) e16 (g := (mkF m 64 #[.val (.int p0), .val (.int p1), .val (.int p2), .val (.int p3), .val (.int p4), .val (.int 1), .val (.int (f1 p1)), .val (.int (f1 p2)), .val (.int (f1 p3)), .val (.int (f1 p4)), .unset, .unset] [(.int 1), (.ref b59), (.ref b59)])) rfl (hb hby at_64) rfl (by decide) (cap := 1) (by decide) (by decide) (by decide) (by decide)
  obtain ⟨b64, g24⟩ : ∃ z, z = h16.size := ⟨_, rfl⟩
  rw [← g24] at A24 st24
  have gg24 : n0 ≤ b64 := Nat.le_trans Z16 (Nat.le_of_eq g24.symm)
  have sz24 : h0.size ≤ b64 := Nat.le_trans K16.1 (Nat.le_of_eq g24.symm)
  have K24 : Keep h0 h24 [] := K16.ext E24
  have Z24 : n0 ≤ h24.size := Nat.le_trans Z16 E24.1
  have V24 : Arv Z h24 b64 k24 .char (1 : Int32) [(.int 0)] (.int 0) := (Arv.new A24 (by decide)).pad (pad_rep [] (.int 0) 1)
  have ne24_b59 : b59 ≠ b64 := Nat.ne_of_lt (Nat.lt_of_lt_of_le A16.lt (Nat.le_of_eq g24.symm))
  have x25 := x17.ext E24
  have x26 := x18.ext E24
  have x27 := x19.ext E24
  have x28 := x20.ext E24
  have x29 := x21.ext E24
  have x30 := A16.ext E24
  have x31 := Fn16_value.ext E24
  have x32 := Fn16_coder.ext E24
  have pre33 := Go.thn pre23 st24
  have pre34 : Go p e below T24 _ (mkF m 70 #[.val (.int p0), .val (.int p1), .val (.int p2), .val (.int p3), .val (.int p4), .val (.int 1), .val (.int (f1 p1)), .val (.int (f1 p2)), .val (.int (f1 p3)), .val (.int (f1 p4)), .unset, .unset] [(.int (f1 p1)), (.int 0), (.ref b64), (.ref b64), (.ref b59), (.ref b59)]) _ := fun t k => pre33 t (by
    refine XS.dup X24.here hx rfl (hb hby at_66) rfl rfl ?_
    refine XS.iconst X24.here hx rfl (hb hby at_67) ?_
    refine XS.iload X24.here hx rfl (hb hby at_68) rfl ?_
    exact k)
  obtain ⟨cl35, Ar35, q35, Sz35, Mn35, Hs35, Gs35⟩ := id V24
  have hin35 : ¬ ((0 : Int32) < 0 ∨ cl35.slots.size ≤ ((0 : Int32)).toNatClampNeg) := inb_of Sz35 ⟨by decide, by decide⟩
  obtain ⟨T35, h35, X35, e35, W35, st35⟩ := stC X24 hx hZ e24 Ar35 (j := (0 : Int32)) hin35 (g := (mkF m 70 #[.val (.int p0), .val (.int p1), .val (.int p2), .val (.int p3), .val (.int p4), .val (.int 1), .val (.int (f1 p1)), .val (.int (f1 p2)), .val (.int (f1 p3)), .val (.int (f1 p4)), .unset, .unset] [(.int (f1 p1)), (.int 0), (.ref b64), (.ref b64), (.ref b59), (.ref b59)])) rfl rfl (hb hby at_70)
  have V35 : Arv Z h35 b64 k24 .char (1 : Int32) [(.int (nar .char (f1 p1)))] (.int 0) := Arv.set Ar35 q35 Sz35 Mn35 Hs35 Gs35 (fits_nar_char _) W35 0 rfl (Nat.le_of_ble_eq_true rfl)
  have N35 := Fr.snoc X35 N13 gg24
  have K35 : Keep h0 h35 [] := K24.wr W35 (Or.inr sz24)
  have Z35 : n0 ≤ h35.size := Nat.le_trans Z24 (Keep.of_wr W35).1
  have x36 := x25.wr W35
  have x37 := x26.wr W35
  have x38 := x27.wr W35
  have x39 := x28.wr W35
  have x40 := x29.wr W35
  have x41 := x30.wr W35
  have x42 := x31.other W35 (Or.inl ne24_b59)
  have x43 := x32.other W35 (Or.inl ne24_b59)
  have pre44 := Go.thn pre34 st35
  obtain ⟨_, _, ⟨T45, L45, k45, n45⟩, -, X45, ⟨Lc45, hQ45, l45, y45, z45⟩, st45⟩ := X35.specialBack hx (y := Nm_23) rfl hown (mvT hZ (wq hw 10 rfl)) (mvT hZ (wq hw 11 rfl)) (mvT hZ (wq hw 12 rfl)) (by decide) (backOf (W := 1) (rm2_1L l Z a0 hw [] b59 b64 wcs _ (nar .char (f1 p1)) h35 n0 Z35 x36 x38 x39 x40 x41 x42 x43 V35 gg16 (Ne.symm ne24_b59) hcs hl0) hZ (wq hw 12 rfl) (wq hw 8 rfl) (by decide) (by decide)) (g := (mkF m 71 #[.val (.int p0), .val (.int p1), .val (.int p2), .val (.int p3), .val (.int p4), .val (.int 1), .val (.int (f1 p1)), .val (.int (f1 p2)), .val (.int (f1 p3)), .val (.int (f1 p4)), .unset, .unset] [(.ref b64), (.ref b59), (.ref b59)])) rfl (by rw [hml]; rfl) (Steps.refl _) (a := b59) (argsL := [(.ref b64)]) (rest := [(.ref b59)]) (lenOf pd___C_V rfl) rfl (w00 rfl) (hb hby at_71) (fun _ _ => ⟨rfl, e35, (by decide : 2 + 1 ≤ _), (by decide : 5 + 1 ≤ _)⟩)
  dsimp only [Pt.U, Pt.locs, Pt.cells, Pt.slots] at X45 l45 y45 z45 st45 hQ45
  subst l45 y45 z45
  obtain ⟨b71_0, k_b6_0_45, rfl, Nq45, Kq45, gz45_b71_0, o45_0, o45_1, o45_2, o45_3⟩ := hQ45
  have N45 := Fr.app N35 Nq45
  have K45 : Keep h0 T45.heap [] := K35.trans Kq45 (allS (Or.inr sz16) all0)
  have Z45 : n0 ≤ T45.heap.size := Nat.le_trans Z35 Kq45.1
  have x46 := own_staK x36 Kq45 (allS (own_plE x41) all0)
  have x47 := own_staK x37 Kq45 (allS (own_plE x41) all0)
  have x48 := own_staK x38 Kq45 (allS (own_plE x41) all0)
  have x49 := own_staK x39 Kq45 (allS (own_plE x41) all0)
  have x50 := own_staK x40 Kq45 (allS (own_plE x41) all0)
  have x51 := x41.keep Kq45
  have x52 := V35.keep Kq45 (ninS (Ne.symm ne24_b59) nin0)
  have gg45_b71_0 : n0 ≤ b71_0 := Nat.le_trans Z35 gz45_b71_0
  have sz45_b71_0 : h0.size ≤ b71_0 := Nat.le_trans K35.1 gz45_b71_0
  have ne45_b59_b71_0 : b59 ≠ b71_0 := Nat.ne_of_lt (Nat.lt_of_lt_of_le x41.lt gz45_b71_0)
  have ne45_b64_b71_0 : b64 ≠ b71_0 := Nat.ne_of_lt (Nat.lt_of_lt_of_le V35.lt gz45_b71_0)
  have pre53 := Go.trn pre44 st45
  have pre54 : Go p e below T45 _ (mkF m 188 #[.val (.int p0), .val (.int p1), .val (.int p2), .val (.int p3), .val (.int p4), .val (.int 1), .val (.int (f1 p1)), .val (.int (f1 p2)), .val (.int (f1 p3)), .val (.int (f1 p4)), .val (.ref b59), .val (.int 0)] [(.int (f1 p1))]) _ := fun t k => pre53 t (by
    refine XS.astore X45.here hx rfl (hb hby at_74) rfl rfl (l' := #[.val (.int p0), .val (.int p1), .val (.int p2), .val (.int p3), .val (.int p4), .val (.int 1), .val (.int (f1 p1)), .val (.int (f1 p2)), .val (.int (f1 p3)), .val (.int (f1 p4)), .val (.ref b59), .unset]) rfl ?_
    refine XS.goto X45.here hx rfl (pc0 := 76) (pc' := 178) rfl (hb hby at_76) (by decide) (by decide) ?_
    refine XS.iconst X45.here hx rfl (hb hby at_178) ?_
    refine XS.istore X45.here hx rfl (hb hby at_179) rfl (l' := #[.val (.int p0), .val (.int p1), .val (.int p2), .val (.int p3), .val (.int p4), .val (.int 1), .val (.int (f1 p1)), .val (.int (f1 p2)), .val (.int (f1 p3)), .val (.int (f1 p4)), .val (.ref b59), .val (.int 0)]) rfl ?_
    refine XS.iload X45.here hx rfl (hb hby at_181) rfl ?_
    refine XS.ifNo X45.here hx rfl (hb hby at_183) rfl (by decide) ?_
    refine XS.iload X45.here hx rfl (hb hby at_186) rfl ?_
    exact k)
  obtain ⟨_, _, ⟨T55, L55, k55, n55⟩, -, X55, ⟨Lc55, hQ55, l55, y55, z55⟩, st55⟩ := Jvm.LawKit.callS X45 hx (y := Nm_1) hown (mvT hZ (wq hw 53 rfl)) (mvT hZ (wq hw 54 rfl)) (mvT hZ (wq hw 3 rfl)) (mvT hZ (wq hw 55 rfl)) (by decide) (backOf (W := 0) (rm11 l Z a0 hw [] (f1 p1) T45.heap n0 Z45) hZ (wq hw 55 rfl) (wq hw 3 rfl) (by decide) (by decide)) (g := (mkF m 188 #[.val (.int p0), .val (.int p1), .val (.int p2), .val (.int p3), .val (.int p4), .val (.int 1), .val (.int (f1 p1)), .val (.int (f1 p2)), .val (.int (f1 p3)), .val (.int (f1 p4)), .val (.ref b59), .val (.int 0)] [(.int (f1 p1))])) rfl (by rw [hml]; rfl) (argsL := [(.int (f1 p1))]) (rest := []) (lenOf pd__C_Z rfl) rfl (w00 rfl) (hb hby at_188) (fun _ _ => ⟨rfl, rfl, (by decide : 3 + 0 ≤ _), (by decide : 6 + 0 ≤ _)⟩)
  dsimp only [Pt.U, Pt.locs, Pt.cells, Pt.slots] at X55 l55 y55 z55 st55 hQ55
  subst l55 y55 z55
  obtain ⟨rfl, Nq55, e55⟩ := hQ55
  have N55 := Fr.app N45 Nq55
  have pre56 := Go.thn pre54 st55
  obtain ⟨T57, L57, X57, e57, N57, pre57⟩ : ∃ (T' : State) (L' : List Loc), Stand p l e room_1 s m #[(.int p0), (.int p1), (.int p2), (.int p3), (.int p4)] below meth c T' L' 3 6 ∧ T'.heap = T45.heap ∧ Fr n0 L' ∧ ∀ t, Steps p.tables e below (T'.setTop (mkF m 248 #[.val (.int p0), .val (.int p1), .val (.int p2), .val (.int p3), .val (.int p4), .val (.int 1), .val (.int (f1 p1)), .val (.int (f1 p2)), .val (.int (f1 p3)), .val (.int (f1 p4)), .val (.ref b59), .val (.int (v0_1L_248_l11 p1))] [])) t → Steps p.tables e below (s₁.setTop (entryFrame m #[(.int p0), (.int p1), (.int p2), (.int p3), (.int p4)] maxLocals)) t := by
    by_cases hc191_1 : (f11 (f1 p1)) = (0 : Int32)
    · have pre58 : Go p e below T55 _ (mkF m 248 #[.val (.int p0), .val (.int p1), .val (.int p2), .val (.int p3), .val (.int p4), .val (.int 1), .val (.int (f1 p1)), .val (.int (f1 p2)), .val (.int (f1 p3)), .val (.int (f1 p4)), .val (.ref b59), .val (.int 0)] []) _ := fun t k => pre56 t (by
        refine XS.ifYes X55.here hx rfl (pc0 := 191) (pc' := 248) rfl (hb hby at_191) rfl ((if0 _ _).trans (teq hc191_1).1) (by decide) (by decide) ?_
        exact k)
      exact ⟨T55, _, X55, e55, N55, fun t k => pre58 t (by simpa only [v0_1L_248_l11, if_pos hc191_1] using k)⟩
    · have pre59 : Go p e below T55 _ (mkF m 248 #[.val (.int p0), .val (.int p1), .val (.int p2), .val (.int p3), .val (.int p4), .val (.int 1), .val (.int (f1 p1)), .val (.int (f1 p2)), .val (.int (f1 p3)), .val (.int (f1 p4)), .val (.ref b59), .val (.int 1)] []) _ := fun t k => pre56 t (by
        refine XS.ifNo X55.here hx rfl (hb hby at_191) rfl ((if0 _ _).trans (feq hc191_1).1) ?_
        refine XS.iconst X55.here hx rfl (hb hby at_194) ?_
        refine XS.istore X55.here hx rfl (hb hby at_195) rfl (l' := #[.val (.int p0), .val (.int p1), .val (.int p2), .val (.int p3), .val (.int p4), .val (.int 1), .val (.int (f1 p1)), .val (.int (f1 p2)), .val (.int (f1 p3)), .val (.int (f1 p4)), .val (.ref b59), .val (.int 1)]) rfl ?_
        refine XS.iload X55.here hx rfl (hb hby at_197) rfl ?_
        refine XS.iconst X55.here hx rfl (hb hby at_199) ?_
        refine XS.icmpYes X55.here hx rfl (pc0 := 200) (pc' := 248) rfl (hb hby at_200) rfl (by decide) (by decide) (by decide) ?_
        exact k)
      exact ⟨T55, _, X55, e55, N55, fun t k => pre59 t (by simpa only [v0_1L_248_l11, if_neg hc191_1] using k)⟩
  have pre60 : Go p e below T57 _ (mkF m 250 #[.val (.int p0), .val (.int p1), .val (.int p2), .val (.int p3), .val (.int p4), .val (.int 1), .val (.int (f1 p1)), .val (.int (f1 p2)), .val (.int (f1 p3)), .val (.int (f1 p4)), .val (.ref b59), .val (.int (v0_1L_248_l11 p1))] [(.ref b59)]) _ := fun t k => pre57 t (by
    refine XS.aload X57.here hx rfl (hb hby at_248) rfl rfl ?_
    exact k)
  obtain ⟨_, _, ⟨T61, L61, k61, n61⟩, -, X61, ⟨Lc61, hQ61, l61, y61, z61⟩, st61⟩ := Jvm.LawKit.callS X57 hx (y := Nm_14) hown (mvT hZ (wq hw 28 rfl)) (mvT hZ (wq hw 29 rfl)) (mvT hZ (wq hw 30 rfl)) (mvT hZ (wq hw 31 rfl)) (by decide) (backOf (W := 0) (rm5_L l Z a0 hw [] b59 wcs wsf b71_0 _ (1 : Int32) [(g9_1_o2_0 (nar .char (f1 p1)))] T45.heap n0 Z45 x46 x47 o45_0 o45_1 o45_2 o45_3 hcs hsf (Or.inr (Or.inl rfl)) (by decide)) hZ (wq hw 31 rfl) (wq hw 30 rfl) (by decide) (by decide)) (g := (mkF m 250 #[.val (.int p0), .val (.int p1), .val (.int p2), .val (.int p3), .val (.int p4), .val (.int 1), .val (.int (f1 p1)), .val (.int (f1 p2)), .val (.int (f1 p3)), .val (.int (f1 p4)), .val (.ref b59), .val (.int (v0_1L_248_l11 p1))] [(.ref b59)])) rfl (by rw [hml]; rfl) (argsL := [(.ref b59)]) (rest := []) (lenOf pd__Ljava_lang_String__I rfl) rfl (w00 rfl) (hb hby at_250) (fun _ _ => ⟨rfl, e57, (by decide : 3 + 0 ≤ _), (by decide : 6 + 0 ≤ _)⟩)
  dsimp only [Pt.U, Pt.locs, Pt.cells, Pt.slots] at X61 l61 y61 z61 st61 hQ61
  subst l61 y61 z61
  obtain ⟨rfl, Nq61, e61⟩ := hQ61
  have N61 := Fr.app N57 Nq61
  have pre62 := Go.thn pre60 st61
  have pre63 : Go p e below T61 _ (mkF m 255 #[.val (.int p0), .val (.int p1), .val (.int p2), .val (.int p3), .val (.int p4), .val (.int 1), .val (.int (f1 p1)), .val (.int (f1 p2)), .val (.int (f1 p3)), .val (.int (f1 p4)), .val (.ref b59), .val (.int (v0_1L_248_l11 p1))] [(.int (v0_1L_248_l11 p1)), (.int (f5_L (1 : Int32) [(g9_1_o2_0 (nar .char (f1 p1)))]))]) _ := fun t k => pre62 t (by
    refine XS.iload X61.here hx rfl (hb hby at_253) rfl ?_
    exact k)
  by_cases hc255_2 : (f5_L (1 : Int32) [(g9_1_o2_0 (nar .char (f1 p1)))]) = (v0_1L_248_l11 p1)
  · have pre64 : Go p e below T61 _ (mkF m 263 #[.val (.int p0), .val (.int p1), .val (.int p2), .val (.int p3), .val (.int p4), .val (.int 1), .val (.int (f1 p1)), .val (.int (f1 p2)), .val (.int (f1 p3)), .val (.int (f1 p4)), .val (.ref b59), .val (.int (v0_1L_248_l11 p1))] [(.int 1)]) _ := fun t k => pre63 t (by
      refine XS.icmpNo X61.here hx rfl (hb hby at_255) rfl (teq hc255_2).2 ?_
      refine XS.iconst X61.here hx rfl (hb hby at_258) ?_
      refine XS.goto X61.here hx rfl (pc0 := 259) (pc' := 263) rfl (hb hby at_259) (by decide) (by decide) ?_
      exact k)
    obtain ⟨fs, hr, hrun, hended, hW, hsame⟩ := X61.leave (v := some (.int 1)) (fun h => by rw [Bd.returns] at h; cases h)
    refine ⟨_, _, ?_, hrun, hended, _, _, rfl, ?_, ⟨_, rfl⟩, hW, hsame.mono (by decide) (by decide)⟩
    · exact pre64 _ (retN X61 hx (t := .boolean) Bd.returns (by simp) (hb hby at_263) hr)
    · exact ⟨by simp only [f0_1L, if_pos hc255_2], N61, trivial⟩
  · have pre65 : Go p e below T61 _ (mkF m 263 #[.val (.int p0), .val (.int p1), .val (.int p2), .val (.int p3), .val (.int p4), .val (.int 1), .val (.int (f1 p1)), .val (.int (f1 p2)), .val (.int (f1 p3)), .val (.int (f1 p4)), .val (.ref b59), .val (.int (v0_1L_248_l11 p1))] [(.int 0)]) _ := fun t k => pre63 t (by
      refine XS.icmpYes X61.here hx rfl (pc0 := 255) (pc' := 262) rfl (hb hby at_255) rfl (feq hc255_2).2 (by decide) (by decide) ?_
      refine XS.iconst X61.here hx rfl (hb hby at_262) ?_
      exact k)
    obtain ⟨fs, hr, hrun, hended, hW, hsame⟩ := X61.leave (v := some (.int 0)) (fun h => by rw [Bd.returns] at h; cases h)
    refine ⟨_, _, ?_, hrun, hended, _, _, rfl, ?_, ⟨_, rfl⟩, hW, hsame.mono (by decide) (by decide)⟩
    · exact pre65 _ (retN X61 hx (t := .boolean) Bd.returns (by simp) (hb hby at_263) hr)
    · exact ⟨by simp only [f0_1L, if_neg hc255_2], N61, trivial⟩
def v0_1U_248_l11 (p1 : Int32) : Int32 := (if (f11 (f1 p1)) = (0 : Int32) then (0 : Int32) else (1 : Int32))
def f0_1U (p1 : Int32) : Int32 := (if (f5_U (2 : Int32) [(own_b0 (nar .char (f1 p1))), (own_b8 (nar .char (f1 p1)))]) = (v0_1U_248_l11 p1) then (1 : Int32) else (0 : Int32))
set_option maxRecDepth 65536 in
set_option maxHeartbeats 40000000 in
theorem rm0_1U (l : Launch) (Z : State) (a0 : Array Value) (hw : ∀ d ∈ tables_1, d.before a0 Z = true) (ws : List Jvm.Cond) (p0 : Int32) (p1 : Int32) (p2 : Int32) (p3 : Int32) (p4 : Int32) (wcs : Int32) (wsf : Value) (h0 : Heap) (n0 : Nat) (Z0 : n0 ≤ h0.size) (I0 : Sta Z h0 "java/lang/String" "COMPACT_STRINGS" "Z" (.int wcs)) (I1 : Sta Z h0 "jdk/internal/util/Preconditions" "SIOOBE_FORMATTER" "Ljava/util/function/BiFunction;" wsf) (I2 : Sta Z h0 "java/lang/StringUTF16" "$assertionsDisabled" "Z" (.int 1)) (I3 : Sta Z h0 "java/lang/StringUTF16" "HI_BYTE_SHIFT" "I" (.int 0)) (I4 : Sta Z h0 "java/lang/StringUTF16" "LO_BYTE_SHIFT" "I" (.int 8)) (hn : ((p0 &&& (2147483647 : Int32)) - (p0 &&& (2147483647 : Int32)) / (5 : Int32) * (5 : Int32)) = (1 : Int32)) (hcs : ¬ (wcs = (0 : Int32))) (hsf : wsf.isRef = true) (hU : (255 : Int32) < (nar .char (f1 p1))) :
    Met1 l x (Jvm.Cond.code x code maxLocals ret) ws room_1 #[(.int p0), (.int p1), (.int p2), (.int p3), (.int p4)] Z h0 (QL (some (.int (f0_1U p1))) n0) := by
  refine MetFree.of_bodySF (plainFor_of_name pn_0) hisR ?_
  intro p e s m args below meth c s₁ Bd hml0 hP hK
  obtain ⟨rfl, hZ, hh⟩ := hP
  have hx := Bd.exec
  have hby := Bd.bytes
  have hml : c.maxLocals = 12 := hml0
  have hown : s.vm.findClass "com/example/stint/stint/WholeNumberLeadingDigitsPinLaw" = some m.cls := findClass_of_methodNamed Bd.named
  have X0 : Stand p l e room_1 s m _ _ _ _ _ [] 0 0 := Stand.of_body Bd
  have e0 : s₁.heap = h0 := by rw [← hh, Bd.state]; rfl
  have N0 := Fr.nil n0
  have K0 : Keep h0 h0 [] := Keep.refl _ _
  have pre0 : Go p e below s₁ _ (mkF m 0 #[.val (.int p0), .val (.int p1), .val (.int p2), .val (.int p3), .val (.int p4), .unset, .unset, .unset, .unset, .unset, .unset, .unset] []) _ := fun t k => castTop (ef_0 m p0 p1 p2 p3 p4) k
  have pre3 : Go p e below s₁ _ (mkF m 9 #[.val (.int p0), .val (.int p1), .val (.int p2), .val (.int p3), .val (.int p4), .val (.int 1), .unset, .unset, .unset, .unset, .unset, .unset] [(.int p1)]) _ := fun t k => pre0 t (by
    refine XS.iloadN X0.here hx rfl (hb hby at_0) rfl ?_
    refine X0.ldcInt hx hown (mvT hZ (wq hw 0 rfl)) (g := (mkF m 1 #[.val (.int p0), .val (.int p1), .val (.int p2), .val (.int p3), .val (.int p4), .unset, .unset, .unset, .unset, .unset, .unset, .unset] [(.int p0)])) rfl (hb hby at_1) _ ?_
    refine XS.iand X0.here hx rfl (hb hby at_3) rfl ?_
    refine XS.iconst X0.here hx rfl (hb hby at_4) ?_
    refine XS.irem X0.here hx rfl (hb hby at_5) rfl (by decide) ?_
    show Steps p.tables e below (s₁.setTop (mkF m 6 #[.val (.int p0), .val (.int p1), .val (.int p2), .val (.int p3), .val (.int p4), .unset, .unset, .unset, .unset, .unset, .unset, .unset] [(.int ((p0 &&& (2147483647 : Int32)) - (p0 &&& (2147483647 : Int32)) / (5 : Int32) * (5 : Int32)))])) _
    rw [hn]
    refine XS.istore X0.here hx rfl (hb hby at_6) rfl (l' := #[.val (.int p0), .val (.int p1), .val (.int p2), .val (.int p3), .val (.int p4), .val (.int 1), .unset, .unset, .unset, .unset, .unset, .unset]) rfl ?_
    refine XS.iloadN X0.here hx rfl (hb hby at_8) rfl ?_
    exact k)
  obtain ⟨_, _, ⟨T4, L4, k4, n4⟩, -, X4, ⟨Lc4, hQ4, l4, y4, z4⟩, st4⟩ := Jvm.LawKit.callS X0 hx (y := Nm_0) hown (mvT hZ (wq hw 1 rfl)) (mvT hZ (wq hw 2 rfl)) (mvT hZ (wq hw 3 rfl)) (mvT hZ (wq hw 4 rfl)) (by decide) (backOf (W := 0) (rm1 l Z a0 hw [] p1 h0 n0 Z0) hZ (wq hw 4 rfl) (wq hw 3 rfl) (by decide) (by decide)) (g := (mkF m 9 #[.val (.int p0), .val (.int p1), .val (.int p2), .val (.int p3), .val (.int p4), .val (.int 1), .unset, .unset, .unset, .unset, .unset, .unset] [(.int p1)])) rfl (by rw [hml]; rfl) (argsL := [(.int p1)]) (rest := []) (lenOf pd__I_C rfl) rfl (w00 rfl) (hb hby at_9) (fun _ _ => ⟨rfl, e0, (by decide : 0 + 0 ≤ _), (by decide : 0 + 0 ≤ _)⟩)
  dsimp only [Pt.U, Pt.locs, Pt.cells, Pt.slots] at X4 l4 y4 z4 st4 hQ4
  subst l4 y4 z4
  obtain ⟨rfl, Nq4, e4⟩ := hQ4
  have N4 := Fr.app N0 Nq4
  have pre5 := Go.thn pre3 st4
  have pre6 : Go p e below T4 _ (mkF m 15 #[.val (.int p0), .val (.int p1), .val (.int p2), .val (.int p3), .val (.int p4), .val (.int 1), .val (.int (f1 p1)), .unset, .unset, .unset, .unset, .unset] [(.int p2)]) _ := fun t k => pre5 t (by
    refine XS.istore X4.here hx rfl (hb hby at_12) rfl (l' := #[.val (.int p0), .val (.int p1), .val (.int p2), .val (.int p3), .val (.int p4), .val (.int 1), .val (.int (f1 p1)), .unset, .unset, .unset, .unset, .unset]) rfl ?_
    refine XS.iloadN X4.here hx rfl (hb hby at_14) rfl ?_
    exact k)
  obtain ⟨_, _, ⟨T7, L7, k7, n7⟩, -, X7, ⟨Lc7, hQ7, l7, y7, z7⟩, st7⟩ := Jvm.LawKit.callS X4 hx (y := Nm_0) hown (mvT hZ (wq hw 1 rfl)) (mvT hZ (wq hw 2 rfl)) (mvT hZ (wq hw 3 rfl)) (mvT hZ (wq hw 4 rfl)) (by decide) (backOf (W := 0) (rm1 l Z a0 hw [] p2 h0 n0 Z0) hZ (wq hw 4 rfl) (wq hw 3 rfl) (by decide) (by decide)) (g := (mkF m 15 #[.val (.int p0), .val (.int p1), .val (.int p2), .val (.int p3), .val (.int p4), .val (.int 1), .val (.int (f1 p1)), .unset, .unset, .unset, .unset, .unset] [(.int p2)])) rfl (by rw [hml]; rfl) (argsL := [(.int p2)]) (rest := []) (lenOf pd__I_C rfl) rfl (w00 rfl) (hb hby at_15) (fun _ _ => ⟨rfl, e4, (by decide : 0 + 0 ≤ _), (by decide : 0 + 0 ≤ _)⟩)
  dsimp only [Pt.U, Pt.locs, Pt.cells, Pt.slots] at X7 l7 y7 z7 st7 hQ7
  subst l7 y7 z7
  obtain ⟨rfl, Nq7, e7⟩ := hQ7
  have N7 := Fr.app N4 Nq7
  have pre8 := Go.thn pre6 st7
  have pre9 : Go p e below T7 _ (mkF m 21 #[.val (.int p0), .val (.int p1), .val (.int p2), .val (.int p3), .val (.int p4), .val (.int 1), .val (.int (f1 p1)), .val (.int (f1 p2)), .unset, .unset, .unset, .unset] [(.int p3)]) _ := fun t k => pre8 t (by
    refine XS.istore X7.here hx rfl (hb hby at_18) rfl (l' := #[.val (.int p0), .val (.int p1), .val (.int p2), .val (.int p3), .val (.int p4), .val (.int 1), .val (.int (f1 p1)), .val (.int (f1 p2)), .unset, .unset, .unset, .unset]) rfl ?_
    refine XS.iloadN X7.here hx rfl (hb hby at_20) rfl ?_
    exact k)
  obtain ⟨_, _, ⟨T10, L10, k10, n10⟩, -, X10, ⟨Lc10, hQ10, l10, y10, z10⟩, st10⟩ := Jvm.LawKit.callS X7 hx (y := Nm_0) hown (mvT hZ (wq hw 1 rfl)) (mvT hZ (wq hw 2 rfl)) (mvT hZ (wq hw 3 rfl)) (mvT hZ (wq hw 4 rfl)) (by decide) (backOf (W := 0) (rm1 l Z a0 hw [] p3 h0 n0 Z0) hZ (wq hw 4 rfl) (wq hw 3 rfl) (by decide) (by decide)) (g := (mkF m 21 #[.val (.int p0), .val (.int p1), .val (.int p2), .val (.int p3), .val (.int p4), .val (.int 1), .val (.int (f1 p1)), .val (.int (f1 p2)), .unset, .unset, .unset, .unset] [(.int p3)])) rfl (by rw [hml]; rfl) (argsL := [(.int p3)]) (rest := []) (lenOf pd__I_C rfl) rfl (w00 rfl) (hb hby at_21) (fun _ _ => ⟨rfl, e7, (by decide : 0 + 0 ≤ _), (by decide : 0 + 0 ≤ _)⟩)
  dsimp only [Pt.U, Pt.locs, Pt.cells, Pt.slots] at X10 l10 y10 z10 st10 hQ10
  subst l10 y10 z10
  obtain ⟨rfl, Nq10, e10⟩ := hQ10
  have N10 := Fr.app N7 Nq10
  have pre11 := Go.thn pre9 st10
  have pre12 : Go p e below T10 _ (mkF m 28 #[.val (.int p0), .val (.int p1), .val (.int p2), .val (.int p3), .val (.int p4), .val (.int 1), .val (.int (f1 p1)), .val (.int (f1 p2)), .val (.int (f1 p3)), .unset, .unset, .unset] [(.int p4)]) _ := fun t k => pre11 t (by
    refine XS.istore X10.here hx rfl (hb hby at_24) rfl (l' := #[.val (.int p0), .val (.int p1), .val (.int p2), .val (.int p3), .val (.int p4), .val (.int 1), .val (.int (f1 p1)), .val (.int (f1 p2)), .val (.int (f1 p3)), .unset, .unset, .unset]) rfl ?_
    refine XS.iload X10.here hx rfl (hb hby at_26) rfl ?_
    exact k)
  obtain ⟨_, _, ⟨T13, L13, k13, n13⟩, -, X13, ⟨Lc13, hQ13, l13, y13, z13⟩, st13⟩ := Jvm.LawKit.callS X10 hx (y := Nm_0) hown (mvT hZ (wq hw 1 rfl)) (mvT hZ (wq hw 2 rfl)) (mvT hZ (wq hw 3 rfl)) (mvT hZ (wq hw 4 rfl)) (by decide) (backOf (W := 0) (rm1 l Z a0 hw [] p4 h0 n0 Z0) hZ (wq hw 4 rfl) (wq hw 3 rfl) (by decide) (by decide)) (g := (mkF m 28 #[.val (.int p0), .val (.int p1), .val (.int p2), .val (.int p3), .val (.int p4), .val (.int 1), .val (.int (f1 p1)), .val (.int (f1 p2)), .val (.int (f1 p3)), .unset, .unset, .unset] [(.int p4)])) rfl (by rw [hml]; rfl) (argsL := [(.int p4)]) (rest := []) (lenOf pd__I_C rfl) rfl (w00 rfl) (hb hby at_28) (fun _ _ => ⟨rfl, e10, (by decide : 0 + 0 ≤ _), (by decide : 0 + 0 ≤ _)⟩)
  dsimp only [Pt.U, Pt.locs, Pt.cells, Pt.slots] at X13 l13 y13 z13 st13 hQ13
  subst l13 y13 z13
  obtain ⟨rfl, Nq13, e13⟩ := hQ13
  have N13 := Fr.app N10 Nq13
  have pre14 := Go.thn pre12 st13
  have pre15 : Go p e below T13 _ (mkF m 59 #[.val (.int p0), .val (.int p1), .val (.int p2), .val (.int p3), .val (.int p4), .val (.int 1), .val (.int (f1 p1)), .val (.int (f1 p2)), .val (.int (f1 p3)), .val (.int (f1 p4)), .unset, .unset] []) _ := fun t k => pre14 t (by
    refine XS.istore X13.here hx rfl (hb hby at_31) rfl (l' := #[.val (.int p0), .val (.int p1), .val (.int p2), .val (.int p3), .val (.int p4), .val (.int 1), .val (.int (f1 p1)), .val (.int (f1 p2)), .val (.int (f1 p3)), .val (.int (f1 p4)), .unset, .unset]) rfl ?_
    refine XS.iload X13.here hx rfl (hb hby at_33) rfl ?_
    refine XS.ifYes X13.here hx rfl (pc0 := 35) (pc' := 53) rfl (hb hby at_35) rfl (by decide) (by decide) (by decide) ?_
    refine XS.iload X13.here hx rfl (hb hby at_53) rfl ?_
    refine XS.iconst X13.here hx rfl (hb hby at_55) ?_
    refine XS.icmpNo X13.here hx rfl (hb hby at_56) rfl (by decide) ?_
    exact k)
  obtain ⟨T16, h16, X16, e16, E16, A16, D16, -, st16⟩ := newO X13 hx hZ hown (wq hw 6 rfl) (wq hw 7 rfl) (wq hw 8 rfl) e13 (g := (mkF m 59 #[.val (.int p0), .val (.int p1), .val (.int p2), .val (.int p3), .val (.int p4), .val (.int 1), .val (.int (f1 p1)), .val (.int (f1 p2)), .val (.int (f1 p3)), .val (.int (f1 p4)), .unset, .unset] [])) rfl (hb hby at_59) (by decide) (by decide)
  obtain ⟨b59, g16⟩ : ∃ z, z = h0.size := ⟨_, rfl⟩
  rw [← g16] at A16 D16 st16
  have gg16 : n0 ≤ b59 := Nat.le_trans Z0 (Nat.le_of_eq g16.symm)
  have sz16 : h0.size ≤ b59 := Nat.le_trans K0.1 (Nat.le_of_eq g16.symm)
  have K16 : Keep h0 h16 [] := K0.ext E16
  have Z16 : n0 ≤ h16.size := Nat.le_trans Z0 E16.1
  have x17 := I0.ext E16
  have x18 := I1.ext E16
  have x19 := I2.ext E16
  have x20 := I3.ext E16
  have x21 := I4.ext E16
  have Fn16_value : Fld Z h16 b59 "java/lang/String" "value" "[B" .null := D16 (Or.inr (wq hw 22 rfl)) (ty := (.array .byte)) (by decide)
  have Fn16_coder : Fld Z h16 b59 "java/lang/String" "coder" "B" (.int 0) := D16 (Or.inr (wq hw 23 rfl)) (ty := .byte) (by decide)
  have pre22 := Go.thn pre15 st16
  have pre23 : Go p e below T16 _ (mkF m 64 #[.val (.int p0), .val (.int p1), .val (.int p2), .val (.int p3), .val (.int p4), .val (.int 1), .val (.int (f1 p1)), .val (.int (f1 p2)), .val (.int (f1 p3)), .val (.int (f1 p4)), .unset, .unset] [(.int 1), (.ref b59), (.ref b59)]) _ := fun t k => pre22 t (by
    refine XS.dup X16.here hx rfl (hb hby at_62) rfl rfl ?_
    refine XS.iconst X16.here hx rfl (hb hby at_63) ?_
    exact k)
  obtain ⟨T24, h24, k24, X24, e24, E24, A24, st24⟩ := newP X16 hx hZ (wq hw 9 rfl) e16 (g := (mkF m 64 #[.val (.int p0), .val (.int p1), .val (.int p2), .val (.int p3), .val (.int p4), .val (.int 1), .val (.int (f1 p1)), .val (.int (f1 p2)), .val (.int (f1 p3)), .val (.int (f1 p4)), .unset, .unset] [(.int 1), (.ref b59), (.ref b59)])) rfl (hb hby at_64) rfl (by decide) (cap := 1) (by decide) (by decide) (by decide) (by decide)
  obtain ⟨b64, g24⟩ : ∃ z, z = h16.size := ⟨_, rfl⟩
  rw [← g24] at A24 st24
  have gg24 : n0 ≤ b64 := Nat.le_trans Z16 (Nat.le_of_eq g24.symm)
  have sz24 : h0.size ≤ b64 := Nat.le_trans K16.1 (Nat.le_of_eq g24.symm)
  have K24 : Keep h0 h24 [] := K16.ext E24
  have Z24 : n0 ≤ h24.size := Nat.le_trans Z16 E24.1
  have V24 : Arv Z h24 b64 k24 .char (1 : Int32) [(.int 0)] (.int 0) := (Arv.new A24 (by decide)).pad (pad_rep [] (.int 0) 1)
  have ne24_b59 : b59 ≠ b64 := Nat.ne_of_lt (Nat.lt_of_lt_of_le A16.lt (Nat.le_of_eq g24.symm))
  have x25 := x17.ext E24
  have x26 := x18.ext E24
  have x27 := x19.ext E24
  have x28 := x20.ext E24
  have x29 := x21.ext E24
  have x30 := A16.ext E24
  have x31 := Fn16_value.ext E24
  have x32 := Fn16_coder.ext E24
  have pre33 := Go.thn pre23 st24
  have pre34 : Go p e below T24 _ (mkF m 70 #[.val (.int p0), .val (.int p1), .val (.int p2), .val (.int p3), .val (.int p4), .val (.int 1), .val (.int (f1 p1)), .val (.int (f1 p2)), .val (.int (f1 p3)), .val (.int (f1 p4)), .unset, .unset] [(.int (f1 p1)), (.int 0), (.ref b64), (.ref b64), (.ref b59), (.ref b59)]) _ := fun t k => pre33 t (by
    refine XS.dup X24.here hx rfl (hb hby at_66) rfl rfl ?_
    refine XS.iconst X24.here hx rfl (hb hby at_67) ?_
    refine XS.iload X24.here hx rfl (hb hby at_68) rfl ?_
    exact k)
  obtain ⟨cl35, Ar35, q35, Sz35, Mn35, Hs35, Gs35⟩ := id V24
  have hin35 : ¬ ((0 : Int32) < 0 ∨ cl35.slots.size ≤ ((0 : Int32)).toNatClampNeg) := inb_of Sz35 ⟨by decide, by decide⟩
  obtain ⟨T35, h35, X35, e35, W35, st35⟩ := stC X24 hx hZ e24 Ar35 (j := (0 : Int32)) hin35 (g := (mkF m 70 #[.val (.int p0), .val (.int p1), .val (.int p2), .val (.int p3), .val (.int p4), .val (.int 1), .val (.int (f1 p1)), .val (.int (f1 p2)), .val (.int (f1 p3)), .val (.int (f1 p4)), .unset, .unset] [(.int (f1 p1)), (.int 0), (.ref b64), (.ref b64), (.ref b59), (.ref b59)])) rfl rfl (hb hby at_70)
  have V35 : Arv Z h35 b64 k24 .char (1 : Int32) [(.int (nar .char (f1 p1)))] (.int 0) := Arv.set Ar35 q35 Sz35 Mn35 Hs35 Gs35 (fits_nar_char _) W35 0 rfl (Nat.le_of_ble_eq_true rfl)
  have N35 := Fr.snoc X35 N13 gg24
  have K35 : Keep h0 h35 [] := K24.wr W35 (Or.inr sz24)
  have Z35 : n0 ≤ h35.size := Nat.le_trans Z24 (Keep.of_wr W35).1
  have x36 := x25.wr W35
  have x37 := x26.wr W35
  have x38 := x27.wr W35
  have x39 := x28.wr W35
  have x40 := x29.wr W35
  have x41 := x30.wr W35
  have x42 := x31.other W35 (Or.inl ne24_b59)
  have x43 := x32.other W35 (Or.inl ne24_b59)
  have pre44 := Go.thn pre34 st35
  obtain ⟨_, _, ⟨T45, L45, k45, n45⟩, -, X45, ⟨Lc45, hQ45, l45, y45, z45⟩, st45⟩ := X35.specialBack hx (y := Nm_23) rfl hown (mvT hZ (wq hw 10 rfl)) (mvT hZ (wq hw 11 rfl)) (mvT hZ (wq hw 12 rfl)) (by decide) (backOf (W := 1) (rm2_1U l Z a0 hw [] b59 b64 wcs _ (nar .char (f1 p1)) h35 n0 Z35 x36 x38 x39 x40 x41 x42 x43 V35 gg16 (Ne.symm ne24_b59) hcs (own_nr _) hU) hZ (wq hw 12 rfl) (wq hw 8 rfl) (by decide) (by decide)) (g := (mkF m 71 #[.val (.int p0), .val (.int p1), .val (.int p2), .val (.int p3), .val (.int p4), .val (.int 1), .val (.int (f1 p1)), .val (.int (f1 p2)), .val (.int (f1 p3)), .val (.int (f1 p4)), .unset, .unset] [(.ref b64), (.ref b59), (.ref b59)])) rfl (by rw [hml]; rfl) (Steps.refl _) (a := b59) (argsL := [(.ref b64)]) (rest := [(.ref b59)]) (lenOf pd___C_V rfl) rfl (w00 rfl) (hb hby at_71) (fun _ _ => ⟨rfl, e35, (by decide : 2 + 2 ≤ _), (by decide : 5 + 3 ≤ _)⟩)
  dsimp only [Pt.U, Pt.locs, Pt.cells, Pt.slots] at X45 l45 y45 z45 st45 hQ45
  subst l45 y45 z45
  obtain ⟨b71_0, k_b6_0_45, rfl, Nq45, Kq45, gz45_b71_0, o45_0, o45_1, o45_2, o45_3⟩ := hQ45
  have N45 := Fr.app N35 Nq45
  have K45 : Keep h0 T45.heap [] := K35.trans Kq45 (allS (Or.inr sz16) all0)
  have Z45 : n0 ≤ T45.heap.size := Nat.le_trans Z35 Kq45.1
  have x46 := own_staK x36 Kq45 (allS (own_plE x41) all0)
  have x47 := own_staK x37 Kq45 (allS (own_plE x41) all0)
  have x48 := own_staK x38 Kq45 (allS (own_plE x41) all0)
  have x49 := own_staK x39 Kq45 (allS (own_plE x41) all0)
  have x50 := own_staK x40 Kq45 (allS (own_plE x41) all0)
  have x51 := x41.keep Kq45
  have x52 := V35.keep Kq45 (ninS (Ne.symm ne24_b59) nin0)
  have gg45_b71_0 : n0 ≤ b71_0 := Nat.le_trans Z35 gz45_b71_0
  have sz45_b71_0 : h0.size ≤ b71_0 := Nat.le_trans K35.1 gz45_b71_0
  have ne45_b59_b71_0 : b59 ≠ b71_0 := Nat.ne_of_lt (Nat.lt_of_lt_of_le x41.lt gz45_b71_0)
  have ne45_b64_b71_0 : b64 ≠ b71_0 := Nat.ne_of_lt (Nat.lt_of_lt_of_le V35.lt gz45_b71_0)
  have pre53 := Go.trn pre44 st45
  have pre54 : Go p e below T45 _ (mkF m 188 #[.val (.int p0), .val (.int p1), .val (.int p2), .val (.int p3), .val (.int p4), .val (.int 1), .val (.int (f1 p1)), .val (.int (f1 p2)), .val (.int (f1 p3)), .val (.int (f1 p4)), .val (.ref b59), .val (.int 0)] [(.int (f1 p1))]) _ := fun t k => pre53 t (by
    refine XS.astore X45.here hx rfl (hb hby at_74) rfl rfl (l' := #[.val (.int p0), .val (.int p1), .val (.int p2), .val (.int p3), .val (.int p4), .val (.int 1), .val (.int (f1 p1)), .val (.int (f1 p2)), .val (.int (f1 p3)), .val (.int (f1 p4)), .val (.ref b59), .unset]) rfl ?_
    refine XS.goto X45.here hx rfl (pc0 := 76) (pc' := 178) rfl (hb hby at_76) (by decide) (by decide) ?_
    refine XS.iconst X45.here hx rfl (hb hby at_178) ?_
    refine XS.istore X45.here hx rfl (hb hby at_179) rfl (l' := #[.val (.int p0), .val (.int p1), .val (.int p2), .val (.int p3), .val (.int p4), .val (.int 1), .val (.int (f1 p1)), .val (.int (f1 p2)), .val (.int (f1 p3)), .val (.int (f1 p4)), .val (.ref b59), .val (.int 0)]) rfl ?_
    refine XS.iload X45.here hx rfl (hb hby at_181) rfl ?_
    refine XS.ifNo X45.here hx rfl (hb hby at_183) rfl (by decide) ?_
    refine XS.iload X45.here hx rfl (hb hby at_186) rfl ?_
    exact k)
  obtain ⟨_, _, ⟨T55, L55, k55, n55⟩, -, X55, ⟨Lc55, hQ55, l55, y55, z55⟩, st55⟩ := Jvm.LawKit.callS X45 hx (y := Nm_1) hown (mvT hZ (wq hw 53 rfl)) (mvT hZ (wq hw 54 rfl)) (mvT hZ (wq hw 3 rfl)) (mvT hZ (wq hw 55 rfl)) (by decide) (backOf (W := 0) (rm11 l Z a0 hw [] (f1 p1) T45.heap n0 Z45) hZ (wq hw 55 rfl) (wq hw 3 rfl) (by decide) (by decide)) (g := (mkF m 188 #[.val (.int p0), .val (.int p1), .val (.int p2), .val (.int p3), .val (.int p4), .val (.int 1), .val (.int (f1 p1)), .val (.int (f1 p2)), .val (.int (f1 p3)), .val (.int (f1 p4)), .val (.ref b59), .val (.int 0)] [(.int (f1 p1))])) rfl (by rw [hml]; rfl) (argsL := [(.int (f1 p1))]) (rest := []) (lenOf pd__C_Z rfl) rfl (w00 rfl) (hb hby at_188) (fun _ _ => ⟨rfl, rfl, (by decide : 4 + 0 ≤ _), (by decide : 8 + 0 ≤ _)⟩)
  dsimp only [Pt.U, Pt.locs, Pt.cells, Pt.slots] at X55 l55 y55 z55 st55 hQ55
  subst l55 y55 z55
  obtain ⟨rfl, Nq55, e55⟩ := hQ55
  have N55 := Fr.app N45 Nq55
  have pre56 := Go.thn pre54 st55
  obtain ⟨T57, L57, X57, e57, N57, pre57⟩ : ∃ (T' : State) (L' : List Loc), Stand p l e room_1 s m #[(.int p0), (.int p1), (.int p2), (.int p3), (.int p4)] below meth c T' L' 4 8 ∧ T'.heap = T45.heap ∧ Fr n0 L' ∧ ∀ t, Steps p.tables e below (T'.setTop (mkF m 248 #[.val (.int p0), .val (.int p1), .val (.int p2), .val (.int p3), .val (.int p4), .val (.int 1), .val (.int (f1 p1)), .val (.int (f1 p2)), .val (.int (f1 p3)), .val (.int (f1 p4)), .val (.ref b59), .val (.int (v0_1U_248_l11 p1))] [])) t → Steps p.tables e below (s₁.setTop (entryFrame m #[(.int p0), (.int p1), (.int p2), (.int p3), (.int p4)] maxLocals)) t := by
    by_cases hc191_1 : (f11 (f1 p1)) = (0 : Int32)
    · have pre58 : Go p e below T55 _ (mkF m 248 #[.val (.int p0), .val (.int p1), .val (.int p2), .val (.int p3), .val (.int p4), .val (.int 1), .val (.int (f1 p1)), .val (.int (f1 p2)), .val (.int (f1 p3)), .val (.int (f1 p4)), .val (.ref b59), .val (.int 0)] []) _ := fun t k => pre56 t (by
        refine XS.ifYes X55.here hx rfl (pc0 := 191) (pc' := 248) rfl (hb hby at_191) rfl ((if0 _ _).trans (teq hc191_1).1) (by decide) (by decide) ?_
        exact k)
      exact ⟨T55, _, X55, e55, N55, fun t k => pre58 t (by simpa only [v0_1U_248_l11, if_pos hc191_1] using k)⟩
    · have pre59 : Go p e below T55 _ (mkF m 248 #[.val (.int p0), .val (.int p1), .val (.int p2), .val (.int p3), .val (.int p4), .val (.int 1), .val (.int (f1 p1)), .val (.int (f1 p2)), .val (.int (f1 p3)), .val (.int (f1 p4)), .val (.ref b59), .val (.int 1)] []) _ := fun t k => pre56 t (by
        refine XS.ifNo X55.here hx rfl (hb hby at_191) rfl ((if0 _ _).trans (feq hc191_1).1) ?_
        refine XS.iconst X55.here hx rfl (hb hby at_194) ?_
        refine XS.istore X55.here hx rfl (hb hby at_195) rfl (l' := #[.val (.int p0), .val (.int p1), .val (.int p2), .val (.int p3), .val (.int p4), .val (.int 1), .val (.int (f1 p1)), .val (.int (f1 p2)), .val (.int (f1 p3)), .val (.int (f1 p4)), .val (.ref b59), .val (.int 1)]) rfl ?_
        refine XS.iload X55.here hx rfl (hb hby at_197) rfl ?_
        refine XS.iconst X55.here hx rfl (hb hby at_199) ?_
        refine XS.icmpYes X55.here hx rfl (pc0 := 200) (pc' := 248) rfl (hb hby at_200) rfl (by decide) (by decide) (by decide) ?_
        exact k)
      exact ⟨T55, _, X55, e55, N55, fun t k => pre59 t (by simpa only [v0_1U_248_l11, if_neg hc191_1] using k)⟩
  have pre60 : Go p e below T57 _ (mkF m 250 #[.val (.int p0), .val (.int p1), .val (.int p2), .val (.int p3), .val (.int p4), .val (.int 1), .val (.int (f1 p1)), .val (.int (f1 p2)), .val (.int (f1 p3)), .val (.int (f1 p4)), .val (.ref b59), .val (.int (v0_1U_248_l11 p1))] [(.ref b59)]) _ := fun t k => pre57 t (by
    refine XS.aload X57.here hx rfl (hb hby at_248) rfl rfl ?_
    exact k)
  obtain ⟨_, _, ⟨T61, L61, k61, n61⟩, -, X61, ⟨Lc61, hQ61, l61, y61, z61⟩, st61⟩ := Jvm.LawKit.callS X57 hx (y := Nm_14) hown (mvT hZ (wq hw 28 rfl)) (mvT hZ (wq hw 29 rfl)) (mvT hZ (wq hw 30 rfl)) (mvT hZ (wq hw 31 rfl)) (by decide) (backOf (W := 0) (rm5_U l Z a0 hw [] b59 wcs wsf b71_0 _ (2 : Int32) [(own_b0 (nar .char (f1 p1))), (own_b8 (nar .char (f1 p1)))] T45.heap n0 Z45 x46 x47 o45_0 x48 x49 x50 o45_1 o45_2 o45_3 hcs hsf (Or.inl rfl) (by decide)) hZ (wq hw 31 rfl) (wq hw 30 rfl) (by decide) (by decide)) (g := (mkF m 250 #[.val (.int p0), .val (.int p1), .val (.int p2), .val (.int p3), .val (.int p4), .val (.int 1), .val (.int (f1 p1)), .val (.int (f1 p2)), .val (.int (f1 p3)), .val (.int (f1 p4)), .val (.ref b59), .val (.int (v0_1U_248_l11 p1))] [(.ref b59)])) rfl (by rw [hml]; rfl) (argsL := [(.ref b59)]) (rest := []) (lenOf pd__Ljava_lang_String__I rfl) rfl (w00 rfl) (hb hby at_250) (fun _ _ => ⟨rfl, e57, (by decide : 4 + 0 ≤ _), (by decide : 8 + 0 ≤ _)⟩)
  dsimp only [Pt.U, Pt.locs, Pt.cells, Pt.slots] at X61 l61 y61 z61 st61 hQ61
  subst l61 y61 z61
  obtain ⟨rfl, Nq61, e61⟩ := hQ61
  have N61 := Fr.app N57 Nq61
  have pre62 := Go.thn pre60 st61
  have pre63 : Go p e below T61 _ (mkF m 255 #[.val (.int p0), .val (.int p1), .val (.int p2), .val (.int p3), .val (.int p4), .val (.int 1), .val (.int (f1 p1)), .val (.int (f1 p2)), .val (.int (f1 p3)), .val (.int (f1 p4)), .val (.ref b59), .val (.int (v0_1U_248_l11 p1))] [(.int (v0_1U_248_l11 p1)), (.int (f5_U (2 : Int32) [(own_b0 (nar .char (f1 p1))), (own_b8 (nar .char (f1 p1)))]))]) _ := fun t k => pre62 t (by
    refine XS.iload X61.here hx rfl (hb hby at_253) rfl ?_
    exact k)
  by_cases hc255_2 : (f5_U (2 : Int32) [(own_b0 (nar .char (f1 p1))), (own_b8 (nar .char (f1 p1)))]) = (v0_1U_248_l11 p1)
  · have pre64 : Go p e below T61 _ (mkF m 263 #[.val (.int p0), .val (.int p1), .val (.int p2), .val (.int p3), .val (.int p4), .val (.int 1), .val (.int (f1 p1)), .val (.int (f1 p2)), .val (.int (f1 p3)), .val (.int (f1 p4)), .val (.ref b59), .val (.int (v0_1U_248_l11 p1))] [(.int 1)]) _ := fun t k => pre63 t (by
      refine XS.icmpNo X61.here hx rfl (hb hby at_255) rfl (teq hc255_2).2 ?_
      refine XS.iconst X61.here hx rfl (hb hby at_258) ?_
      refine XS.goto X61.here hx rfl (pc0 := 259) (pc' := 263) rfl (hb hby at_259) (by decide) (by decide) ?_
      exact k)
    obtain ⟨fs, hr, hrun, hended, hW, hsame⟩ := X61.leave (v := some (.int 1)) (fun h => by rw [Bd.returns] at h; cases h)
    refine ⟨_, _, ?_, hrun, hended, _, _, rfl, ?_, ⟨_, rfl⟩, hW, hsame.mono (by decide) (by decide)⟩
    · exact pre64 _ (retN X61 hx (t := .boolean) Bd.returns (by simp) (hb hby at_263) hr)
    · exact ⟨by simp only [f0_1U, if_pos hc255_2], N61, trivial⟩
  · have pre65 : Go p e below T61 _ (mkF m 263 #[.val (.int p0), .val (.int p1), .val (.int p2), .val (.int p3), .val (.int p4), .val (.int 1), .val (.int (f1 p1)), .val (.int (f1 p2)), .val (.int (f1 p3)), .val (.int (f1 p4)), .val (.ref b59), .val (.int (v0_1U_248_l11 p1))] [(.int 0)]) _ := fun t k => pre63 t (by
      refine XS.icmpYes X61.here hx rfl (pc0 := 255) (pc' := 262) rfl (hb hby at_255) rfl (feq hc255_2).2 (by decide) (by decide) ?_
      refine XS.iconst X61.here hx rfl (hb hby at_262) ?_
      exact k)
    obtain ⟨fs, hr, hrun, hended, hW, hsame⟩ := X61.leave (v := some (.int 0)) (fun h => by rw [Bd.returns] at h; cases h)
    refine ⟨_, _, ?_, hrun, hended, _, _, rfl, ?_, ⟨_, rfl⟩, hW, hsame.mono (by decide) (by decide)⟩
    · exact pre65 _ (retN X61 hx (t := .boolean) Bd.returns (by simp) (hb hby at_263) hr)
    · exact ⟨by simp only [f0_1U, if_neg hc255_2], N61, trivial⟩
def v0_2L_248_l11 (p1 : Int32) (p2 : Int32) : Int32 := (if (f11 (f1 p1)) = (0 : Int32) then (0 : Int32) else (if (f11 (f1 p2)) = (0 : Int32) then (1 : Int32) else (2 : Int32)))
def f0_2L (p1 : Int32) (p2 : Int32) : Int32 := (if (f5_L (2 : Int32) [(g9_2_o2_0 (nar .char (f1 p1))), (g9_2_o2_1 (nar .char (f1 p1)) (nar .char (f1 p2)))]) = (v0_2L_248_l11 p1 p2) then (1 : Int32) else (0 : Int32))
set_option maxRecDepth 65536 in
set_option maxHeartbeats 40000000 in
theorem rm0_2L (l : Launch) (Z : State) (a0 : Array Value) (hw : ∀ d ∈ tables_1, d.before a0 Z = true) (ws : List Jvm.Cond) (p0 : Int32) (p1 : Int32) (p2 : Int32) (p3 : Int32) (p4 : Int32) (wcs : Int32) (wsf : Value) (h0 : Heap) (n0 : Nat) (Z0 : n0 ≤ h0.size) (I0 : Sta Z h0 "java/lang/String" "COMPACT_STRINGS" "Z" (.int wcs)) (I1 : Sta Z h0 "jdk/internal/util/Preconditions" "SIOOBE_FORMATTER" "Ljava/util/function/BiFunction;" wsf) (I2 : Sta Z h0 "java/lang/StringUTF16" "$assertionsDisabled" "Z" (.int 1)) (I3 : Sta Z h0 "java/lang/StringUTF16" "HI_BYTE_SHIFT" "I" (.int 0)) (I4 : Sta Z h0 "java/lang/StringUTF16" "LO_BYTE_SHIFT" "I" (.int 8)) (hn : ((p0 &&& (2147483647 : Int32)) - (p0 &&& (2147483647 : Int32)) / (5 : Int32) * (5 : Int32)) = (2 : Int32)) (hcs : ¬ (wcs = (0 : Int32))) (hsf : wsf.isRef = true) (hl0 : ¬ ((255 : Int32) < (nar .char (f1 p1)))) (hl1 : ¬ ((255 : Int32) < (nar .char (f1 p2)))) :
    Met1 l x (Jvm.Cond.code x code maxLocals ret) ws room_1 #[(.int p0), (.int p1), (.int p2), (.int p3), (.int p4)] Z h0 (QL (some (.int (f0_2L p1 p2))) n0) := by
  refine MetFree.of_bodySF (plainFor_of_name pn_0) hisR ?_
  intro p e s m args below meth c s₁ Bd hml0 hP hK
  obtain ⟨rfl, hZ, hh⟩ := hP
  have hx := Bd.exec
  have hby := Bd.bytes
  have hml : c.maxLocals = 12 := hml0
  have hown : s.vm.findClass "com/example/stint/stint/WholeNumberLeadingDigitsPinLaw" = some m.cls := findClass_of_methodNamed Bd.named
  have X0 : Stand p l e room_1 s m _ _ _ _ _ [] 0 0 := Stand.of_body Bd
  have e0 : s₁.heap = h0 := by rw [← hh, Bd.state]; rfl
  have N0 := Fr.nil n0
  have K0 : Keep h0 h0 [] := Keep.refl _ _
  have pre0 : Go p e below s₁ _ (mkF m 0 #[.val (.int p0), .val (.int p1), .val (.int p2), .val (.int p3), .val (.int p4), .unset, .unset, .unset, .unset, .unset, .unset, .unset] []) _ := fun t k => castTop (ef_0 m p0 p1 p2 p3 p4) k
  have pre4 : Go p e below s₁ _ (mkF m 9 #[.val (.int p0), .val (.int p1), .val (.int p2), .val (.int p3), .val (.int p4), .val (.int 2), .unset, .unset, .unset, .unset, .unset, .unset] [(.int p1)]) _ := fun t k => pre0 t (by
    refine XS.iloadN X0.here hx rfl (hb hby at_0) rfl ?_
    refine X0.ldcInt hx hown (mvT hZ (wq hw 0 rfl)) (g := (mkF m 1 #[.val (.int p0), .val (.int p1), .val (.int p2), .val (.int p3), .val (.int p4), .unset, .unset, .unset, .unset, .unset, .unset, .unset] [(.int p0)])) rfl (hb hby at_1) _ ?_
    refine XS.iand X0.here hx rfl (hb hby at_3) rfl ?_
    refine XS.iconst X0.here hx rfl (hb hby at_4) ?_
    refine XS.irem X0.here hx rfl (hb hby at_5) rfl (by decide) ?_
    show Steps p.tables e below (s₁.setTop (mkF m 6 #[.val (.int p0), .val (.int p1), .val (.int p2), .val (.int p3), .val (.int p4), .unset, .unset, .unset, .unset, .unset, .unset, .unset] [(.int ((p0 &&& (2147483647 : Int32)) - (p0 &&& (2147483647 : Int32)) / (5 : Int32) * (5 : Int32)))])) _
    rw [hn]
    refine XS.istore X0.here hx rfl (hb hby at_6) rfl (l' := #[.val (.int p0), .val (.int p1), .val (.int p2), .val (.int p3), .val (.int p4), .val (.int 2), .unset, .unset, .unset, .unset, .unset, .unset]) rfl ?_
    refine XS.iloadN X0.here hx rfl (hb hby at_8) rfl ?_
    exact k)
  obtain ⟨_, _, ⟨T5, L5, k5, n5⟩, -, X5, ⟨Lc5, hQ5, l5, y5, z5⟩, st5⟩ := Jvm.LawKit.callS X0 hx (y := Nm_0) hown (mvT hZ (wq hw 1 rfl)) (mvT hZ (wq hw 2 rfl)) (mvT hZ (wq hw 3 rfl)) (mvT hZ (wq hw 4 rfl)) (by decide) (backOf (W := 0) (rm1 l Z a0 hw [] p1 h0 n0 Z0) hZ (wq hw 4 rfl) (wq hw 3 rfl) (by decide) (by decide)) (g := (mkF m 9 #[.val (.int p0), .val (.int p1), .val (.int p2), .val (.int p3), .val (.int p4), .val (.int 2), .unset, .unset, .unset, .unset, .unset, .unset] [(.int p1)])) rfl (by rw [hml]; rfl) (argsL := [(.int p1)]) (rest := []) (lenOf pd__I_C rfl) rfl (w00 rfl) (hb hby at_9) (fun _ _ => ⟨rfl, e0, (by decide : 0 + 0 ≤ _), (by decide : 0 + 0 ≤ _)⟩)
  dsimp only [Pt.U, Pt.locs, Pt.cells, Pt.slots] at X5 l5 y5 z5 st5 hQ5
  subst l5 y5 z5
  obtain ⟨rfl, Nq5, e5⟩ := hQ5
  have N5 := Fr.app N0 Nq5
  have pre6 := Go.thn pre4 st5
  have pre7 : Go p e below T5 _ (mkF m 15 #[.val (.int p0), .val (.int p1), .val (.int p2), .val (.int p3), .val (.int p4), .val (.int 2), .val (.int (f1 p1)), .unset, .unset, .unset, .unset, .unset] [(.int p2)]) _ := fun t k => pre6 t (by
    refine XS.istore X5.here hx rfl (hb hby at_12) rfl (l' := #[.val (.int p0), .val (.int p1), .val (.int p2), .val (.int p3), .val (.int p4), .val (.int 2), .val (.int (f1 p1)), .unset, .unset, .unset, .unset, .unset]) rfl ?_
    refine XS.iloadN X5.here hx rfl (hb hby at_14) rfl ?_
    exact k)
  obtain ⟨_, _, ⟨T8, L8, k8, n8⟩, -, X8, ⟨Lc8, hQ8, l8, y8, z8⟩, st8⟩ := Jvm.LawKit.callS X5 hx (y := Nm_0) hown (mvT hZ (wq hw 1 rfl)) (mvT hZ (wq hw 2 rfl)) (mvT hZ (wq hw 3 rfl)) (mvT hZ (wq hw 4 rfl)) (by decide) (backOf (W := 0) (rm1 l Z a0 hw [] p2 h0 n0 Z0) hZ (wq hw 4 rfl) (wq hw 3 rfl) (by decide) (by decide)) (g := (mkF m 15 #[.val (.int p0), .val (.int p1), .val (.int p2), .val (.int p3), .val (.int p4), .val (.int 2), .val (.int (f1 p1)), .unset, .unset, .unset, .unset, .unset] [(.int p2)])) rfl (by rw [hml]; rfl) (argsL := [(.int p2)]) (rest := []) (lenOf pd__I_C rfl) rfl (w00 rfl) (hb hby at_15) (fun _ _ => ⟨rfl, e5, (by decide : 0 + 0 ≤ _), (by decide : 0 + 0 ≤ _)⟩)
  dsimp only [Pt.U, Pt.locs, Pt.cells, Pt.slots] at X8 l8 y8 z8 st8 hQ8
  subst l8 y8 z8
  obtain ⟨rfl, Nq8, e8⟩ := hQ8
  have N8 := Fr.app N5 Nq8
  have pre9 := Go.thn pre7 st8
  have pre10 : Go p e below T8 _ (mkF m 21 #[.val (.int p0), .val (.int p1), .val (.int p2), .val (.int p3), .val (.int p4), .val (.int 2), .val (.int (f1 p1)), .val (.int (f1 p2)), .unset, .unset, .unset, .unset] [(.int p3)]) _ := fun t k => pre9 t (by
    refine XS.istore X8.here hx rfl (hb hby at_18) rfl (l' := #[.val (.int p0), .val (.int p1), .val (.int p2), .val (.int p3), .val (.int p4), .val (.int 2), .val (.int (f1 p1)), .val (.int (f1 p2)), .unset, .unset, .unset, .unset]) rfl ?_
    refine XS.iloadN X8.here hx rfl (hb hby at_20) rfl ?_
    exact k)
  obtain ⟨_, _, ⟨T11, L11, k11, n11⟩, -, X11, ⟨Lc11, hQ11, l11, y11, z11⟩, st11⟩ := Jvm.LawKit.callS X8 hx (y := Nm_0) hown (mvT hZ (wq hw 1 rfl)) (mvT hZ (wq hw 2 rfl)) (mvT hZ (wq hw 3 rfl)) (mvT hZ (wq hw 4 rfl)) (by decide) (backOf (W := 0) (rm1 l Z a0 hw [] p3 h0 n0 Z0) hZ (wq hw 4 rfl) (wq hw 3 rfl) (by decide) (by decide)) (g := (mkF m 21 #[.val (.int p0), .val (.int p1), .val (.int p2), .val (.int p3), .val (.int p4), .val (.int 2), .val (.int (f1 p1)), .val (.int (f1 p2)), .unset, .unset, .unset, .unset] [(.int p3)])) rfl (by rw [hml]; rfl) (argsL := [(.int p3)]) (rest := []) (lenOf pd__I_C rfl) rfl (w00 rfl) (hb hby at_21) (fun _ _ => ⟨rfl, e8, (by decide : 0 + 0 ≤ _), (by decide : 0 + 0 ≤ _)⟩)
  dsimp only [Pt.U, Pt.locs, Pt.cells, Pt.slots] at X11 l11 y11 z11 st11 hQ11
  subst l11 y11 z11
  obtain ⟨rfl, Nq11, e11⟩ := hQ11
  have N11 := Fr.app N8 Nq11
  have pre12 := Go.thn pre10 st11
  have pre13 : Go p e below T11 _ (mkF m 28 #[.val (.int p0), .val (.int p1), .val (.int p2), .val (.int p3), .val (.int p4), .val (.int 2), .val (.int (f1 p1)), .val (.int (f1 p2)), .val (.int (f1 p3)), .unset, .unset, .unset] [(.int p4)]) _ := fun t k => pre12 t (by
    refine XS.istore X11.here hx rfl (hb hby at_24) rfl (l' := #[.val (.int p0), .val (.int p1), .val (.int p2), .val (.int p3), .val (.int p4), .val (.int 2), .val (.int (f1 p1)), .val (.int (f1 p2)), .val (.int (f1 p3)), .unset, .unset, .unset]) rfl ?_
    refine XS.iload X11.here hx rfl (hb hby at_26) rfl ?_
    exact k)
  obtain ⟨_, _, ⟨T14, L14, k14, n14⟩, -, X14, ⟨Lc14, hQ14, l14, y14, z14⟩, st14⟩ := Jvm.LawKit.callS X11 hx (y := Nm_0) hown (mvT hZ (wq hw 1 rfl)) (mvT hZ (wq hw 2 rfl)) (mvT hZ (wq hw 3 rfl)) (mvT hZ (wq hw 4 rfl)) (by decide) (backOf (W := 0) (rm1 l Z a0 hw [] p4 h0 n0 Z0) hZ (wq hw 4 rfl) (wq hw 3 rfl) (by decide) (by decide)) (g := (mkF m 28 #[.val (.int p0), .val (.int p1), .val (.int p2), .val (.int p3), .val (.int p4), .val (.int 2), .val (.int (f1 p1)), .val (.int (f1 p2)), .val (.int (f1 p3)), .unset, .unset, .unset] [(.int p4)])) rfl (by rw [hml]; rfl) (argsL := [(.int p4)]) (rest := []) (lenOf pd__I_C rfl) rfl (w00 rfl) (hb hby at_28) (fun _ _ => ⟨rfl, e11, (by decide : 0 + 0 ≤ _), (by decide : 0 + 0 ≤ _)⟩)
  dsimp only [Pt.U, Pt.locs, Pt.cells, Pt.slots] at X14 l14 y14 z14 st14 hQ14
  subst l14 y14 z14
  obtain ⟨rfl, Nq14, e14⟩ := hQ14
  have N14 := Fr.app N11 Nq14
  have pre15 := Go.thn pre13 st14
  have pre16 : Go p e below T14 _ (mkF m 85 #[.val (.int p0), .val (.int p1), .val (.int p2), .val (.int p3), .val (.int p4), .val (.int 2), .val (.int (f1 p1)), .val (.int (f1 p2)), .val (.int (f1 p3)), .val (.int (f1 p4)), .unset, .unset] []) _ := fun t k => pre15 t (by
    refine XS.istore X14.here hx rfl (hb hby at_31) rfl (l' := #[.val (.int p0), .val (.int p1), .val (.int p2), .val (.int p3), .val (.int p4), .val (.int 2), .val (.int (f1 p1)), .val (.int (f1 p2)), .val (.int (f1 p3)), .val (.int (f1 p4)), .unset, .unset]) rfl ?_
    refine XS.iload X14.here hx rfl (hb hby at_33) rfl ?_
    refine XS.ifYes X14.here hx rfl (pc0 := 35) (pc' := 53) rfl (hb hby at_35) rfl (by decide) (by decide) (by decide) ?_
    refine XS.iload X14.here hx rfl (hb hby at_53) rfl ?_
    refine XS.iconst X14.here hx rfl (hb hby at_55) ?_
    refine XS.icmpYes X14.here hx rfl (pc0 := 56) (pc' := 79) rfl (hb hby at_56) rfl (by decide) (by decide) (by decide) ?_
    refine XS.iload X14.here hx rfl (hb hby at_79) rfl ?_
    refine XS.iconst X14.here hx rfl (hb hby at_81) ?_
    refine XS.icmpNo X14.here hx rfl (hb hby at_82) rfl (by decide) ?_
    exact k)
  obtain ⟨T17, h17, X17, e17, E17, A17, D17, -, st17⟩ := newO X14 hx hZ hown (wq hw 6 rfl) (wq hw 7 rfl) (wq hw 8 rfl) e14 (g := (mkF m 85 #[.val (.int p0), .val (.int p1), .val (.int p2), .val (.int p3), .val (.int p4), .val (.int 2), .val (.int (f1 p1)), .val (.int (f1 p2)), .val (.int (f1 p3)), .val (.int (f1 p4)), .unset, .unset] [])) rfl (hb hby at_85) (by decide) (by decide)
  obtain ⟨b85, g17⟩ : ∃ z, z = h0.size := ⟨_, rfl⟩
  rw [← g17] at A17 D17 st17
  have gg17 : n0 ≤ b85 := Nat.le_trans Z0 (Nat.le_of_eq g17.symm)
  have sz17 : h0.size ≤ b85 := Nat.le_trans K0.1 (Nat.le_of_eq g17.symm)
  have K17 : Keep h0 h17 [] := K0.ext E17
  have Z17 : n0 ≤ h17.size := Nat.le_trans Z0 E17.1
  have x18 := I0.ext E17
  have x19 := I1.ext E17
  have x20 := I2.ext E17
  have x21 := I3.ext E17
  have x22 := I4.ext E17
  have Fn17_value : Fld Z h17 b85 "java/lang/String" "value" "[B" .null := D17 (Or.inr (wq hw 22 rfl)) (ty := (.array .byte)) (by decide)
  have Fn17_coder : Fld Z h17 b85 "java/lang/String" "coder" "B" (.int 0) := D17 (Or.inr (wq hw 23 rfl)) (ty := .byte) (by decide)
  have pre23 := Go.thn pre16 st17
  have pre24 : Go p e below T17 _ (mkF m 90 #[.val (.int p0), .val (.int p1), .val (.int p2), .val (.int p3), .val (.int p4), .val (.int 2), .val (.int (f1 p1)), .val (.int (f1 p2)), .val (.int (f1 p3)), .val (.int (f1 p4)), .unset, .unset] [(.int 2), (.ref b85), (.ref b85)]) _ := fun t k => pre23 t (by
    refine XS.dup X17.here hx rfl (hb hby at_88) rfl rfl ?_
    refine XS.iconst X17.here hx rfl (hb hby at_89) ?_
    exact k)
  obtain ⟨T25, h25, k25, X25, e25, E25, A25, st25⟩ := newP X17 hx hZ (wq hw 9 rfl) e17 (g := (mkF m 90 #[.val (.int p0), .val (.int p1), .val (.int p2), .val (.int p3), .val (.int p4), .val (.int 2), .val (.int (f1 p1)), .val (.int (f1 p2)), .val (.int (f1 p3)), .val (.int (f1 p4)), .unset, .unset] [(.int 2), (.ref b85), (.ref b85)])) rfl (hb hby at_90) rfl (by decide) (cap := 2) (by decide) (by decide) (by decide) (by decide)
  obtain ⟨b90, g25⟩ : ∃ z, z = h17.size := ⟨_, rfl⟩
  rw [← g25] at A25 st25
  have gg25 : n0 ≤ b90 := Nat.le_trans Z17 (Nat.le_of_eq g25.symm)
  have sz25 : h0.size ≤ b90 := Nat.le_trans K17.1 (Nat.le_of_eq g25.symm)
  have K25 : Keep h0 h25 [] := K17.ext E25
  have Z25 : n0 ≤ h25.size := Nat.le_trans Z17 E25.1
  have V25 : Arv Z h25 b90 k25 .char (2 : Int32) [(.int 0), (.int 0)] (.int 0) := (Arv.new A25 (by decide)).pad (pad_rep [] (.int 0) 2)
  have ne25_b85 : b85 ≠ b90 := Nat.ne_of_lt (Nat.lt_of_lt_of_le A17.lt (Nat.le_of_eq g25.symm))
  have x26 := x18.ext E25
  have x27 := x19.ext E25
  have x28 := x20.ext E25
  have x29 := x21.ext E25
  have x30 := x22.ext E25
  have x31 := A17.ext E25
  have x32 := Fn17_value.ext E25
  have x33 := Fn17_coder.ext E25
  have pre34 := Go.thn pre24 st25
  have pre35 : Go p e below T25 _ (mkF m 96 #[.val (.int p0), .val (.int p1), .val (.int p2), .val (.int p3), .val (.int p4), .val (.int 2), .val (.int (f1 p1)), .val (.int (f1 p2)), .val (.int (f1 p3)), .val (.int (f1 p4)), .unset, .unset] [(.int (f1 p1)), (.int 0), (.ref b90), (.ref b90), (.ref b85), (.ref b85)]) _ := fun t k => pre34 t (by
    refine XS.dup X25.here hx rfl (hb hby at_92) rfl rfl ?_
    refine XS.iconst X25.here hx rfl (hb hby at_93) ?_
    refine XS.iload X25.here hx rfl (hb hby at_94) rfl ?_
    exact k)
  obtain ⟨cl36, Ar36, q36, Sz36, Mn36, Hs36, Gs36⟩ := id V25
  have hin36 : ¬ ((0 : Int32) < 0 ∨ cl36.slots.size ≤ ((0 : Int32)).toNatClampNeg) := inb_of Sz36 ⟨by decide, by decide⟩
  obtain ⟨T36, h36, X36, e36, W36, st36⟩ := stC X25 hx hZ e25 Ar36 (j := (0 : Int32)) hin36 (g := (mkF m 96 #[.val (.int p0), .val (.int p1), .val (.int p2), .val (.int p3), .val (.int p4), .val (.int 2), .val (.int (f1 p1)), .val (.int (f1 p2)), .val (.int (f1 p3)), .val (.int (f1 p4)), .unset, .unset] [(.int (f1 p1)), (.int 0), (.ref b90), (.ref b90), (.ref b85), (.ref b85)])) rfl rfl (hb hby at_96)
  have V36 : Arv Z h36 b90 k25 .char (2 : Int32) [(.int (nar .char (f1 p1))), (.int 0)] (.int 0) := Arv.set Ar36 q36 Sz36 Mn36 Hs36 Gs36 (fits_nar_char _) W36 0 rfl (Nat.le_of_ble_eq_true rfl)
  have N36 := Fr.snoc X36 N14 gg25
  have K36 : Keep h0 h36 [] := K25.wr W36 (Or.inr sz25)
  have Z36 : n0 ≤ h36.size := Nat.le_trans Z25 (Keep.of_wr W36).1
  have x37 := x26.wr W36
  have x38 := x27.wr W36
  have x39 := x28.wr W36
  have x40 := x29.wr W36
  have x41 := x30.wr W36
  have x42 := x31.wr W36
  have x43 := x32.other W36 (Or.inl ne25_b85)
  have x44 := x33.other W36 (Or.inl ne25_b85)
  have pre45 := Go.thn pre35 st36
  have pre46 : Go p e below T36 _ (mkF m 101 #[.val (.int p0), .val (.int p1), .val (.int p2), .val (.int p3), .val (.int p4), .val (.int 2), .val (.int (f1 p1)), .val (.int (f1 p2)), .val (.int (f1 p3)), .val (.int (f1 p4)), .unset, .unset] [(.int (f1 p2)), (.int 1), (.ref b90), (.ref b90), (.ref b85), (.ref b85)]) _ := fun t k => pre45 t (by
    refine XS.dup X36.here hx rfl (hb hby at_97) rfl rfl ?_
    refine XS.iconst X36.here hx rfl (hb hby at_98) ?_
    refine XS.iload X36.here hx rfl (hb hby at_99) rfl ?_
    exact k)
  obtain ⟨cl47, Ar47, q47, Sz47, Mn47, Hs47, Gs47⟩ := id V36
  have hin47 : ¬ ((1 : Int32) < 0 ∨ cl47.slots.size ≤ ((1 : Int32)).toNatClampNeg) := inb_of Sz47 ⟨by decide, by decide⟩
  obtain ⟨T47, h47, X47, e47, W47, st47⟩ := stC X36 hx hZ e36 Ar47 (j := (1 : Int32)) hin47 (g := (mkF m 101 #[.val (.int p0), .val (.int p1), .val (.int p2), .val (.int p3), .val (.int p4), .val (.int 2), .val (.int (f1 p1)), .val (.int (f1 p2)), .val (.int (f1 p3)), .val (.int (f1 p4)), .unset, .unset] [(.int (f1 p2)), (.int 1), (.ref b90), (.ref b90), (.ref b85), (.ref b85)])) rfl rfl (hb hby at_101)
  have V47 : Arv Z h47 b90 k25 .char (2 : Int32) [(.int (nar .char (f1 p1))), (.int (nar .char (f1 p2)))] (.int 0) := Arv.set Ar47 q47 Sz47 Mn47 Hs47 Gs47 (fits_nar_char _) W47 1 rfl (Nat.le_of_ble_eq_true rfl)
  have N47 := Fr.snoc X47 N36 gg25
  have K47 : Keep h0 h47 [] := K36.wr W47 (Or.inr sz25)
  have Z47 : n0 ≤ h47.size := Nat.le_trans Z36 (Keep.of_wr W47).1
  have x48 := x37.wr W47
  have x49 := x38.wr W47
  have x50 := x39.wr W47
  have x51 := x40.wr W47
  have x52 := x41.wr W47
  have x53 := x42.wr W47
  have x54 := x43.other W47 (Or.inl ne25_b85)
  have x55 := x44.other W47 (Or.inl ne25_b85)
  have pre56 := Go.thn pre46 st47
  obtain ⟨_, _, ⟨T57, L57, k57, n57⟩, -, X57, ⟨Lc57, hQ57, l57, y57, z57⟩, st57⟩ := X47.specialBack hx (y := Nm_23) rfl hown (mvT hZ (wq hw 10 rfl)) (mvT hZ (wq hw 11 rfl)) (mvT hZ (wq hw 12 rfl)) (by decide) (backOf (W := 1) (rm2_2L l Z a0 hw [] b85 b90 wcs _ (nar .char (f1 p1)) (nar .char (f1 p2)) h47 n0 Z47 x48 x50 x51 x52 x53 x54 x55 V47 gg17 (Ne.symm ne25_b85) hcs hl0 hl1) hZ (wq hw 12 rfl) (wq hw 8 rfl) (by decide) (by decide)) (g := (mkF m 102 #[.val (.int p0), .val (.int p1), .val (.int p2), .val (.int p3), .val (.int p4), .val (.int 2), .val (.int (f1 p1)), .val (.int (f1 p2)), .val (.int (f1 p3)), .val (.int (f1 p4)), .unset, .unset] [(.ref b90), (.ref b85), (.ref b85)])) rfl (by rw [hml]; rfl) (Steps.refl _) (a := b85) (argsL := [(.ref b90)]) (rest := [(.ref b85)]) (lenOf pd___C_V rfl) rfl (w00 rfl) (hb hby at_102) (fun _ _ => ⟨rfl, e47, (by decide : 2 + 1 ≤ _), (by decide : 6 + 2 ≤ _)⟩)
  dsimp only [Pt.U, Pt.locs, Pt.cells, Pt.slots] at X57 l57 y57 z57 st57 hQ57
  subst l57 y57 z57
  obtain ⟨b102_0, k_b6_0_57, rfl, Nq57, Kq57, gz57_b102_0, o57_0, o57_1, o57_2, o57_3⟩ := hQ57
  have N57 := Fr.app N47 Nq57
  have K57 : Keep h0 T57.heap [] := K47.trans Kq57 (allS (Or.inr sz17) all0)
  have Z57 : n0 ≤ T57.heap.size := Nat.le_trans Z47 Kq57.1
  have x58 := own_staK x48 Kq57 (allS (own_plE x53) all0)
  have x59 := own_staK x49 Kq57 (allS (own_plE x53) all0)
  have x60 := own_staK x50 Kq57 (allS (own_plE x53) all0)
  have x61 := own_staK x51 Kq57 (allS (own_plE x53) all0)
  have x62 := own_staK x52 Kq57 (allS (own_plE x53) all0)
  have x63 := x53.keep Kq57
  have x64 := V47.keep Kq57 (ninS (Ne.symm ne25_b85) nin0)
  have gg57_b102_0 : n0 ≤ b102_0 := Nat.le_trans Z47 gz57_b102_0
  have sz57_b102_0 : h0.size ≤ b102_0 := Nat.le_trans K47.1 gz57_b102_0
  have ne57_b85_b102_0 : b85 ≠ b102_0 := Nat.ne_of_lt (Nat.lt_of_lt_of_le x53.lt gz57_b102_0)
  have ne57_b90_b102_0 : b90 ≠ b102_0 := Nat.ne_of_lt (Nat.lt_of_lt_of_le V47.lt gz57_b102_0)
  have pre65 := Go.trn pre56 st57
  have pre66 : Go p e below T57 _ (mkF m 188 #[.val (.int p0), .val (.int p1), .val (.int p2), .val (.int p3), .val (.int p4), .val (.int 2), .val (.int (f1 p1)), .val (.int (f1 p2)), .val (.int (f1 p3)), .val (.int (f1 p4)), .val (.ref b85), .val (.int 0)] [(.int (f1 p1))]) _ := fun t k => pre65 t (by
    refine XS.astore X57.here hx rfl (hb hby at_105) rfl rfl (l' := #[.val (.int p0), .val (.int p1), .val (.int p2), .val (.int p3), .val (.int p4), .val (.int 2), .val (.int (f1 p1)), .val (.int (f1 p2)), .val (.int (f1 p3)), .val (.int (f1 p4)), .val (.ref b85), .unset]) rfl ?_
    refine XS.goto X57.here hx rfl (pc0 := 107) (pc' := 178) rfl (hb hby at_107) (by decide) (by decide) ?_
    refine XS.iconst X57.here hx rfl (hb hby at_178) ?_
    refine XS.istore X57.here hx rfl (hb hby at_179) rfl (l' := #[.val (.int p0), .val (.int p1), .val (.int p2), .val (.int p3), .val (.int p4), .val (.int 2), .val (.int (f1 p1)), .val (.int (f1 p2)), .val (.int (f1 p3)), .val (.int (f1 p4)), .val (.ref b85), .val (.int 0)]) rfl ?_
    refine XS.iload X57.here hx rfl (hb hby at_181) rfl ?_
    refine XS.ifNo X57.here hx rfl (hb hby at_183) rfl (by decide) ?_
    refine XS.iload X57.here hx rfl (hb hby at_186) rfl ?_
    exact k)
  obtain ⟨_, _, ⟨T67, L67, k67, n67⟩, -, X67, ⟨Lc67, hQ67, l67, y67, z67⟩, st67⟩ := Jvm.LawKit.callS X57 hx (y := Nm_1) hown (mvT hZ (wq hw 53 rfl)) (mvT hZ (wq hw 54 rfl)) (mvT hZ (wq hw 3 rfl)) (mvT hZ (wq hw 55 rfl)) (by decide) (backOf (W := 0) (rm11 l Z a0 hw [] (f1 p1) T57.heap n0 Z57) hZ (wq hw 55 rfl) (wq hw 3 rfl) (by decide) (by decide)) (g := (mkF m 188 #[.val (.int p0), .val (.int p1), .val (.int p2), .val (.int p3), .val (.int p4), .val (.int 2), .val (.int (f1 p1)), .val (.int (f1 p2)), .val (.int (f1 p3)), .val (.int (f1 p4)), .val (.ref b85), .val (.int 0)] [(.int (f1 p1))])) rfl (by rw [hml]; rfl) (argsL := [(.int (f1 p1))]) (rest := []) (lenOf pd__C_Z rfl) rfl (w00 rfl) (hb hby at_188) (fun _ _ => ⟨rfl, rfl, (by decide : 3 + 0 ≤ _), (by decide : 8 + 0 ≤ _)⟩)
  dsimp only [Pt.U, Pt.locs, Pt.cells, Pt.slots] at X67 l67 y67 z67 st67 hQ67
  subst l67 y67 z67
  obtain ⟨rfl, Nq67, e67⟩ := hQ67
  have N67 := Fr.app N57 Nq67
  have pre68 := Go.thn pre66 st67
  obtain ⟨T69, L69, X69, e69, N69, pre69⟩ : ∃ (T' : State) (L' : List Loc), Stand p l e room_1 s m #[(.int p0), (.int p1), (.int p2), (.int p3), (.int p4)] below meth c T' L' 3 8 ∧ T'.heap = T57.heap ∧ Fr n0 L' ∧ ∀ t, Steps p.tables e below (T'.setTop (mkF m 248 #[.val (.int p0), .val (.int p1), .val (.int p2), .val (.int p3), .val (.int p4), .val (.int 2), .val (.int (f1 p1)), .val (.int (f1 p2)), .val (.int (f1 p3)), .val (.int (f1 p4)), .val (.ref b85), .val (.int (v0_2L_248_l11 p1 p2))] [])) t → Steps p.tables e below (s₁.setTop (entryFrame m #[(.int p0), (.int p1), (.int p2), (.int p3), (.int p4)] maxLocals)) t := by
    by_cases hc191_1 : (f11 (f1 p1)) = (0 : Int32)
    · have pre70 : Go p e below T67 _ (mkF m 248 #[.val (.int p0), .val (.int p1), .val (.int p2), .val (.int p3), .val (.int p4), .val (.int 2), .val (.int (f1 p1)), .val (.int (f1 p2)), .val (.int (f1 p3)), .val (.int (f1 p4)), .val (.ref b85), .val (.int 0)] []) _ := fun t k => pre68 t (by
        refine XS.ifYes X67.here hx rfl (pc0 := 191) (pc' := 248) rfl (hb hby at_191) rfl ((if0 _ _).trans (teq hc191_1).1) (by decide) (by decide) ?_
        exact k)
      exact ⟨T67, _, X67, e67, N67, fun t k => pre70 t (by simpa only [v0_2L_248_l11, if_pos hc191_1] using k)⟩
    · have pre71 : Go p e below T67 _ (mkF m 205 #[.val (.int p0), .val (.int p1), .val (.int p2), .val (.int p3), .val (.int p4), .val (.int 2), .val (.int (f1 p1)), .val (.int (f1 p2)), .val (.int (f1 p3)), .val (.int (f1 p4)), .val (.ref b85), .val (.int 1)] [(.int (f1 p2))]) _ := fun t k => pre68 t (by
        refine XS.ifNo X67.here hx rfl (hb hby at_191) rfl ((if0 _ _).trans (feq hc191_1).1) ?_
        refine XS.iconst X67.here hx rfl (hb hby at_194) ?_
        refine XS.istore X67.here hx rfl (hb hby at_195) rfl (l' := #[.val (.int p0), .val (.int p1), .val (.int p2), .val (.int p3), .val (.int p4), .val (.int 2), .val (.int (f1 p1)), .val (.int (f1 p2)), .val (.int (f1 p3)), .val (.int (f1 p4)), .val (.ref b85), .val (.int 1)]) rfl ?_
        refine XS.iload X67.here hx rfl (hb hby at_197) rfl ?_
        refine XS.iconst X67.here hx rfl (hb hby at_199) ?_
        refine XS.icmpNo X67.here hx rfl (hb hby at_200) rfl (by decide) ?_
        refine XS.iload X67.here hx rfl (hb hby at_203) rfl ?_
        exact k)
      obtain ⟨_, _, ⟨T72, L72, k72, n72⟩, -, X72, ⟨Lc72, hQ72, l72, y72, z72⟩, st72⟩ := Jvm.LawKit.callS X67 hx (y := Nm_1) hown (mvT hZ (wq hw 53 rfl)) (mvT hZ (wq hw 54 rfl)) (mvT hZ (wq hw 3 rfl)) (mvT hZ (wq hw 55 rfl)) (by decide) (backOf (W := 0) (rm11 l Z a0 hw [] (f1 p2) T57.heap n0 Z57) hZ (wq hw 55 rfl) (wq hw 3 rfl) (by decide) (by decide)) (g := (mkF m 205 #[.val (.int p0), .val (.int p1), .val (.int p2), .val (.int p3), .val (.int p4), .val (.int 2), .val (.int (f1 p1)), .val (.int (f1 p2)), .val (.int (f1 p3)), .val (.int (f1 p4)), .val (.ref b85), .val (.int 1)] [(.int (f1 p2))])) rfl (by rw [hml]; rfl) (argsL := [(.int (f1 p2))]) (rest := []) (lenOf pd__C_Z rfl) rfl (w00 rfl) (hb hby at_205) (fun _ _ => ⟨rfl, e67, (by decide : 3 + 0 ≤ _), (by decide : 8 + 0 ≤ _)⟩)
      dsimp only [Pt.U, Pt.locs, Pt.cells, Pt.slots] at X72 l72 y72 z72 st72 hQ72
      subst l72 y72 z72
      obtain ⟨rfl, Nq72, e72⟩ := hQ72
      have N72 := Fr.app N67 Nq72
      have pre73 := Go.thn pre71 st72
      by_cases hc208_2 : (f11 (f1 p2)) = (0 : Int32)
      · have pre74 : Go p e below T72 _ (mkF m 248 #[.val (.int p0), .val (.int p1), .val (.int p2), .val (.int p3), .val (.int p4), .val (.int 2), .val (.int (f1 p1)), .val (.int (f1 p2)), .val (.int (f1 p3)), .val (.int (f1 p4)), .val (.ref b85), .val (.int 1)] []) _ := fun t k => pre73 t (by
          refine XS.ifYes X72.here hx rfl (pc0 := 208) (pc' := 248) rfl (hb hby at_208) rfl ((if0 _ _).trans (teq hc208_2).1) (by decide) (by decide) ?_
          exact k)
        exact ⟨T72, _, X72, e72, N72, fun t k => pre74 t (by simpa only [v0_2L_248_l11, if_neg hc191_1, if_pos hc208_2] using k)⟩
      · have pre75 : Go p e below T72 _ (mkF m 248 #[.val (.int p0), .val (.int p1), .val (.int p2), .val (.int p3), .val (.int p4), .val (.int 2), .val (.int (f1 p1)), .val (.int (f1 p2)), .val (.int (f1 p3)), .val (.int (f1 p4)), .val (.ref b85), .val (.int 2)] []) _ := fun t k => pre73 t (by
          refine XS.ifNo X72.here hx rfl (hb hby at_208) rfl ((if0 _ _).trans (feq hc208_2).1) ?_
          refine XS.iconst X72.here hx rfl (hb hby at_211) ?_
          refine XS.istore X72.here hx rfl (hb hby at_212) rfl (l' := #[.val (.int p0), .val (.int p1), .val (.int p2), .val (.int p3), .val (.int p4), .val (.int 2), .val (.int (f1 p1)), .val (.int (f1 p2)), .val (.int (f1 p3)), .val (.int (f1 p4)), .val (.ref b85), .val (.int 2)]) rfl ?_
          refine XS.iload X72.here hx rfl (hb hby at_214) rfl ?_
          refine XS.iconst X72.here hx rfl (hb hby at_216) ?_
          refine XS.icmpYes X72.here hx rfl (pc0 := 217) (pc' := 248) rfl (hb hby at_217) rfl (by decide) (by decide) (by decide) ?_
          exact k)
        exact ⟨T72, _, X72, e72, N72, fun t k => pre75 t (by simpa only [v0_2L_248_l11, if_neg hc191_1, if_neg hc208_2] using k)⟩
  have pre76 : Go p e below T69 _ (mkF m 250 #[.val (.int p0), .val (.int p1), .val (.int p2), .val (.int p3), .val (.int p4), .val (.int 2), .val (.int (f1 p1)), .val (.int (f1 p2)), .val (.int (f1 p3)), .val (.int (f1 p4)), .val (.ref b85), .val (.int (v0_2L_248_l11 p1 p2))] [(.ref b85)]) _ := fun t k => pre69 t (by
    refine XS.aload X69.here hx rfl (hb hby at_248) rfl rfl ?_
    exact k)
  obtain ⟨_, _, ⟨T77, L77, k77, n77⟩, -, X77, ⟨Lc77, hQ77, l77, y77, z77⟩, st77⟩ := Jvm.LawKit.callS X69 hx (y := Nm_14) hown (mvT hZ (wq hw 28 rfl)) (mvT hZ (wq hw 29 rfl)) (mvT hZ (wq hw 30 rfl)) (mvT hZ (wq hw 31 rfl)) (by decide) (backOf (W := 0) (rm5_L l Z a0 hw [] b85 wcs wsf b102_0 _ (2 : Int32) [(g9_2_o2_0 (nar .char (f1 p1))), (g9_2_o2_1 (nar .char (f1 p1)) (nar .char (f1 p2)))] T57.heap n0 Z57 x58 x59 o57_0 o57_1 o57_2 o57_3 hcs hsf (Or.inr (Or.inr (Or.inl rfl))) (by decide)) hZ (wq hw 31 rfl) (wq hw 30 rfl) (by decide) (by decide)) (g := (mkF m 250 #[.val (.int p0), .val (.int p1), .val (.int p2), .val (.int p3), .val (.int p4), .val (.int 2), .val (.int (f1 p1)), .val (.int (f1 p2)), .val (.int (f1 p3)), .val (.int (f1 p4)), .val (.ref b85), .val (.int (v0_2L_248_l11 p1 p2))] [(.ref b85)])) rfl (by rw [hml]; rfl) (argsL := [(.ref b85)]) (rest := []) (lenOf pd__Ljava_lang_String__I rfl) rfl (w00 rfl) (hb hby at_250) (fun _ _ => ⟨rfl, e69, (by decide : 3 + 0 ≤ _), (by decide : 8 + 0 ≤ _)⟩)
  dsimp only [Pt.U, Pt.locs, Pt.cells, Pt.slots] at X77 l77 y77 z77 st77 hQ77
  subst l77 y77 z77
  obtain ⟨rfl, Nq77, e77⟩ := hQ77
  have N77 := Fr.app N69 Nq77
  have pre78 := Go.thn pre76 st77
  have pre79 : Go p e below T77 _ (mkF m 255 #[.val (.int p0), .val (.int p1), .val (.int p2), .val (.int p3), .val (.int p4), .val (.int 2), .val (.int (f1 p1)), .val (.int (f1 p2)), .val (.int (f1 p3)), .val (.int (f1 p4)), .val (.ref b85), .val (.int (v0_2L_248_l11 p1 p2))] [(.int (v0_2L_248_l11 p1 p2)), (.int (f5_L (2 : Int32) [(g9_2_o2_0 (nar .char (f1 p1))), (g9_2_o2_1 (nar .char (f1 p1)) (nar .char (f1 p2)))]))]) _ := fun t k => pre78 t (by
    refine XS.iload X77.here hx rfl (hb hby at_253) rfl ?_
    exact k)
  by_cases hc255_3 : (f5_L (2 : Int32) [(g9_2_o2_0 (nar .char (f1 p1))), (g9_2_o2_1 (nar .char (f1 p1)) (nar .char (f1 p2)))]) = (v0_2L_248_l11 p1 p2)
  · have pre80 : Go p e below T77 _ (mkF m 263 #[.val (.int p0), .val (.int p1), .val (.int p2), .val (.int p3), .val (.int p4), .val (.int 2), .val (.int (f1 p1)), .val (.int (f1 p2)), .val (.int (f1 p3)), .val (.int (f1 p4)), .val (.ref b85), .val (.int (v0_2L_248_l11 p1 p2))] [(.int 1)]) _ := fun t k => pre79 t (by
      refine XS.icmpNo X77.here hx rfl (hb hby at_255) rfl (teq hc255_3).2 ?_
      refine XS.iconst X77.here hx rfl (hb hby at_258) ?_
      refine XS.goto X77.here hx rfl (pc0 := 259) (pc' := 263) rfl (hb hby at_259) (by decide) (by decide) ?_
      exact k)
    obtain ⟨fs, hr, hrun, hended, hW, hsame⟩ := X77.leave (v := some (.int 1)) (fun h => by rw [Bd.returns] at h; cases h)
    refine ⟨_, _, ?_, hrun, hended, _, _, rfl, ?_, ⟨_, rfl⟩, hW, hsame.mono (by decide) (by decide)⟩
    · exact pre80 _ (retN X77 hx (t := .boolean) Bd.returns (by simp) (hb hby at_263) hr)
    · exact ⟨by simp only [f0_2L, if_pos hc255_3], N77, trivial⟩
  · have pre81 : Go p e below T77 _ (mkF m 263 #[.val (.int p0), .val (.int p1), .val (.int p2), .val (.int p3), .val (.int p4), .val (.int 2), .val (.int (f1 p1)), .val (.int (f1 p2)), .val (.int (f1 p3)), .val (.int (f1 p4)), .val (.ref b85), .val (.int (v0_2L_248_l11 p1 p2))] [(.int 0)]) _ := fun t k => pre79 t (by
      refine XS.icmpYes X77.here hx rfl (pc0 := 255) (pc' := 262) rfl (hb hby at_255) rfl (feq hc255_3).2 (by decide) (by decide) ?_
      refine XS.iconst X77.here hx rfl (hb hby at_262) ?_
      exact k)
    obtain ⟨fs, hr, hrun, hended, hW, hsame⟩ := X77.leave (v := some (.int 0)) (fun h => by rw [Bd.returns] at h; cases h)
    refine ⟨_, _, ?_, hrun, hended, _, _, rfl, ?_, ⟨_, rfl⟩, hW, hsame.mono (by decide) (by decide)⟩
    · exact pre81 _ (retN X77 hx (t := .boolean) Bd.returns (by simp) (hb hby at_263) hr)
    · exact ⟨by simp only [f0_2L, if_neg hc255_3], N77, trivial⟩
def v0_2U_248_l11 (p1 : Int32) (p2 : Int32) : Int32 := (if (f11 (f1 p1)) = (0 : Int32) then (0 : Int32) else (if (f11 (f1 p2)) = (0 : Int32) then (1 : Int32) else (2 : Int32)))
def f0_2U (p1 : Int32) (p2 : Int32) : Int32 := (if (f5_U (4 : Int32) [(own_b0 (nar .char (f1 p1))), (own_b8 (nar .char (f1 p1))), (own_b0 (nar .char (f1 p2))), (own_b8 (nar .char (f1 p2)))]) = (v0_2U_248_l11 p1 p2) then (1 : Int32) else (0 : Int32))
set_option maxRecDepth 65536 in
set_option maxHeartbeats 40000000 in
theorem rm0_2U (l : Launch) (Z : State) (a0 : Array Value) (hw : ∀ d ∈ tables_1, d.before a0 Z = true) (ws : List Jvm.Cond) (p0 : Int32) (p1 : Int32) (p2 : Int32) (p3 : Int32) (p4 : Int32) (wcs : Int32) (wsf : Value) (h0 : Heap) (n0 : Nat) (Z0 : n0 ≤ h0.size) (I0 : Sta Z h0 "java/lang/String" "COMPACT_STRINGS" "Z" (.int wcs)) (I1 : Sta Z h0 "jdk/internal/util/Preconditions" "SIOOBE_FORMATTER" "Ljava/util/function/BiFunction;" wsf) (I2 : Sta Z h0 "java/lang/StringUTF16" "$assertionsDisabled" "Z" (.int 1)) (I3 : Sta Z h0 "java/lang/StringUTF16" "HI_BYTE_SHIFT" "I" (.int 0)) (I4 : Sta Z h0 "java/lang/StringUTF16" "LO_BYTE_SHIFT" "I" (.int 8)) (hn : ((p0 &&& (2147483647 : Int32)) - (p0 &&& (2147483647 : Int32)) / (5 : Int32) * (5 : Int32)) = (2 : Int32)) (hcs : ¬ (wcs = (0 : Int32))) (hsf : wsf.isRef = true) (hU : (255 : Int32) < (nar .char (f1 p1)) ∨ (255 : Int32) < (nar .char (f1 p2))) :
    Met1 l x (Jvm.Cond.code x code maxLocals ret) ws room_1 #[(.int p0), (.int p1), (.int p2), (.int p3), (.int p4)] Z h0 (QL (some (.int (f0_2U p1 p2))) n0) := by
  refine MetFree.of_bodySF (plainFor_of_name pn_0) hisR ?_
  intro p e s m args below meth c s₁ Bd hml0 hP hK
  obtain ⟨rfl, hZ, hh⟩ := hP
  have hx := Bd.exec
  have hby := Bd.bytes
  have hml : c.maxLocals = 12 := hml0
  have hown : s.vm.findClass "com/example/stint/stint/WholeNumberLeadingDigitsPinLaw" = some m.cls := findClass_of_methodNamed Bd.named
  have X0 : Stand p l e room_1 s m _ _ _ _ _ [] 0 0 := Stand.of_body Bd
  have e0 : s₁.heap = h0 := by rw [← hh, Bd.state]; rfl
  have N0 := Fr.nil n0
  have K0 : Keep h0 h0 [] := Keep.refl _ _
  have pre0 : Go p e below s₁ _ (mkF m 0 #[.val (.int p0), .val (.int p1), .val (.int p2), .val (.int p3), .val (.int p4), .unset, .unset, .unset, .unset, .unset, .unset, .unset] []) _ := fun t k => castTop (ef_0 m p0 p1 p2 p3 p4) k
  have pre4 : Go p e below s₁ _ (mkF m 9 #[.val (.int p0), .val (.int p1), .val (.int p2), .val (.int p3), .val (.int p4), .val (.int 2), .unset, .unset, .unset, .unset, .unset, .unset] [(.int p1)]) _ := fun t k => pre0 t (by
    refine XS.iloadN X0.here hx rfl (hb hby at_0) rfl ?_
    refine X0.ldcInt hx hown (mvT hZ (wq hw 0 rfl)) (g := (mkF m 1 #[.val (.int p0), .val (.int p1), .val (.int p2), .val (.int p3), .val (.int p4), .unset, .unset, .unset, .unset, .unset, .unset, .unset] [(.int p0)])) rfl (hb hby at_1) _ ?_
    refine XS.iand X0.here hx rfl (hb hby at_3) rfl ?_
    refine XS.iconst X0.here hx rfl (hb hby at_4) ?_
    refine XS.irem X0.here hx rfl (hb hby at_5) rfl (by decide) ?_
    show Steps p.tables e below (s₁.setTop (mkF m 6 #[.val (.int p0), .val (.int p1), .val (.int p2), .val (.int p3), .val (.int p4), .unset, .unset, .unset, .unset, .unset, .unset, .unset] [(.int ((p0 &&& (2147483647 : Int32)) - (p0 &&& (2147483647 : Int32)) / (5 : Int32) * (5 : Int32)))])) _
    rw [hn]
    refine XS.istore X0.here hx rfl (hb hby at_6) rfl (l' := #[.val (.int p0), .val (.int p1), .val (.int p2), .val (.int p3), .val (.int p4), .val (.int 2), .unset, .unset, .unset, .unset, .unset, .unset]) rfl ?_
    refine XS.iloadN X0.here hx rfl (hb hby at_8) rfl ?_
    exact k)
  obtain ⟨_, _, ⟨T5, L5, k5, n5⟩, -, X5, ⟨Lc5, hQ5, l5, y5, z5⟩, st5⟩ := Jvm.LawKit.callS X0 hx (y := Nm_0) hown (mvT hZ (wq hw 1 rfl)) (mvT hZ (wq hw 2 rfl)) (mvT hZ (wq hw 3 rfl)) (mvT hZ (wq hw 4 rfl)) (by decide) (backOf (W := 0) (rm1 l Z a0 hw [] p1 h0 n0 Z0) hZ (wq hw 4 rfl) (wq hw 3 rfl) (by decide) (by decide)) (g := (mkF m 9 #[.val (.int p0), .val (.int p1), .val (.int p2), .val (.int p3), .val (.int p4), .val (.int 2), .unset, .unset, .unset, .unset, .unset, .unset] [(.int p1)])) rfl (by rw [hml]; rfl) (argsL := [(.int p1)]) (rest := []) (lenOf pd__I_C rfl) rfl (w00 rfl) (hb hby at_9) (fun _ _ => ⟨rfl, e0, (by decide : 0 + 0 ≤ _), (by decide : 0 + 0 ≤ _)⟩)
  dsimp only [Pt.U, Pt.locs, Pt.cells, Pt.slots] at X5 l5 y5 z5 st5 hQ5
  subst l5 y5 z5
  obtain ⟨rfl, Nq5, e5⟩ := hQ5
  have N5 := Fr.app N0 Nq5
  have pre6 := Go.thn pre4 st5
  have pre7 : Go p e below T5 _ (mkF m 15 #[.val (.int p0), .val (.int p1), .val (.int p2), .val (.int p3), .val (.int p4), .val (.int 2), .val (.int (f1 p1)), .unset, .unset, .unset, .unset, .unset] [(.int p2)]) _ := fun t k => pre6 t (by
    refine XS.istore X5.here hx rfl (hb hby at_12) rfl (l' := #[.val (.int p0), .val (.int p1), .val (.int p2), .val (.int p3), .val (.int p4), .val (.int 2), .val (.int (f1 p1)), .unset, .unset, .unset, .unset, .unset]) rfl ?_
    refine XS.iloadN X5.here hx rfl (hb hby at_14) rfl ?_
    exact k)
  obtain ⟨_, _, ⟨T8, L8, k8, n8⟩, -, X8, ⟨Lc8, hQ8, l8, y8, z8⟩, st8⟩ := Jvm.LawKit.callS X5 hx (y := Nm_0) hown (mvT hZ (wq hw 1 rfl)) (mvT hZ (wq hw 2 rfl)) (mvT hZ (wq hw 3 rfl)) (mvT hZ (wq hw 4 rfl)) (by decide) (backOf (W := 0) (rm1 l Z a0 hw [] p2 h0 n0 Z0) hZ (wq hw 4 rfl) (wq hw 3 rfl) (by decide) (by decide)) (g := (mkF m 15 #[.val (.int p0), .val (.int p1), .val (.int p2), .val (.int p3), .val (.int p4), .val (.int 2), .val (.int (f1 p1)), .unset, .unset, .unset, .unset, .unset] [(.int p2)])) rfl (by rw [hml]; rfl) (argsL := [(.int p2)]) (rest := []) (lenOf pd__I_C rfl) rfl (w00 rfl) (hb hby at_15) (fun _ _ => ⟨rfl, e5, (by decide : 0 + 0 ≤ _), (by decide : 0 + 0 ≤ _)⟩)
  dsimp only [Pt.U, Pt.locs, Pt.cells, Pt.slots] at X8 l8 y8 z8 st8 hQ8
  subst l8 y8 z8
  obtain ⟨rfl, Nq8, e8⟩ := hQ8
  have N8 := Fr.app N5 Nq8
  have pre9 := Go.thn pre7 st8
  have pre10 : Go p e below T8 _ (mkF m 21 #[.val (.int p0), .val (.int p1), .val (.int p2), .val (.int p3), .val (.int p4), .val (.int 2), .val (.int (f1 p1)), .val (.int (f1 p2)), .unset, .unset, .unset, .unset] [(.int p3)]) _ := fun t k => pre9 t (by
    refine XS.istore X8.here hx rfl (hb hby at_18) rfl (l' := #[.val (.int p0), .val (.int p1), .val (.int p2), .val (.int p3), .val (.int p4), .val (.int 2), .val (.int (f1 p1)), .val (.int (f1 p2)), .unset, .unset, .unset, .unset]) rfl ?_
    refine XS.iloadN X8.here hx rfl (hb hby at_20) rfl ?_
    exact k)
  obtain ⟨_, _, ⟨T11, L11, k11, n11⟩, -, X11, ⟨Lc11, hQ11, l11, y11, z11⟩, st11⟩ := Jvm.LawKit.callS X8 hx (y := Nm_0) hown (mvT hZ (wq hw 1 rfl)) (mvT hZ (wq hw 2 rfl)) (mvT hZ (wq hw 3 rfl)) (mvT hZ (wq hw 4 rfl)) (by decide) (backOf (W := 0) (rm1 l Z a0 hw [] p3 h0 n0 Z0) hZ (wq hw 4 rfl) (wq hw 3 rfl) (by decide) (by decide)) (g := (mkF m 21 #[.val (.int p0), .val (.int p1), .val (.int p2), .val (.int p3), .val (.int p4), .val (.int 2), .val (.int (f1 p1)), .val (.int (f1 p2)), .unset, .unset, .unset, .unset] [(.int p3)])) rfl (by rw [hml]; rfl) (argsL := [(.int p3)]) (rest := []) (lenOf pd__I_C rfl) rfl (w00 rfl) (hb hby at_21) (fun _ _ => ⟨rfl, e8, (by decide : 0 + 0 ≤ _), (by decide : 0 + 0 ≤ _)⟩)
  dsimp only [Pt.U, Pt.locs, Pt.cells, Pt.slots] at X11 l11 y11 z11 st11 hQ11
  subst l11 y11 z11
  obtain ⟨rfl, Nq11, e11⟩ := hQ11
  have N11 := Fr.app N8 Nq11
  have pre12 := Go.thn pre10 st11
  have pre13 : Go p e below T11 _ (mkF m 28 #[.val (.int p0), .val (.int p1), .val (.int p2), .val (.int p3), .val (.int p4), .val (.int 2), .val (.int (f1 p1)), .val (.int (f1 p2)), .val (.int (f1 p3)), .unset, .unset, .unset] [(.int p4)]) _ := fun t k => pre12 t (by
    refine XS.istore X11.here hx rfl (hb hby at_24) rfl (l' := #[.val (.int p0), .val (.int p1), .val (.int p2), .val (.int p3), .val (.int p4), .val (.int 2), .val (.int (f1 p1)), .val (.int (f1 p2)), .val (.int (f1 p3)), .unset, .unset, .unset]) rfl ?_
    refine XS.iload X11.here hx rfl (hb hby at_26) rfl ?_
    exact k)
  obtain ⟨_, _, ⟨T14, L14, k14, n14⟩, -, X14, ⟨Lc14, hQ14, l14, y14, z14⟩, st14⟩ := Jvm.LawKit.callS X11 hx (y := Nm_0) hown (mvT hZ (wq hw 1 rfl)) (mvT hZ (wq hw 2 rfl)) (mvT hZ (wq hw 3 rfl)) (mvT hZ (wq hw 4 rfl)) (by decide) (backOf (W := 0) (rm1 l Z a0 hw [] p4 h0 n0 Z0) hZ (wq hw 4 rfl) (wq hw 3 rfl) (by decide) (by decide)) (g := (mkF m 28 #[.val (.int p0), .val (.int p1), .val (.int p2), .val (.int p3), .val (.int p4), .val (.int 2), .val (.int (f1 p1)), .val (.int (f1 p2)), .val (.int (f1 p3)), .unset, .unset, .unset] [(.int p4)])) rfl (by rw [hml]; rfl) (argsL := [(.int p4)]) (rest := []) (lenOf pd__I_C rfl) rfl (w00 rfl) (hb hby at_28) (fun _ _ => ⟨rfl, e11, (by decide : 0 + 0 ≤ _), (by decide : 0 + 0 ≤ _)⟩)
  dsimp only [Pt.U, Pt.locs, Pt.cells, Pt.slots] at X14 l14 y14 z14 st14 hQ14
  subst l14 y14 z14
  obtain ⟨rfl, Nq14, e14⟩ := hQ14
  have N14 := Fr.app N11 Nq14
  have pre15 := Go.thn pre13 st14
  have pre16 : Go p e below T14 _ (mkF m 85 #[.val (.int p0), .val (.int p1), .val (.int p2), .val (.int p3), .val (.int p4), .val (.int 2), .val (.int (f1 p1)), .val (.int (f1 p2)), .val (.int (f1 p3)), .val (.int (f1 p4)), .unset, .unset] []) _ := fun t k => pre15 t (by
    refine XS.istore X14.here hx rfl (hb hby at_31) rfl (l' := #[.val (.int p0), .val (.int p1), .val (.int p2), .val (.int p3), .val (.int p4), .val (.int 2), .val (.int (f1 p1)), .val (.int (f1 p2)), .val (.int (f1 p3)), .val (.int (f1 p4)), .unset, .unset]) rfl ?_
    refine XS.iload X14.here hx rfl (hb hby at_33) rfl ?_
    refine XS.ifYes X14.here hx rfl (pc0 := 35) (pc' := 53) rfl (hb hby at_35) rfl (by decide) (by decide) (by decide) ?_
    refine XS.iload X14.here hx rfl (hb hby at_53) rfl ?_
    refine XS.iconst X14.here hx rfl (hb hby at_55) ?_
    refine XS.icmpYes X14.here hx rfl (pc0 := 56) (pc' := 79) rfl (hb hby at_56) rfl (by decide) (by decide) (by decide) ?_
    refine XS.iload X14.here hx rfl (hb hby at_79) rfl ?_
    refine XS.iconst X14.here hx rfl (hb hby at_81) ?_
    refine XS.icmpNo X14.here hx rfl (hb hby at_82) rfl (by decide) ?_
    exact k)
  obtain ⟨T17, h17, X17, e17, E17, A17, D17, -, st17⟩ := newO X14 hx hZ hown (wq hw 6 rfl) (wq hw 7 rfl) (wq hw 8 rfl) e14 (g := (mkF m 85 #[.val (.int p0), .val (.int p1), .val (.int p2), .val (.int p3), .val (.int p4), .val (.int 2), .val (.int (f1 p1)), .val (.int (f1 p2)), .val (.int (f1 p3)), .val (.int (f1 p4)), .unset, .unset] [])) rfl (hb hby at_85) (by decide) (by decide)
  obtain ⟨b85, g17⟩ : ∃ z, z = h0.size := ⟨_, rfl⟩
  rw [← g17] at A17 D17 st17
  have gg17 : n0 ≤ b85 := Nat.le_trans Z0 (Nat.le_of_eq g17.symm)
  have sz17 : h0.size ≤ b85 := Nat.le_trans K0.1 (Nat.le_of_eq g17.symm)
  have K17 : Keep h0 h17 [] := K0.ext E17
  have Z17 : n0 ≤ h17.size := Nat.le_trans Z0 E17.1
  have x18 := I0.ext E17
  have x19 := I1.ext E17
  have x20 := I2.ext E17
  have x21 := I3.ext E17
  have x22 := I4.ext E17
  have Fn17_value : Fld Z h17 b85 "java/lang/String" "value" "[B" .null := D17 (Or.inr (wq hw 22 rfl)) (ty := (.array .byte)) (by decide)
  have Fn17_coder : Fld Z h17 b85 "java/lang/String" "coder" "B" (.int 0) := D17 (Or.inr (wq hw 23 rfl)) (ty := .byte) (by decide)
  have pre23 := Go.thn pre16 st17
  have pre24 : Go p e below T17 _ (mkF m 90 #[.val (.int p0), .val (.int p1), .val (.int p2), .val (.int p3), .val (.int p4), .val (.int 2), .val (.int (f1 p1)), .val (.int (f1 p2)), .val (.int (f1 p3)), .val (.int (f1 p4)), .unset, .unset] [(.int 2), (.ref b85), (.ref b85)]) _ := fun t k => pre23 t (by
    refine XS.dup X17.here hx rfl (hb hby at_88) rfl rfl ?_
    refine XS.iconst X17.here hx rfl (hb hby at_89) ?_
    exact k)
  obtain ⟨T25, h25, k25, X25, e25, E25, A25, st25⟩ := newP X17 hx hZ (wq hw 9 rfl) e17 (g := (mkF m 90 #[.val (.int p0), .val (.int p1), .val (.int p2), .val (.int p3), .val (.int p4), .val (.int 2), .val (.int (f1 p1)), .val (.int (f1 p2)), .val (.int (f1 p3)), .val (.int (f1 p4)), .unset, .unset] [(.int 2), (.ref b85), (.ref b85)])) rfl (hb hby at_90) rfl (by decide) (cap := 2) (by decide) (by decide) (by decide) (by decide)
  obtain ⟨b90, g25⟩ : ∃ z, z = h17.size := ⟨_, rfl⟩
  rw [← g25] at A25 st25
  have gg25 : n0 ≤ b90 := Nat.le_trans Z17 (Nat.le_of_eq g25.symm)
  have sz25 : h0.size ≤ b90 := Nat.le_trans K17.1 (Nat.le_of_eq g25.symm)
  have K25 : Keep h0 h25 [] := K17.ext E25
  have Z25 : n0 ≤ h25.size := Nat.le_trans Z17 E25.1
  have V25 : Arv Z h25 b90 k25 .char (2 : Int32) [(.int 0), (.int 0)] (.int 0) := (Arv.new A25 (by decide)).pad (pad_rep [] (.int 0) 2)
  have ne25_b85 : b85 ≠ b90 := Nat.ne_of_lt (Nat.lt_of_lt_of_le A17.lt (Nat.le_of_eq g25.symm))
  have x26 := x18.ext E25
  have x27 := x19.ext E25
  have x28 := x20.ext E25
  have x29 := x21.ext E25
  have x30 := x22.ext E25
  have x31 := A17.ext E25
  have x32 := Fn17_value.ext E25
  have x33 := Fn17_coder.ext E25
  have pre34 := Go.thn pre24 st25
  have pre35 : Go p e below T25 _ (mkF m 96 #[.val (.int p0), .val (.int p1), .val (.int p2), .val (.int p3), .val (.int p4), .val (.int 2), .val (.int (f1 p1)), .val (.int (f1 p2)), .val (.int (f1 p3)), .val (.int (f1 p4)), .unset, .unset] [(.int (f1 p1)), (.int 0), (.ref b90), (.ref b90), (.ref b85), (.ref b85)]) _ := fun t k => pre34 t (by
    refine XS.dup X25.here hx rfl (hb hby at_92) rfl rfl ?_
    refine XS.iconst X25.here hx rfl (hb hby at_93) ?_
    refine XS.iload X25.here hx rfl (hb hby at_94) rfl ?_
    exact k)
  obtain ⟨cl36, Ar36, q36, Sz36, Mn36, Hs36, Gs36⟩ := id V25
  have hin36 : ¬ ((0 : Int32) < 0 ∨ cl36.slots.size ≤ ((0 : Int32)).toNatClampNeg) := inb_of Sz36 ⟨by decide, by decide⟩
  obtain ⟨T36, h36, X36, e36, W36, st36⟩ := stC X25 hx hZ e25 Ar36 (j := (0 : Int32)) hin36 (g := (mkF m 96 #[.val (.int p0), .val (.int p1), .val (.int p2), .val (.int p3), .val (.int p4), .val (.int 2), .val (.int (f1 p1)), .val (.int (f1 p2)), .val (.int (f1 p3)), .val (.int (f1 p4)), .unset, .unset] [(.int (f1 p1)), (.int 0), (.ref b90), (.ref b90), (.ref b85), (.ref b85)])) rfl rfl (hb hby at_96)
  have V36 : Arv Z h36 b90 k25 .char (2 : Int32) [(.int (nar .char (f1 p1))), (.int 0)] (.int 0) := Arv.set Ar36 q36 Sz36 Mn36 Hs36 Gs36 (fits_nar_char _) W36 0 rfl (Nat.le_of_ble_eq_true rfl)
  have N36 := Fr.snoc X36 N14 gg25
  have K36 : Keep h0 h36 [] := K25.wr W36 (Or.inr sz25)
  have Z36 : n0 ≤ h36.size := Nat.le_trans Z25 (Keep.of_wr W36).1
  have x37 := x26.wr W36
  have x38 := x27.wr W36
  have x39 := x28.wr W36
  have x40 := x29.wr W36
  have x41 := x30.wr W36
  have x42 := x31.wr W36
  have x43 := x32.other W36 (Or.inl ne25_b85)
  have x44 := x33.other W36 (Or.inl ne25_b85)
  have pre45 := Go.thn pre35 st36
  have pre46 : Go p e below T36 _ (mkF m 101 #[.val (.int p0), .val (.int p1), .val (.int p2), .val (.int p3), .val (.int p4), .val (.int 2), .val (.int (f1 p1)), .val (.int (f1 p2)), .val (.int (f1 p3)), .val (.int (f1 p4)), .unset, .unset] [(.int (f1 p2)), (.int 1), (.ref b90), (.ref b90), (.ref b85), (.ref b85)]) _ := fun t k => pre45 t (by
    refine XS.dup X36.here hx rfl (hb hby at_97) rfl rfl ?_
    refine XS.iconst X36.here hx rfl (hb hby at_98) ?_
    refine XS.iload X36.here hx rfl (hb hby at_99) rfl ?_
    exact k)
  obtain ⟨cl47, Ar47, q47, Sz47, Mn47, Hs47, Gs47⟩ := id V36
  have hin47 : ¬ ((1 : Int32) < 0 ∨ cl47.slots.size ≤ ((1 : Int32)).toNatClampNeg) := inb_of Sz47 ⟨by decide, by decide⟩
  obtain ⟨T47, h47, X47, e47, W47, st47⟩ := stC X36 hx hZ e36 Ar47 (j := (1 : Int32)) hin47 (g := (mkF m 101 #[.val (.int p0), .val (.int p1), .val (.int p2), .val (.int p3), .val (.int p4), .val (.int 2), .val (.int (f1 p1)), .val (.int (f1 p2)), .val (.int (f1 p3)), .val (.int (f1 p4)), .unset, .unset] [(.int (f1 p2)), (.int 1), (.ref b90), (.ref b90), (.ref b85), (.ref b85)])) rfl rfl (hb hby at_101)
  have V47 : Arv Z h47 b90 k25 .char (2 : Int32) [(.int (nar .char (f1 p1))), (.int (nar .char (f1 p2)))] (.int 0) := Arv.set Ar47 q47 Sz47 Mn47 Hs47 Gs47 (fits_nar_char _) W47 1 rfl (Nat.le_of_ble_eq_true rfl)
  have N47 := Fr.snoc X47 N36 gg25
  have K47 : Keep h0 h47 [] := K36.wr W47 (Or.inr sz25)
  have Z47 : n0 ≤ h47.size := Nat.le_trans Z36 (Keep.of_wr W47).1
  have x48 := x37.wr W47
  have x49 := x38.wr W47
  have x50 := x39.wr W47
  have x51 := x40.wr W47
  have x52 := x41.wr W47
  have x53 := x42.wr W47
  have x54 := x43.other W47 (Or.inl ne25_b85)
  have x55 := x44.other W47 (Or.inl ne25_b85)
  have pre56 := Go.thn pre46 st47
  obtain ⟨_, _, ⟨T57, L57, k57, n57⟩, -, X57, ⟨Lc57, hQ57, l57, y57, z57⟩, st57⟩ := X47.specialBack hx (y := Nm_23) rfl hown (mvT hZ (wq hw 10 rfl)) (mvT hZ (wq hw 11 rfl)) (mvT hZ (wq hw 12 rfl)) (by decide) (backOf (W := 1) (rm2_2U l Z a0 hw [] b85 b90 wcs _ (nar .char (f1 p1)) (nar .char (f1 p2)) h47 n0 Z47 x48 x50 x51 x52 x53 x54 x55 V47 gg17 (Ne.symm ne25_b85) hcs (own_nr _) (own_nr _) hU) hZ (wq hw 12 rfl) (wq hw 8 rfl) (by decide) (by decide)) (g := (mkF m 102 #[.val (.int p0), .val (.int p1), .val (.int p2), .val (.int p3), .val (.int p4), .val (.int 2), .val (.int (f1 p1)), .val (.int (f1 p2)), .val (.int (f1 p3)), .val (.int (f1 p4)), .unset, .unset] [(.ref b90), (.ref b85), (.ref b85)])) rfl (by rw [hml]; rfl) (Steps.refl _) (a := b85) (argsL := [(.ref b90)]) (rest := [(.ref b85)]) (lenOf pd___C_V rfl) rfl (w00 rfl) (hb hby at_102) (fun _ _ => ⟨rfl, e47, (by decide : 2 + 2 ≤ _), (by decide : 6 + 6 ≤ _)⟩)
  dsimp only [Pt.U, Pt.locs, Pt.cells, Pt.slots] at X57 l57 y57 z57 st57 hQ57
  subst l57 y57 z57
  obtain ⟨b102_0, k_b6_0_57, rfl, Nq57, Kq57, gz57_b102_0, o57_0, o57_1, o57_2, o57_3⟩ := hQ57
  have N57 := Fr.app N47 Nq57
  have K57 : Keep h0 T57.heap [] := K47.trans Kq57 (allS (Or.inr sz17) all0)
  have Z57 : n0 ≤ T57.heap.size := Nat.le_trans Z47 Kq57.1
  have x58 := own_staK x48 Kq57 (allS (own_plE x53) all0)
  have x59 := own_staK x49 Kq57 (allS (own_plE x53) all0)
  have x60 := own_staK x50 Kq57 (allS (own_plE x53) all0)
  have x61 := own_staK x51 Kq57 (allS (own_plE x53) all0)
  have x62 := own_staK x52 Kq57 (allS (own_plE x53) all0)
  have x63 := x53.keep Kq57
  have x64 := V47.keep Kq57 (ninS (Ne.symm ne25_b85) nin0)
  have gg57_b102_0 : n0 ≤ b102_0 := Nat.le_trans Z47 gz57_b102_0
  have sz57_b102_0 : h0.size ≤ b102_0 := Nat.le_trans K47.1 gz57_b102_0
  have ne57_b85_b102_0 : b85 ≠ b102_0 := Nat.ne_of_lt (Nat.lt_of_lt_of_le x53.lt gz57_b102_0)
  have ne57_b90_b102_0 : b90 ≠ b102_0 := Nat.ne_of_lt (Nat.lt_of_lt_of_le V47.lt gz57_b102_0)
  have pre65 := Go.trn pre56 st57
  have pre66 : Go p e below T57 _ (mkF m 188 #[.val (.int p0), .val (.int p1), .val (.int p2), .val (.int p3), .val (.int p4), .val (.int 2), .val (.int (f1 p1)), .val (.int (f1 p2)), .val (.int (f1 p3)), .val (.int (f1 p4)), .val (.ref b85), .val (.int 0)] [(.int (f1 p1))]) _ := fun t k => pre65 t (by
    refine XS.astore X57.here hx rfl (hb hby at_105) rfl rfl (l' := #[.val (.int p0), .val (.int p1), .val (.int p2), .val (.int p3), .val (.int p4), .val (.int 2), .val (.int (f1 p1)), .val (.int (f1 p2)), .val (.int (f1 p3)), .val (.int (f1 p4)), .val (.ref b85), .unset]) rfl ?_
    refine XS.goto X57.here hx rfl (pc0 := 107) (pc' := 178) rfl (hb hby at_107) (by decide) (by decide) ?_
    refine XS.iconst X57.here hx rfl (hb hby at_178) ?_
    refine XS.istore X57.here hx rfl (hb hby at_179) rfl (l' := #[.val (.int p0), .val (.int p1), .val (.int p2), .val (.int p3), .val (.int p4), .val (.int 2), .val (.int (f1 p1)), .val (.int (f1 p2)), .val (.int (f1 p3)), .val (.int (f1 p4)), .val (.ref b85), .val (.int 0)]) rfl ?_
    refine XS.iload X57.here hx rfl (hb hby at_181) rfl ?_
    refine XS.ifNo X57.here hx rfl (hb hby at_183) rfl (by decide) ?_
    refine XS.iload X57.here hx rfl (hb hby at_186) rfl ?_
    exact k)
  obtain ⟨_, _, ⟨T67, L67, k67, n67⟩, -, X67, ⟨Lc67, hQ67, l67, y67, z67⟩, st67⟩ := Jvm.LawKit.callS X57 hx (y := Nm_1) hown (mvT hZ (wq hw 53 rfl)) (mvT hZ (wq hw 54 rfl)) (mvT hZ (wq hw 3 rfl)) (mvT hZ (wq hw 55 rfl)) (by decide) (backOf (W := 0) (rm11 l Z a0 hw [] (f1 p1) T57.heap n0 Z57) hZ (wq hw 55 rfl) (wq hw 3 rfl) (by decide) (by decide)) (g := (mkF m 188 #[.val (.int p0), .val (.int p1), .val (.int p2), .val (.int p3), .val (.int p4), .val (.int 2), .val (.int (f1 p1)), .val (.int (f1 p2)), .val (.int (f1 p3)), .val (.int (f1 p4)), .val (.ref b85), .val (.int 0)] [(.int (f1 p1))])) rfl (by rw [hml]; rfl) (argsL := [(.int (f1 p1))]) (rest := []) (lenOf pd__C_Z rfl) rfl (w00 rfl) (hb hby at_188) (fun _ _ => ⟨rfl, rfl, (by decide : 4 + 0 ≤ _), (by decide : 12 + 0 ≤ _)⟩)
  dsimp only [Pt.U, Pt.locs, Pt.cells, Pt.slots] at X67 l67 y67 z67 st67 hQ67
  subst l67 y67 z67
  obtain ⟨rfl, Nq67, e67⟩ := hQ67
  have N67 := Fr.app N57 Nq67
  have pre68 := Go.thn pre66 st67
  obtain ⟨T69, L69, X69, e69, N69, pre69⟩ : ∃ (T' : State) (L' : List Loc), Stand p l e room_1 s m #[(.int p0), (.int p1), (.int p2), (.int p3), (.int p4)] below meth c T' L' 4 12 ∧ T'.heap = T57.heap ∧ Fr n0 L' ∧ ∀ t, Steps p.tables e below (T'.setTop (mkF m 248 #[.val (.int p0), .val (.int p1), .val (.int p2), .val (.int p3), .val (.int p4), .val (.int 2), .val (.int (f1 p1)), .val (.int (f1 p2)), .val (.int (f1 p3)), .val (.int (f1 p4)), .val (.ref b85), .val (.int (v0_2U_248_l11 p1 p2))] [])) t → Steps p.tables e below (s₁.setTop (entryFrame m #[(.int p0), (.int p1), (.int p2), (.int p3), (.int p4)] maxLocals)) t := by
    by_cases hc191_1 : (f11 (f1 p1)) = (0 : Int32)
    · have pre70 : Go p e below T67 _ (mkF m 248 #[.val (.int p0), .val (.int p1), .val (.int p2), .val (.int p3), .val (.int p4), .val (.int 2), .val (.int (f1 p1)), .val (.int (f1 p2)), .val (.int (f1 p3)), .val (.int (f1 p4)), .val (.ref b85), .val (.int 0)] []) _ := fun t k => pre68 t (by
        refine XS.ifYes X67.here hx rfl (pc0 := 191) (pc' := 248) rfl (hb hby at_191) rfl ((if0 _ _).trans (teq hc191_1).1) (by decide) (by decide) ?_
        exact k)
      exact ⟨T67, _, X67, e67, N67, fun t k => pre70 t (by simpa only [v0_2U_248_l11, if_pos hc191_1] using k)⟩
    · have pre71 : Go p e below T67 _ (mkF m 205 #[.val (.int p0), .val (.int p1), .val (.int p2), .val (.int p3), .val (.int p4), .val (.int 2), .val (.int (f1 p1)), .val (.int (f1 p2)), .val (.int (f1 p3)), .val (.int (f1 p4)), .val (.ref b85), .val (.int 1)] [(.int (f1 p2))]) _ := fun t k => pre68 t (by
        refine XS.ifNo X67.here hx rfl (hb hby at_191) rfl ((if0 _ _).trans (feq hc191_1).1) ?_
        refine XS.iconst X67.here hx rfl (hb hby at_194) ?_
        refine XS.istore X67.here hx rfl (hb hby at_195) rfl (l' := #[.val (.int p0), .val (.int p1), .val (.int p2), .val (.int p3), .val (.int p4), .val (.int 2), .val (.int (f1 p1)), .val (.int (f1 p2)), .val (.int (f1 p3)), .val (.int (f1 p4)), .val (.ref b85), .val (.int 1)]) rfl ?_
        refine XS.iload X67.here hx rfl (hb hby at_197) rfl ?_
        refine XS.iconst X67.here hx rfl (hb hby at_199) ?_
        refine XS.icmpNo X67.here hx rfl (hb hby at_200) rfl (by decide) ?_
        refine XS.iload X67.here hx rfl (hb hby at_203) rfl ?_
        exact k)
      obtain ⟨_, _, ⟨T72, L72, k72, n72⟩, -, X72, ⟨Lc72, hQ72, l72, y72, z72⟩, st72⟩ := Jvm.LawKit.callS X67 hx (y := Nm_1) hown (mvT hZ (wq hw 53 rfl)) (mvT hZ (wq hw 54 rfl)) (mvT hZ (wq hw 3 rfl)) (mvT hZ (wq hw 55 rfl)) (by decide) (backOf (W := 0) (rm11 l Z a0 hw [] (f1 p2) T57.heap n0 Z57) hZ (wq hw 55 rfl) (wq hw 3 rfl) (by decide) (by decide)) (g := (mkF m 205 #[.val (.int p0), .val (.int p1), .val (.int p2), .val (.int p3), .val (.int p4), .val (.int 2), .val (.int (f1 p1)), .val (.int (f1 p2)), .val (.int (f1 p3)), .val (.int (f1 p4)), .val (.ref b85), .val (.int 1)] [(.int (f1 p2))])) rfl (by rw [hml]; rfl) (argsL := [(.int (f1 p2))]) (rest := []) (lenOf pd__C_Z rfl) rfl (w00 rfl) (hb hby at_205) (fun _ _ => ⟨rfl, e67, (by decide : 4 + 0 ≤ _), (by decide : 12 + 0 ≤ _)⟩)
      dsimp only [Pt.U, Pt.locs, Pt.cells, Pt.slots] at X72 l72 y72 z72 st72 hQ72
      subst l72 y72 z72
      obtain ⟨rfl, Nq72, e72⟩ := hQ72
      have N72 := Fr.app N67 Nq72
      have pre73 := Go.thn pre71 st72
      by_cases hc208_2 : (f11 (f1 p2)) = (0 : Int32)
      · have pre74 : Go p e below T72 _ (mkF m 248 #[.val (.int p0), .val (.int p1), .val (.int p2), .val (.int p3), .val (.int p4), .val (.int 2), .val (.int (f1 p1)), .val (.int (f1 p2)), .val (.int (f1 p3)), .val (.int (f1 p4)), .val (.ref b85), .val (.int 1)] []) _ := fun t k => pre73 t (by
          refine XS.ifYes X72.here hx rfl (pc0 := 208) (pc' := 248) rfl (hb hby at_208) rfl ((if0 _ _).trans (teq hc208_2).1) (by decide) (by decide) ?_
          exact k)
        exact ⟨T72, _, X72, e72, N72, fun t k => pre74 t (by simpa only [v0_2U_248_l11, if_neg hc191_1, if_pos hc208_2] using k)⟩
      · have pre75 : Go p e below T72 _ (mkF m 248 #[.val (.int p0), .val (.int p1), .val (.int p2), .val (.int p3), .val (.int p4), .val (.int 2), .val (.int (f1 p1)), .val (.int (f1 p2)), .val (.int (f1 p3)), .val (.int (f1 p4)), .val (.ref b85), .val (.int 2)] []) _ := fun t k => pre73 t (by
          refine XS.ifNo X72.here hx rfl (hb hby at_208) rfl ((if0 _ _).trans (feq hc208_2).1) ?_
          refine XS.iconst X72.here hx rfl (hb hby at_211) ?_
          refine XS.istore X72.here hx rfl (hb hby at_212) rfl (l' := #[.val (.int p0), .val (.int p1), .val (.int p2), .val (.int p3), .val (.int p4), .val (.int 2), .val (.int (f1 p1)), .val (.int (f1 p2)), .val (.int (f1 p3)), .val (.int (f1 p4)), .val (.ref b85), .val (.int 2)]) rfl ?_
          refine XS.iload X72.here hx rfl (hb hby at_214) rfl ?_
          refine XS.iconst X72.here hx rfl (hb hby at_216) ?_
          refine XS.icmpYes X72.here hx rfl (pc0 := 217) (pc' := 248) rfl (hb hby at_217) rfl (by decide) (by decide) (by decide) ?_
          exact k)
        exact ⟨T72, _, X72, e72, N72, fun t k => pre75 t (by simpa only [v0_2U_248_l11, if_neg hc191_1, if_neg hc208_2] using k)⟩
  have pre76 : Go p e below T69 _ (mkF m 250 #[.val (.int p0), .val (.int p1), .val (.int p2), .val (.int p3), .val (.int p4), .val (.int 2), .val (.int (f1 p1)), .val (.int (f1 p2)), .val (.int (f1 p3)), .val (.int (f1 p4)), .val (.ref b85), .val (.int (v0_2U_248_l11 p1 p2))] [(.ref b85)]) _ := fun t k => pre69 t (by
    refine XS.aload X69.here hx rfl (hb hby at_248) rfl rfl ?_
    exact k)
  obtain ⟨_, _, ⟨T77, L77, k77, n77⟩, -, X77, ⟨Lc77, hQ77, l77, y77, z77⟩, st77⟩ := Jvm.LawKit.callS X69 hx (y := Nm_14) hown (mvT hZ (wq hw 28 rfl)) (mvT hZ (wq hw 29 rfl)) (mvT hZ (wq hw 30 rfl)) (mvT hZ (wq hw 31 rfl)) (by decide) (backOf (W := 0) (rm5_U l Z a0 hw [] b85 wcs wsf b102_0 _ (4 : Int32) [(own_b0 (nar .char (f1 p1))), (own_b8 (nar .char (f1 p1))), (own_b0 (nar .char (f1 p2))), (own_b8 (nar .char (f1 p2)))] T57.heap n0 Z57 x58 x59 o57_0 x60 x61 x62 o57_1 o57_2 o57_3 hcs hsf (Or.inr (Or.inl rfl)) (by decide)) hZ (wq hw 31 rfl) (wq hw 30 rfl) (by decide) (by decide)) (g := (mkF m 250 #[.val (.int p0), .val (.int p1), .val (.int p2), .val (.int p3), .val (.int p4), .val (.int 2), .val (.int (f1 p1)), .val (.int (f1 p2)), .val (.int (f1 p3)), .val (.int (f1 p4)), .val (.ref b85), .val (.int (v0_2U_248_l11 p1 p2))] [(.ref b85)])) rfl (by rw [hml]; rfl) (argsL := [(.ref b85)]) (rest := []) (lenOf pd__Ljava_lang_String__I rfl) rfl (w00 rfl) (hb hby at_250) (fun _ _ => ⟨rfl, e69, (by decide : 4 + 0 ≤ _), (by decide : 12 + 0 ≤ _)⟩)
  dsimp only [Pt.U, Pt.locs, Pt.cells, Pt.slots] at X77 l77 y77 z77 st77 hQ77
  subst l77 y77 z77
  obtain ⟨rfl, Nq77, e77⟩ := hQ77
  have N77 := Fr.app N69 Nq77
  have pre78 := Go.thn pre76 st77
  have pre79 : Go p e below T77 _ (mkF m 255 #[.val (.int p0), .val (.int p1), .val (.int p2), .val (.int p3), .val (.int p4), .val (.int 2), .val (.int (f1 p1)), .val (.int (f1 p2)), .val (.int (f1 p3)), .val (.int (f1 p4)), .val (.ref b85), .val (.int (v0_2U_248_l11 p1 p2))] [(.int (v0_2U_248_l11 p1 p2)), (.int (f5_U (4 : Int32) [(own_b0 (nar .char (f1 p1))), (own_b8 (nar .char (f1 p1))), (own_b0 (nar .char (f1 p2))), (own_b8 (nar .char (f1 p2)))]))]) _ := fun t k => pre78 t (by
    refine XS.iload X77.here hx rfl (hb hby at_253) rfl ?_
    exact k)
  by_cases hc255_3 : (f5_U (4 : Int32) [(own_b0 (nar .char (f1 p1))), (own_b8 (nar .char (f1 p1))), (own_b0 (nar .char (f1 p2))), (own_b8 (nar .char (f1 p2)))]) = (v0_2U_248_l11 p1 p2)
  · have pre80 : Go p e below T77 _ (mkF m 263 #[.val (.int p0), .val (.int p1), .val (.int p2), .val (.int p3), .val (.int p4), .val (.int 2), .val (.int (f1 p1)), .val (.int (f1 p2)), .val (.int (f1 p3)), .val (.int (f1 p4)), .val (.ref b85), .val (.int (v0_2U_248_l11 p1 p2))] [(.int 1)]) _ := fun t k => pre79 t (by
      refine XS.icmpNo X77.here hx rfl (hb hby at_255) rfl (teq hc255_3).2 ?_
      refine XS.iconst X77.here hx rfl (hb hby at_258) ?_
      refine XS.goto X77.here hx rfl (pc0 := 259) (pc' := 263) rfl (hb hby at_259) (by decide) (by decide) ?_
      exact k)
    obtain ⟨fs, hr, hrun, hended, hW, hsame⟩ := X77.leave (v := some (.int 1)) (fun h => by rw [Bd.returns] at h; cases h)
    refine ⟨_, _, ?_, hrun, hended, _, _, rfl, ?_, ⟨_, rfl⟩, hW, hsame.mono (by decide) (by decide)⟩
    · exact pre80 _ (retN X77 hx (t := .boolean) Bd.returns (by simp) (hb hby at_263) hr)
    · exact ⟨by simp only [f0_2U, if_pos hc255_3], N77, trivial⟩
  · have pre81 : Go p e below T77 _ (mkF m 263 #[.val (.int p0), .val (.int p1), .val (.int p2), .val (.int p3), .val (.int p4), .val (.int 2), .val (.int (f1 p1)), .val (.int (f1 p2)), .val (.int (f1 p3)), .val (.int (f1 p4)), .val (.ref b85), .val (.int (v0_2U_248_l11 p1 p2))] [(.int 0)]) _ := fun t k => pre79 t (by
      refine XS.icmpYes X77.here hx rfl (pc0 := 255) (pc' := 262) rfl (hb hby at_255) rfl (feq hc255_3).2 (by decide) (by decide) ?_
      refine XS.iconst X77.here hx rfl (hb hby at_262) ?_
      exact k)
    obtain ⟨fs, hr, hrun, hended, hW, hsame⟩ := X77.leave (v := some (.int 0)) (fun h => by rw [Bd.returns] at h; cases h)
    refine ⟨_, _, ?_, hrun, hended, _, _, rfl, ?_, ⟨_, rfl⟩, hW, hsame.mono (by decide) (by decide)⟩
    · exact pre81 _ (retN X77 hx (t := .boolean) Bd.returns (by simp) (hb hby at_263) hr)
    · exact ⟨by simp only [f0_2U, if_neg hc255_3], N77, trivial⟩
def v0_3L_248_l11 (p1 : Int32) (p2 : Int32) (p3 : Int32) : Int32 := (if (f11 (f1 p1)) = (0 : Int32) then (0 : Int32) else (if (f11 (f1 p2)) = (0 : Int32) then (1 : Int32) else (if (f11 (f1 p3)) = (0 : Int32) then (2 : Int32) else (3 : Int32))))
def f0_3L (p1 : Int32) (p2 : Int32) (p3 : Int32) : Int32 := (if (f5_L (3 : Int32) [(g9_3_o2_0 (nar .char (f1 p1))), (g9_3_o2_1 (nar .char (f1 p1)) (nar .char (f1 p2))), (g9_3_o2_2 (nar .char (f1 p1)) (nar .char (f1 p2)) (nar .char (f1 p3)))]) = (v0_3L_248_l11 p1 p2 p3) then (1 : Int32) else (0 : Int32))
set_option maxRecDepth 65536 in
set_option maxHeartbeats 40000000 in
theorem rm0_3L (l : Launch) (Z : State) (a0 : Array Value) (hw : ∀ d ∈ tables_1, d.before a0 Z = true) (ws : List Jvm.Cond) (p0 : Int32) (p1 : Int32) (p2 : Int32) (p3 : Int32) (p4 : Int32) (wcs : Int32) (wsf : Value) (h0 : Heap) (n0 : Nat) (Z0 : n0 ≤ h0.size) (I0 : Sta Z h0 "java/lang/String" "COMPACT_STRINGS" "Z" (.int wcs)) (I1 : Sta Z h0 "jdk/internal/util/Preconditions" "SIOOBE_FORMATTER" "Ljava/util/function/BiFunction;" wsf) (I2 : Sta Z h0 "java/lang/StringUTF16" "$assertionsDisabled" "Z" (.int 1)) (I3 : Sta Z h0 "java/lang/StringUTF16" "HI_BYTE_SHIFT" "I" (.int 0)) (I4 : Sta Z h0 "java/lang/StringUTF16" "LO_BYTE_SHIFT" "I" (.int 8)) (hn : ((p0 &&& (2147483647 : Int32)) - (p0 &&& (2147483647 : Int32)) / (5 : Int32) * (5 : Int32)) = (3 : Int32)) (hcs : ¬ (wcs = (0 : Int32))) (hsf : wsf.isRef = true) (hl0 : ¬ ((255 : Int32) < (nar .char (f1 p1)))) (hl1 : ¬ ((255 : Int32) < (nar .char (f1 p2)))) (hl2 : ¬ ((255 : Int32) < (nar .char (f1 p3)))) :
    Met1 l x (Jvm.Cond.code x code maxLocals ret) ws room_1 #[(.int p0), (.int p1), (.int p2), (.int p3), (.int p4)] Z h0 (QL (some (.int (f0_3L p1 p2 p3))) n0) := by
  refine MetFree.of_bodySF (plainFor_of_name pn_0) hisR ?_
  intro p e s m args below meth c s₁ Bd hml0 hP hK
  obtain ⟨rfl, hZ, hh⟩ := hP
  have hx := Bd.exec
  have hby := Bd.bytes
  have hml : c.maxLocals = 12 := hml0
  have hown : s.vm.findClass "com/example/stint/stint/WholeNumberLeadingDigitsPinLaw" = some m.cls := findClass_of_methodNamed Bd.named
  have X0 : Stand p l e room_1 s m _ _ _ _ _ [] 0 0 := Stand.of_body Bd
  have e0 : s₁.heap = h0 := by rw [← hh, Bd.state]; rfl
  have N0 := Fr.nil n0
  have K0 : Keep h0 h0 [] := Keep.refl _ _
  have pre0 : Go p e below s₁ _ (mkF m 0 #[.val (.int p0), .val (.int p1), .val (.int p2), .val (.int p3), .val (.int p4), .unset, .unset, .unset, .unset, .unset, .unset, .unset] []) _ := fun t k => castTop (ef_0 m p0 p1 p2 p3 p4) k
  have pre5 : Go p e below s₁ _ (mkF m 9 #[.val (.int p0), .val (.int p1), .val (.int p2), .val (.int p3), .val (.int p4), .val (.int 3), .unset, .unset, .unset, .unset, .unset, .unset] [(.int p1)]) _ := fun t k => pre0 t (by
    refine XS.iloadN X0.here hx rfl (hb hby at_0) rfl ?_
    refine X0.ldcInt hx hown (mvT hZ (wq hw 0 rfl)) (g := (mkF m 1 #[.val (.int p0), .val (.int p1), .val (.int p2), .val (.int p3), .val (.int p4), .unset, .unset, .unset, .unset, .unset, .unset, .unset] [(.int p0)])) rfl (hb hby at_1) _ ?_
    refine XS.iand X0.here hx rfl (hb hby at_3) rfl ?_
    refine XS.iconst X0.here hx rfl (hb hby at_4) ?_
    refine XS.irem X0.here hx rfl (hb hby at_5) rfl (by decide) ?_
    show Steps p.tables e below (s₁.setTop (mkF m 6 #[.val (.int p0), .val (.int p1), .val (.int p2), .val (.int p3), .val (.int p4), .unset, .unset, .unset, .unset, .unset, .unset, .unset] [(.int ((p0 &&& (2147483647 : Int32)) - (p0 &&& (2147483647 : Int32)) / (5 : Int32) * (5 : Int32)))])) _
    rw [hn]
    refine XS.istore X0.here hx rfl (hb hby at_6) rfl (l' := #[.val (.int p0), .val (.int p1), .val (.int p2), .val (.int p3), .val (.int p4), .val (.int 3), .unset, .unset, .unset, .unset, .unset, .unset]) rfl ?_
    refine XS.iloadN X0.here hx rfl (hb hby at_8) rfl ?_
    exact k)
  obtain ⟨_, _, ⟨T6, L6, k6, n6⟩, -, X6, ⟨Lc6, hQ6, l6, y6, z6⟩, st6⟩ := Jvm.LawKit.callS X0 hx (y := Nm_0) hown (mvT hZ (wq hw 1 rfl)) (mvT hZ (wq hw 2 rfl)) (mvT hZ (wq hw 3 rfl)) (mvT hZ (wq hw 4 rfl)) (by decide) (backOf (W := 0) (rm1 l Z a0 hw [] p1 h0 n0 Z0) hZ (wq hw 4 rfl) (wq hw 3 rfl) (by decide) (by decide)) (g := (mkF m 9 #[.val (.int p0), .val (.int p1), .val (.int p2), .val (.int p3), .val (.int p4), .val (.int 3), .unset, .unset, .unset, .unset, .unset, .unset] [(.int p1)])) rfl (by rw [hml]; rfl) (argsL := [(.int p1)]) (rest := []) (lenOf pd__I_C rfl) rfl (w00 rfl) (hb hby at_9) (fun _ _ => ⟨rfl, e0, (by decide : 0 + 0 ≤ _), (by decide : 0 + 0 ≤ _)⟩)
  dsimp only [Pt.U, Pt.locs, Pt.cells, Pt.slots] at X6 l6 y6 z6 st6 hQ6
  subst l6 y6 z6
  obtain ⟨rfl, Nq6, e6⟩ := hQ6
  have N6 := Fr.app N0 Nq6
  have pre7 := Go.thn pre5 st6
  have pre8 : Go p e below T6 _ (mkF m 15 #[.val (.int p0), .val (.int p1), .val (.int p2), .val (.int p3), .val (.int p4), .val (.int 3), .val (.int (f1 p1)), .unset, .unset, .unset, .unset, .unset] [(.int p2)]) _ := fun t k => pre7 t (by
    refine XS.istore X6.here hx rfl (hb hby at_12) rfl (l' := #[.val (.int p0), .val (.int p1), .val (.int p2), .val (.int p3), .val (.int p4), .val (.int 3), .val (.int (f1 p1)), .unset, .unset, .unset, .unset, .unset]) rfl ?_
    refine XS.iloadN X6.here hx rfl (hb hby at_14) rfl ?_
    exact k)
  obtain ⟨_, _, ⟨T9, L9, k9, n9⟩, -, X9, ⟨Lc9, hQ9, l9, y9, z9⟩, st9⟩ := Jvm.LawKit.callS X6 hx (y := Nm_0) hown (mvT hZ (wq hw 1 rfl)) (mvT hZ (wq hw 2 rfl)) (mvT hZ (wq hw 3 rfl)) (mvT hZ (wq hw 4 rfl)) (by decide) (backOf (W := 0) (rm1 l Z a0 hw [] p2 h0 n0 Z0) hZ (wq hw 4 rfl) (wq hw 3 rfl) (by decide) (by decide)) (g := (mkF m 15 #[.val (.int p0), .val (.int p1), .val (.int p2), .val (.int p3), .val (.int p4), .val (.int 3), .val (.int (f1 p1)), .unset, .unset, .unset, .unset, .unset] [(.int p2)])) rfl (by rw [hml]; rfl) (argsL := [(.int p2)]) (rest := []) (lenOf pd__I_C rfl) rfl (w00 rfl) (hb hby at_15) (fun _ _ => ⟨rfl, e6, (by decide : 0 + 0 ≤ _), (by decide : 0 + 0 ≤ _)⟩)
  dsimp only [Pt.U, Pt.locs, Pt.cells, Pt.slots] at X9 l9 y9 z9 st9 hQ9
  subst l9 y9 z9
  obtain ⟨rfl, Nq9, e9⟩ := hQ9
  have N9 := Fr.app N6 Nq9
  have pre10 := Go.thn pre8 st9
  have pre11 : Go p e below T9 _ (mkF m 21 #[.val (.int p0), .val (.int p1), .val (.int p2), .val (.int p3), .val (.int p4), .val (.int 3), .val (.int (f1 p1)), .val (.int (f1 p2)), .unset, .unset, .unset, .unset] [(.int p3)]) _ := fun t k => pre10 t (by
    refine XS.istore X9.here hx rfl (hb hby at_18) rfl (l' := #[.val (.int p0), .val (.int p1), .val (.int p2), .val (.int p3), .val (.int p4), .val (.int 3), .val (.int (f1 p1)), .val (.int (f1 p2)), .unset, .unset, .unset, .unset]) rfl ?_
    refine XS.iloadN X9.here hx rfl (hb hby at_20) rfl ?_
    exact k)
  obtain ⟨_, _, ⟨T12, L12, k12, n12⟩, -, X12, ⟨Lc12, hQ12, l12, y12, z12⟩, st12⟩ := Jvm.LawKit.callS X9 hx (y := Nm_0) hown (mvT hZ (wq hw 1 rfl)) (mvT hZ (wq hw 2 rfl)) (mvT hZ (wq hw 3 rfl)) (mvT hZ (wq hw 4 rfl)) (by decide) (backOf (W := 0) (rm1 l Z a0 hw [] p3 h0 n0 Z0) hZ (wq hw 4 rfl) (wq hw 3 rfl) (by decide) (by decide)) (g := (mkF m 21 #[.val (.int p0), .val (.int p1), .val (.int p2), .val (.int p3), .val (.int p4), .val (.int 3), .val (.int (f1 p1)), .val (.int (f1 p2)), .unset, .unset, .unset, .unset] [(.int p3)])) rfl (by rw [hml]; rfl) (argsL := [(.int p3)]) (rest := []) (lenOf pd__I_C rfl) rfl (w00 rfl) (hb hby at_21) (fun _ _ => ⟨rfl, e9, (by decide : 0 + 0 ≤ _), (by decide : 0 + 0 ≤ _)⟩)
  dsimp only [Pt.U, Pt.locs, Pt.cells, Pt.slots] at X12 l12 y12 z12 st12 hQ12
  subst l12 y12 z12
  obtain ⟨rfl, Nq12, e12⟩ := hQ12
  have N12 := Fr.app N9 Nq12
  have pre13 := Go.thn pre11 st12
  have pre14 : Go p e below T12 _ (mkF m 28 #[.val (.int p0), .val (.int p1), .val (.int p2), .val (.int p3), .val (.int p4), .val (.int 3), .val (.int (f1 p1)), .val (.int (f1 p2)), .val (.int (f1 p3)), .unset, .unset, .unset] [(.int p4)]) _ := fun t k => pre13 t (by
    refine XS.istore X12.here hx rfl (hb hby at_24) rfl (l' := #[.val (.int p0), .val (.int p1), .val (.int p2), .val (.int p3), .val (.int p4), .val (.int 3), .val (.int (f1 p1)), .val (.int (f1 p2)), .val (.int (f1 p3)), .unset, .unset, .unset]) rfl ?_
    refine XS.iload X12.here hx rfl (hb hby at_26) rfl ?_
    exact k)
  obtain ⟨_, _, ⟨T15, L15, k15, n15⟩, -, X15, ⟨Lc15, hQ15, l15, y15, z15⟩, st15⟩ := Jvm.LawKit.callS X12 hx (y := Nm_0) hown (mvT hZ (wq hw 1 rfl)) (mvT hZ (wq hw 2 rfl)) (mvT hZ (wq hw 3 rfl)) (mvT hZ (wq hw 4 rfl)) (by decide) (backOf (W := 0) (rm1 l Z a0 hw [] p4 h0 n0 Z0) hZ (wq hw 4 rfl) (wq hw 3 rfl) (by decide) (by decide)) (g := (mkF m 28 #[.val (.int p0), .val (.int p1), .val (.int p2), .val (.int p3), .val (.int p4), .val (.int 3), .val (.int (f1 p1)), .val (.int (f1 p2)), .val (.int (f1 p3)), .unset, .unset, .unset] [(.int p4)])) rfl (by rw [hml]; rfl) (argsL := [(.int p4)]) (rest := []) (lenOf pd__I_C rfl) rfl (w00 rfl) (hb hby at_28) (fun _ _ => ⟨rfl, e12, (by decide : 0 + 0 ≤ _), (by decide : 0 + 0 ≤ _)⟩)
  dsimp only [Pt.U, Pt.locs, Pt.cells, Pt.slots] at X15 l15 y15 z15 st15 hQ15
  subst l15 y15 z15
  obtain ⟨rfl, Nq15, e15⟩ := hQ15
  have N15 := Fr.app N12 Nq15
  have pre16 := Go.thn pre14 st15
  have pre17 : Go p e below T15 _ (mkF m 116 #[.val (.int p0), .val (.int p1), .val (.int p2), .val (.int p3), .val (.int p4), .val (.int 3), .val (.int (f1 p1)), .val (.int (f1 p2)), .val (.int (f1 p3)), .val (.int (f1 p4)), .unset, .unset] []) _ := fun t k => pre16 t (by
    refine XS.istore X15.here hx rfl (hb hby at_31) rfl (l' := #[.val (.int p0), .val (.int p1), .val (.int p2), .val (.int p3), .val (.int p4), .val (.int 3), .val (.int (f1 p1)), .val (.int (f1 p2)), .val (.int (f1 p3)), .val (.int (f1 p4)), .unset, .unset]) rfl ?_
    refine XS.iload X15.here hx rfl (hb hby at_33) rfl ?_
    refine XS.ifYes X15.here hx rfl (pc0 := 35) (pc' := 53) rfl (hb hby at_35) rfl (by decide) (by decide) (by decide) ?_
    refine XS.iload X15.here hx rfl (hb hby at_53) rfl ?_
    refine XS.iconst X15.here hx rfl (hb hby at_55) ?_
    refine XS.icmpYes X15.here hx rfl (pc0 := 56) (pc' := 79) rfl (hb hby at_56) rfl (by decide) (by decide) (by decide) ?_
    refine XS.iload X15.here hx rfl (hb hby at_79) rfl ?_
    refine XS.iconst X15.here hx rfl (hb hby at_81) ?_
    refine XS.icmpYes X15.here hx rfl (pc0 := 82) (pc' := 110) rfl (hb hby at_82) rfl (by decide) (by decide) (by decide) ?_
    refine XS.iload X15.here hx rfl (hb hby at_110) rfl ?_
    refine XS.iconst X15.here hx rfl (hb hby at_112) ?_
    refine XS.icmpNo X15.here hx rfl (hb hby at_113) rfl (by decide) ?_
    exact k)
  obtain ⟨T18, h18, X18, e18, E18, A18, D18, -, st18⟩ := newO X15 hx hZ hown (wq hw 6 rfl) (wq hw 7 rfl) (wq hw 8 rfl) e15 (g := (mkF m 116 #[.val (.int p0), .val (.int p1), .val (.int p2), .val (.int p3), .val (.int p4), .val (.int 3), .val (.int (f1 p1)), .val (.int (f1 p2)), .val (.int (f1 p3)), .val (.int (f1 p4)), .unset, .unset] [])) rfl (hb hby at_116) (by decide) (by decide)
  obtain ⟨b116, g18⟩ : ∃ z, z = h0.size := ⟨_, rfl⟩
  rw [← g18] at A18 D18 st18
  have gg18 : n0 ≤ b116 := Nat.le_trans Z0 (Nat.le_of_eq g18.symm)
  have sz18 : h0.size ≤ b116 := Nat.le_trans K0.1 (Nat.le_of_eq g18.symm)
  have K18 : Keep h0 h18 [] := K0.ext E18
  have Z18 : n0 ≤ h18.size := Nat.le_trans Z0 E18.1
  have x19 := I0.ext E18
  have x20 := I1.ext E18
  have x21 := I2.ext E18
  have x22 := I3.ext E18
  have x23 := I4.ext E18
  have Fn18_value : Fld Z h18 b116 "java/lang/String" "value" "[B" .null := D18 (Or.inr (wq hw 22 rfl)) (ty := (.array .byte)) (by decide)
  have Fn18_coder : Fld Z h18 b116 "java/lang/String" "coder" "B" (.int 0) := D18 (Or.inr (wq hw 23 rfl)) (ty := .byte) (by decide)
  have pre24 := Go.thn pre17 st18
  have pre25 : Go p e below T18 _ (mkF m 121 #[.val (.int p0), .val (.int p1), .val (.int p2), .val (.int p3), .val (.int p4), .val (.int 3), .val (.int (f1 p1)), .val (.int (f1 p2)), .val (.int (f1 p3)), .val (.int (f1 p4)), .unset, .unset] [(.int 3), (.ref b116), (.ref b116)]) _ := fun t k => pre24 t (by
    refine XS.dup X18.here hx rfl (hb hby at_119) rfl rfl ?_
    refine XS.iconst X18.here hx rfl (hb hby at_120) ?_
    exact k)
  obtain ⟨T26, h26, k26, X26, e26, E26, A26, st26⟩ := newP X18 hx hZ (wq hw 9 rfl) e18 (g := (mkF m 121 #[.val (.int p0), .val (.int p1), .val (.int p2), .val (.int p3), .val (.int p4), .val (.int 3), .val (.int (f1 p1)), .val (.int (f1 p2)), .val (.int (f1 p3)), .val (.int (f1 p4)), .unset, .unset] [(.int 3), (.ref b116), (.ref b116)])) rfl (hb hby at_121) rfl (by decide) (cap := 3) (by decide) (by decide) (by decide) (by decide)
  obtain ⟨b121, g26⟩ : ∃ z, z = h18.size := ⟨_, rfl⟩
  rw [← g26] at A26 st26
  have gg26 : n0 ≤ b121 := Nat.le_trans Z18 (Nat.le_of_eq g26.symm)
  have sz26 : h0.size ≤ b121 := Nat.le_trans K18.1 (Nat.le_of_eq g26.symm)
  have K26 : Keep h0 h26 [] := K18.ext E26
  have Z26 : n0 ≤ h26.size := Nat.le_trans Z18 E26.1
  have V26 : Arv Z h26 b121 k26 .char (3 : Int32) [(.int 0), (.int 0), (.int 0)] (.int 0) := (Arv.new A26 (by decide)).pad (pad_rep [] (.int 0) 3)
  have ne26_b116 : b116 ≠ b121 := Nat.ne_of_lt (Nat.lt_of_lt_of_le A18.lt (Nat.le_of_eq g26.symm))
  have x27 := x19.ext E26
  have x28 := x20.ext E26
  have x29 := x21.ext E26
  have x30 := x22.ext E26
  have x31 := x23.ext E26
  have x32 := A18.ext E26
  have x33 := Fn18_value.ext E26
  have x34 := Fn18_coder.ext E26
  have pre35 := Go.thn pre25 st26
  have pre36 : Go p e below T26 _ (mkF m 127 #[.val (.int p0), .val (.int p1), .val (.int p2), .val (.int p3), .val (.int p4), .val (.int 3), .val (.int (f1 p1)), .val (.int (f1 p2)), .val (.int (f1 p3)), .val (.int (f1 p4)), .unset, .unset] [(.int (f1 p1)), (.int 0), (.ref b121), (.ref b121), (.ref b116), (.ref b116)]) _ := fun t k => pre35 t (by
    refine XS.dup X26.here hx rfl (hb hby at_123) rfl rfl ?_
    refine XS.iconst X26.here hx rfl (hb hby at_124) ?_
    refine XS.iload X26.here hx rfl (hb hby at_125) rfl ?_
    exact k)
  obtain ⟨cl37, Ar37, q37, Sz37, Mn37, Hs37, Gs37⟩ := id V26
  have hin37 : ¬ ((0 : Int32) < 0 ∨ cl37.slots.size ≤ ((0 : Int32)).toNatClampNeg) := inb_of Sz37 ⟨by decide, by decide⟩
  obtain ⟨T37, h37, X37, e37, W37, st37⟩ := stC X26 hx hZ e26 Ar37 (j := (0 : Int32)) hin37 (g := (mkF m 127 #[.val (.int p0), .val (.int p1), .val (.int p2), .val (.int p3), .val (.int p4), .val (.int 3), .val (.int (f1 p1)), .val (.int (f1 p2)), .val (.int (f1 p3)), .val (.int (f1 p4)), .unset, .unset] [(.int (f1 p1)), (.int 0), (.ref b121), (.ref b121), (.ref b116), (.ref b116)])) rfl rfl (hb hby at_127)
  have V37 : Arv Z h37 b121 k26 .char (3 : Int32) [(.int (nar .char (f1 p1))), (.int 0), (.int 0)] (.int 0) := Arv.set Ar37 q37 Sz37 Mn37 Hs37 Gs37 (fits_nar_char _) W37 0 rfl (Nat.le_of_ble_eq_true rfl)
  have N37 := Fr.snoc X37 N15 gg26
  have K37 : Keep h0 h37 [] := K26.wr W37 (Or.inr sz26)
  have Z37 : n0 ≤ h37.size := Nat.le_trans Z26 (Keep.of_wr W37).1
  have x38 := x27.wr W37
  have x39 := x28.wr W37
  have x40 := x29.wr W37
  have x41 := x30.wr W37
  have x42 := x31.wr W37
  have x43 := x32.wr W37
  have x44 := x33.other W37 (Or.inl ne26_b116)
  have x45 := x34.other W37 (Or.inl ne26_b116)
  have pre46 := Go.thn pre36 st37
  have pre47 : Go p e below T37 _ (mkF m 132 #[.val (.int p0), .val (.int p1), .val (.int p2), .val (.int p3), .val (.int p4), .val (.int 3), .val (.int (f1 p1)), .val (.int (f1 p2)), .val (.int (f1 p3)), .val (.int (f1 p4)), .unset, .unset] [(.int (f1 p2)), (.int 1), (.ref b121), (.ref b121), (.ref b116), (.ref b116)]) _ := fun t k => pre46 t (by
    refine XS.dup X37.here hx rfl (hb hby at_128) rfl rfl ?_
    refine XS.iconst X37.here hx rfl (hb hby at_129) ?_
    refine XS.iload X37.here hx rfl (hb hby at_130) rfl ?_
    exact k)
  obtain ⟨cl48, Ar48, q48, Sz48, Mn48, Hs48, Gs48⟩ := id V37
  have hin48 : ¬ ((1 : Int32) < 0 ∨ cl48.slots.size ≤ ((1 : Int32)).toNatClampNeg) := inb_of Sz48 ⟨by decide, by decide⟩
  obtain ⟨T48, h48, X48, e48, W48, st48⟩ := stC X37 hx hZ e37 Ar48 (j := (1 : Int32)) hin48 (g := (mkF m 132 #[.val (.int p0), .val (.int p1), .val (.int p2), .val (.int p3), .val (.int p4), .val (.int 3), .val (.int (f1 p1)), .val (.int (f1 p2)), .val (.int (f1 p3)), .val (.int (f1 p4)), .unset, .unset] [(.int (f1 p2)), (.int 1), (.ref b121), (.ref b121), (.ref b116), (.ref b116)])) rfl rfl (hb hby at_132)
  have V48 : Arv Z h48 b121 k26 .char (3 : Int32) [(.int (nar .char (f1 p1))), (.int (nar .char (f1 p2))), (.int 0)] (.int 0) := Arv.set Ar48 q48 Sz48 Mn48 Hs48 Gs48 (fits_nar_char _) W48 1 rfl (Nat.le_of_ble_eq_true rfl)
  have N48 := Fr.snoc X48 N37 gg26
  have K48 : Keep h0 h48 [] := K37.wr W48 (Or.inr sz26)
  have Z48 : n0 ≤ h48.size := Nat.le_trans Z37 (Keep.of_wr W48).1
  have x49 := x38.wr W48
  have x50 := x39.wr W48
  have x51 := x40.wr W48
  have x52 := x41.wr W48
  have x53 := x42.wr W48
  have x54 := x43.wr W48
  have x55 := x44.other W48 (Or.inl ne26_b116)
  have x56 := x45.other W48 (Or.inl ne26_b116)
  have pre57 := Go.thn pre47 st48
  have pre58 : Go p e below T48 _ (mkF m 137 #[.val (.int p0), .val (.int p1), .val (.int p2), .val (.int p3), .val (.int p4), .val (.int 3), .val (.int (f1 p1)), .val (.int (f1 p2)), .val (.int (f1 p3)), .val (.int (f1 p4)), .unset, .unset] [(.int (f1 p3)), (.int 2), (.ref b121), (.ref b121), (.ref b116), (.ref b116)]) _ := fun t k => pre57 t (by
    refine XS.dup X48.here hx rfl (hb hby at_133) rfl rfl ?_
    refine XS.iconst X48.here hx rfl (hb hby at_134) ?_
    refine XS.iload X48.here hx rfl (hb hby at_135) rfl ?_
    exact k)
  obtain ⟨cl59, Ar59, q59, Sz59, Mn59, Hs59, Gs59⟩ := id V48
  have hin59 : ¬ ((2 : Int32) < 0 ∨ cl59.slots.size ≤ ((2 : Int32)).toNatClampNeg) := inb_of Sz59 ⟨by decide, by decide⟩
  obtain ⟨T59, h59, X59, e59, W59, st59⟩ := stC X48 hx hZ e48 Ar59 (j := (2 : Int32)) hin59 (g := (mkF m 137 #[.val (.int p0), .val (.int p1), .val (.int p2), .val (.int p3), .val (.int p4), .val (.int 3), .val (.int (f1 p1)), .val (.int (f1 p2)), .val (.int (f1 p3)), .val (.int (f1 p4)), .unset, .unset] [(.int (f1 p3)), (.int 2), (.ref b121), (.ref b121), (.ref b116), (.ref b116)])) rfl rfl (hb hby at_137)
  have V59 : Arv Z h59 b121 k26 .char (3 : Int32) [(.int (nar .char (f1 p1))), (.int (nar .char (f1 p2))), (.int (nar .char (f1 p3)))] (.int 0) := Arv.set Ar59 q59 Sz59 Mn59 Hs59 Gs59 (fits_nar_char _) W59 2 rfl (Nat.le_of_ble_eq_true rfl)
  have N59 := Fr.snoc X59 N48 gg26
  have K59 : Keep h0 h59 [] := K48.wr W59 (Or.inr sz26)
  have Z59 : n0 ≤ h59.size := Nat.le_trans Z48 (Keep.of_wr W59).1
  have x60 := x49.wr W59
  have x61 := x50.wr W59
  have x62 := x51.wr W59
  have x63 := x52.wr W59
  have x64 := x53.wr W59
  have x65 := x54.wr W59
  have x66 := x55.other W59 (Or.inl ne26_b116)
  have x67 := x56.other W59 (Or.inl ne26_b116)
  have pre68 := Go.thn pre58 st59
  obtain ⟨_, _, ⟨T69, L69, k69, n69⟩, -, X69, ⟨Lc69, hQ69, l69, y69, z69⟩, st69⟩ := X59.specialBack hx (y := Nm_23) rfl hown (mvT hZ (wq hw 10 rfl)) (mvT hZ (wq hw 11 rfl)) (mvT hZ (wq hw 12 rfl)) (by decide) (backOf (W := 1) (rm2_3L l Z a0 hw [] b116 b121 wcs _ (nar .char (f1 p1)) (nar .char (f1 p2)) (nar .char (f1 p3)) h59 n0 Z59 x60 x62 x63 x64 x65 x66 x67 V59 gg18 (Ne.symm ne26_b116) hcs hl0 hl1 hl2) hZ (wq hw 12 rfl) (wq hw 8 rfl) (by decide) (by decide)) (g := (mkF m 138 #[.val (.int p0), .val (.int p1), .val (.int p2), .val (.int p3), .val (.int p4), .val (.int 3), .val (.int (f1 p1)), .val (.int (f1 p2)), .val (.int (f1 p3)), .val (.int (f1 p4)), .unset, .unset] [(.ref b121), (.ref b116), (.ref b116)])) rfl (by rw [hml]; rfl) (Steps.refl _) (a := b116) (argsL := [(.ref b121)]) (rest := [(.ref b116)]) (lenOf pd___C_V rfl) rfl (w00 rfl) (hb hby at_138) (fun _ _ => ⟨rfl, e59, (by decide : 2 + 1 ≤ _), (by decide : 7 + 3 ≤ _)⟩)
  dsimp only [Pt.U, Pt.locs, Pt.cells, Pt.slots] at X69 l69 y69 z69 st69 hQ69
  subst l69 y69 z69
  obtain ⟨b138_0, k_b6_0_69, rfl, Nq69, Kq69, gz69_b138_0, o69_0, o69_1, o69_2, o69_3⟩ := hQ69
  have N69 := Fr.app N59 Nq69
  have K69 : Keep h0 T69.heap [] := K59.trans Kq69 (allS (Or.inr sz18) all0)
  have Z69 : n0 ≤ T69.heap.size := Nat.le_trans Z59 Kq69.1
  have x70 := own_staK x60 Kq69 (allS (own_plE x65) all0)
  have x71 := own_staK x61 Kq69 (allS (own_plE x65) all0)
  have x72 := own_staK x62 Kq69 (allS (own_plE x65) all0)
  have x73 := own_staK x63 Kq69 (allS (own_plE x65) all0)
  have x74 := own_staK x64 Kq69 (allS (own_plE x65) all0)
  have x75 := x65.keep Kq69
  have x76 := V59.keep Kq69 (ninS (Ne.symm ne26_b116) nin0)
  have gg69_b138_0 : n0 ≤ b138_0 := Nat.le_trans Z59 gz69_b138_0
  have sz69_b138_0 : h0.size ≤ b138_0 := Nat.le_trans K59.1 gz69_b138_0
  have ne69_b116_b138_0 : b116 ≠ b138_0 := Nat.ne_of_lt (Nat.lt_of_lt_of_le x65.lt gz69_b138_0)
  have ne69_b121_b138_0 : b121 ≠ b138_0 := Nat.ne_of_lt (Nat.lt_of_lt_of_le V59.lt gz69_b138_0)
  have pre77 := Go.trn pre68 st69
  have pre78 : Go p e below T69 _ (mkF m 188 #[.val (.int p0), .val (.int p1), .val (.int p2), .val (.int p3), .val (.int p4), .val (.int 3), .val (.int (f1 p1)), .val (.int (f1 p2)), .val (.int (f1 p3)), .val (.int (f1 p4)), .val (.ref b116), .val (.int 0)] [(.int (f1 p1))]) _ := fun t k => pre77 t (by
    refine XS.astore X69.here hx rfl (hb hby at_141) rfl rfl (l' := #[.val (.int p0), .val (.int p1), .val (.int p2), .val (.int p3), .val (.int p4), .val (.int 3), .val (.int (f1 p1)), .val (.int (f1 p2)), .val (.int (f1 p3)), .val (.int (f1 p4)), .val (.ref b116), .unset]) rfl ?_
    refine XS.goto X69.here hx rfl (pc0 := 143) (pc' := 178) rfl (hb hby at_143) (by decide) (by decide) ?_
    refine XS.iconst X69.here hx rfl (hb hby at_178) ?_
    refine XS.istore X69.here hx rfl (hb hby at_179) rfl (l' := #[.val (.int p0), .val (.int p1), .val (.int p2), .val (.int p3), .val (.int p4), .val (.int 3), .val (.int (f1 p1)), .val (.int (f1 p2)), .val (.int (f1 p3)), .val (.int (f1 p4)), .val (.ref b116), .val (.int 0)]) rfl ?_
    refine XS.iload X69.here hx rfl (hb hby at_181) rfl ?_
    refine XS.ifNo X69.here hx rfl (hb hby at_183) rfl (by decide) ?_
    refine XS.iload X69.here hx rfl (hb hby at_186) rfl ?_
    exact k)
  obtain ⟨_, _, ⟨T79, L79, k79, n79⟩, -, X79, ⟨Lc79, hQ79, l79, y79, z79⟩, st79⟩ := Jvm.LawKit.callS X69 hx (y := Nm_1) hown (mvT hZ (wq hw 53 rfl)) (mvT hZ (wq hw 54 rfl)) (mvT hZ (wq hw 3 rfl)) (mvT hZ (wq hw 55 rfl)) (by decide) (backOf (W := 0) (rm11 l Z a0 hw [] (f1 p1) T69.heap n0 Z69) hZ (wq hw 55 rfl) (wq hw 3 rfl) (by decide) (by decide)) (g := (mkF m 188 #[.val (.int p0), .val (.int p1), .val (.int p2), .val (.int p3), .val (.int p4), .val (.int 3), .val (.int (f1 p1)), .val (.int (f1 p2)), .val (.int (f1 p3)), .val (.int (f1 p4)), .val (.ref b116), .val (.int 0)] [(.int (f1 p1))])) rfl (by rw [hml]; rfl) (argsL := [(.int (f1 p1))]) (rest := []) (lenOf pd__C_Z rfl) rfl (w00 rfl) (hb hby at_188) (fun _ _ => ⟨rfl, rfl, (by decide : 3 + 0 ≤ _), (by decide : 10 + 0 ≤ _)⟩)
  dsimp only [Pt.U, Pt.locs, Pt.cells, Pt.slots] at X79 l79 y79 z79 st79 hQ79
  subst l79 y79 z79
  obtain ⟨rfl, Nq79, e79⟩ := hQ79
  have N79 := Fr.app N69 Nq79
  have pre80 := Go.thn pre78 st79
  obtain ⟨T81, L81, X81, e81, N81, pre81⟩ : ∃ (T' : State) (L' : List Loc), Stand p l e room_1 s m #[(.int p0), (.int p1), (.int p2), (.int p3), (.int p4)] below meth c T' L' 3 10 ∧ T'.heap = T69.heap ∧ Fr n0 L' ∧ ∀ t, Steps p.tables e below (T'.setTop (mkF m 248 #[.val (.int p0), .val (.int p1), .val (.int p2), .val (.int p3), .val (.int p4), .val (.int 3), .val (.int (f1 p1)), .val (.int (f1 p2)), .val (.int (f1 p3)), .val (.int (f1 p4)), .val (.ref b116), .val (.int (v0_3L_248_l11 p1 p2 p3))] [])) t → Steps p.tables e below (s₁.setTop (entryFrame m #[(.int p0), (.int p1), (.int p2), (.int p3), (.int p4)] maxLocals)) t := by
    by_cases hc191_1 : (f11 (f1 p1)) = (0 : Int32)
    · have pre82 : Go p e below T79 _ (mkF m 248 #[.val (.int p0), .val (.int p1), .val (.int p2), .val (.int p3), .val (.int p4), .val (.int 3), .val (.int (f1 p1)), .val (.int (f1 p2)), .val (.int (f1 p3)), .val (.int (f1 p4)), .val (.ref b116), .val (.int 0)] []) _ := fun t k => pre80 t (by
        refine XS.ifYes X79.here hx rfl (pc0 := 191) (pc' := 248) rfl (hb hby at_191) rfl ((if0 _ _).trans (teq hc191_1).1) (by decide) (by decide) ?_
        exact k)
      exact ⟨T79, _, X79, e79, N79, fun t k => pre82 t (by simpa only [v0_3L_248_l11, if_pos hc191_1] using k)⟩
    · have pre83 : Go p e below T79 _ (mkF m 205 #[.val (.int p0), .val (.int p1), .val (.int p2), .val (.int p3), .val (.int p4), .val (.int 3), .val (.int (f1 p1)), .val (.int (f1 p2)), .val (.int (f1 p3)), .val (.int (f1 p4)), .val (.ref b116), .val (.int 1)] [(.int (f1 p2))]) _ := fun t k => pre80 t (by
        refine XS.ifNo X79.here hx rfl (hb hby at_191) rfl ((if0 _ _).trans (feq hc191_1).1) ?_
        refine XS.iconst X79.here hx rfl (hb hby at_194) ?_
        refine XS.istore X79.here hx rfl (hb hby at_195) rfl (l' := #[.val (.int p0), .val (.int p1), .val (.int p2), .val (.int p3), .val (.int p4), .val (.int 3), .val (.int (f1 p1)), .val (.int (f1 p2)), .val (.int (f1 p3)), .val (.int (f1 p4)), .val (.ref b116), .val (.int 1)]) rfl ?_
        refine XS.iload X79.here hx rfl (hb hby at_197) rfl ?_
        refine XS.iconst X79.here hx rfl (hb hby at_199) ?_
        refine XS.icmpNo X79.here hx rfl (hb hby at_200) rfl (by decide) ?_
        refine XS.iload X79.here hx rfl (hb hby at_203) rfl ?_
        exact k)
      obtain ⟨_, _, ⟨T84, L84, k84, n84⟩, -, X84, ⟨Lc84, hQ84, l84, y84, z84⟩, st84⟩ := Jvm.LawKit.callS X79 hx (y := Nm_1) hown (mvT hZ (wq hw 53 rfl)) (mvT hZ (wq hw 54 rfl)) (mvT hZ (wq hw 3 rfl)) (mvT hZ (wq hw 55 rfl)) (by decide) (backOf (W := 0) (rm11 l Z a0 hw [] (f1 p2) T69.heap n0 Z69) hZ (wq hw 55 rfl) (wq hw 3 rfl) (by decide) (by decide)) (g := (mkF m 205 #[.val (.int p0), .val (.int p1), .val (.int p2), .val (.int p3), .val (.int p4), .val (.int 3), .val (.int (f1 p1)), .val (.int (f1 p2)), .val (.int (f1 p3)), .val (.int (f1 p4)), .val (.ref b116), .val (.int 1)] [(.int (f1 p2))])) rfl (by rw [hml]; rfl) (argsL := [(.int (f1 p2))]) (rest := []) (lenOf pd__C_Z rfl) rfl (w00 rfl) (hb hby at_205) (fun _ _ => ⟨rfl, e79, (by decide : 3 + 0 ≤ _), (by decide : 10 + 0 ≤ _)⟩)
      dsimp only [Pt.U, Pt.locs, Pt.cells, Pt.slots] at X84 l84 y84 z84 st84 hQ84
      subst l84 y84 z84
      obtain ⟨rfl, Nq84, e84⟩ := hQ84
      have N84 := Fr.app N79 Nq84
      have pre85 := Go.thn pre83 st84
      by_cases hc208_2 : (f11 (f1 p2)) = (0 : Int32)
      · have pre86 : Go p e below T84 _ (mkF m 248 #[.val (.int p0), .val (.int p1), .val (.int p2), .val (.int p3), .val (.int p4), .val (.int 3), .val (.int (f1 p1)), .val (.int (f1 p2)), .val (.int (f1 p3)), .val (.int (f1 p4)), .val (.ref b116), .val (.int 1)] []) _ := fun t k => pre85 t (by
          refine XS.ifYes X84.here hx rfl (pc0 := 208) (pc' := 248) rfl (hb hby at_208) rfl ((if0 _ _).trans (teq hc208_2).1) (by decide) (by decide) ?_
          exact k)
        exact ⟨T84, _, X84, e84, N84, fun t k => pre86 t (by simpa only [v0_3L_248_l11, if_neg hc191_1, if_pos hc208_2] using k)⟩
      · have pre87 : Go p e below T84 _ (mkF m 222 #[.val (.int p0), .val (.int p1), .val (.int p2), .val (.int p3), .val (.int p4), .val (.int 3), .val (.int (f1 p1)), .val (.int (f1 p2)), .val (.int (f1 p3)), .val (.int (f1 p4)), .val (.ref b116), .val (.int 2)] [(.int (f1 p3))]) _ := fun t k => pre85 t (by
          refine XS.ifNo X84.here hx rfl (hb hby at_208) rfl ((if0 _ _).trans (feq hc208_2).1) ?_
          refine XS.iconst X84.here hx rfl (hb hby at_211) ?_
          refine XS.istore X84.here hx rfl (hb hby at_212) rfl (l' := #[.val (.int p0), .val (.int p1), .val (.int p2), .val (.int p3), .val (.int p4), .val (.int 3), .val (.int (f1 p1)), .val (.int (f1 p2)), .val (.int (f1 p3)), .val (.int (f1 p4)), .val (.ref b116), .val (.int 2)]) rfl ?_
          refine XS.iload X84.here hx rfl (hb hby at_214) rfl ?_
          refine XS.iconst X84.here hx rfl (hb hby at_216) ?_
          refine XS.icmpNo X84.here hx rfl (hb hby at_217) rfl (by decide) ?_
          refine XS.iload X84.here hx rfl (hb hby at_220) rfl ?_
          exact k)
        obtain ⟨_, _, ⟨T88, L88, k88, n88⟩, -, X88, ⟨Lc88, hQ88, l88, y88, z88⟩, st88⟩ := Jvm.LawKit.callS X84 hx (y := Nm_1) hown (mvT hZ (wq hw 53 rfl)) (mvT hZ (wq hw 54 rfl)) (mvT hZ (wq hw 3 rfl)) (mvT hZ (wq hw 55 rfl)) (by decide) (backOf (W := 0) (rm11 l Z a0 hw [] (f1 p3) T69.heap n0 Z69) hZ (wq hw 55 rfl) (wq hw 3 rfl) (by decide) (by decide)) (g := (mkF m 222 #[.val (.int p0), .val (.int p1), .val (.int p2), .val (.int p3), .val (.int p4), .val (.int 3), .val (.int (f1 p1)), .val (.int (f1 p2)), .val (.int (f1 p3)), .val (.int (f1 p4)), .val (.ref b116), .val (.int 2)] [(.int (f1 p3))])) rfl (by rw [hml]; rfl) (argsL := [(.int (f1 p3))]) (rest := []) (lenOf pd__C_Z rfl) rfl (w00 rfl) (hb hby at_222) (fun _ _ => ⟨rfl, e84, (by decide : 3 + 0 ≤ _), (by decide : 10 + 0 ≤ _)⟩)
        dsimp only [Pt.U, Pt.locs, Pt.cells, Pt.slots] at X88 l88 y88 z88 st88 hQ88
        subst l88 y88 z88
        obtain ⟨rfl, Nq88, e88⟩ := hQ88
        have N88 := Fr.app N84 Nq88
        have pre89 := Go.thn pre87 st88
        by_cases hc225_3 : (f11 (f1 p3)) = (0 : Int32)
        · have pre90 : Go p e below T88 _ (mkF m 248 #[.val (.int p0), .val (.int p1), .val (.int p2), .val (.int p3), .val (.int p4), .val (.int 3), .val (.int (f1 p1)), .val (.int (f1 p2)), .val (.int (f1 p3)), .val (.int (f1 p4)), .val (.ref b116), .val (.int 2)] []) _ := fun t k => pre89 t (by
            refine XS.ifYes X88.here hx rfl (pc0 := 225) (pc' := 248) rfl (hb hby at_225) rfl ((if0 _ _).trans (teq hc225_3).1) (by decide) (by decide) ?_
            exact k)
          exact ⟨T88, _, X88, e88, N88, fun t k => pre90 t (by simpa only [v0_3L_248_l11, if_neg hc191_1, if_neg hc208_2, if_pos hc225_3] using k)⟩
        · have pre91 : Go p e below T88 _ (mkF m 248 #[.val (.int p0), .val (.int p1), .val (.int p2), .val (.int p3), .val (.int p4), .val (.int 3), .val (.int (f1 p1)), .val (.int (f1 p2)), .val (.int (f1 p3)), .val (.int (f1 p4)), .val (.ref b116), .val (.int 3)] []) _ := fun t k => pre89 t (by
            refine XS.ifNo X88.here hx rfl (hb hby at_225) rfl ((if0 _ _).trans (feq hc225_3).1) ?_
            refine XS.iconst X88.here hx rfl (hb hby at_228) ?_
            refine XS.istore X88.here hx rfl (hb hby at_229) rfl (l' := #[.val (.int p0), .val (.int p1), .val (.int p2), .val (.int p3), .val (.int p4), .val (.int 3), .val (.int (f1 p1)), .val (.int (f1 p2)), .val (.int (f1 p3)), .val (.int (f1 p4)), .val (.ref b116), .val (.int 3)]) rfl ?_
            refine XS.iload X88.here hx rfl (hb hby at_231) rfl ?_
            refine XS.iconst X88.here hx rfl (hb hby at_233) ?_
            refine XS.icmpYes X88.here hx rfl (pc0 := 234) (pc' := 248) rfl (hb hby at_234) rfl (by decide) (by decide) (by decide) ?_
            exact k)
          exact ⟨T88, _, X88, e88, N88, fun t k => pre91 t (by simpa only [v0_3L_248_l11, if_neg hc191_1, if_neg hc208_2, if_neg hc225_3] using k)⟩
  have pre92 : Go p e below T81 _ (mkF m 250 #[.val (.int p0), .val (.int p1), .val (.int p2), .val (.int p3), .val (.int p4), .val (.int 3), .val (.int (f1 p1)), .val (.int (f1 p2)), .val (.int (f1 p3)), .val (.int (f1 p4)), .val (.ref b116), .val (.int (v0_3L_248_l11 p1 p2 p3))] [(.ref b116)]) _ := fun t k => pre81 t (by
    refine XS.aload X81.here hx rfl (hb hby at_248) rfl rfl ?_
    exact k)
  obtain ⟨_, _, ⟨T93, L93, k93, n93⟩, -, X93, ⟨Lc93, hQ93, l93, y93, z93⟩, st93⟩ := Jvm.LawKit.callS X81 hx (y := Nm_14) hown (mvT hZ (wq hw 28 rfl)) (mvT hZ (wq hw 29 rfl)) (mvT hZ (wq hw 30 rfl)) (mvT hZ (wq hw 31 rfl)) (by decide) (backOf (W := 0) (rm5_L l Z a0 hw [] b116 wcs wsf b138_0 _ (3 : Int32) [(g9_3_o2_0 (nar .char (f1 p1))), (g9_3_o2_1 (nar .char (f1 p1)) (nar .char (f1 p2))), (g9_3_o2_2 (nar .char (f1 p1)) (nar .char (f1 p2)) (nar .char (f1 p3)))] T69.heap n0 Z69 x70 x71 o69_0 o69_1 o69_2 o69_3 hcs hsf (Or.inr (Or.inr (Or.inr (Or.inl rfl)))) (by decide)) hZ (wq hw 31 rfl) (wq hw 30 rfl) (by decide) (by decide)) (g := (mkF m 250 #[.val (.int p0), .val (.int p1), .val (.int p2), .val (.int p3), .val (.int p4), .val (.int 3), .val (.int (f1 p1)), .val (.int (f1 p2)), .val (.int (f1 p3)), .val (.int (f1 p4)), .val (.ref b116), .val (.int (v0_3L_248_l11 p1 p2 p3))] [(.ref b116)])) rfl (by rw [hml]; rfl) (argsL := [(.ref b116)]) (rest := []) (lenOf pd__Ljava_lang_String__I rfl) rfl (w00 rfl) (hb hby at_250) (fun _ _ => ⟨rfl, e81, (by decide : 3 + 0 ≤ _), (by decide : 10 + 0 ≤ _)⟩)
  dsimp only [Pt.U, Pt.locs, Pt.cells, Pt.slots] at X93 l93 y93 z93 st93 hQ93
  subst l93 y93 z93
  obtain ⟨rfl, Nq93, e93⟩ := hQ93
  have N93 := Fr.app N81 Nq93
  have pre94 := Go.thn pre92 st93
  have pre95 : Go p e below T93 _ (mkF m 255 #[.val (.int p0), .val (.int p1), .val (.int p2), .val (.int p3), .val (.int p4), .val (.int 3), .val (.int (f1 p1)), .val (.int (f1 p2)), .val (.int (f1 p3)), .val (.int (f1 p4)), .val (.ref b116), .val (.int (v0_3L_248_l11 p1 p2 p3))] [(.int (v0_3L_248_l11 p1 p2 p3)), (.int (f5_L (3 : Int32) [(g9_3_o2_0 (nar .char (f1 p1))), (g9_3_o2_1 (nar .char (f1 p1)) (nar .char (f1 p2))), (g9_3_o2_2 (nar .char (f1 p1)) (nar .char (f1 p2)) (nar .char (f1 p3)))]))]) _ := fun t k => pre94 t (by
    refine XS.iload X93.here hx rfl (hb hby at_253) rfl ?_
    exact k)
  by_cases hc255_4 : (f5_L (3 : Int32) [(g9_3_o2_0 (nar .char (f1 p1))), (g9_3_o2_1 (nar .char (f1 p1)) (nar .char (f1 p2))), (g9_3_o2_2 (nar .char (f1 p1)) (nar .char (f1 p2)) (nar .char (f1 p3)))]) = (v0_3L_248_l11 p1 p2 p3)
  · have pre96 : Go p e below T93 _ (mkF m 263 #[.val (.int p0), .val (.int p1), .val (.int p2), .val (.int p3), .val (.int p4), .val (.int 3), .val (.int (f1 p1)), .val (.int (f1 p2)), .val (.int (f1 p3)), .val (.int (f1 p4)), .val (.ref b116), .val (.int (v0_3L_248_l11 p1 p2 p3))] [(.int 1)]) _ := fun t k => pre95 t (by
      refine XS.icmpNo X93.here hx rfl (hb hby at_255) rfl (teq hc255_4).2 ?_
      refine XS.iconst X93.here hx rfl (hb hby at_258) ?_
      refine XS.goto X93.here hx rfl (pc0 := 259) (pc' := 263) rfl (hb hby at_259) (by decide) (by decide) ?_
      exact k)
    obtain ⟨fs, hr, hrun, hended, hW, hsame⟩ := X93.leave (v := some (.int 1)) (fun h => by rw [Bd.returns] at h; cases h)
    refine ⟨_, _, ?_, hrun, hended, _, _, rfl, ?_, ⟨_, rfl⟩, hW, hsame.mono (by decide) (by decide)⟩
    · exact pre96 _ (retN X93 hx (t := .boolean) Bd.returns (by simp) (hb hby at_263) hr)
    · exact ⟨by simp only [f0_3L, if_pos hc255_4], N93, trivial⟩
  · have pre97 : Go p e below T93 _ (mkF m 263 #[.val (.int p0), .val (.int p1), .val (.int p2), .val (.int p3), .val (.int p4), .val (.int 3), .val (.int (f1 p1)), .val (.int (f1 p2)), .val (.int (f1 p3)), .val (.int (f1 p4)), .val (.ref b116), .val (.int (v0_3L_248_l11 p1 p2 p3))] [(.int 0)]) _ := fun t k => pre95 t (by
      refine XS.icmpYes X93.here hx rfl (pc0 := 255) (pc' := 262) rfl (hb hby at_255) rfl (feq hc255_4).2 (by decide) (by decide) ?_
      refine XS.iconst X93.here hx rfl (hb hby at_262) ?_
      exact k)
    obtain ⟨fs, hr, hrun, hended, hW, hsame⟩ := X93.leave (v := some (.int 0)) (fun h => by rw [Bd.returns] at h; cases h)
    refine ⟨_, _, ?_, hrun, hended, _, _, rfl, ?_, ⟨_, rfl⟩, hW, hsame.mono (by decide) (by decide)⟩
    · exact pre97 _ (retN X93 hx (t := .boolean) Bd.returns (by simp) (hb hby at_263) hr)
    · exact ⟨by simp only [f0_3L, if_neg hc255_4], N93, trivial⟩
def v0_3U_248_l11 (p1 : Int32) (p2 : Int32) (p3 : Int32) : Int32 := (if (f11 (f1 p1)) = (0 : Int32) then (0 : Int32) else (if (f11 (f1 p2)) = (0 : Int32) then (1 : Int32) else (if (f11 (f1 p3)) = (0 : Int32) then (2 : Int32) else (3 : Int32))))
def f0_3U (p1 : Int32) (p2 : Int32) (p3 : Int32) : Int32 := (if (f5_U (6 : Int32) [(own_b0 (nar .char (f1 p1))), (own_b8 (nar .char (f1 p1))), (own_b0 (nar .char (f1 p2))), (own_b8 (nar .char (f1 p2))), (own_b0 (nar .char (f1 p3))), (own_b8 (nar .char (f1 p3)))]) = (v0_3U_248_l11 p1 p2 p3) then (1 : Int32) else (0 : Int32))
set_option maxRecDepth 65536 in
set_option maxHeartbeats 40000000 in
theorem rm0_3U (l : Launch) (Z : State) (a0 : Array Value) (hw : ∀ d ∈ tables_1, d.before a0 Z = true) (ws : List Jvm.Cond) (p0 : Int32) (p1 : Int32) (p2 : Int32) (p3 : Int32) (p4 : Int32) (wcs : Int32) (wsf : Value) (h0 : Heap) (n0 : Nat) (Z0 : n0 ≤ h0.size) (I0 : Sta Z h0 "java/lang/String" "COMPACT_STRINGS" "Z" (.int wcs)) (I1 : Sta Z h0 "jdk/internal/util/Preconditions" "SIOOBE_FORMATTER" "Ljava/util/function/BiFunction;" wsf) (I2 : Sta Z h0 "java/lang/StringUTF16" "$assertionsDisabled" "Z" (.int 1)) (I3 : Sta Z h0 "java/lang/StringUTF16" "HI_BYTE_SHIFT" "I" (.int 0)) (I4 : Sta Z h0 "java/lang/StringUTF16" "LO_BYTE_SHIFT" "I" (.int 8)) (hn : ((p0 &&& (2147483647 : Int32)) - (p0 &&& (2147483647 : Int32)) / (5 : Int32) * (5 : Int32)) = (3 : Int32)) (hcs : ¬ (wcs = (0 : Int32))) (hsf : wsf.isRef = true) (hU : (255 : Int32) < (nar .char (f1 p1)) ∨ (255 : Int32) < (nar .char (f1 p2)) ∨ (255 : Int32) < (nar .char (f1 p3))) :
    Met1 l x (Jvm.Cond.code x code maxLocals ret) ws room_1 #[(.int p0), (.int p1), (.int p2), (.int p3), (.int p4)] Z h0 (QL (some (.int (f0_3U p1 p2 p3))) n0) := by
  refine MetFree.of_bodySF (plainFor_of_name pn_0) hisR ?_
  intro p e s m args below meth c s₁ Bd hml0 hP hK
  obtain ⟨rfl, hZ, hh⟩ := hP
  have hx := Bd.exec
  have hby := Bd.bytes
  have hml : c.maxLocals = 12 := hml0
  have hown : s.vm.findClass "com/example/stint/stint/WholeNumberLeadingDigitsPinLaw" = some m.cls := findClass_of_methodNamed Bd.named
  have X0 : Stand p l e room_1 s m _ _ _ _ _ [] 0 0 := Stand.of_body Bd
  have e0 : s₁.heap = h0 := by rw [← hh, Bd.state]; rfl
  have N0 := Fr.nil n0
  have K0 : Keep h0 h0 [] := Keep.refl _ _
  have pre0 : Go p e below s₁ _ (mkF m 0 #[.val (.int p0), .val (.int p1), .val (.int p2), .val (.int p3), .val (.int p4), .unset, .unset, .unset, .unset, .unset, .unset, .unset] []) _ := fun t k => castTop (ef_0 m p0 p1 p2 p3 p4) k
  have pre5 : Go p e below s₁ _ (mkF m 9 #[.val (.int p0), .val (.int p1), .val (.int p2), .val (.int p3), .val (.int p4), .val (.int 3), .unset, .unset, .unset, .unset, .unset, .unset] [(.int p1)]) _ := fun t k => pre0 t (by
    refine XS.iloadN X0.here hx rfl (hb hby at_0) rfl ?_
    refine X0.ldcInt hx hown (mvT hZ (wq hw 0 rfl)) (g := (mkF m 1 #[.val (.int p0), .val (.int p1), .val (.int p2), .val (.int p3), .val (.int p4), .unset, .unset, .unset, .unset, .unset, .unset, .unset] [(.int p0)])) rfl (hb hby at_1) _ ?_
    refine XS.iand X0.here hx rfl (hb hby at_3) rfl ?_
    refine XS.iconst X0.here hx rfl (hb hby at_4) ?_
    refine XS.irem X0.here hx rfl (hb hby at_5) rfl (by decide) ?_
    show Steps p.tables e below (s₁.setTop (mkF m 6 #[.val (.int p0), .val (.int p1), .val (.int p2), .val (.int p3), .val (.int p4), .unset, .unset, .unset, .unset, .unset, .unset, .unset] [(.int ((p0 &&& (2147483647 : Int32)) - (p0 &&& (2147483647 : Int32)) / (5 : Int32) * (5 : Int32)))])) _
    rw [hn]
    refine XS.istore X0.here hx rfl (hb hby at_6) rfl (l' := #[.val (.int p0), .val (.int p1), .val (.int p2), .val (.int p3), .val (.int p4), .val (.int 3), .unset, .unset, .unset, .unset, .unset, .unset]) rfl ?_
    refine XS.iloadN X0.here hx rfl (hb hby at_8) rfl ?_
    exact k)
  obtain ⟨_, _, ⟨T6, L6, k6, n6⟩, -, X6, ⟨Lc6, hQ6, l6, y6, z6⟩, st6⟩ := Jvm.LawKit.callS X0 hx (y := Nm_0) hown (mvT hZ (wq hw 1 rfl)) (mvT hZ (wq hw 2 rfl)) (mvT hZ (wq hw 3 rfl)) (mvT hZ (wq hw 4 rfl)) (by decide) (backOf (W := 0) (rm1 l Z a0 hw [] p1 h0 n0 Z0) hZ (wq hw 4 rfl) (wq hw 3 rfl) (by decide) (by decide)) (g := (mkF m 9 #[.val (.int p0), .val (.int p1), .val (.int p2), .val (.int p3), .val (.int p4), .val (.int 3), .unset, .unset, .unset, .unset, .unset, .unset] [(.int p1)])) rfl (by rw [hml]; rfl) (argsL := [(.int p1)]) (rest := []) (lenOf pd__I_C rfl) rfl (w00 rfl) (hb hby at_9) (fun _ _ => ⟨rfl, e0, (by decide : 0 + 0 ≤ _), (by decide : 0 + 0 ≤ _)⟩)
  dsimp only [Pt.U, Pt.locs, Pt.cells, Pt.slots] at X6 l6 y6 z6 st6 hQ6
  subst l6 y6 z6
  obtain ⟨rfl, Nq6, e6⟩ := hQ6
  have N6 := Fr.app N0 Nq6
  have pre7 := Go.thn pre5 st6
  have pre8 : Go p e below T6 _ (mkF m 15 #[.val (.int p0), .val (.int p1), .val (.int p2), .val (.int p3), .val (.int p4), .val (.int 3), .val (.int (f1 p1)), .unset, .unset, .unset, .unset, .unset] [(.int p2)]) _ := fun t k => pre7 t (by
    refine XS.istore X6.here hx rfl (hb hby at_12) rfl (l' := #[.val (.int p0), .val (.int p1), .val (.int p2), .val (.int p3), .val (.int p4), .val (.int 3), .val (.int (f1 p1)), .unset, .unset, .unset, .unset, .unset]) rfl ?_
    refine XS.iloadN X6.here hx rfl (hb hby at_14) rfl ?_
    exact k)
  obtain ⟨_, _, ⟨T9, L9, k9, n9⟩, -, X9, ⟨Lc9, hQ9, l9, y9, z9⟩, st9⟩ := Jvm.LawKit.callS X6 hx (y := Nm_0) hown (mvT hZ (wq hw 1 rfl)) (mvT hZ (wq hw 2 rfl)) (mvT hZ (wq hw 3 rfl)) (mvT hZ (wq hw 4 rfl)) (by decide) (backOf (W := 0) (rm1 l Z a0 hw [] p2 h0 n0 Z0) hZ (wq hw 4 rfl) (wq hw 3 rfl) (by decide) (by decide)) (g := (mkF m 15 #[.val (.int p0), .val (.int p1), .val (.int p2), .val (.int p3), .val (.int p4), .val (.int 3), .val (.int (f1 p1)), .unset, .unset, .unset, .unset, .unset] [(.int p2)])) rfl (by rw [hml]; rfl) (argsL := [(.int p2)]) (rest := []) (lenOf pd__I_C rfl) rfl (w00 rfl) (hb hby at_15) (fun _ _ => ⟨rfl, e6, (by decide : 0 + 0 ≤ _), (by decide : 0 + 0 ≤ _)⟩)
  dsimp only [Pt.U, Pt.locs, Pt.cells, Pt.slots] at X9 l9 y9 z9 st9 hQ9
  subst l9 y9 z9
  obtain ⟨rfl, Nq9, e9⟩ := hQ9
  have N9 := Fr.app N6 Nq9
  have pre10 := Go.thn pre8 st9
  have pre11 : Go p e below T9 _ (mkF m 21 #[.val (.int p0), .val (.int p1), .val (.int p2), .val (.int p3), .val (.int p4), .val (.int 3), .val (.int (f1 p1)), .val (.int (f1 p2)), .unset, .unset, .unset, .unset] [(.int p3)]) _ := fun t k => pre10 t (by
    refine XS.istore X9.here hx rfl (hb hby at_18) rfl (l' := #[.val (.int p0), .val (.int p1), .val (.int p2), .val (.int p3), .val (.int p4), .val (.int 3), .val (.int (f1 p1)), .val (.int (f1 p2)), .unset, .unset, .unset, .unset]) rfl ?_
    refine XS.iloadN X9.here hx rfl (hb hby at_20) rfl ?_
    exact k)
  obtain ⟨_, _, ⟨T12, L12, k12, n12⟩, -, X12, ⟨Lc12, hQ12, l12, y12, z12⟩, st12⟩ := Jvm.LawKit.callS X9 hx (y := Nm_0) hown (mvT hZ (wq hw 1 rfl)) (mvT hZ (wq hw 2 rfl)) (mvT hZ (wq hw 3 rfl)) (mvT hZ (wq hw 4 rfl)) (by decide) (backOf (W := 0) (rm1 l Z a0 hw [] p3 h0 n0 Z0) hZ (wq hw 4 rfl) (wq hw 3 rfl) (by decide) (by decide)) (g := (mkF m 21 #[.val (.int p0), .val (.int p1), .val (.int p2), .val (.int p3), .val (.int p4), .val (.int 3), .val (.int (f1 p1)), .val (.int (f1 p2)), .unset, .unset, .unset, .unset] [(.int p3)])) rfl (by rw [hml]; rfl) (argsL := [(.int p3)]) (rest := []) (lenOf pd__I_C rfl) rfl (w00 rfl) (hb hby at_21) (fun _ _ => ⟨rfl, e9, (by decide : 0 + 0 ≤ _), (by decide : 0 + 0 ≤ _)⟩)
  dsimp only [Pt.U, Pt.locs, Pt.cells, Pt.slots] at X12 l12 y12 z12 st12 hQ12
  subst l12 y12 z12
  obtain ⟨rfl, Nq12, e12⟩ := hQ12
  have N12 := Fr.app N9 Nq12
  have pre13 := Go.thn pre11 st12
  have pre14 : Go p e below T12 _ (mkF m 28 #[.val (.int p0), .val (.int p1), .val (.int p2), .val (.int p3), .val (.int p4), .val (.int 3), .val (.int (f1 p1)), .val (.int (f1 p2)), .val (.int (f1 p3)), .unset, .unset, .unset] [(.int p4)]) _ := fun t k => pre13 t (by
    refine XS.istore X12.here hx rfl (hb hby at_24) rfl (l' := #[.val (.int p0), .val (.int p1), .val (.int p2), .val (.int p3), .val (.int p4), .val (.int 3), .val (.int (f1 p1)), .val (.int (f1 p2)), .val (.int (f1 p3)), .unset, .unset, .unset]) rfl ?_
    refine XS.iload X12.here hx rfl (hb hby at_26) rfl ?_
    exact k)
  obtain ⟨_, _, ⟨T15, L15, k15, n15⟩, -, X15, ⟨Lc15, hQ15, l15, y15, z15⟩, st15⟩ := Jvm.LawKit.callS X12 hx (y := Nm_0) hown (mvT hZ (wq hw 1 rfl)) (mvT hZ (wq hw 2 rfl)) (mvT hZ (wq hw 3 rfl)) (mvT hZ (wq hw 4 rfl)) (by decide) (backOf (W := 0) (rm1 l Z a0 hw [] p4 h0 n0 Z0) hZ (wq hw 4 rfl) (wq hw 3 rfl) (by decide) (by decide)) (g := (mkF m 28 #[.val (.int p0), .val (.int p1), .val (.int p2), .val (.int p3), .val (.int p4), .val (.int 3), .val (.int (f1 p1)), .val (.int (f1 p2)), .val (.int (f1 p3)), .unset, .unset, .unset] [(.int p4)])) rfl (by rw [hml]; rfl) (argsL := [(.int p4)]) (rest := []) (lenOf pd__I_C rfl) rfl (w00 rfl) (hb hby at_28) (fun _ _ => ⟨rfl, e12, (by decide : 0 + 0 ≤ _), (by decide : 0 + 0 ≤ _)⟩)
  dsimp only [Pt.U, Pt.locs, Pt.cells, Pt.slots] at X15 l15 y15 z15 st15 hQ15
  subst l15 y15 z15
  obtain ⟨rfl, Nq15, e15⟩ := hQ15
  have N15 := Fr.app N12 Nq15
  have pre16 := Go.thn pre14 st15
  have pre17 : Go p e below T15 _ (mkF m 116 #[.val (.int p0), .val (.int p1), .val (.int p2), .val (.int p3), .val (.int p4), .val (.int 3), .val (.int (f1 p1)), .val (.int (f1 p2)), .val (.int (f1 p3)), .val (.int (f1 p4)), .unset, .unset] []) _ := fun t k => pre16 t (by
    refine XS.istore X15.here hx rfl (hb hby at_31) rfl (l' := #[.val (.int p0), .val (.int p1), .val (.int p2), .val (.int p3), .val (.int p4), .val (.int 3), .val (.int (f1 p1)), .val (.int (f1 p2)), .val (.int (f1 p3)), .val (.int (f1 p4)), .unset, .unset]) rfl ?_
    refine XS.iload X15.here hx rfl (hb hby at_33) rfl ?_
    refine XS.ifYes X15.here hx rfl (pc0 := 35) (pc' := 53) rfl (hb hby at_35) rfl (by decide) (by decide) (by decide) ?_
    refine XS.iload X15.here hx rfl (hb hby at_53) rfl ?_
    refine XS.iconst X15.here hx rfl (hb hby at_55) ?_
    refine XS.icmpYes X15.here hx rfl (pc0 := 56) (pc' := 79) rfl (hb hby at_56) rfl (by decide) (by decide) (by decide) ?_
    refine XS.iload X15.here hx rfl (hb hby at_79) rfl ?_
    refine XS.iconst X15.here hx rfl (hb hby at_81) ?_
    refine XS.icmpYes X15.here hx rfl (pc0 := 82) (pc' := 110) rfl (hb hby at_82) rfl (by decide) (by decide) (by decide) ?_
    refine XS.iload X15.here hx rfl (hb hby at_110) rfl ?_
    refine XS.iconst X15.here hx rfl (hb hby at_112) ?_
    refine XS.icmpNo X15.here hx rfl (hb hby at_113) rfl (by decide) ?_
    exact k)
  obtain ⟨T18, h18, X18, e18, E18, A18, D18, -, st18⟩ := newO X15 hx hZ hown (wq hw 6 rfl) (wq hw 7 rfl) (wq hw 8 rfl) e15 (g := (mkF m 116 #[.val (.int p0), .val (.int p1), .val (.int p2), .val (.int p3), .val (.int p4), .val (.int 3), .val (.int (f1 p1)), .val (.int (f1 p2)), .val (.int (f1 p3)), .val (.int (f1 p4)), .unset, .unset] [])) rfl (hb hby at_116) (by decide) (by decide)
  obtain ⟨b116, g18⟩ : ∃ z, z = h0.size := ⟨_, rfl⟩
  rw [← g18] at A18 D18 st18
  have gg18 : n0 ≤ b116 := Nat.le_trans Z0 (Nat.le_of_eq g18.symm)
  have sz18 : h0.size ≤ b116 := Nat.le_trans K0.1 (Nat.le_of_eq g18.symm)
  have K18 : Keep h0 h18 [] := K0.ext E18
  have Z18 : n0 ≤ h18.size := Nat.le_trans Z0 E18.1
  have x19 := I0.ext E18
  have x20 := I1.ext E18
  have x21 := I2.ext E18
  have x22 := I3.ext E18
  have x23 := I4.ext E18
  have Fn18_value : Fld Z h18 b116 "java/lang/String" "value" "[B" .null := D18 (Or.inr (wq hw 22 rfl)) (ty := (.array .byte)) (by decide)
  have Fn18_coder : Fld Z h18 b116 "java/lang/String" "coder" "B" (.int 0) := D18 (Or.inr (wq hw 23 rfl)) (ty := .byte) (by decide)
  have pre24 := Go.thn pre17 st18
  have pre25 : Go p e below T18 _ (mkF m 121 #[.val (.int p0), .val (.int p1), .val (.int p2), .val (.int p3), .val (.int p4), .val (.int 3), .val (.int (f1 p1)), .val (.int (f1 p2)), .val (.int (f1 p3)), .val (.int (f1 p4)), .unset, .unset] [(.int 3), (.ref b116), (.ref b116)]) _ := fun t k => pre24 t (by
    refine XS.dup X18.here hx rfl (hb hby at_119) rfl rfl ?_
    refine XS.iconst X18.here hx rfl (hb hby at_120) ?_
    exact k)
  obtain ⟨T26, h26, k26, X26, e26, E26, A26, st26⟩ := newP X18 hx hZ (wq hw 9 rfl) e18 (g := (mkF m 121 #[.val (.int p0), .val (.int p1), .val (.int p2), .val (.int p3), .val (.int p4), .val (.int 3), .val (.int (f1 p1)), .val (.int (f1 p2)), .val (.int (f1 p3)), .val (.int (f1 p4)), .unset, .unset] [(.int 3), (.ref b116), (.ref b116)])) rfl (hb hby at_121) rfl (by decide) (cap := 3) (by decide) (by decide) (by decide) (by decide)
  obtain ⟨b121, g26⟩ : ∃ z, z = h18.size := ⟨_, rfl⟩
  rw [← g26] at A26 st26
  have gg26 : n0 ≤ b121 := Nat.le_trans Z18 (Nat.le_of_eq g26.symm)
  have sz26 : h0.size ≤ b121 := Nat.le_trans K18.1 (Nat.le_of_eq g26.symm)
  have K26 : Keep h0 h26 [] := K18.ext E26
  have Z26 : n0 ≤ h26.size := Nat.le_trans Z18 E26.1
  have V26 : Arv Z h26 b121 k26 .char (3 : Int32) [(.int 0), (.int 0), (.int 0)] (.int 0) := (Arv.new A26 (by decide)).pad (pad_rep [] (.int 0) 3)
  have ne26_b116 : b116 ≠ b121 := Nat.ne_of_lt (Nat.lt_of_lt_of_le A18.lt (Nat.le_of_eq g26.symm))
  have x27 := x19.ext E26
  have x28 := x20.ext E26
  have x29 := x21.ext E26
  have x30 := x22.ext E26
  have x31 := x23.ext E26
  have x32 := A18.ext E26
  have x33 := Fn18_value.ext E26
  have x34 := Fn18_coder.ext E26
  have pre35 := Go.thn pre25 st26
  have pre36 : Go p e below T26 _ (mkF m 127 #[.val (.int p0), .val (.int p1), .val (.int p2), .val (.int p3), .val (.int p4), .val (.int 3), .val (.int (f1 p1)), .val (.int (f1 p2)), .val (.int (f1 p3)), .val (.int (f1 p4)), .unset, .unset] [(.int (f1 p1)), (.int 0), (.ref b121), (.ref b121), (.ref b116), (.ref b116)]) _ := fun t k => pre35 t (by
    refine XS.dup X26.here hx rfl (hb hby at_123) rfl rfl ?_
    refine XS.iconst X26.here hx rfl (hb hby at_124) ?_
    refine XS.iload X26.here hx rfl (hb hby at_125) rfl ?_
    exact k)
  obtain ⟨cl37, Ar37, q37, Sz37, Mn37, Hs37, Gs37⟩ := id V26
  have hin37 : ¬ ((0 : Int32) < 0 ∨ cl37.slots.size ≤ ((0 : Int32)).toNatClampNeg) := inb_of Sz37 ⟨by decide, by decide⟩
  obtain ⟨T37, h37, X37, e37, W37, st37⟩ := stC X26 hx hZ e26 Ar37 (j := (0 : Int32)) hin37 (g := (mkF m 127 #[.val (.int p0), .val (.int p1), .val (.int p2), .val (.int p3), .val (.int p4), .val (.int 3), .val (.int (f1 p1)), .val (.int (f1 p2)), .val (.int (f1 p3)), .val (.int (f1 p4)), .unset, .unset] [(.int (f1 p1)), (.int 0), (.ref b121), (.ref b121), (.ref b116), (.ref b116)])) rfl rfl (hb hby at_127)
  have V37 : Arv Z h37 b121 k26 .char (3 : Int32) [(.int (nar .char (f1 p1))), (.int 0), (.int 0)] (.int 0) := Arv.set Ar37 q37 Sz37 Mn37 Hs37 Gs37 (fits_nar_char _) W37 0 rfl (Nat.le_of_ble_eq_true rfl)
  have N37 := Fr.snoc X37 N15 gg26
  have K37 : Keep h0 h37 [] := K26.wr W37 (Or.inr sz26)
  have Z37 : n0 ≤ h37.size := Nat.le_trans Z26 (Keep.of_wr W37).1
  have x38 := x27.wr W37
  have x39 := x28.wr W37
  have x40 := x29.wr W37
  have x41 := x30.wr W37
  have x42 := x31.wr W37
  have x43 := x32.wr W37
  have x44 := x33.other W37 (Or.inl ne26_b116)
  have x45 := x34.other W37 (Or.inl ne26_b116)
  have pre46 := Go.thn pre36 st37
  have pre47 : Go p e below T37 _ (mkF m 132 #[.val (.int p0), .val (.int p1), .val (.int p2), .val (.int p3), .val (.int p4), .val (.int 3), .val (.int (f1 p1)), .val (.int (f1 p2)), .val (.int (f1 p3)), .val (.int (f1 p4)), .unset, .unset] [(.int (f1 p2)), (.int 1), (.ref b121), (.ref b121), (.ref b116), (.ref b116)]) _ := fun t k => pre46 t (by
    refine XS.dup X37.here hx rfl (hb hby at_128) rfl rfl ?_
    refine XS.iconst X37.here hx rfl (hb hby at_129) ?_
    refine XS.iload X37.here hx rfl (hb hby at_130) rfl ?_
    exact k)
  obtain ⟨cl48, Ar48, q48, Sz48, Mn48, Hs48, Gs48⟩ := id V37
  have hin48 : ¬ ((1 : Int32) < 0 ∨ cl48.slots.size ≤ ((1 : Int32)).toNatClampNeg) := inb_of Sz48 ⟨by decide, by decide⟩
  obtain ⟨T48, h48, X48, e48, W48, st48⟩ := stC X37 hx hZ e37 Ar48 (j := (1 : Int32)) hin48 (g := (mkF m 132 #[.val (.int p0), .val (.int p1), .val (.int p2), .val (.int p3), .val (.int p4), .val (.int 3), .val (.int (f1 p1)), .val (.int (f1 p2)), .val (.int (f1 p3)), .val (.int (f1 p4)), .unset, .unset] [(.int (f1 p2)), (.int 1), (.ref b121), (.ref b121), (.ref b116), (.ref b116)])) rfl rfl (hb hby at_132)
  have V48 : Arv Z h48 b121 k26 .char (3 : Int32) [(.int (nar .char (f1 p1))), (.int (nar .char (f1 p2))), (.int 0)] (.int 0) := Arv.set Ar48 q48 Sz48 Mn48 Hs48 Gs48 (fits_nar_char _) W48 1 rfl (Nat.le_of_ble_eq_true rfl)
  have N48 := Fr.snoc X48 N37 gg26
  have K48 : Keep h0 h48 [] := K37.wr W48 (Or.inr sz26)
  have Z48 : n0 ≤ h48.size := Nat.le_trans Z37 (Keep.of_wr W48).1
  have x49 := x38.wr W48
  have x50 := x39.wr W48
  have x51 := x40.wr W48
  have x52 := x41.wr W48
  have x53 := x42.wr W48
  have x54 := x43.wr W48
  have x55 := x44.other W48 (Or.inl ne26_b116)
  have x56 := x45.other W48 (Or.inl ne26_b116)
  have pre57 := Go.thn pre47 st48
  have pre58 : Go p e below T48 _ (mkF m 137 #[.val (.int p0), .val (.int p1), .val (.int p2), .val (.int p3), .val (.int p4), .val (.int 3), .val (.int (f1 p1)), .val (.int (f1 p2)), .val (.int (f1 p3)), .val (.int (f1 p4)), .unset, .unset] [(.int (f1 p3)), (.int 2), (.ref b121), (.ref b121), (.ref b116), (.ref b116)]) _ := fun t k => pre57 t (by
    refine XS.dup X48.here hx rfl (hb hby at_133) rfl rfl ?_
    refine XS.iconst X48.here hx rfl (hb hby at_134) ?_
    refine XS.iload X48.here hx rfl (hb hby at_135) rfl ?_
    exact k)
  obtain ⟨cl59, Ar59, q59, Sz59, Mn59, Hs59, Gs59⟩ := id V48
  have hin59 : ¬ ((2 : Int32) < 0 ∨ cl59.slots.size ≤ ((2 : Int32)).toNatClampNeg) := inb_of Sz59 ⟨by decide, by decide⟩
  obtain ⟨T59, h59, X59, e59, W59, st59⟩ := stC X48 hx hZ e48 Ar59 (j := (2 : Int32)) hin59 (g := (mkF m 137 #[.val (.int p0), .val (.int p1), .val (.int p2), .val (.int p3), .val (.int p4), .val (.int 3), .val (.int (f1 p1)), .val (.int (f1 p2)), .val (.int (f1 p3)), .val (.int (f1 p4)), .unset, .unset] [(.int (f1 p3)), (.int 2), (.ref b121), (.ref b121), (.ref b116), (.ref b116)])) rfl rfl (hb hby at_137)
  have V59 : Arv Z h59 b121 k26 .char (3 : Int32) [(.int (nar .char (f1 p1))), (.int (nar .char (f1 p2))), (.int (nar .char (f1 p3)))] (.int 0) := Arv.set Ar59 q59 Sz59 Mn59 Hs59 Gs59 (fits_nar_char _) W59 2 rfl (Nat.le_of_ble_eq_true rfl)
  have N59 := Fr.snoc X59 N48 gg26
  have K59 : Keep h0 h59 [] := K48.wr W59 (Or.inr sz26)
  have Z59 : n0 ≤ h59.size := Nat.le_trans Z48 (Keep.of_wr W59).1
  have x60 := x49.wr W59
  have x61 := x50.wr W59
  have x62 := x51.wr W59
  have x63 := x52.wr W59
  have x64 := x53.wr W59
  have x65 := x54.wr W59
  have x66 := x55.other W59 (Or.inl ne26_b116)
  have x67 := x56.other W59 (Or.inl ne26_b116)
  have pre68 := Go.thn pre58 st59
  obtain ⟨_, _, ⟨T69, L69, k69, n69⟩, -, X69, ⟨Lc69, hQ69, l69, y69, z69⟩, st69⟩ := X59.specialBack hx (y := Nm_23) rfl hown (mvT hZ (wq hw 10 rfl)) (mvT hZ (wq hw 11 rfl)) (mvT hZ (wq hw 12 rfl)) (by decide) (backOf (W := 1) (rm2_3U l Z a0 hw [] b116 b121 wcs _ (nar .char (f1 p1)) (nar .char (f1 p2)) (nar .char (f1 p3)) h59 n0 Z59 x60 x62 x63 x64 x65 x66 x67 V59 gg18 (Ne.symm ne26_b116) hcs (own_nr _) (own_nr _) (own_nr _) hU) hZ (wq hw 12 rfl) (wq hw 8 rfl) (by decide) (by decide)) (g := (mkF m 138 #[.val (.int p0), .val (.int p1), .val (.int p2), .val (.int p3), .val (.int p4), .val (.int 3), .val (.int (f1 p1)), .val (.int (f1 p2)), .val (.int (f1 p3)), .val (.int (f1 p4)), .unset, .unset] [(.ref b121), (.ref b116), (.ref b116)])) rfl (by rw [hml]; rfl) (Steps.refl _) (a := b116) (argsL := [(.ref b121)]) (rest := [(.ref b116)]) (lenOf pd___C_V rfl) rfl (w00 rfl) (hb hby at_138) (fun _ _ => ⟨rfl, e59, (by decide : 2 + 2 ≤ _), (by decide : 7 + 9 ≤ _)⟩)
  dsimp only [Pt.U, Pt.locs, Pt.cells, Pt.slots] at X69 l69 y69 z69 st69 hQ69
  subst l69 y69 z69
  obtain ⟨b138_0, k_b6_0_69, rfl, Nq69, Kq69, gz69_b138_0, o69_0, o69_1, o69_2, o69_3⟩ := hQ69
  have N69 := Fr.app N59 Nq69
  have K69 : Keep h0 T69.heap [] := K59.trans Kq69 (allS (Or.inr sz18) all0)
  have Z69 : n0 ≤ T69.heap.size := Nat.le_trans Z59 Kq69.1
  have x70 := own_staK x60 Kq69 (allS (own_plE x65) all0)
  have x71 := own_staK x61 Kq69 (allS (own_plE x65) all0)
  have x72 := own_staK x62 Kq69 (allS (own_plE x65) all0)
  have x73 := own_staK x63 Kq69 (allS (own_plE x65) all0)
  have x74 := own_staK x64 Kq69 (allS (own_plE x65) all0)
  have x75 := x65.keep Kq69
  have x76 := V59.keep Kq69 (ninS (Ne.symm ne26_b116) nin0)
  have gg69_b138_0 : n0 ≤ b138_0 := Nat.le_trans Z59 gz69_b138_0
  have sz69_b138_0 : h0.size ≤ b138_0 := Nat.le_trans K59.1 gz69_b138_0
  have ne69_b116_b138_0 : b116 ≠ b138_0 := Nat.ne_of_lt (Nat.lt_of_lt_of_le x65.lt gz69_b138_0)
  have ne69_b121_b138_0 : b121 ≠ b138_0 := Nat.ne_of_lt (Nat.lt_of_lt_of_le V59.lt gz69_b138_0)
  have pre77 := Go.trn pre68 st69
  have pre78 : Go p e below T69 _ (mkF m 188 #[.val (.int p0), .val (.int p1), .val (.int p2), .val (.int p3), .val (.int p4), .val (.int 3), .val (.int (f1 p1)), .val (.int (f1 p2)), .val (.int (f1 p3)), .val (.int (f1 p4)), .val (.ref b116), .val (.int 0)] [(.int (f1 p1))]) _ := fun t k => pre77 t (by
    refine XS.astore X69.here hx rfl (hb hby at_141) rfl rfl (l' := #[.val (.int p0), .val (.int p1), .val (.int p2), .val (.int p3), .val (.int p4), .val (.int 3), .val (.int (f1 p1)), .val (.int (f1 p2)), .val (.int (f1 p3)), .val (.int (f1 p4)), .val (.ref b116), .unset]) rfl ?_
    refine XS.goto X69.here hx rfl (pc0 := 143) (pc' := 178) rfl (hb hby at_143) (by decide) (by decide) ?_
    refine XS.iconst X69.here hx rfl (hb hby at_178) ?_
    refine XS.istore X69.here hx rfl (hb hby at_179) rfl (l' := #[.val (.int p0), .val (.int p1), .val (.int p2), .val (.int p3), .val (.int p4), .val (.int 3), .val (.int (f1 p1)), .val (.int (f1 p2)), .val (.int (f1 p3)), .val (.int (f1 p4)), .val (.ref b116), .val (.int 0)]) rfl ?_
    refine XS.iload X69.here hx rfl (hb hby at_181) rfl ?_
    refine XS.ifNo X69.here hx rfl (hb hby at_183) rfl (by decide) ?_
    refine XS.iload X69.here hx rfl (hb hby at_186) rfl ?_
    exact k)
  obtain ⟨_, _, ⟨T79, L79, k79, n79⟩, -, X79, ⟨Lc79, hQ79, l79, y79, z79⟩, st79⟩ := Jvm.LawKit.callS X69 hx (y := Nm_1) hown (mvT hZ (wq hw 53 rfl)) (mvT hZ (wq hw 54 rfl)) (mvT hZ (wq hw 3 rfl)) (mvT hZ (wq hw 55 rfl)) (by decide) (backOf (W := 0) (rm11 l Z a0 hw [] (f1 p1) T69.heap n0 Z69) hZ (wq hw 55 rfl) (wq hw 3 rfl) (by decide) (by decide)) (g := (mkF m 188 #[.val (.int p0), .val (.int p1), .val (.int p2), .val (.int p3), .val (.int p4), .val (.int 3), .val (.int (f1 p1)), .val (.int (f1 p2)), .val (.int (f1 p3)), .val (.int (f1 p4)), .val (.ref b116), .val (.int 0)] [(.int (f1 p1))])) rfl (by rw [hml]; rfl) (argsL := [(.int (f1 p1))]) (rest := []) (lenOf pd__C_Z rfl) rfl (w00 rfl) (hb hby at_188) (fun _ _ => ⟨rfl, rfl, (by decide : 4 + 0 ≤ _), (by decide : 16 + 0 ≤ _)⟩)
  dsimp only [Pt.U, Pt.locs, Pt.cells, Pt.slots] at X79 l79 y79 z79 st79 hQ79
  subst l79 y79 z79
  obtain ⟨rfl, Nq79, e79⟩ := hQ79
  have N79 := Fr.app N69 Nq79
  have pre80 := Go.thn pre78 st79
  obtain ⟨T81, L81, X81, e81, N81, pre81⟩ : ∃ (T' : State) (L' : List Loc), Stand p l e room_1 s m #[(.int p0), (.int p1), (.int p2), (.int p3), (.int p4)] below meth c T' L' 4 16 ∧ T'.heap = T69.heap ∧ Fr n0 L' ∧ ∀ t, Steps p.tables e below (T'.setTop (mkF m 248 #[.val (.int p0), .val (.int p1), .val (.int p2), .val (.int p3), .val (.int p4), .val (.int 3), .val (.int (f1 p1)), .val (.int (f1 p2)), .val (.int (f1 p3)), .val (.int (f1 p4)), .val (.ref b116), .val (.int (v0_3U_248_l11 p1 p2 p3))] [])) t → Steps p.tables e below (s₁.setTop (entryFrame m #[(.int p0), (.int p1), (.int p2), (.int p3), (.int p4)] maxLocals)) t := by
    by_cases hc191_1 : (f11 (f1 p1)) = (0 : Int32)
    · have pre82 : Go p e below T79 _ (mkF m 248 #[.val (.int p0), .val (.int p1), .val (.int p2), .val (.int p3), .val (.int p4), .val (.int 3), .val (.int (f1 p1)), .val (.int (f1 p2)), .val (.int (f1 p3)), .val (.int (f1 p4)), .val (.ref b116), .val (.int 0)] []) _ := fun t k => pre80 t (by
        refine XS.ifYes X79.here hx rfl (pc0 := 191) (pc' := 248) rfl (hb hby at_191) rfl ((if0 _ _).trans (teq hc191_1).1) (by decide) (by decide) ?_
        exact k)
      exact ⟨T79, _, X79, e79, N79, fun t k => pre82 t (by simpa only [v0_3U_248_l11, if_pos hc191_1] using k)⟩
    · have pre83 : Go p e below T79 _ (mkF m 205 #[.val (.int p0), .val (.int p1), .val (.int p2), .val (.int p3), .val (.int p4), .val (.int 3), .val (.int (f1 p1)), .val (.int (f1 p2)), .val (.int (f1 p3)), .val (.int (f1 p4)), .val (.ref b116), .val (.int 1)] [(.int (f1 p2))]) _ := fun t k => pre80 t (by
        refine XS.ifNo X79.here hx rfl (hb hby at_191) rfl ((if0 _ _).trans (feq hc191_1).1) ?_
        refine XS.iconst X79.here hx rfl (hb hby at_194) ?_
        refine XS.istore X79.here hx rfl (hb hby at_195) rfl (l' := #[.val (.int p0), .val (.int p1), .val (.int p2), .val (.int p3), .val (.int p4), .val (.int 3), .val (.int (f1 p1)), .val (.int (f1 p2)), .val (.int (f1 p3)), .val (.int (f1 p4)), .val (.ref b116), .val (.int 1)]) rfl ?_
        refine XS.iload X79.here hx rfl (hb hby at_197) rfl ?_
        refine XS.iconst X79.here hx rfl (hb hby at_199) ?_
        refine XS.icmpNo X79.here hx rfl (hb hby at_200) rfl (by decide) ?_
        refine XS.iload X79.here hx rfl (hb hby at_203) rfl ?_
        exact k)
      obtain ⟨_, _, ⟨T84, L84, k84, n84⟩, -, X84, ⟨Lc84, hQ84, l84, y84, z84⟩, st84⟩ := Jvm.LawKit.callS X79 hx (y := Nm_1) hown (mvT hZ (wq hw 53 rfl)) (mvT hZ (wq hw 54 rfl)) (mvT hZ (wq hw 3 rfl)) (mvT hZ (wq hw 55 rfl)) (by decide) (backOf (W := 0) (rm11 l Z a0 hw [] (f1 p2) T69.heap n0 Z69) hZ (wq hw 55 rfl) (wq hw 3 rfl) (by decide) (by decide)) (g := (mkF m 205 #[.val (.int p0), .val (.int p1), .val (.int p2), .val (.int p3), .val (.int p4), .val (.int 3), .val (.int (f1 p1)), .val (.int (f1 p2)), .val (.int (f1 p3)), .val (.int (f1 p4)), .val (.ref b116), .val (.int 1)] [(.int (f1 p2))])) rfl (by rw [hml]; rfl) (argsL := [(.int (f1 p2))]) (rest := []) (lenOf pd__C_Z rfl) rfl (w00 rfl) (hb hby at_205) (fun _ _ => ⟨rfl, e79, (by decide : 4 + 0 ≤ _), (by decide : 16 + 0 ≤ _)⟩)
      dsimp only [Pt.U, Pt.locs, Pt.cells, Pt.slots] at X84 l84 y84 z84 st84 hQ84
      subst l84 y84 z84
      obtain ⟨rfl, Nq84, e84⟩ := hQ84
      have N84 := Fr.app N79 Nq84
      have pre85 := Go.thn pre83 st84
      by_cases hc208_2 : (f11 (f1 p2)) = (0 : Int32)
      · have pre86 : Go p e below T84 _ (mkF m 248 #[.val (.int p0), .val (.int p1), .val (.int p2), .val (.int p3), .val (.int p4), .val (.int 3), .val (.int (f1 p1)), .val (.int (f1 p2)), .val (.int (f1 p3)), .val (.int (f1 p4)), .val (.ref b116), .val (.int 1)] []) _ := fun t k => pre85 t (by
          refine XS.ifYes X84.here hx rfl (pc0 := 208) (pc' := 248) rfl (hb hby at_208) rfl ((if0 _ _).trans (teq hc208_2).1) (by decide) (by decide) ?_
          exact k)
        exact ⟨T84, _, X84, e84, N84, fun t k => pre86 t (by simpa only [v0_3U_248_l11, if_neg hc191_1, if_pos hc208_2] using k)⟩
      · have pre87 : Go p e below T84 _ (mkF m 222 #[.val (.int p0), .val (.int p1), .val (.int p2), .val (.int p3), .val (.int p4), .val (.int 3), .val (.int (f1 p1)), .val (.int (f1 p2)), .val (.int (f1 p3)), .val (.int (f1 p4)), .val (.ref b116), .val (.int 2)] [(.int (f1 p3))]) _ := fun t k => pre85 t (by
          refine XS.ifNo X84.here hx rfl (hb hby at_208) rfl ((if0 _ _).trans (feq hc208_2).1) ?_
          refine XS.iconst X84.here hx rfl (hb hby at_211) ?_
          refine XS.istore X84.here hx rfl (hb hby at_212) rfl (l' := #[.val (.int p0), .val (.int p1), .val (.int p2), .val (.int p3), .val (.int p4), .val (.int 3), .val (.int (f1 p1)), .val (.int (f1 p2)), .val (.int (f1 p3)), .val (.int (f1 p4)), .val (.ref b116), .val (.int 2)]) rfl ?_
          refine XS.iload X84.here hx rfl (hb hby at_214) rfl ?_
          refine XS.iconst X84.here hx rfl (hb hby at_216) ?_
          refine XS.icmpNo X84.here hx rfl (hb hby at_217) rfl (by decide) ?_
          refine XS.iload X84.here hx rfl (hb hby at_220) rfl ?_
          exact k)
        obtain ⟨_, _, ⟨T88, L88, k88, n88⟩, -, X88, ⟨Lc88, hQ88, l88, y88, z88⟩, st88⟩ := Jvm.LawKit.callS X84 hx (y := Nm_1) hown (mvT hZ (wq hw 53 rfl)) (mvT hZ (wq hw 54 rfl)) (mvT hZ (wq hw 3 rfl)) (mvT hZ (wq hw 55 rfl)) (by decide) (backOf (W := 0) (rm11 l Z a0 hw [] (f1 p3) T69.heap n0 Z69) hZ (wq hw 55 rfl) (wq hw 3 rfl) (by decide) (by decide)) (g := (mkF m 222 #[.val (.int p0), .val (.int p1), .val (.int p2), .val (.int p3), .val (.int p4), .val (.int 3), .val (.int (f1 p1)), .val (.int (f1 p2)), .val (.int (f1 p3)), .val (.int (f1 p4)), .val (.ref b116), .val (.int 2)] [(.int (f1 p3))])) rfl (by rw [hml]; rfl) (argsL := [(.int (f1 p3))]) (rest := []) (lenOf pd__C_Z rfl) rfl (w00 rfl) (hb hby at_222) (fun _ _ => ⟨rfl, e84, (by decide : 4 + 0 ≤ _), (by decide : 16 + 0 ≤ _)⟩)
        dsimp only [Pt.U, Pt.locs, Pt.cells, Pt.slots] at X88 l88 y88 z88 st88 hQ88
        subst l88 y88 z88
        obtain ⟨rfl, Nq88, e88⟩ := hQ88
        have N88 := Fr.app N84 Nq88
        have pre89 := Go.thn pre87 st88
        by_cases hc225_3 : (f11 (f1 p3)) = (0 : Int32)
        · have pre90 : Go p e below T88 _ (mkF m 248 #[.val (.int p0), .val (.int p1), .val (.int p2), .val (.int p3), .val (.int p4), .val (.int 3), .val (.int (f1 p1)), .val (.int (f1 p2)), .val (.int (f1 p3)), .val (.int (f1 p4)), .val (.ref b116), .val (.int 2)] []) _ := fun t k => pre89 t (by
            refine XS.ifYes X88.here hx rfl (pc0 := 225) (pc' := 248) rfl (hb hby at_225) rfl ((if0 _ _).trans (teq hc225_3).1) (by decide) (by decide) ?_
            exact k)
          exact ⟨T88, _, X88, e88, N88, fun t k => pre90 t (by simpa only [v0_3U_248_l11, if_neg hc191_1, if_neg hc208_2, if_pos hc225_3] using k)⟩
        · have pre91 : Go p e below T88 _ (mkF m 248 #[.val (.int p0), .val (.int p1), .val (.int p2), .val (.int p3), .val (.int p4), .val (.int 3), .val (.int (f1 p1)), .val (.int (f1 p2)), .val (.int (f1 p3)), .val (.int (f1 p4)), .val (.ref b116), .val (.int 3)] []) _ := fun t k => pre89 t (by
            refine XS.ifNo X88.here hx rfl (hb hby at_225) rfl ((if0 _ _).trans (feq hc225_3).1) ?_
            refine XS.iconst X88.here hx rfl (hb hby at_228) ?_
            refine XS.istore X88.here hx rfl (hb hby at_229) rfl (l' := #[.val (.int p0), .val (.int p1), .val (.int p2), .val (.int p3), .val (.int p4), .val (.int 3), .val (.int (f1 p1)), .val (.int (f1 p2)), .val (.int (f1 p3)), .val (.int (f1 p4)), .val (.ref b116), .val (.int 3)]) rfl ?_
            refine XS.iload X88.here hx rfl (hb hby at_231) rfl ?_
            refine XS.iconst X88.here hx rfl (hb hby at_233) ?_
            refine XS.icmpYes X88.here hx rfl (pc0 := 234) (pc' := 248) rfl (hb hby at_234) rfl (by decide) (by decide) (by decide) ?_
            exact k)
          exact ⟨T88, _, X88, e88, N88, fun t k => pre91 t (by simpa only [v0_3U_248_l11, if_neg hc191_1, if_neg hc208_2, if_neg hc225_3] using k)⟩
  have pre92 : Go p e below T81 _ (mkF m 250 #[.val (.int p0), .val (.int p1), .val (.int p2), .val (.int p3), .val (.int p4), .val (.int 3), .val (.int (f1 p1)), .val (.int (f1 p2)), .val (.int (f1 p3)), .val (.int (f1 p4)), .val (.ref b116), .val (.int (v0_3U_248_l11 p1 p2 p3))] [(.ref b116)]) _ := fun t k => pre81 t (by
    refine XS.aload X81.here hx rfl (hb hby at_248) rfl rfl ?_
    exact k)
  obtain ⟨_, _, ⟨T93, L93, k93, n93⟩, -, X93, ⟨Lc93, hQ93, l93, y93, z93⟩, st93⟩ := Jvm.LawKit.callS X81 hx (y := Nm_14) hown (mvT hZ (wq hw 28 rfl)) (mvT hZ (wq hw 29 rfl)) (mvT hZ (wq hw 30 rfl)) (mvT hZ (wq hw 31 rfl)) (by decide) (backOf (W := 0) (rm5_U l Z a0 hw [] b116 wcs wsf b138_0 _ (6 : Int32) [(own_b0 (nar .char (f1 p1))), (own_b8 (nar .char (f1 p1))), (own_b0 (nar .char (f1 p2))), (own_b8 (nar .char (f1 p2))), (own_b0 (nar .char (f1 p3))), (own_b8 (nar .char (f1 p3)))] T69.heap n0 Z69 x70 x71 o69_0 x72 x73 x74 o69_1 o69_2 o69_3 hcs hsf (Or.inr (Or.inr (Or.inl rfl))) (by decide)) hZ (wq hw 31 rfl) (wq hw 30 rfl) (by decide) (by decide)) (g := (mkF m 250 #[.val (.int p0), .val (.int p1), .val (.int p2), .val (.int p3), .val (.int p4), .val (.int 3), .val (.int (f1 p1)), .val (.int (f1 p2)), .val (.int (f1 p3)), .val (.int (f1 p4)), .val (.ref b116), .val (.int (v0_3U_248_l11 p1 p2 p3))] [(.ref b116)])) rfl (by rw [hml]; rfl) (argsL := [(.ref b116)]) (rest := []) (lenOf pd__Ljava_lang_String__I rfl) rfl (w00 rfl) (hb hby at_250) (fun _ _ => ⟨rfl, e81, (by decide : 4 + 0 ≤ _), (by decide : 16 + 0 ≤ _)⟩)
  dsimp only [Pt.U, Pt.locs, Pt.cells, Pt.slots] at X93 l93 y93 z93 st93 hQ93
  subst l93 y93 z93
  obtain ⟨rfl, Nq93, e93⟩ := hQ93
  have N93 := Fr.app N81 Nq93
  have pre94 := Go.thn pre92 st93
  have pre95 : Go p e below T93 _ (mkF m 255 #[.val (.int p0), .val (.int p1), .val (.int p2), .val (.int p3), .val (.int p4), .val (.int 3), .val (.int (f1 p1)), .val (.int (f1 p2)), .val (.int (f1 p3)), .val (.int (f1 p4)), .val (.ref b116), .val (.int (v0_3U_248_l11 p1 p2 p3))] [(.int (v0_3U_248_l11 p1 p2 p3)), (.int (f5_U (6 : Int32) [(own_b0 (nar .char (f1 p1))), (own_b8 (nar .char (f1 p1))), (own_b0 (nar .char (f1 p2))), (own_b8 (nar .char (f1 p2))), (own_b0 (nar .char (f1 p3))), (own_b8 (nar .char (f1 p3)))]))]) _ := fun t k => pre94 t (by
    refine XS.iload X93.here hx rfl (hb hby at_253) rfl ?_
    exact k)
  by_cases hc255_4 : (f5_U (6 : Int32) [(own_b0 (nar .char (f1 p1))), (own_b8 (nar .char (f1 p1))), (own_b0 (nar .char (f1 p2))), (own_b8 (nar .char (f1 p2))), (own_b0 (nar .char (f1 p3))), (own_b8 (nar .char (f1 p3)))]) = (v0_3U_248_l11 p1 p2 p3)
  · have pre96 : Go p e below T93 _ (mkF m 263 #[.val (.int p0), .val (.int p1), .val (.int p2), .val (.int p3), .val (.int p4), .val (.int 3), .val (.int (f1 p1)), .val (.int (f1 p2)), .val (.int (f1 p3)), .val (.int (f1 p4)), .val (.ref b116), .val (.int (v0_3U_248_l11 p1 p2 p3))] [(.int 1)]) _ := fun t k => pre95 t (by
      refine XS.icmpNo X93.here hx rfl (hb hby at_255) rfl (teq hc255_4).2 ?_
      refine XS.iconst X93.here hx rfl (hb hby at_258) ?_
      refine XS.goto X93.here hx rfl (pc0 := 259) (pc' := 263) rfl (hb hby at_259) (by decide) (by decide) ?_
      exact k)
    obtain ⟨fs, hr, hrun, hended, hW, hsame⟩ := X93.leave (v := some (.int 1)) (fun h => by rw [Bd.returns] at h; cases h)
    refine ⟨_, _, ?_, hrun, hended, _, _, rfl, ?_, ⟨_, rfl⟩, hW, hsame.mono (by decide) (by decide)⟩
    · exact pre96 _ (retN X93 hx (t := .boolean) Bd.returns (by simp) (hb hby at_263) hr)
    · exact ⟨by simp only [f0_3U, if_pos hc255_4], N93, trivial⟩
  · have pre97 : Go p e below T93 _ (mkF m 263 #[.val (.int p0), .val (.int p1), .val (.int p2), .val (.int p3), .val (.int p4), .val (.int 3), .val (.int (f1 p1)), .val (.int (f1 p2)), .val (.int (f1 p3)), .val (.int (f1 p4)), .val (.ref b116), .val (.int (v0_3U_248_l11 p1 p2 p3))] [(.int 0)]) _ := fun t k => pre95 t (by
      refine XS.icmpYes X93.here hx rfl (pc0 := 255) (pc' := 262) rfl (hb hby at_255) rfl (feq hc255_4).2 (by decide) (by decide) ?_
      refine XS.iconst X93.here hx rfl (hb hby at_262) ?_
      exact k)
    obtain ⟨fs, hr, hrun, hended, hW, hsame⟩ := X93.leave (v := some (.int 0)) (fun h => by rw [Bd.returns] at h; cases h)
    refine ⟨_, _, ?_, hrun, hended, _, _, rfl, ?_, ⟨_, rfl⟩, hW, hsame.mono (by decide) (by decide)⟩
    · exact pre97 _ (retN X93 hx (t := .boolean) Bd.returns (by simp) (hb hby at_263) hr)
    · exact ⟨by simp only [f0_3U, if_neg hc255_4], N93, trivial⟩
def v0_4L_248_l11 (p1 : Int32) (p2 : Int32) (p3 : Int32) (p4 : Int32) : Int32 := (if (f11 (f1 p1)) = (0 : Int32) then (0 : Int32) else (if (f11 (f1 p2)) = (0 : Int32) then (1 : Int32) else (if (f11 (f1 p3)) = (0 : Int32) then (2 : Int32) else (if (f11 (f1 p4)) = (0 : Int32) then (3 : Int32) else (4 : Int32)))))
def f0_4L (p1 : Int32) (p2 : Int32) (p3 : Int32) (p4 : Int32) : Int32 := (if (f5_L (4 : Int32) [(g9_4_o2_0 (nar .char (f1 p1))), (g9_4_o2_1 (nar .char (f1 p1)) (nar .char (f1 p2))), (g9_4_o2_2 (nar .char (f1 p1)) (nar .char (f1 p2)) (nar .char (f1 p3))), (g9_4_o2_3 (nar .char (f1 p1)) (nar .char (f1 p2)) (nar .char (f1 p3)) (nar .char (f1 p4)))]) = (v0_4L_248_l11 p1 p2 p3 p4) then (1 : Int32) else (0 : Int32))
set_option maxRecDepth 65536 in
set_option maxHeartbeats 40000000 in
theorem rm0_4L (l : Launch) (Z : State) (a0 : Array Value) (hw : ∀ d ∈ tables_1, d.before a0 Z = true) (ws : List Jvm.Cond) (p0 : Int32) (p1 : Int32) (p2 : Int32) (p3 : Int32) (p4 : Int32) (wcs : Int32) (wsf : Value) (h0 : Heap) (n0 : Nat) (Z0 : n0 ≤ h0.size) (I0 : Sta Z h0 "java/lang/String" "COMPACT_STRINGS" "Z" (.int wcs)) (I1 : Sta Z h0 "jdk/internal/util/Preconditions" "SIOOBE_FORMATTER" "Ljava/util/function/BiFunction;" wsf) (I2 : Sta Z h0 "java/lang/StringUTF16" "$assertionsDisabled" "Z" (.int 1)) (I3 : Sta Z h0 "java/lang/StringUTF16" "HI_BYTE_SHIFT" "I" (.int 0)) (I4 : Sta Z h0 "java/lang/StringUTF16" "LO_BYTE_SHIFT" "I" (.int 8)) (hn : ((p0 &&& (2147483647 : Int32)) - (p0 &&& (2147483647 : Int32)) / (5 : Int32) * (5 : Int32)) = (4 : Int32)) (hcs : ¬ (wcs = (0 : Int32))) (hsf : wsf.isRef = true) (hl0 : ¬ ((255 : Int32) < (nar .char (f1 p1)))) (hl1 : ¬ ((255 : Int32) < (nar .char (f1 p2)))) (hl2 : ¬ ((255 : Int32) < (nar .char (f1 p3)))) (hl3 : ¬ ((255 : Int32) < (nar .char (f1 p4)))) :
    Met1 l x (Jvm.Cond.code x code maxLocals ret) ws room_1 #[(.int p0), (.int p1), (.int p2), (.int p3), (.int p4)] Z h0 (QL (some (.int (f0_4L p1 p2 p3 p4))) n0) := by
  refine MetFree.of_bodySF (plainFor_of_name pn_0) hisR ?_
  intro p e s m args below meth c s₁ Bd hml0 hP hK
  obtain ⟨rfl, hZ, hh⟩ := hP
  have hx := Bd.exec
  have hby := Bd.bytes
  have hml : c.maxLocals = 12 := hml0
  have hown : s.vm.findClass "com/example/stint/stint/WholeNumberLeadingDigitsPinLaw" = some m.cls := findClass_of_methodNamed Bd.named
  have X0 : Stand p l e room_1 s m _ _ _ _ _ [] 0 0 := Stand.of_body Bd
  have e0 : s₁.heap = h0 := by rw [← hh, Bd.state]; rfl
  have N0 := Fr.nil n0
  have K0 : Keep h0 h0 [] := Keep.refl _ _
  have pre0 : Go p e below s₁ _ (mkF m 0 #[.val (.int p0), .val (.int p1), .val (.int p2), .val (.int p3), .val (.int p4), .unset, .unset, .unset, .unset, .unset, .unset, .unset] []) _ := fun t k => castTop (ef_0 m p0 p1 p2 p3 p4) k
  have pre6 : Go p e below s₁ _ (mkF m 9 #[.val (.int p0), .val (.int p1), .val (.int p2), .val (.int p3), .val (.int p4), .val (.int 4), .unset, .unset, .unset, .unset, .unset, .unset] [(.int p1)]) _ := fun t k => pre0 t (by
    refine XS.iloadN X0.here hx rfl (hb hby at_0) rfl ?_
    refine X0.ldcInt hx hown (mvT hZ (wq hw 0 rfl)) (g := (mkF m 1 #[.val (.int p0), .val (.int p1), .val (.int p2), .val (.int p3), .val (.int p4), .unset, .unset, .unset, .unset, .unset, .unset, .unset] [(.int p0)])) rfl (hb hby at_1) _ ?_
    refine XS.iand X0.here hx rfl (hb hby at_3) rfl ?_
    refine XS.iconst X0.here hx rfl (hb hby at_4) ?_
    refine XS.irem X0.here hx rfl (hb hby at_5) rfl (by decide) ?_
    show Steps p.tables e below (s₁.setTop (mkF m 6 #[.val (.int p0), .val (.int p1), .val (.int p2), .val (.int p3), .val (.int p4), .unset, .unset, .unset, .unset, .unset, .unset, .unset] [(.int ((p0 &&& (2147483647 : Int32)) - (p0 &&& (2147483647 : Int32)) / (5 : Int32) * (5 : Int32)))])) _
    rw [hn]
    refine XS.istore X0.here hx rfl (hb hby at_6) rfl (l' := #[.val (.int p0), .val (.int p1), .val (.int p2), .val (.int p3), .val (.int p4), .val (.int 4), .unset, .unset, .unset, .unset, .unset, .unset]) rfl ?_
    refine XS.iloadN X0.here hx rfl (hb hby at_8) rfl ?_
    exact k)
  obtain ⟨_, _, ⟨T7, L7, k7, n7⟩, -, X7, ⟨Lc7, hQ7, l7, y7, z7⟩, st7⟩ := Jvm.LawKit.callS X0 hx (y := Nm_0) hown (mvT hZ (wq hw 1 rfl)) (mvT hZ (wq hw 2 rfl)) (mvT hZ (wq hw 3 rfl)) (mvT hZ (wq hw 4 rfl)) (by decide) (backOf (W := 0) (rm1 l Z a0 hw [] p1 h0 n0 Z0) hZ (wq hw 4 rfl) (wq hw 3 rfl) (by decide) (by decide)) (g := (mkF m 9 #[.val (.int p0), .val (.int p1), .val (.int p2), .val (.int p3), .val (.int p4), .val (.int 4), .unset, .unset, .unset, .unset, .unset, .unset] [(.int p1)])) rfl (by rw [hml]; rfl) (argsL := [(.int p1)]) (rest := []) (lenOf pd__I_C rfl) rfl (w00 rfl) (hb hby at_9) (fun _ _ => ⟨rfl, e0, (by decide : 0 + 0 ≤ _), (by decide : 0 + 0 ≤ _)⟩)
  dsimp only [Pt.U, Pt.locs, Pt.cells, Pt.slots] at X7 l7 y7 z7 st7 hQ7
  subst l7 y7 z7
  obtain ⟨rfl, Nq7, e7⟩ := hQ7
  have N7 := Fr.app N0 Nq7
  have pre8 := Go.thn pre6 st7
  have pre9 : Go p e below T7 _ (mkF m 15 #[.val (.int p0), .val (.int p1), .val (.int p2), .val (.int p3), .val (.int p4), .val (.int 4), .val (.int (f1 p1)), .unset, .unset, .unset, .unset, .unset] [(.int p2)]) _ := fun t k => pre8 t (by
    refine XS.istore X7.here hx rfl (hb hby at_12) rfl (l' := #[.val (.int p0), .val (.int p1), .val (.int p2), .val (.int p3), .val (.int p4), .val (.int 4), .val (.int (f1 p1)), .unset, .unset, .unset, .unset, .unset]) rfl ?_
    refine XS.iloadN X7.here hx rfl (hb hby at_14) rfl ?_
    exact k)
  obtain ⟨_, _, ⟨T10, L10, k10, n10⟩, -, X10, ⟨Lc10, hQ10, l10, y10, z10⟩, st10⟩ := Jvm.LawKit.callS X7 hx (y := Nm_0) hown (mvT hZ (wq hw 1 rfl)) (mvT hZ (wq hw 2 rfl)) (mvT hZ (wq hw 3 rfl)) (mvT hZ (wq hw 4 rfl)) (by decide) (backOf (W := 0) (rm1 l Z a0 hw [] p2 h0 n0 Z0) hZ (wq hw 4 rfl) (wq hw 3 rfl) (by decide) (by decide)) (g := (mkF m 15 #[.val (.int p0), .val (.int p1), .val (.int p2), .val (.int p3), .val (.int p4), .val (.int 4), .val (.int (f1 p1)), .unset, .unset, .unset, .unset, .unset] [(.int p2)])) rfl (by rw [hml]; rfl) (argsL := [(.int p2)]) (rest := []) (lenOf pd__I_C rfl) rfl (w00 rfl) (hb hby at_15) (fun _ _ => ⟨rfl, e7, (by decide : 0 + 0 ≤ _), (by decide : 0 + 0 ≤ _)⟩)
  dsimp only [Pt.U, Pt.locs, Pt.cells, Pt.slots] at X10 l10 y10 z10 st10 hQ10
  subst l10 y10 z10
  obtain ⟨rfl, Nq10, e10⟩ := hQ10
  have N10 := Fr.app N7 Nq10
  have pre11 := Go.thn pre9 st10
  have pre12 : Go p e below T10 _ (mkF m 21 #[.val (.int p0), .val (.int p1), .val (.int p2), .val (.int p3), .val (.int p4), .val (.int 4), .val (.int (f1 p1)), .val (.int (f1 p2)), .unset, .unset, .unset, .unset] [(.int p3)]) _ := fun t k => pre11 t (by
    refine XS.istore X10.here hx rfl (hb hby at_18) rfl (l' := #[.val (.int p0), .val (.int p1), .val (.int p2), .val (.int p3), .val (.int p4), .val (.int 4), .val (.int (f1 p1)), .val (.int (f1 p2)), .unset, .unset, .unset, .unset]) rfl ?_
    refine XS.iloadN X10.here hx rfl (hb hby at_20) rfl ?_
    exact k)
  obtain ⟨_, _, ⟨T13, L13, k13, n13⟩, -, X13, ⟨Lc13, hQ13, l13, y13, z13⟩, st13⟩ := Jvm.LawKit.callS X10 hx (y := Nm_0) hown (mvT hZ (wq hw 1 rfl)) (mvT hZ (wq hw 2 rfl)) (mvT hZ (wq hw 3 rfl)) (mvT hZ (wq hw 4 rfl)) (by decide) (backOf (W := 0) (rm1 l Z a0 hw [] p3 h0 n0 Z0) hZ (wq hw 4 rfl) (wq hw 3 rfl) (by decide) (by decide)) (g := (mkF m 21 #[.val (.int p0), .val (.int p1), .val (.int p2), .val (.int p3), .val (.int p4), .val (.int 4), .val (.int (f1 p1)), .val (.int (f1 p2)), .unset, .unset, .unset, .unset] [(.int p3)])) rfl (by rw [hml]; rfl) (argsL := [(.int p3)]) (rest := []) (lenOf pd__I_C rfl) rfl (w00 rfl) (hb hby at_21) (fun _ _ => ⟨rfl, e10, (by decide : 0 + 0 ≤ _), (by decide : 0 + 0 ≤ _)⟩)
  dsimp only [Pt.U, Pt.locs, Pt.cells, Pt.slots] at X13 l13 y13 z13 st13 hQ13
  subst l13 y13 z13
  obtain ⟨rfl, Nq13, e13⟩ := hQ13
  have N13 := Fr.app N10 Nq13
  have pre14 := Go.thn pre12 st13
  have pre15 : Go p e below T13 _ (mkF m 28 #[.val (.int p0), .val (.int p1), .val (.int p2), .val (.int p3), .val (.int p4), .val (.int 4), .val (.int (f1 p1)), .val (.int (f1 p2)), .val (.int (f1 p3)), .unset, .unset, .unset] [(.int p4)]) _ := fun t k => pre14 t (by
    refine XS.istore X13.here hx rfl (hb hby at_24) rfl (l' := #[.val (.int p0), .val (.int p1), .val (.int p2), .val (.int p3), .val (.int p4), .val (.int 4), .val (.int (f1 p1)), .val (.int (f1 p2)), .val (.int (f1 p3)), .unset, .unset, .unset]) rfl ?_
    refine XS.iload X13.here hx rfl (hb hby at_26) rfl ?_
    exact k)
  obtain ⟨_, _, ⟨T16, L16, k16, n16⟩, -, X16, ⟨Lc16, hQ16, l16, y16, z16⟩, st16⟩ := Jvm.LawKit.callS X13 hx (y := Nm_0) hown (mvT hZ (wq hw 1 rfl)) (mvT hZ (wq hw 2 rfl)) (mvT hZ (wq hw 3 rfl)) (mvT hZ (wq hw 4 rfl)) (by decide) (backOf (W := 0) (rm1 l Z a0 hw [] p4 h0 n0 Z0) hZ (wq hw 4 rfl) (wq hw 3 rfl) (by decide) (by decide)) (g := (mkF m 28 #[.val (.int p0), .val (.int p1), .val (.int p2), .val (.int p3), .val (.int p4), .val (.int 4), .val (.int (f1 p1)), .val (.int (f1 p2)), .val (.int (f1 p3)), .unset, .unset, .unset] [(.int p4)])) rfl (by rw [hml]; rfl) (argsL := [(.int p4)]) (rest := []) (lenOf pd__I_C rfl) rfl (w00 rfl) (hb hby at_28) (fun _ _ => ⟨rfl, e13, (by decide : 0 + 0 ≤ _), (by decide : 0 + 0 ≤ _)⟩)
  dsimp only [Pt.U, Pt.locs, Pt.cells, Pt.slots] at X16 l16 y16 z16 st16 hQ16
  subst l16 y16 z16
  obtain ⟨rfl, Nq16, e16⟩ := hQ16
  have N16 := Fr.app N13 Nq16
  have pre17 := Go.thn pre15 st16
  have pre18 : Go p e below T16 _ (mkF m 146 #[.val (.int p0), .val (.int p1), .val (.int p2), .val (.int p3), .val (.int p4), .val (.int 4), .val (.int (f1 p1)), .val (.int (f1 p2)), .val (.int (f1 p3)), .val (.int (f1 p4)), .unset, .unset] []) _ := fun t k => pre17 t (by
    refine XS.istore X16.here hx rfl (hb hby at_31) rfl (l' := #[.val (.int p0), .val (.int p1), .val (.int p2), .val (.int p3), .val (.int p4), .val (.int 4), .val (.int (f1 p1)), .val (.int (f1 p2)), .val (.int (f1 p3)), .val (.int (f1 p4)), .unset, .unset]) rfl ?_
    refine XS.iload X16.here hx rfl (hb hby at_33) rfl ?_
    refine XS.ifYes X16.here hx rfl (pc0 := 35) (pc' := 53) rfl (hb hby at_35) rfl (by decide) (by decide) (by decide) ?_
    refine XS.iload X16.here hx rfl (hb hby at_53) rfl ?_
    refine XS.iconst X16.here hx rfl (hb hby at_55) ?_
    refine XS.icmpYes X16.here hx rfl (pc0 := 56) (pc' := 79) rfl (hb hby at_56) rfl (by decide) (by decide) (by decide) ?_
    refine XS.iload X16.here hx rfl (hb hby at_79) rfl ?_
    refine XS.iconst X16.here hx rfl (hb hby at_81) ?_
    refine XS.icmpYes X16.here hx rfl (pc0 := 82) (pc' := 110) rfl (hb hby at_82) rfl (by decide) (by decide) (by decide) ?_
    refine XS.iload X16.here hx rfl (hb hby at_110) rfl ?_
    refine XS.iconst X16.here hx rfl (hb hby at_112) ?_
    refine XS.icmpYes X16.here hx rfl (pc0 := 113) (pc' := 146) rfl (hb hby at_113) rfl (by decide) (by decide) (by decide) ?_
    exact k)
  obtain ⟨T19, h19, X19, e19, E19, A19, D19, -, st19⟩ := newO X16 hx hZ hown (wq hw 6 rfl) (wq hw 7 rfl) (wq hw 8 rfl) e16 (g := (mkF m 146 #[.val (.int p0), .val (.int p1), .val (.int p2), .val (.int p3), .val (.int p4), .val (.int 4), .val (.int (f1 p1)), .val (.int (f1 p2)), .val (.int (f1 p3)), .val (.int (f1 p4)), .unset, .unset] [])) rfl (hb hby at_146) (by decide) (by decide)
  obtain ⟨b146, g19⟩ : ∃ z, z = h0.size := ⟨_, rfl⟩
  rw [← g19] at A19 D19 st19
  have gg19 : n0 ≤ b146 := Nat.le_trans Z0 (Nat.le_of_eq g19.symm)
  have sz19 : h0.size ≤ b146 := Nat.le_trans K0.1 (Nat.le_of_eq g19.symm)
  have K19 : Keep h0 h19 [] := K0.ext E19
  have Z19 : n0 ≤ h19.size := Nat.le_trans Z0 E19.1
  have x20 := I0.ext E19
  have x21 := I1.ext E19
  have x22 := I2.ext E19
  have x23 := I3.ext E19
  have x24 := I4.ext E19
  have Fn19_value : Fld Z h19 b146 "java/lang/String" "value" "[B" .null := D19 (Or.inr (wq hw 22 rfl)) (ty := (.array .byte)) (by decide)
  have Fn19_coder : Fld Z h19 b146 "java/lang/String" "coder" "B" (.int 0) := D19 (Or.inr (wq hw 23 rfl)) (ty := .byte) (by decide)
  have pre25 := Go.thn pre18 st19
  have pre26 : Go p e below T19 _ (mkF m 151 #[.val (.int p0), .val (.int p1), .val (.int p2), .val (.int p3), .val (.int p4), .val (.int 4), .val (.int (f1 p1)), .val (.int (f1 p2)), .val (.int (f1 p3)), .val (.int (f1 p4)), .unset, .unset] [(.int 4), (.ref b146), (.ref b146)]) _ := fun t k => pre25 t (by
    refine XS.dup X19.here hx rfl (hb hby at_149) rfl rfl ?_
    refine XS.iconst X19.here hx rfl (hb hby at_150) ?_
    exact k)
  obtain ⟨T27, h27, k27, X27, e27, E27, A27, st27⟩ := newP X19 hx hZ (wq hw 9 rfl) e19 (g := (mkF m 151 #[.val (.int p0), .val (.int p1), .val (.int p2), .val (.int p3), .val (.int p4), .val (.int 4), .val (.int (f1 p1)), .val (.int (f1 p2)), .val (.int (f1 p3)), .val (.int (f1 p4)), .unset, .unset] [(.int 4), (.ref b146), (.ref b146)])) rfl (hb hby at_151) rfl (by decide) (cap := 4) (by decide) (by decide) (by decide) (by decide)
  obtain ⟨b151, g27⟩ : ∃ z, z = h19.size := ⟨_, rfl⟩
  rw [← g27] at A27 st27
  have gg27 : n0 ≤ b151 := Nat.le_trans Z19 (Nat.le_of_eq g27.symm)
  have sz27 : h0.size ≤ b151 := Nat.le_trans K19.1 (Nat.le_of_eq g27.symm)
  have K27 : Keep h0 h27 [] := K19.ext E27
  have Z27 : n0 ≤ h27.size := Nat.le_trans Z19 E27.1
  have V27 : Arv Z h27 b151 k27 .char (4 : Int32) [(.int 0), (.int 0), (.int 0), (.int 0)] (.int 0) := (Arv.new A27 (by decide)).pad (pad_rep [] (.int 0) 4)
  have ne27_b146 : b146 ≠ b151 := Nat.ne_of_lt (Nat.lt_of_lt_of_le A19.lt (Nat.le_of_eq g27.symm))
  have x28 := x20.ext E27
  have x29 := x21.ext E27
  have x30 := x22.ext E27
  have x31 := x23.ext E27
  have x32 := x24.ext E27
  have x33 := A19.ext E27
  have x34 := Fn19_value.ext E27
  have x35 := Fn19_coder.ext E27
  have pre36 := Go.thn pre26 st27
  have pre37 : Go p e below T27 _ (mkF m 157 #[.val (.int p0), .val (.int p1), .val (.int p2), .val (.int p3), .val (.int p4), .val (.int 4), .val (.int (f1 p1)), .val (.int (f1 p2)), .val (.int (f1 p3)), .val (.int (f1 p4)), .unset, .unset] [(.int (f1 p1)), (.int 0), (.ref b151), (.ref b151), (.ref b146), (.ref b146)]) _ := fun t k => pre36 t (by
    refine XS.dup X27.here hx rfl (hb hby at_153) rfl rfl ?_
    refine XS.iconst X27.here hx rfl (hb hby at_154) ?_
    refine XS.iload X27.here hx rfl (hb hby at_155) rfl ?_
    exact k)
  obtain ⟨cl38, Ar38, q38, Sz38, Mn38, Hs38, Gs38⟩ := id V27
  have hin38 : ¬ ((0 : Int32) < 0 ∨ cl38.slots.size ≤ ((0 : Int32)).toNatClampNeg) := inb_of Sz38 ⟨by decide, by decide⟩
  obtain ⟨T38, h38, X38, e38, W38, st38⟩ := stC X27 hx hZ e27 Ar38 (j := (0 : Int32)) hin38 (g := (mkF m 157 #[.val (.int p0), .val (.int p1), .val (.int p2), .val (.int p3), .val (.int p4), .val (.int 4), .val (.int (f1 p1)), .val (.int (f1 p2)), .val (.int (f1 p3)), .val (.int (f1 p4)), .unset, .unset] [(.int (f1 p1)), (.int 0), (.ref b151), (.ref b151), (.ref b146), (.ref b146)])) rfl rfl (hb hby at_157)
  have V38 : Arv Z h38 b151 k27 .char (4 : Int32) [(.int (nar .char (f1 p1))), (.int 0), (.int 0), (.int 0)] (.int 0) := Arv.set Ar38 q38 Sz38 Mn38 Hs38 Gs38 (fits_nar_char _) W38 0 rfl (Nat.le_of_ble_eq_true rfl)
  have N38 := Fr.snoc X38 N16 gg27
  have K38 : Keep h0 h38 [] := K27.wr W38 (Or.inr sz27)
  have Z38 : n0 ≤ h38.size := Nat.le_trans Z27 (Keep.of_wr W38).1
  have x39 := x28.wr W38
  have x40 := x29.wr W38
  have x41 := x30.wr W38
  have x42 := x31.wr W38
  have x43 := x32.wr W38
  have x44 := x33.wr W38
  have x45 := x34.other W38 (Or.inl ne27_b146)
  have x46 := x35.other W38 (Or.inl ne27_b146)
  have pre47 := Go.thn pre37 st38
  have pre48 : Go p e below T38 _ (mkF m 162 #[.val (.int p0), .val (.int p1), .val (.int p2), .val (.int p3), .val (.int p4), .val (.int 4), .val (.int (f1 p1)), .val (.int (f1 p2)), .val (.int (f1 p3)), .val (.int (f1 p4)), .unset, .unset] [(.int (f1 p2)), (.int 1), (.ref b151), (.ref b151), (.ref b146), (.ref b146)]) _ := fun t k => pre47 t (by
    refine XS.dup X38.here hx rfl (hb hby at_158) rfl rfl ?_
    refine XS.iconst X38.here hx rfl (hb hby at_159) ?_
    refine XS.iload X38.here hx rfl (hb hby at_160) rfl ?_
    exact k)
  obtain ⟨cl49, Ar49, q49, Sz49, Mn49, Hs49, Gs49⟩ := id V38
  have hin49 : ¬ ((1 : Int32) < 0 ∨ cl49.slots.size ≤ ((1 : Int32)).toNatClampNeg) := inb_of Sz49 ⟨by decide, by decide⟩
  obtain ⟨T49, h49, X49, e49, W49, st49⟩ := stC X38 hx hZ e38 Ar49 (j := (1 : Int32)) hin49 (g := (mkF m 162 #[.val (.int p0), .val (.int p1), .val (.int p2), .val (.int p3), .val (.int p4), .val (.int 4), .val (.int (f1 p1)), .val (.int (f1 p2)), .val (.int (f1 p3)), .val (.int (f1 p4)), .unset, .unset] [(.int (f1 p2)), (.int 1), (.ref b151), (.ref b151), (.ref b146), (.ref b146)])) rfl rfl (hb hby at_162)
  have V49 : Arv Z h49 b151 k27 .char (4 : Int32) [(.int (nar .char (f1 p1))), (.int (nar .char (f1 p2))), (.int 0), (.int 0)] (.int 0) := Arv.set Ar49 q49 Sz49 Mn49 Hs49 Gs49 (fits_nar_char _) W49 1 rfl (Nat.le_of_ble_eq_true rfl)
  have N49 := Fr.snoc X49 N38 gg27
  have K49 : Keep h0 h49 [] := K38.wr W49 (Or.inr sz27)
  have Z49 : n0 ≤ h49.size := Nat.le_trans Z38 (Keep.of_wr W49).1
  have x50 := x39.wr W49
  have x51 := x40.wr W49
  have x52 := x41.wr W49
  have x53 := x42.wr W49
  have x54 := x43.wr W49
  have x55 := x44.wr W49
  have x56 := x45.other W49 (Or.inl ne27_b146)
  have x57 := x46.other W49 (Or.inl ne27_b146)
  have pre58 := Go.thn pre48 st49
  have pre59 : Go p e below T49 _ (mkF m 167 #[.val (.int p0), .val (.int p1), .val (.int p2), .val (.int p3), .val (.int p4), .val (.int 4), .val (.int (f1 p1)), .val (.int (f1 p2)), .val (.int (f1 p3)), .val (.int (f1 p4)), .unset, .unset] [(.int (f1 p3)), (.int 2), (.ref b151), (.ref b151), (.ref b146), (.ref b146)]) _ := fun t k => pre58 t (by
    refine XS.dup X49.here hx rfl (hb hby at_163) rfl rfl ?_
    refine XS.iconst X49.here hx rfl (hb hby at_164) ?_
    refine XS.iload X49.here hx rfl (hb hby at_165) rfl ?_
    exact k)
  obtain ⟨cl60, Ar60, q60, Sz60, Mn60, Hs60, Gs60⟩ := id V49
  have hin60 : ¬ ((2 : Int32) < 0 ∨ cl60.slots.size ≤ ((2 : Int32)).toNatClampNeg) := inb_of Sz60 ⟨by decide, by decide⟩
  obtain ⟨T60, h60, X60, e60, W60, st60⟩ := stC X49 hx hZ e49 Ar60 (j := (2 : Int32)) hin60 (g := (mkF m 167 #[.val (.int p0), .val (.int p1), .val (.int p2), .val (.int p3), .val (.int p4), .val (.int 4), .val (.int (f1 p1)), .val (.int (f1 p2)), .val (.int (f1 p3)), .val (.int (f1 p4)), .unset, .unset] [(.int (f1 p3)), (.int 2), (.ref b151), (.ref b151), (.ref b146), (.ref b146)])) rfl rfl (hb hby at_167)
  have V60 : Arv Z h60 b151 k27 .char (4 : Int32) [(.int (nar .char (f1 p1))), (.int (nar .char (f1 p2))), (.int (nar .char (f1 p3))), (.int 0)] (.int 0) := Arv.set Ar60 q60 Sz60 Mn60 Hs60 Gs60 (fits_nar_char _) W60 2 rfl (Nat.le_of_ble_eq_true rfl)
  have N60 := Fr.snoc X60 N49 gg27
  have K60 : Keep h0 h60 [] := K49.wr W60 (Or.inr sz27)
  have Z60 : n0 ≤ h60.size := Nat.le_trans Z49 (Keep.of_wr W60).1
  have x61 := x50.wr W60
  have x62 := x51.wr W60
  have x63 := x52.wr W60
  have x64 := x53.wr W60
  have x65 := x54.wr W60
  have x66 := x55.wr W60
  have x67 := x56.other W60 (Or.inl ne27_b146)
  have x68 := x57.other W60 (Or.inl ne27_b146)
  have pre69 := Go.thn pre59 st60
  have pre70 : Go p e below T60 _ (mkF m 172 #[.val (.int p0), .val (.int p1), .val (.int p2), .val (.int p3), .val (.int p4), .val (.int 4), .val (.int (f1 p1)), .val (.int (f1 p2)), .val (.int (f1 p3)), .val (.int (f1 p4)), .unset, .unset] [(.int (f1 p4)), (.int 3), (.ref b151), (.ref b151), (.ref b146), (.ref b146)]) _ := fun t k => pre69 t (by
    refine XS.dup X60.here hx rfl (hb hby at_168) rfl rfl ?_
    refine XS.iconst X60.here hx rfl (hb hby at_169) ?_
    refine XS.iload X60.here hx rfl (hb hby at_170) rfl ?_
    exact k)
  obtain ⟨cl71, Ar71, q71, Sz71, Mn71, Hs71, Gs71⟩ := id V60
  have hin71 : ¬ ((3 : Int32) < 0 ∨ cl71.slots.size ≤ ((3 : Int32)).toNatClampNeg) := inb_of Sz71 ⟨by decide, by decide⟩
  obtain ⟨T71, h71, X71, e71, W71, st71⟩ := stC X60 hx hZ e60 Ar71 (j := (3 : Int32)) hin71 (g := (mkF m 172 #[.val (.int p0), .val (.int p1), .val (.int p2), .val (.int p3), .val (.int p4), .val (.int 4), .val (.int (f1 p1)), .val (.int (f1 p2)), .val (.int (f1 p3)), .val (.int (f1 p4)), .unset, .unset] [(.int (f1 p4)), (.int 3), (.ref b151), (.ref b151), (.ref b146), (.ref b146)])) rfl rfl (hb hby at_172)
  have V71 : Arv Z h71 b151 k27 .char (4 : Int32) [(.int (nar .char (f1 p1))), (.int (nar .char (f1 p2))), (.int (nar .char (f1 p3))), (.int (nar .char (f1 p4)))] (.int 0) := Arv.set Ar71 q71 Sz71 Mn71 Hs71 Gs71 (fits_nar_char _) W71 3 rfl (Nat.le_of_ble_eq_true rfl)
  have N71 := Fr.snoc X71 N60 gg27
  have K71 : Keep h0 h71 [] := K60.wr W71 (Or.inr sz27)
  have Z71 : n0 ≤ h71.size := Nat.le_trans Z60 (Keep.of_wr W71).1
  have x72 := x61.wr W71
  have x73 := x62.wr W71
  have x74 := x63.wr W71
  have x75 := x64.wr W71
  have x76 := x65.wr W71
  have x77 := x66.wr W71
  have x78 := x67.other W71 (Or.inl ne27_b146)
  have x79 := x68.other W71 (Or.inl ne27_b146)
  have pre80 := Go.thn pre70 st71
  obtain ⟨_, _, ⟨T81, L81, k81, n81⟩, -, X81, ⟨Lc81, hQ81, l81, y81, z81⟩, st81⟩ := X71.specialBack hx (y := Nm_23) rfl hown (mvT hZ (wq hw 10 rfl)) (mvT hZ (wq hw 11 rfl)) (mvT hZ (wq hw 12 rfl)) (by decide) (backOf (W := 1) (rm2_4L l Z a0 hw [] b146 b151 wcs _ (nar .char (f1 p1)) (nar .char (f1 p2)) (nar .char (f1 p3)) (nar .char (f1 p4)) h71 n0 Z71 x72 x74 x75 x76 x77 x78 x79 V71 gg19 (Ne.symm ne27_b146) hcs hl0 hl1 hl2 hl3) hZ (wq hw 12 rfl) (wq hw 8 rfl) (by decide) (by decide)) (g := (mkF m 173 #[.val (.int p0), .val (.int p1), .val (.int p2), .val (.int p3), .val (.int p4), .val (.int 4), .val (.int (f1 p1)), .val (.int (f1 p2)), .val (.int (f1 p3)), .val (.int (f1 p4)), .unset, .unset] [(.ref b151), (.ref b146), (.ref b146)])) rfl (by rw [hml]; rfl) (Steps.refl _) (a := b146) (argsL := [(.ref b151)]) (rest := [(.ref b146)]) (lenOf pd___C_V rfl) rfl (w00 rfl) (hb hby at_173) (fun _ _ => ⟨rfl, e71, (by decide : 2 + 1 ≤ _), (by decide : 8 + 4 ≤ _)⟩)
  dsimp only [Pt.U, Pt.locs, Pt.cells, Pt.slots] at X81 l81 y81 z81 st81 hQ81
  subst l81 y81 z81
  obtain ⟨b173_0, k_b6_0_81, rfl, Nq81, Kq81, gz81_b173_0, o81_0, o81_1, o81_2, o81_3⟩ := hQ81
  have N81 := Fr.app N71 Nq81
  have K81 : Keep h0 T81.heap [] := K71.trans Kq81 (allS (Or.inr sz19) all0)
  have Z81 : n0 ≤ T81.heap.size := Nat.le_trans Z71 Kq81.1
  have x82 := own_staK x72 Kq81 (allS (own_plE x77) all0)
  have x83 := own_staK x73 Kq81 (allS (own_plE x77) all0)
  have x84 := own_staK x74 Kq81 (allS (own_plE x77) all0)
  have x85 := own_staK x75 Kq81 (allS (own_plE x77) all0)
  have x86 := own_staK x76 Kq81 (allS (own_plE x77) all0)
  have x87 := x77.keep Kq81
  have x88 := V71.keep Kq81 (ninS (Ne.symm ne27_b146) nin0)
  have gg81_b173_0 : n0 ≤ b173_0 := Nat.le_trans Z71 gz81_b173_0
  have sz81_b173_0 : h0.size ≤ b173_0 := Nat.le_trans K71.1 gz81_b173_0
  have ne81_b146_b173_0 : b146 ≠ b173_0 := Nat.ne_of_lt (Nat.lt_of_lt_of_le x77.lt gz81_b173_0)
  have ne81_b151_b173_0 : b151 ≠ b173_0 := Nat.ne_of_lt (Nat.lt_of_lt_of_le V71.lt gz81_b173_0)
  have pre89 := Go.trn pre80 st81
  have pre90 : Go p e below T81 _ (mkF m 188 #[.val (.int p0), .val (.int p1), .val (.int p2), .val (.int p3), .val (.int p4), .val (.int 4), .val (.int (f1 p1)), .val (.int (f1 p2)), .val (.int (f1 p3)), .val (.int (f1 p4)), .val (.ref b146), .val (.int 0)] [(.int (f1 p1))]) _ := fun t k => pre89 t (by
    refine XS.astore X81.here hx rfl (hb hby at_176) rfl rfl (l' := #[.val (.int p0), .val (.int p1), .val (.int p2), .val (.int p3), .val (.int p4), .val (.int 4), .val (.int (f1 p1)), .val (.int (f1 p2)), .val (.int (f1 p3)), .val (.int (f1 p4)), .val (.ref b146), .unset]) rfl ?_
    refine XS.iconst X81.here hx rfl (hb hby at_178) ?_
    refine XS.istore X81.here hx rfl (hb hby at_179) rfl (l' := #[.val (.int p0), .val (.int p1), .val (.int p2), .val (.int p3), .val (.int p4), .val (.int 4), .val (.int (f1 p1)), .val (.int (f1 p2)), .val (.int (f1 p3)), .val (.int (f1 p4)), .val (.ref b146), .val (.int 0)]) rfl ?_
    refine XS.iload X81.here hx rfl (hb hby at_181) rfl ?_
    refine XS.ifNo X81.here hx rfl (hb hby at_183) rfl (by decide) ?_
    refine XS.iload X81.here hx rfl (hb hby at_186) rfl ?_
    exact k)
  obtain ⟨_, _, ⟨T91, L91, k91, n91⟩, -, X91, ⟨Lc91, hQ91, l91, y91, z91⟩, st91⟩ := Jvm.LawKit.callS X81 hx (y := Nm_1) hown (mvT hZ (wq hw 53 rfl)) (mvT hZ (wq hw 54 rfl)) (mvT hZ (wq hw 3 rfl)) (mvT hZ (wq hw 55 rfl)) (by decide) (backOf (W := 0) (rm11 l Z a0 hw [] (f1 p1) T81.heap n0 Z81) hZ (wq hw 55 rfl) (wq hw 3 rfl) (by decide) (by decide)) (g := (mkF m 188 #[.val (.int p0), .val (.int p1), .val (.int p2), .val (.int p3), .val (.int p4), .val (.int 4), .val (.int (f1 p1)), .val (.int (f1 p2)), .val (.int (f1 p3)), .val (.int (f1 p4)), .val (.ref b146), .val (.int 0)] [(.int (f1 p1))])) rfl (by rw [hml]; rfl) (argsL := [(.int (f1 p1))]) (rest := []) (lenOf pd__C_Z rfl) rfl (w00 rfl) (hb hby at_188) (fun _ _ => ⟨rfl, rfl, (by decide : 3 + 0 ≤ _), (by decide : 12 + 0 ≤ _)⟩)
  dsimp only [Pt.U, Pt.locs, Pt.cells, Pt.slots] at X91 l91 y91 z91 st91 hQ91
  subst l91 y91 z91
  obtain ⟨rfl, Nq91, e91⟩ := hQ91
  have N91 := Fr.app N81 Nq91
  have pre92 := Go.thn pre90 st91
  obtain ⟨T93, L93, X93, e93, N93, pre93⟩ : ∃ (T' : State) (L' : List Loc), Stand p l e room_1 s m #[(.int p0), (.int p1), (.int p2), (.int p3), (.int p4)] below meth c T' L' 3 12 ∧ T'.heap = T81.heap ∧ Fr n0 L' ∧ ∀ t, Steps p.tables e below (T'.setTop (mkF m 248 #[.val (.int p0), .val (.int p1), .val (.int p2), .val (.int p3), .val (.int p4), .val (.int 4), .val (.int (f1 p1)), .val (.int (f1 p2)), .val (.int (f1 p3)), .val (.int (f1 p4)), .val (.ref b146), .val (.int (v0_4L_248_l11 p1 p2 p3 p4))] [])) t → Steps p.tables e below (s₁.setTop (entryFrame m #[(.int p0), (.int p1), (.int p2), (.int p3), (.int p4)] maxLocals)) t := by
    by_cases hc191_1 : (f11 (f1 p1)) = (0 : Int32)
    · have pre94 : Go p e below T91 _ (mkF m 248 #[.val (.int p0), .val (.int p1), .val (.int p2), .val (.int p3), .val (.int p4), .val (.int 4), .val (.int (f1 p1)), .val (.int (f1 p2)), .val (.int (f1 p3)), .val (.int (f1 p4)), .val (.ref b146), .val (.int 0)] []) _ := fun t k => pre92 t (by
        refine XS.ifYes X91.here hx rfl (pc0 := 191) (pc' := 248) rfl (hb hby at_191) rfl ((if0 _ _).trans (teq hc191_1).1) (by decide) (by decide) ?_
        exact k)
      exact ⟨T91, _, X91, e91, N91, fun t k => pre94 t (by simpa only [v0_4L_248_l11, if_pos hc191_1] using k)⟩
    · have pre95 : Go p e below T91 _ (mkF m 205 #[.val (.int p0), .val (.int p1), .val (.int p2), .val (.int p3), .val (.int p4), .val (.int 4), .val (.int (f1 p1)), .val (.int (f1 p2)), .val (.int (f1 p3)), .val (.int (f1 p4)), .val (.ref b146), .val (.int 1)] [(.int (f1 p2))]) _ := fun t k => pre92 t (by
        refine XS.ifNo X91.here hx rfl (hb hby at_191) rfl ((if0 _ _).trans (feq hc191_1).1) ?_
        refine XS.iconst X91.here hx rfl (hb hby at_194) ?_
        refine XS.istore X91.here hx rfl (hb hby at_195) rfl (l' := #[.val (.int p0), .val (.int p1), .val (.int p2), .val (.int p3), .val (.int p4), .val (.int 4), .val (.int (f1 p1)), .val (.int (f1 p2)), .val (.int (f1 p3)), .val (.int (f1 p4)), .val (.ref b146), .val (.int 1)]) rfl ?_
        refine XS.iload X91.here hx rfl (hb hby at_197) rfl ?_
        refine XS.iconst X91.here hx rfl (hb hby at_199) ?_
        refine XS.icmpNo X91.here hx rfl (hb hby at_200) rfl (by decide) ?_
        refine XS.iload X91.here hx rfl (hb hby at_203) rfl ?_
        exact k)
      obtain ⟨_, _, ⟨T96, L96, k96, n96⟩, -, X96, ⟨Lc96, hQ96, l96, y96, z96⟩, st96⟩ := Jvm.LawKit.callS X91 hx (y := Nm_1) hown (mvT hZ (wq hw 53 rfl)) (mvT hZ (wq hw 54 rfl)) (mvT hZ (wq hw 3 rfl)) (mvT hZ (wq hw 55 rfl)) (by decide) (backOf (W := 0) (rm11 l Z a0 hw [] (f1 p2) T81.heap n0 Z81) hZ (wq hw 55 rfl) (wq hw 3 rfl) (by decide) (by decide)) (g := (mkF m 205 #[.val (.int p0), .val (.int p1), .val (.int p2), .val (.int p3), .val (.int p4), .val (.int 4), .val (.int (f1 p1)), .val (.int (f1 p2)), .val (.int (f1 p3)), .val (.int (f1 p4)), .val (.ref b146), .val (.int 1)] [(.int (f1 p2))])) rfl (by rw [hml]; rfl) (argsL := [(.int (f1 p2))]) (rest := []) (lenOf pd__C_Z rfl) rfl (w00 rfl) (hb hby at_205) (fun _ _ => ⟨rfl, e91, (by decide : 3 + 0 ≤ _), (by decide : 12 + 0 ≤ _)⟩)
      dsimp only [Pt.U, Pt.locs, Pt.cells, Pt.slots] at X96 l96 y96 z96 st96 hQ96
      subst l96 y96 z96
      obtain ⟨rfl, Nq96, e96⟩ := hQ96
      have N96 := Fr.app N91 Nq96
      have pre97 := Go.thn pre95 st96
      by_cases hc208_2 : (f11 (f1 p2)) = (0 : Int32)
      · have pre98 : Go p e below T96 _ (mkF m 248 #[.val (.int p0), .val (.int p1), .val (.int p2), .val (.int p3), .val (.int p4), .val (.int 4), .val (.int (f1 p1)), .val (.int (f1 p2)), .val (.int (f1 p3)), .val (.int (f1 p4)), .val (.ref b146), .val (.int 1)] []) _ := fun t k => pre97 t (by
          refine XS.ifYes X96.here hx rfl (pc0 := 208) (pc' := 248) rfl (hb hby at_208) rfl ((if0 _ _).trans (teq hc208_2).1) (by decide) (by decide) ?_
          exact k)
        exact ⟨T96, _, X96, e96, N96, fun t k => pre98 t (by simpa only [v0_4L_248_l11, if_neg hc191_1, if_pos hc208_2] using k)⟩
      · have pre99 : Go p e below T96 _ (mkF m 222 #[.val (.int p0), .val (.int p1), .val (.int p2), .val (.int p3), .val (.int p4), .val (.int 4), .val (.int (f1 p1)), .val (.int (f1 p2)), .val (.int (f1 p3)), .val (.int (f1 p4)), .val (.ref b146), .val (.int 2)] [(.int (f1 p3))]) _ := fun t k => pre97 t (by
          refine XS.ifNo X96.here hx rfl (hb hby at_208) rfl ((if0 _ _).trans (feq hc208_2).1) ?_
          refine XS.iconst X96.here hx rfl (hb hby at_211) ?_
          refine XS.istore X96.here hx rfl (hb hby at_212) rfl (l' := #[.val (.int p0), .val (.int p1), .val (.int p2), .val (.int p3), .val (.int p4), .val (.int 4), .val (.int (f1 p1)), .val (.int (f1 p2)), .val (.int (f1 p3)), .val (.int (f1 p4)), .val (.ref b146), .val (.int 2)]) rfl ?_
          refine XS.iload X96.here hx rfl (hb hby at_214) rfl ?_
          refine XS.iconst X96.here hx rfl (hb hby at_216) ?_
          refine XS.icmpNo X96.here hx rfl (hb hby at_217) rfl (by decide) ?_
          refine XS.iload X96.here hx rfl (hb hby at_220) rfl ?_
          exact k)
        obtain ⟨_, _, ⟨T100, L100, k100, n100⟩, -, X100, ⟨Lc100, hQ100, l100, y100, z100⟩, st100⟩ := Jvm.LawKit.callS X96 hx (y := Nm_1) hown (mvT hZ (wq hw 53 rfl)) (mvT hZ (wq hw 54 rfl)) (mvT hZ (wq hw 3 rfl)) (mvT hZ (wq hw 55 rfl)) (by decide) (backOf (W := 0) (rm11 l Z a0 hw [] (f1 p3) T81.heap n0 Z81) hZ (wq hw 55 rfl) (wq hw 3 rfl) (by decide) (by decide)) (g := (mkF m 222 #[.val (.int p0), .val (.int p1), .val (.int p2), .val (.int p3), .val (.int p4), .val (.int 4), .val (.int (f1 p1)), .val (.int (f1 p2)), .val (.int (f1 p3)), .val (.int (f1 p4)), .val (.ref b146), .val (.int 2)] [(.int (f1 p3))])) rfl (by rw [hml]; rfl) (argsL := [(.int (f1 p3))]) (rest := []) (lenOf pd__C_Z rfl) rfl (w00 rfl) (hb hby at_222) (fun _ _ => ⟨rfl, e96, (by decide : 3 + 0 ≤ _), (by decide : 12 + 0 ≤ _)⟩)
        dsimp only [Pt.U, Pt.locs, Pt.cells, Pt.slots] at X100 l100 y100 z100 st100 hQ100
        subst l100 y100 z100
        obtain ⟨rfl, Nq100, e100⟩ := hQ100
        have N100 := Fr.app N96 Nq100
        have pre101 := Go.thn pre99 st100
        by_cases hc225_3 : (f11 (f1 p3)) = (0 : Int32)
        · have pre102 : Go p e below T100 _ (mkF m 248 #[.val (.int p0), .val (.int p1), .val (.int p2), .val (.int p3), .val (.int p4), .val (.int 4), .val (.int (f1 p1)), .val (.int (f1 p2)), .val (.int (f1 p3)), .val (.int (f1 p4)), .val (.ref b146), .val (.int 2)] []) _ := fun t k => pre101 t (by
            refine XS.ifYes X100.here hx rfl (pc0 := 225) (pc' := 248) rfl (hb hby at_225) rfl ((if0 _ _).trans (teq hc225_3).1) (by decide) (by decide) ?_
            exact k)
          exact ⟨T100, _, X100, e100, N100, fun t k => pre102 t (by simpa only [v0_4L_248_l11, if_neg hc191_1, if_neg hc208_2, if_pos hc225_3] using k)⟩
        · have pre103 : Go p e below T100 _ (mkF m 239 #[.val (.int p0), .val (.int p1), .val (.int p2), .val (.int p3), .val (.int p4), .val (.int 4), .val (.int (f1 p1)), .val (.int (f1 p2)), .val (.int (f1 p3)), .val (.int (f1 p4)), .val (.ref b146), .val (.int 3)] [(.int (f1 p4))]) _ := fun t k => pre101 t (by
            refine XS.ifNo X100.here hx rfl (hb hby at_225) rfl ((if0 _ _).trans (feq hc225_3).1) ?_
            refine XS.iconst X100.here hx rfl (hb hby at_228) ?_
            refine XS.istore X100.here hx rfl (hb hby at_229) rfl (l' := #[.val (.int p0), .val (.int p1), .val (.int p2), .val (.int p3), .val (.int p4), .val (.int 4), .val (.int (f1 p1)), .val (.int (f1 p2)), .val (.int (f1 p3)), .val (.int (f1 p4)), .val (.ref b146), .val (.int 3)]) rfl ?_
            refine XS.iload X100.here hx rfl (hb hby at_231) rfl ?_
            refine XS.iconst X100.here hx rfl (hb hby at_233) ?_
            refine XS.icmpNo X100.here hx rfl (hb hby at_234) rfl (by decide) ?_
            refine XS.iload X100.here hx rfl (hb hby at_237) rfl ?_
            exact k)
          obtain ⟨_, _, ⟨T104, L104, k104, n104⟩, -, X104, ⟨Lc104, hQ104, l104, y104, z104⟩, st104⟩ := Jvm.LawKit.callS X100 hx (y := Nm_1) hown (mvT hZ (wq hw 53 rfl)) (mvT hZ (wq hw 54 rfl)) (mvT hZ (wq hw 3 rfl)) (mvT hZ (wq hw 55 rfl)) (by decide) (backOf (W := 0) (rm11 l Z a0 hw [] (f1 p4) T81.heap n0 Z81) hZ (wq hw 55 rfl) (wq hw 3 rfl) (by decide) (by decide)) (g := (mkF m 239 #[.val (.int p0), .val (.int p1), .val (.int p2), .val (.int p3), .val (.int p4), .val (.int 4), .val (.int (f1 p1)), .val (.int (f1 p2)), .val (.int (f1 p3)), .val (.int (f1 p4)), .val (.ref b146), .val (.int 3)] [(.int (f1 p4))])) rfl (by rw [hml]; rfl) (argsL := [(.int (f1 p4))]) (rest := []) (lenOf pd__C_Z rfl) rfl (w00 rfl) (hb hby at_239) (fun _ _ => ⟨rfl, e100, (by decide : 3 + 0 ≤ _), (by decide : 12 + 0 ≤ _)⟩)
          dsimp only [Pt.U, Pt.locs, Pt.cells, Pt.slots] at X104 l104 y104 z104 st104 hQ104
          subst l104 y104 z104
          obtain ⟨rfl, Nq104, e104⟩ := hQ104
          have N104 := Fr.app N100 Nq104
          have pre105 := Go.thn pre103 st104
          by_cases hc242_4 : (f11 (f1 p4)) = (0 : Int32)
          · have pre106 : Go p e below T104 _ (mkF m 248 #[.val (.int p0), .val (.int p1), .val (.int p2), .val (.int p3), .val (.int p4), .val (.int 4), .val (.int (f1 p1)), .val (.int (f1 p2)), .val (.int (f1 p3)), .val (.int (f1 p4)), .val (.ref b146), .val (.int 3)] []) _ := fun t k => pre105 t (by
              refine XS.ifYes X104.here hx rfl (pc0 := 242) (pc' := 248) rfl (hb hby at_242) rfl ((if0 _ _).trans (teq hc242_4).1) (by decide) (by decide) ?_
              exact k)
            exact ⟨T104, _, X104, e104, N104, fun t k => pre106 t (by simpa only [v0_4L_248_l11, if_neg hc191_1, if_neg hc208_2, if_neg hc225_3, if_pos hc242_4] using k)⟩
          · have pre107 : Go p e below T104 _ (mkF m 248 #[.val (.int p0), .val (.int p1), .val (.int p2), .val (.int p3), .val (.int p4), .val (.int 4), .val (.int (f1 p1)), .val (.int (f1 p2)), .val (.int (f1 p3)), .val (.int (f1 p4)), .val (.ref b146), .val (.int 4)] []) _ := fun t k => pre105 t (by
              refine XS.ifNo X104.here hx rfl (hb hby at_242) rfl ((if0 _ _).trans (feq hc242_4).1) ?_
              refine XS.iconst X104.here hx rfl (hb hby at_245) ?_
              refine XS.istore X104.here hx rfl (hb hby at_246) rfl (l' := #[.val (.int p0), .val (.int p1), .val (.int p2), .val (.int p3), .val (.int p4), .val (.int 4), .val (.int (f1 p1)), .val (.int (f1 p2)), .val (.int (f1 p3)), .val (.int (f1 p4)), .val (.ref b146), .val (.int 4)]) rfl ?_
              exact k)
            exact ⟨T104, _, X104, e104, N104, fun t k => pre107 t (by simpa only [v0_4L_248_l11, if_neg hc191_1, if_neg hc208_2, if_neg hc225_3, if_neg hc242_4] using k)⟩
  have pre108 : Go p e below T93 _ (mkF m 250 #[.val (.int p0), .val (.int p1), .val (.int p2), .val (.int p3), .val (.int p4), .val (.int 4), .val (.int (f1 p1)), .val (.int (f1 p2)), .val (.int (f1 p3)), .val (.int (f1 p4)), .val (.ref b146), .val (.int (v0_4L_248_l11 p1 p2 p3 p4))] [(.ref b146)]) _ := fun t k => pre93 t (by
    refine XS.aload X93.here hx rfl (hb hby at_248) rfl rfl ?_
    exact k)
  obtain ⟨_, _, ⟨T109, L109, k109, n109⟩, -, X109, ⟨Lc109, hQ109, l109, y109, z109⟩, st109⟩ := Jvm.LawKit.callS X93 hx (y := Nm_14) hown (mvT hZ (wq hw 28 rfl)) (mvT hZ (wq hw 29 rfl)) (mvT hZ (wq hw 30 rfl)) (mvT hZ (wq hw 31 rfl)) (by decide) (backOf (W := 0) (rm5_L l Z a0 hw [] b146 wcs wsf b173_0 _ (4 : Int32) [(g9_4_o2_0 (nar .char (f1 p1))), (g9_4_o2_1 (nar .char (f1 p1)) (nar .char (f1 p2))), (g9_4_o2_2 (nar .char (f1 p1)) (nar .char (f1 p2)) (nar .char (f1 p3))), (g9_4_o2_3 (nar .char (f1 p1)) (nar .char (f1 p2)) (nar .char (f1 p3)) (nar .char (f1 p4)))] T81.heap n0 Z81 x82 x83 o81_0 o81_1 o81_2 o81_3 hcs hsf (Or.inr (Or.inr (Or.inr (Or.inr (rfl))))) (by decide)) hZ (wq hw 31 rfl) (wq hw 30 rfl) (by decide) (by decide)) (g := (mkF m 250 #[.val (.int p0), .val (.int p1), .val (.int p2), .val (.int p3), .val (.int p4), .val (.int 4), .val (.int (f1 p1)), .val (.int (f1 p2)), .val (.int (f1 p3)), .val (.int (f1 p4)), .val (.ref b146), .val (.int (v0_4L_248_l11 p1 p2 p3 p4))] [(.ref b146)])) rfl (by rw [hml]; rfl) (argsL := [(.ref b146)]) (rest := []) (lenOf pd__Ljava_lang_String__I rfl) rfl (w00 rfl) (hb hby at_250) (fun _ _ => ⟨rfl, e93, (by decide : 3 + 0 ≤ _), (by decide : 12 + 0 ≤ _)⟩)
  dsimp only [Pt.U, Pt.locs, Pt.cells, Pt.slots] at X109 l109 y109 z109 st109 hQ109
  subst l109 y109 z109
  obtain ⟨rfl, Nq109, e109⟩ := hQ109
  have N109 := Fr.app N93 Nq109
  have pre110 := Go.thn pre108 st109
  have pre111 : Go p e below T109 _ (mkF m 255 #[.val (.int p0), .val (.int p1), .val (.int p2), .val (.int p3), .val (.int p4), .val (.int 4), .val (.int (f1 p1)), .val (.int (f1 p2)), .val (.int (f1 p3)), .val (.int (f1 p4)), .val (.ref b146), .val (.int (v0_4L_248_l11 p1 p2 p3 p4))] [(.int (v0_4L_248_l11 p1 p2 p3 p4)), (.int (f5_L (4 : Int32) [(g9_4_o2_0 (nar .char (f1 p1))), (g9_4_o2_1 (nar .char (f1 p1)) (nar .char (f1 p2))), (g9_4_o2_2 (nar .char (f1 p1)) (nar .char (f1 p2)) (nar .char (f1 p3))), (g9_4_o2_3 (nar .char (f1 p1)) (nar .char (f1 p2)) (nar .char (f1 p3)) (nar .char (f1 p4)))]))]) _ := fun t k => pre110 t (by
    refine XS.iload X109.here hx rfl (hb hby at_253) rfl ?_
    exact k)
  by_cases hc255_5 : (f5_L (4 : Int32) [(g9_4_o2_0 (nar .char (f1 p1))), (g9_4_o2_1 (nar .char (f1 p1)) (nar .char (f1 p2))), (g9_4_o2_2 (nar .char (f1 p1)) (nar .char (f1 p2)) (nar .char (f1 p3))), (g9_4_o2_3 (nar .char (f1 p1)) (nar .char (f1 p2)) (nar .char (f1 p3)) (nar .char (f1 p4)))]) = (v0_4L_248_l11 p1 p2 p3 p4)
  · have pre112 : Go p e below T109 _ (mkF m 263 #[.val (.int p0), .val (.int p1), .val (.int p2), .val (.int p3), .val (.int p4), .val (.int 4), .val (.int (f1 p1)), .val (.int (f1 p2)), .val (.int (f1 p3)), .val (.int (f1 p4)), .val (.ref b146), .val (.int (v0_4L_248_l11 p1 p2 p3 p4))] [(.int 1)]) _ := fun t k => pre111 t (by
      refine XS.icmpNo X109.here hx rfl (hb hby at_255) rfl (teq hc255_5).2 ?_
      refine XS.iconst X109.here hx rfl (hb hby at_258) ?_
      refine XS.goto X109.here hx rfl (pc0 := 259) (pc' := 263) rfl (hb hby at_259) (by decide) (by decide) ?_
      exact k)
    obtain ⟨fs, hr, hrun, hended, hW, hsame⟩ := X109.leave (v := some (.int 1)) (fun h => by rw [Bd.returns] at h; cases h)
    refine ⟨_, _, ?_, hrun, hended, _, _, rfl, ?_, ⟨_, rfl⟩, hW, hsame.mono (by decide) (by decide)⟩
    · exact pre112 _ (retN X109 hx (t := .boolean) Bd.returns (by simp) (hb hby at_263) hr)
    · exact ⟨by simp only [f0_4L, if_pos hc255_5], N109, trivial⟩
  · have pre113 : Go p e below T109 _ (mkF m 263 #[.val (.int p0), .val (.int p1), .val (.int p2), .val (.int p3), .val (.int p4), .val (.int 4), .val (.int (f1 p1)), .val (.int (f1 p2)), .val (.int (f1 p3)), .val (.int (f1 p4)), .val (.ref b146), .val (.int (v0_4L_248_l11 p1 p2 p3 p4))] [(.int 0)]) _ := fun t k => pre111 t (by
      refine XS.icmpYes X109.here hx rfl (pc0 := 255) (pc' := 262) rfl (hb hby at_255) rfl (feq hc255_5).2 (by decide) (by decide) ?_
      refine XS.iconst X109.here hx rfl (hb hby at_262) ?_
      exact k)
    obtain ⟨fs, hr, hrun, hended, hW, hsame⟩ := X109.leave (v := some (.int 0)) (fun h => by rw [Bd.returns] at h; cases h)
    refine ⟨_, _, ?_, hrun, hended, _, _, rfl, ?_, ⟨_, rfl⟩, hW, hsame.mono (by decide) (by decide)⟩
    · exact pre113 _ (retN X109 hx (t := .boolean) Bd.returns (by simp) (hb hby at_263) hr)
    · exact ⟨by simp only [f0_4L, if_neg hc255_5], N109, trivial⟩
def v0_4U_248_l11 (p1 : Int32) (p2 : Int32) (p3 : Int32) (p4 : Int32) : Int32 := (if (f11 (f1 p1)) = (0 : Int32) then (0 : Int32) else (if (f11 (f1 p2)) = (0 : Int32) then (1 : Int32) else (if (f11 (f1 p3)) = (0 : Int32) then (2 : Int32) else (if (f11 (f1 p4)) = (0 : Int32) then (3 : Int32) else (4 : Int32)))))
def f0_4U (p1 : Int32) (p2 : Int32) (p3 : Int32) (p4 : Int32) : Int32 := (if (f5_U (8 : Int32) [(own_b0 (nar .char (f1 p1))), (own_b8 (nar .char (f1 p1))), (own_b0 (nar .char (f1 p2))), (own_b8 (nar .char (f1 p2))), (own_b0 (nar .char (f1 p3))), (own_b8 (nar .char (f1 p3))), (own_b0 (nar .char (f1 p4))), (own_b8 (nar .char (f1 p4)))]) = (v0_4U_248_l11 p1 p2 p3 p4) then (1 : Int32) else (0 : Int32))
set_option maxRecDepth 65536 in
set_option maxHeartbeats 40000000 in
theorem rm0_4U (l : Launch) (Z : State) (a0 : Array Value) (hw : ∀ d ∈ tables_1, d.before a0 Z = true) (ws : List Jvm.Cond) (p0 : Int32) (p1 : Int32) (p2 : Int32) (p3 : Int32) (p4 : Int32) (wcs : Int32) (wsf : Value) (h0 : Heap) (n0 : Nat) (Z0 : n0 ≤ h0.size) (I0 : Sta Z h0 "java/lang/String" "COMPACT_STRINGS" "Z" (.int wcs)) (I1 : Sta Z h0 "jdk/internal/util/Preconditions" "SIOOBE_FORMATTER" "Ljava/util/function/BiFunction;" wsf) (I2 : Sta Z h0 "java/lang/StringUTF16" "$assertionsDisabled" "Z" (.int 1)) (I3 : Sta Z h0 "java/lang/StringUTF16" "HI_BYTE_SHIFT" "I" (.int 0)) (I4 : Sta Z h0 "java/lang/StringUTF16" "LO_BYTE_SHIFT" "I" (.int 8)) (hn : ((p0 &&& (2147483647 : Int32)) - (p0 &&& (2147483647 : Int32)) / (5 : Int32) * (5 : Int32)) = (4 : Int32)) (hcs : ¬ (wcs = (0 : Int32))) (hsf : wsf.isRef = true) (hU : (255 : Int32) < (nar .char (f1 p1)) ∨ (255 : Int32) < (nar .char (f1 p2)) ∨ (255 : Int32) < (nar .char (f1 p3)) ∨ (255 : Int32) < (nar .char (f1 p4))) :
    Met1 l x (Jvm.Cond.code x code maxLocals ret) ws room_1 #[(.int p0), (.int p1), (.int p2), (.int p3), (.int p4)] Z h0 (QL (some (.int (f0_4U p1 p2 p3 p4))) n0) := by
  refine MetFree.of_bodySF (plainFor_of_name pn_0) hisR ?_
  intro p e s m args below meth c s₁ Bd hml0 hP hK
  obtain ⟨rfl, hZ, hh⟩ := hP
  have hx := Bd.exec
  have hby := Bd.bytes
  have hml : c.maxLocals = 12 := hml0
  have hown : s.vm.findClass "com/example/stint/stint/WholeNumberLeadingDigitsPinLaw" = some m.cls := findClass_of_methodNamed Bd.named
  have X0 : Stand p l e room_1 s m _ _ _ _ _ [] 0 0 := Stand.of_body Bd
  have e0 : s₁.heap = h0 := by rw [← hh, Bd.state]; rfl
  have N0 := Fr.nil n0
  have K0 : Keep h0 h0 [] := Keep.refl _ _
  have pre0 : Go p e below s₁ _ (mkF m 0 #[.val (.int p0), .val (.int p1), .val (.int p2), .val (.int p3), .val (.int p4), .unset, .unset, .unset, .unset, .unset, .unset, .unset] []) _ := fun t k => castTop (ef_0 m p0 p1 p2 p3 p4) k
  have pre6 : Go p e below s₁ _ (mkF m 9 #[.val (.int p0), .val (.int p1), .val (.int p2), .val (.int p3), .val (.int p4), .val (.int 4), .unset, .unset, .unset, .unset, .unset, .unset] [(.int p1)]) _ := fun t k => pre0 t (by
    refine XS.iloadN X0.here hx rfl (hb hby at_0) rfl ?_
    refine X0.ldcInt hx hown (mvT hZ (wq hw 0 rfl)) (g := (mkF m 1 #[.val (.int p0), .val (.int p1), .val (.int p2), .val (.int p3), .val (.int p4), .unset, .unset, .unset, .unset, .unset, .unset, .unset] [(.int p0)])) rfl (hb hby at_1) _ ?_
    refine XS.iand X0.here hx rfl (hb hby at_3) rfl ?_
    refine XS.iconst X0.here hx rfl (hb hby at_4) ?_
    refine XS.irem X0.here hx rfl (hb hby at_5) rfl (by decide) ?_
    show Steps p.tables e below (s₁.setTop (mkF m 6 #[.val (.int p0), .val (.int p1), .val (.int p2), .val (.int p3), .val (.int p4), .unset, .unset, .unset, .unset, .unset, .unset, .unset] [(.int ((p0 &&& (2147483647 : Int32)) - (p0 &&& (2147483647 : Int32)) / (5 : Int32) * (5 : Int32)))])) _
    rw [hn]
    refine XS.istore X0.here hx rfl (hb hby at_6) rfl (l' := #[.val (.int p0), .val (.int p1), .val (.int p2), .val (.int p3), .val (.int p4), .val (.int 4), .unset, .unset, .unset, .unset, .unset, .unset]) rfl ?_
    refine XS.iloadN X0.here hx rfl (hb hby at_8) rfl ?_
    exact k)
  obtain ⟨_, _, ⟨T7, L7, k7, n7⟩, -, X7, ⟨Lc7, hQ7, l7, y7, z7⟩, st7⟩ := Jvm.LawKit.callS X0 hx (y := Nm_0) hown (mvT hZ (wq hw 1 rfl)) (mvT hZ (wq hw 2 rfl)) (mvT hZ (wq hw 3 rfl)) (mvT hZ (wq hw 4 rfl)) (by decide) (backOf (W := 0) (rm1 l Z a0 hw [] p1 h0 n0 Z0) hZ (wq hw 4 rfl) (wq hw 3 rfl) (by decide) (by decide)) (g := (mkF m 9 #[.val (.int p0), .val (.int p1), .val (.int p2), .val (.int p3), .val (.int p4), .val (.int 4), .unset, .unset, .unset, .unset, .unset, .unset] [(.int p1)])) rfl (by rw [hml]; rfl) (argsL := [(.int p1)]) (rest := []) (lenOf pd__I_C rfl) rfl (w00 rfl) (hb hby at_9) (fun _ _ => ⟨rfl, e0, (by decide : 0 + 0 ≤ _), (by decide : 0 + 0 ≤ _)⟩)
  dsimp only [Pt.U, Pt.locs, Pt.cells, Pt.slots] at X7 l7 y7 z7 st7 hQ7
  subst l7 y7 z7
  obtain ⟨rfl, Nq7, e7⟩ := hQ7
  have N7 := Fr.app N0 Nq7
  have pre8 := Go.thn pre6 st7
  have pre9 : Go p e below T7 _ (mkF m 15 #[.val (.int p0), .val (.int p1), .val (.int p2), .val (.int p3), .val (.int p4), .val (.int 4), .val (.int (f1 p1)), .unset, .unset, .unset, .unset, .unset] [(.int p2)]) _ := fun t k => pre8 t (by
    refine XS.istore X7.here hx rfl (hb hby at_12) rfl (l' := #[.val (.int p0), .val (.int p1), .val (.int p2), .val (.int p3), .val (.int p4), .val (.int 4), .val (.int (f1 p1)), .unset, .unset, .unset, .unset, .unset]) rfl ?_
    refine XS.iloadN X7.here hx rfl (hb hby at_14) rfl ?_
    exact k)
  obtain ⟨_, _, ⟨T10, L10, k10, n10⟩, -, X10, ⟨Lc10, hQ10, l10, y10, z10⟩, st10⟩ := Jvm.LawKit.callS X7 hx (y := Nm_0) hown (mvT hZ (wq hw 1 rfl)) (mvT hZ (wq hw 2 rfl)) (mvT hZ (wq hw 3 rfl)) (mvT hZ (wq hw 4 rfl)) (by decide) (backOf (W := 0) (rm1 l Z a0 hw [] p2 h0 n0 Z0) hZ (wq hw 4 rfl) (wq hw 3 rfl) (by decide) (by decide)) (g := (mkF m 15 #[.val (.int p0), .val (.int p1), .val (.int p2), .val (.int p3), .val (.int p4), .val (.int 4), .val (.int (f1 p1)), .unset, .unset, .unset, .unset, .unset] [(.int p2)])) rfl (by rw [hml]; rfl) (argsL := [(.int p2)]) (rest := []) (lenOf pd__I_C rfl) rfl (w00 rfl) (hb hby at_15) (fun _ _ => ⟨rfl, e7, (by decide : 0 + 0 ≤ _), (by decide : 0 + 0 ≤ _)⟩)
  dsimp only [Pt.U, Pt.locs, Pt.cells, Pt.slots] at X10 l10 y10 z10 st10 hQ10
  subst l10 y10 z10
  obtain ⟨rfl, Nq10, e10⟩ := hQ10
  have N10 := Fr.app N7 Nq10
  have pre11 := Go.thn pre9 st10
  have pre12 : Go p e below T10 _ (mkF m 21 #[.val (.int p0), .val (.int p1), .val (.int p2), .val (.int p3), .val (.int p4), .val (.int 4), .val (.int (f1 p1)), .val (.int (f1 p2)), .unset, .unset, .unset, .unset] [(.int p3)]) _ := fun t k => pre11 t (by
    refine XS.istore X10.here hx rfl (hb hby at_18) rfl (l' := #[.val (.int p0), .val (.int p1), .val (.int p2), .val (.int p3), .val (.int p4), .val (.int 4), .val (.int (f1 p1)), .val (.int (f1 p2)), .unset, .unset, .unset, .unset]) rfl ?_
    refine XS.iloadN X10.here hx rfl (hb hby at_20) rfl ?_
    exact k)
  obtain ⟨_, _, ⟨T13, L13, k13, n13⟩, -, X13, ⟨Lc13, hQ13, l13, y13, z13⟩, st13⟩ := Jvm.LawKit.callS X10 hx (y := Nm_0) hown (mvT hZ (wq hw 1 rfl)) (mvT hZ (wq hw 2 rfl)) (mvT hZ (wq hw 3 rfl)) (mvT hZ (wq hw 4 rfl)) (by decide) (backOf (W := 0) (rm1 l Z a0 hw [] p3 h0 n0 Z0) hZ (wq hw 4 rfl) (wq hw 3 rfl) (by decide) (by decide)) (g := (mkF m 21 #[.val (.int p0), .val (.int p1), .val (.int p2), .val (.int p3), .val (.int p4), .val (.int 4), .val (.int (f1 p1)), .val (.int (f1 p2)), .unset, .unset, .unset, .unset] [(.int p3)])) rfl (by rw [hml]; rfl) (argsL := [(.int p3)]) (rest := []) (lenOf pd__I_C rfl) rfl (w00 rfl) (hb hby at_21) (fun _ _ => ⟨rfl, e10, (by decide : 0 + 0 ≤ _), (by decide : 0 + 0 ≤ _)⟩)
  dsimp only [Pt.U, Pt.locs, Pt.cells, Pt.slots] at X13 l13 y13 z13 st13 hQ13
  subst l13 y13 z13
  obtain ⟨rfl, Nq13, e13⟩ := hQ13
  have N13 := Fr.app N10 Nq13
  have pre14 := Go.thn pre12 st13
  have pre15 : Go p e below T13 _ (mkF m 28 #[.val (.int p0), .val (.int p1), .val (.int p2), .val (.int p3), .val (.int p4), .val (.int 4), .val (.int (f1 p1)), .val (.int (f1 p2)), .val (.int (f1 p3)), .unset, .unset, .unset] [(.int p4)]) _ := fun t k => pre14 t (by
    refine XS.istore X13.here hx rfl (hb hby at_24) rfl (l' := #[.val (.int p0), .val (.int p1), .val (.int p2), .val (.int p3), .val (.int p4), .val (.int 4), .val (.int (f1 p1)), .val (.int (f1 p2)), .val (.int (f1 p3)), .unset, .unset, .unset]) rfl ?_
    refine XS.iload X13.here hx rfl (hb hby at_26) rfl ?_
    exact k)
  obtain ⟨_, _, ⟨T16, L16, k16, n16⟩, -, X16, ⟨Lc16, hQ16, l16, y16, z16⟩, st16⟩ := Jvm.LawKit.callS X13 hx (y := Nm_0) hown (mvT hZ (wq hw 1 rfl)) (mvT hZ (wq hw 2 rfl)) (mvT hZ (wq hw 3 rfl)) (mvT hZ (wq hw 4 rfl)) (by decide) (backOf (W := 0) (rm1 l Z a0 hw [] p4 h0 n0 Z0) hZ (wq hw 4 rfl) (wq hw 3 rfl) (by decide) (by decide)) (g := (mkF m 28 #[.val (.int p0), .val (.int p1), .val (.int p2), .val (.int p3), .val (.int p4), .val (.int 4), .val (.int (f1 p1)), .val (.int (f1 p2)), .val (.int (f1 p3)), .unset, .unset, .unset] [(.int p4)])) rfl (by rw [hml]; rfl) (argsL := [(.int p4)]) (rest := []) (lenOf pd__I_C rfl) rfl (w00 rfl) (hb hby at_28) (fun _ _ => ⟨rfl, e13, (by decide : 0 + 0 ≤ _), (by decide : 0 + 0 ≤ _)⟩)
  dsimp only [Pt.U, Pt.locs, Pt.cells, Pt.slots] at X16 l16 y16 z16 st16 hQ16
  subst l16 y16 z16
  obtain ⟨rfl, Nq16, e16⟩ := hQ16
  have N16 := Fr.app N13 Nq16
  have pre17 := Go.thn pre15 st16
  have pre18 : Go p e below T16 _ (mkF m 146 #[.val (.int p0), .val (.int p1), .val (.int p2), .val (.int p3), .val (.int p4), .val (.int 4), .val (.int (f1 p1)), .val (.int (f1 p2)), .val (.int (f1 p3)), .val (.int (f1 p4)), .unset, .unset] []) _ := fun t k => pre17 t (by
    refine XS.istore X16.here hx rfl (hb hby at_31) rfl (l' := #[.val (.int p0), .val (.int p1), .val (.int p2), .val (.int p3), .val (.int p4), .val (.int 4), .val (.int (f1 p1)), .val (.int (f1 p2)), .val (.int (f1 p3)), .val (.int (f1 p4)), .unset, .unset]) rfl ?_
    refine XS.iload X16.here hx rfl (hb hby at_33) rfl ?_
    refine XS.ifYes X16.here hx rfl (pc0 := 35) (pc' := 53) rfl (hb hby at_35) rfl (by decide) (by decide) (by decide) ?_
    refine XS.iload X16.here hx rfl (hb hby at_53) rfl ?_
    refine XS.iconst X16.here hx rfl (hb hby at_55) ?_
    refine XS.icmpYes X16.here hx rfl (pc0 := 56) (pc' := 79) rfl (hb hby at_56) rfl (by decide) (by decide) (by decide) ?_
    refine XS.iload X16.here hx rfl (hb hby at_79) rfl ?_
    refine XS.iconst X16.here hx rfl (hb hby at_81) ?_
    refine XS.icmpYes X16.here hx rfl (pc0 := 82) (pc' := 110) rfl (hb hby at_82) rfl (by decide) (by decide) (by decide) ?_
    refine XS.iload X16.here hx rfl (hb hby at_110) rfl ?_
    refine XS.iconst X16.here hx rfl (hb hby at_112) ?_
    refine XS.icmpYes X16.here hx rfl (pc0 := 113) (pc' := 146) rfl (hb hby at_113) rfl (by decide) (by decide) (by decide) ?_
    exact k)
  obtain ⟨T19, h19, X19, e19, E19, A19, D19, -, st19⟩ := newO X16 hx hZ hown (wq hw 6 rfl) (wq hw 7 rfl) (wq hw 8 rfl) e16 (g := (mkF m 146 #[.val (.int p0), .val (.int p1), .val (.int p2), .val (.int p3), .val (.int p4), .val (.int 4), .val (.int (f1 p1)), .val (.int (f1 p2)), .val (.int (f1 p3)), .val (.int (f1 p4)), .unset, .unset] [])) rfl (hb hby at_146) (by decide) (by decide)
  obtain ⟨b146, g19⟩ : ∃ z, z = h0.size := ⟨_, rfl⟩
  rw [← g19] at A19 D19 st19
  have gg19 : n0 ≤ b146 := Nat.le_trans Z0 (Nat.le_of_eq g19.symm)
  have sz19 : h0.size ≤ b146 := Nat.le_trans K0.1 (Nat.le_of_eq g19.symm)
  have K19 : Keep h0 h19 [] := K0.ext E19
  have Z19 : n0 ≤ h19.size := Nat.le_trans Z0 E19.1
  have x20 := I0.ext E19
  have x21 := I1.ext E19
  have x22 := I2.ext E19
  have x23 := I3.ext E19
  have x24 := I4.ext E19
  have Fn19_value : Fld Z h19 b146 "java/lang/String" "value" "[B" .null := D19 (Or.inr (wq hw 22 rfl)) (ty := (.array .byte)) (by decide)
  have Fn19_coder : Fld Z h19 b146 "java/lang/String" "coder" "B" (.int 0) := D19 (Or.inr (wq hw 23 rfl)) (ty := .byte) (by decide)
  have pre25 := Go.thn pre18 st19
  have pre26 : Go p e below T19 _ (mkF m 151 #[.val (.int p0), .val (.int p1), .val (.int p2), .val (.int p3), .val (.int p4), .val (.int 4), .val (.int (f1 p1)), .val (.int (f1 p2)), .val (.int (f1 p3)), .val (.int (f1 p4)), .unset, .unset] [(.int 4), (.ref b146), (.ref b146)]) _ := fun t k => pre25 t (by
    refine XS.dup X19.here hx rfl (hb hby at_149) rfl rfl ?_
    refine XS.iconst X19.here hx rfl (hb hby at_150) ?_
    exact k)
  obtain ⟨T27, h27, k27, X27, e27, E27, A27, st27⟩ := newP X19 hx hZ (wq hw 9 rfl) e19 (g := (mkF m 151 #[.val (.int p0), .val (.int p1), .val (.int p2), .val (.int p3), .val (.int p4), .val (.int 4), .val (.int (f1 p1)), .val (.int (f1 p2)), .val (.int (f1 p3)), .val (.int (f1 p4)), .unset, .unset] [(.int 4), (.ref b146), (.ref b146)])) rfl (hb hby at_151) rfl (by decide) (cap := 4) (by decide) (by decide) (by decide) (by decide)
  obtain ⟨b151, g27⟩ : ∃ z, z = h19.size := ⟨_, rfl⟩
  rw [← g27] at A27 st27
  have gg27 : n0 ≤ b151 := Nat.le_trans Z19 (Nat.le_of_eq g27.symm)
  have sz27 : h0.size ≤ b151 := Nat.le_trans K19.1 (Nat.le_of_eq g27.symm)
  have K27 : Keep h0 h27 [] := K19.ext E27
  have Z27 : n0 ≤ h27.size := Nat.le_trans Z19 E27.1
  have V27 : Arv Z h27 b151 k27 .char (4 : Int32) [(.int 0), (.int 0), (.int 0), (.int 0)] (.int 0) := (Arv.new A27 (by decide)).pad (pad_rep [] (.int 0) 4)
  have ne27_b146 : b146 ≠ b151 := Nat.ne_of_lt (Nat.lt_of_lt_of_le A19.lt (Nat.le_of_eq g27.symm))
  have x28 := x20.ext E27
  have x29 := x21.ext E27
  have x30 := x22.ext E27
  have x31 := x23.ext E27
  have x32 := x24.ext E27
  have x33 := A19.ext E27
  have x34 := Fn19_value.ext E27
  have x35 := Fn19_coder.ext E27
  have pre36 := Go.thn pre26 st27
  have pre37 : Go p e below T27 _ (mkF m 157 #[.val (.int p0), .val (.int p1), .val (.int p2), .val (.int p3), .val (.int p4), .val (.int 4), .val (.int (f1 p1)), .val (.int (f1 p2)), .val (.int (f1 p3)), .val (.int (f1 p4)), .unset, .unset] [(.int (f1 p1)), (.int 0), (.ref b151), (.ref b151), (.ref b146), (.ref b146)]) _ := fun t k => pre36 t (by
    refine XS.dup X27.here hx rfl (hb hby at_153) rfl rfl ?_
    refine XS.iconst X27.here hx rfl (hb hby at_154) ?_
    refine XS.iload X27.here hx rfl (hb hby at_155) rfl ?_
    exact k)
  obtain ⟨cl38, Ar38, q38, Sz38, Mn38, Hs38, Gs38⟩ := id V27
  have hin38 : ¬ ((0 : Int32) < 0 ∨ cl38.slots.size ≤ ((0 : Int32)).toNatClampNeg) := inb_of Sz38 ⟨by decide, by decide⟩
  obtain ⟨T38, h38, X38, e38, W38, st38⟩ := stC X27 hx hZ e27 Ar38 (j := (0 : Int32)) hin38 (g := (mkF m 157 #[.val (.int p0), .val (.int p1), .val (.int p2), .val (.int p3), .val (.int p4), .val (.int 4), .val (.int (f1 p1)), .val (.int (f1 p2)), .val (.int (f1 p3)), .val (.int (f1 p4)), .unset, .unset] [(.int (f1 p1)), (.int 0), (.ref b151), (.ref b151), (.ref b146), (.ref b146)])) rfl rfl (hb hby at_157)
  have V38 : Arv Z h38 b151 k27 .char (4 : Int32) [(.int (nar .char (f1 p1))), (.int 0), (.int 0), (.int 0)] (.int 0) := Arv.set Ar38 q38 Sz38 Mn38 Hs38 Gs38 (fits_nar_char _) W38 0 rfl (Nat.le_of_ble_eq_true rfl)
  have N38 := Fr.snoc X38 N16 gg27
  have K38 : Keep h0 h38 [] := K27.wr W38 (Or.inr sz27)
  have Z38 : n0 ≤ h38.size := Nat.le_trans Z27 (Keep.of_wr W38).1
  have x39 := x28.wr W38
  have x40 := x29.wr W38
  have x41 := x30.wr W38
  have x42 := x31.wr W38
  have x43 := x32.wr W38
  have x44 := x33.wr W38
  have x45 := x34.other W38 (Or.inl ne27_b146)
  have x46 := x35.other W38 (Or.inl ne27_b146)
  have pre47 := Go.thn pre37 st38
  have pre48 : Go p e below T38 _ (mkF m 162 #[.val (.int p0), .val (.int p1), .val (.int p2), .val (.int p3), .val (.int p4), .val (.int 4), .val (.int (f1 p1)), .val (.int (f1 p2)), .val (.int (f1 p3)), .val (.int (f1 p4)), .unset, .unset] [(.int (f1 p2)), (.int 1), (.ref b151), (.ref b151), (.ref b146), (.ref b146)]) _ := fun t k => pre47 t (by
    refine XS.dup X38.here hx rfl (hb hby at_158) rfl rfl ?_
    refine XS.iconst X38.here hx rfl (hb hby at_159) ?_
    refine XS.iload X38.here hx rfl (hb hby at_160) rfl ?_
    exact k)
  obtain ⟨cl49, Ar49, q49, Sz49, Mn49, Hs49, Gs49⟩ := id V38
  have hin49 : ¬ ((1 : Int32) < 0 ∨ cl49.slots.size ≤ ((1 : Int32)).toNatClampNeg) := inb_of Sz49 ⟨by decide, by decide⟩
  obtain ⟨T49, h49, X49, e49, W49, st49⟩ := stC X38 hx hZ e38 Ar49 (j := (1 : Int32)) hin49 (g := (mkF m 162 #[.val (.int p0), .val (.int p1), .val (.int p2), .val (.int p3), .val (.int p4), .val (.int 4), .val (.int (f1 p1)), .val (.int (f1 p2)), .val (.int (f1 p3)), .val (.int (f1 p4)), .unset, .unset] [(.int (f1 p2)), (.int 1), (.ref b151), (.ref b151), (.ref b146), (.ref b146)])) rfl rfl (hb hby at_162)
  have V49 : Arv Z h49 b151 k27 .char (4 : Int32) [(.int (nar .char (f1 p1))), (.int (nar .char (f1 p2))), (.int 0), (.int 0)] (.int 0) := Arv.set Ar49 q49 Sz49 Mn49 Hs49 Gs49 (fits_nar_char _) W49 1 rfl (Nat.le_of_ble_eq_true rfl)
  have N49 := Fr.snoc X49 N38 gg27
  have K49 : Keep h0 h49 [] := K38.wr W49 (Or.inr sz27)
  have Z49 : n0 ≤ h49.size := Nat.le_trans Z38 (Keep.of_wr W49).1
  have x50 := x39.wr W49
  have x51 := x40.wr W49
  have x52 := x41.wr W49
  have x53 := x42.wr W49
  have x54 := x43.wr W49
  have x55 := x44.wr W49
  have x56 := x45.other W49 (Or.inl ne27_b146)
  have x57 := x46.other W49 (Or.inl ne27_b146)
  have pre58 := Go.thn pre48 st49
  have pre59 : Go p e below T49 _ (mkF m 167 #[.val (.int p0), .val (.int p1), .val (.int p2), .val (.int p3), .val (.int p4), .val (.int 4), .val (.int (f1 p1)), .val (.int (f1 p2)), .val (.int (f1 p3)), .val (.int (f1 p4)), .unset, .unset] [(.int (f1 p3)), (.int 2), (.ref b151), (.ref b151), (.ref b146), (.ref b146)]) _ := fun t k => pre58 t (by
    refine XS.dup X49.here hx rfl (hb hby at_163) rfl rfl ?_
    refine XS.iconst X49.here hx rfl (hb hby at_164) ?_
    refine XS.iload X49.here hx rfl (hb hby at_165) rfl ?_
    exact k)
  obtain ⟨cl60, Ar60, q60, Sz60, Mn60, Hs60, Gs60⟩ := id V49
  have hin60 : ¬ ((2 : Int32) < 0 ∨ cl60.slots.size ≤ ((2 : Int32)).toNatClampNeg) := inb_of Sz60 ⟨by decide, by decide⟩
  obtain ⟨T60, h60, X60, e60, W60, st60⟩ := stC X49 hx hZ e49 Ar60 (j := (2 : Int32)) hin60 (g := (mkF m 167 #[.val (.int p0), .val (.int p1), .val (.int p2), .val (.int p3), .val (.int p4), .val (.int 4), .val (.int (f1 p1)), .val (.int (f1 p2)), .val (.int (f1 p3)), .val (.int (f1 p4)), .unset, .unset] [(.int (f1 p3)), (.int 2), (.ref b151), (.ref b151), (.ref b146), (.ref b146)])) rfl rfl (hb hby at_167)
  have V60 : Arv Z h60 b151 k27 .char (4 : Int32) [(.int (nar .char (f1 p1))), (.int (nar .char (f1 p2))), (.int (nar .char (f1 p3))), (.int 0)] (.int 0) := Arv.set Ar60 q60 Sz60 Mn60 Hs60 Gs60 (fits_nar_char _) W60 2 rfl (Nat.le_of_ble_eq_true rfl)
  have N60 := Fr.snoc X60 N49 gg27
  have K60 : Keep h0 h60 [] := K49.wr W60 (Or.inr sz27)
  have Z60 : n0 ≤ h60.size := Nat.le_trans Z49 (Keep.of_wr W60).1
  have x61 := x50.wr W60
  have x62 := x51.wr W60
  have x63 := x52.wr W60
  have x64 := x53.wr W60
  have x65 := x54.wr W60
  have x66 := x55.wr W60
  have x67 := x56.other W60 (Or.inl ne27_b146)
  have x68 := x57.other W60 (Or.inl ne27_b146)
  have pre69 := Go.thn pre59 st60
  have pre70 : Go p e below T60 _ (mkF m 172 #[.val (.int p0), .val (.int p1), .val (.int p2), .val (.int p3), .val (.int p4), .val (.int 4), .val (.int (f1 p1)), .val (.int (f1 p2)), .val (.int (f1 p3)), .val (.int (f1 p4)), .unset, .unset] [(.int (f1 p4)), (.int 3), (.ref b151), (.ref b151), (.ref b146), (.ref b146)]) _ := fun t k => pre69 t (by
    refine XS.dup X60.here hx rfl (hb hby at_168) rfl rfl ?_
    refine XS.iconst X60.here hx rfl (hb hby at_169) ?_
    refine XS.iload X60.here hx rfl (hb hby at_170) rfl ?_
    exact k)
  obtain ⟨cl71, Ar71, q71, Sz71, Mn71, Hs71, Gs71⟩ := id V60
  have hin71 : ¬ ((3 : Int32) < 0 ∨ cl71.slots.size ≤ ((3 : Int32)).toNatClampNeg) := inb_of Sz71 ⟨by decide, by decide⟩
  obtain ⟨T71, h71, X71, e71, W71, st71⟩ := stC X60 hx hZ e60 Ar71 (j := (3 : Int32)) hin71 (g := (mkF m 172 #[.val (.int p0), .val (.int p1), .val (.int p2), .val (.int p3), .val (.int p4), .val (.int 4), .val (.int (f1 p1)), .val (.int (f1 p2)), .val (.int (f1 p3)), .val (.int (f1 p4)), .unset, .unset] [(.int (f1 p4)), (.int 3), (.ref b151), (.ref b151), (.ref b146), (.ref b146)])) rfl rfl (hb hby at_172)
  have V71 : Arv Z h71 b151 k27 .char (4 : Int32) [(.int (nar .char (f1 p1))), (.int (nar .char (f1 p2))), (.int (nar .char (f1 p3))), (.int (nar .char (f1 p4)))] (.int 0) := Arv.set Ar71 q71 Sz71 Mn71 Hs71 Gs71 (fits_nar_char _) W71 3 rfl (Nat.le_of_ble_eq_true rfl)
  have N71 := Fr.snoc X71 N60 gg27
  have K71 : Keep h0 h71 [] := K60.wr W71 (Or.inr sz27)
  have Z71 : n0 ≤ h71.size := Nat.le_trans Z60 (Keep.of_wr W71).1
  have x72 := x61.wr W71
  have x73 := x62.wr W71
  have x74 := x63.wr W71
  have x75 := x64.wr W71
  have x76 := x65.wr W71
  have x77 := x66.wr W71
  have x78 := x67.other W71 (Or.inl ne27_b146)
  have x79 := x68.other W71 (Or.inl ne27_b146)
  have pre80 := Go.thn pre70 st71
  obtain ⟨_, _, ⟨T81, L81, k81, n81⟩, -, X81, ⟨Lc81, hQ81, l81, y81, z81⟩, st81⟩ := X71.specialBack hx (y := Nm_23) rfl hown (mvT hZ (wq hw 10 rfl)) (mvT hZ (wq hw 11 rfl)) (mvT hZ (wq hw 12 rfl)) (by decide) (backOf (W := 1) (rm2_4U l Z a0 hw [] b146 b151 wcs _ (nar .char (f1 p1)) (nar .char (f1 p2)) (nar .char (f1 p3)) (nar .char (f1 p4)) h71 n0 Z71 x72 x74 x75 x76 x77 x78 x79 V71 gg19 (Ne.symm ne27_b146) hcs (own_nr _) (own_nr _) (own_nr _) (own_nr _) hU) hZ (wq hw 12 rfl) (wq hw 8 rfl) (by decide) (by decide)) (g := (mkF m 173 #[.val (.int p0), .val (.int p1), .val (.int p2), .val (.int p3), .val (.int p4), .val (.int 4), .val (.int (f1 p1)), .val (.int (f1 p2)), .val (.int (f1 p3)), .val (.int (f1 p4)), .unset, .unset] [(.ref b151), (.ref b146), (.ref b146)])) rfl (by rw [hml]; rfl) (Steps.refl _) (a := b146) (argsL := [(.ref b151)]) (rest := [(.ref b146)]) (lenOf pd___C_V rfl) rfl (w00 rfl) (hb hby at_173) (fun _ _ => ⟨rfl, e71, (by decide : 2 + 2 ≤ _), (by decide : 8 + 12 ≤ _)⟩)
  dsimp only [Pt.U, Pt.locs, Pt.cells, Pt.slots] at X81 l81 y81 z81 st81 hQ81
  subst l81 y81 z81
  obtain ⟨b173_0, k_b6_0_81, rfl, Nq81, Kq81, gz81_b173_0, o81_0, o81_1, o81_2, o81_3⟩ := hQ81
  have N81 := Fr.app N71 Nq81
  have K81 : Keep h0 T81.heap [] := K71.trans Kq81 (allS (Or.inr sz19) all0)
  have Z81 : n0 ≤ T81.heap.size := Nat.le_trans Z71 Kq81.1
  have x82 := own_staK x72 Kq81 (allS (own_plE x77) all0)
  have x83 := own_staK x73 Kq81 (allS (own_plE x77) all0)
  have x84 := own_staK x74 Kq81 (allS (own_plE x77) all0)
  have x85 := own_staK x75 Kq81 (allS (own_plE x77) all0)
  have x86 := own_staK x76 Kq81 (allS (own_plE x77) all0)
  have x87 := x77.keep Kq81
  have x88 := V71.keep Kq81 (ninS (Ne.symm ne27_b146) nin0)
  have gg81_b173_0 : n0 ≤ b173_0 := Nat.le_trans Z71 gz81_b173_0
  have sz81_b173_0 : h0.size ≤ b173_0 := Nat.le_trans K71.1 gz81_b173_0
  have ne81_b146_b173_0 : b146 ≠ b173_0 := Nat.ne_of_lt (Nat.lt_of_lt_of_le x77.lt gz81_b173_0)
  have ne81_b151_b173_0 : b151 ≠ b173_0 := Nat.ne_of_lt (Nat.lt_of_lt_of_le V71.lt gz81_b173_0)
  have pre89 := Go.trn pre80 st81
  have pre90 : Go p e below T81 _ (mkF m 188 #[.val (.int p0), .val (.int p1), .val (.int p2), .val (.int p3), .val (.int p4), .val (.int 4), .val (.int (f1 p1)), .val (.int (f1 p2)), .val (.int (f1 p3)), .val (.int (f1 p4)), .val (.ref b146), .val (.int 0)] [(.int (f1 p1))]) _ := fun t k => pre89 t (by
    refine XS.astore X81.here hx rfl (hb hby at_176) rfl rfl (l' := #[.val (.int p0), .val (.int p1), .val (.int p2), .val (.int p3), .val (.int p4), .val (.int 4), .val (.int (f1 p1)), .val (.int (f1 p2)), .val (.int (f1 p3)), .val (.int (f1 p4)), .val (.ref b146), .unset]) rfl ?_
    refine XS.iconst X81.here hx rfl (hb hby at_178) ?_
    refine XS.istore X81.here hx rfl (hb hby at_179) rfl (l' := #[.val (.int p0), .val (.int p1), .val (.int p2), .val (.int p3), .val (.int p4), .val (.int 4), .val (.int (f1 p1)), .val (.int (f1 p2)), .val (.int (f1 p3)), .val (.int (f1 p4)), .val (.ref b146), .val (.int 0)]) rfl ?_
    refine XS.iload X81.here hx rfl (hb hby at_181) rfl ?_
    refine XS.ifNo X81.here hx rfl (hb hby at_183) rfl (by decide) ?_
    refine XS.iload X81.here hx rfl (hb hby at_186) rfl ?_
    exact k)
  obtain ⟨_, _, ⟨T91, L91, k91, n91⟩, -, X91, ⟨Lc91, hQ91, l91, y91, z91⟩, st91⟩ := Jvm.LawKit.callS X81 hx (y := Nm_1) hown (mvT hZ (wq hw 53 rfl)) (mvT hZ (wq hw 54 rfl)) (mvT hZ (wq hw 3 rfl)) (mvT hZ (wq hw 55 rfl)) (by decide) (backOf (W := 0) (rm11 l Z a0 hw [] (f1 p1) T81.heap n0 Z81) hZ (wq hw 55 rfl) (wq hw 3 rfl) (by decide) (by decide)) (g := (mkF m 188 #[.val (.int p0), .val (.int p1), .val (.int p2), .val (.int p3), .val (.int p4), .val (.int 4), .val (.int (f1 p1)), .val (.int (f1 p2)), .val (.int (f1 p3)), .val (.int (f1 p4)), .val (.ref b146), .val (.int 0)] [(.int (f1 p1))])) rfl (by rw [hml]; rfl) (argsL := [(.int (f1 p1))]) (rest := []) (lenOf pd__C_Z rfl) rfl (w00 rfl) (hb hby at_188) (fun _ _ => ⟨rfl, rfl, (by decide : 4 + 0 ≤ _), (by decide : 20 + 0 ≤ _)⟩)
  dsimp only [Pt.U, Pt.locs, Pt.cells, Pt.slots] at X91 l91 y91 z91 st91 hQ91
  subst l91 y91 z91
  obtain ⟨rfl, Nq91, e91⟩ := hQ91
  have N91 := Fr.app N81 Nq91
  have pre92 := Go.thn pre90 st91
  obtain ⟨T93, L93, X93, e93, N93, pre93⟩ : ∃ (T' : State) (L' : List Loc), Stand p l e room_1 s m #[(.int p0), (.int p1), (.int p2), (.int p3), (.int p4)] below meth c T' L' 4 20 ∧ T'.heap = T81.heap ∧ Fr n0 L' ∧ ∀ t, Steps p.tables e below (T'.setTop (mkF m 248 #[.val (.int p0), .val (.int p1), .val (.int p2), .val (.int p3), .val (.int p4), .val (.int 4), .val (.int (f1 p1)), .val (.int (f1 p2)), .val (.int (f1 p3)), .val (.int (f1 p4)), .val (.ref b146), .val (.int (v0_4U_248_l11 p1 p2 p3 p4))] [])) t → Steps p.tables e below (s₁.setTop (entryFrame m #[(.int p0), (.int p1), (.int p2), (.int p3), (.int p4)] maxLocals)) t := by
    by_cases hc191_1 : (f11 (f1 p1)) = (0 : Int32)
    · have pre94 : Go p e below T91 _ (mkF m 248 #[.val (.int p0), .val (.int p1), .val (.int p2), .val (.int p3), .val (.int p4), .val (.int 4), .val (.int (f1 p1)), .val (.int (f1 p2)), .val (.int (f1 p3)), .val (.int (f1 p4)), .val (.ref b146), .val (.int 0)] []) _ := fun t k => pre92 t (by
        refine XS.ifYes X91.here hx rfl (pc0 := 191) (pc' := 248) rfl (hb hby at_191) rfl ((if0 _ _).trans (teq hc191_1).1) (by decide) (by decide) ?_
        exact k)
      exact ⟨T91, _, X91, e91, N91, fun t k => pre94 t (by simpa only [v0_4U_248_l11, if_pos hc191_1] using k)⟩
    · have pre95 : Go p e below T91 _ (mkF m 205 #[.val (.int p0), .val (.int p1), .val (.int p2), .val (.int p3), .val (.int p4), .val (.int 4), .val (.int (f1 p1)), .val (.int (f1 p2)), .val (.int (f1 p3)), .val (.int (f1 p4)), .val (.ref b146), .val (.int 1)] [(.int (f1 p2))]) _ := fun t k => pre92 t (by
        refine XS.ifNo X91.here hx rfl (hb hby at_191) rfl ((if0 _ _).trans (feq hc191_1).1) ?_
        refine XS.iconst X91.here hx rfl (hb hby at_194) ?_
        refine XS.istore X91.here hx rfl (hb hby at_195) rfl (l' := #[.val (.int p0), .val (.int p1), .val (.int p2), .val (.int p3), .val (.int p4), .val (.int 4), .val (.int (f1 p1)), .val (.int (f1 p2)), .val (.int (f1 p3)), .val (.int (f1 p4)), .val (.ref b146), .val (.int 1)]) rfl ?_
        refine XS.iload X91.here hx rfl (hb hby at_197) rfl ?_
        refine XS.iconst X91.here hx rfl (hb hby at_199) ?_
        refine XS.icmpNo X91.here hx rfl (hb hby at_200) rfl (by decide) ?_
        refine XS.iload X91.here hx rfl (hb hby at_203) rfl ?_
        exact k)
      obtain ⟨_, _, ⟨T96, L96, k96, n96⟩, -, X96, ⟨Lc96, hQ96, l96, y96, z96⟩, st96⟩ := Jvm.LawKit.callS X91 hx (y := Nm_1) hown (mvT hZ (wq hw 53 rfl)) (mvT hZ (wq hw 54 rfl)) (mvT hZ (wq hw 3 rfl)) (mvT hZ (wq hw 55 rfl)) (by decide) (backOf (W := 0) (rm11 l Z a0 hw [] (f1 p2) T81.heap n0 Z81) hZ (wq hw 55 rfl) (wq hw 3 rfl) (by decide) (by decide)) (g := (mkF m 205 #[.val (.int p0), .val (.int p1), .val (.int p2), .val (.int p3), .val (.int p4), .val (.int 4), .val (.int (f1 p1)), .val (.int (f1 p2)), .val (.int (f1 p3)), .val (.int (f1 p4)), .val (.ref b146), .val (.int 1)] [(.int (f1 p2))])) rfl (by rw [hml]; rfl) (argsL := [(.int (f1 p2))]) (rest := []) (lenOf pd__C_Z rfl) rfl (w00 rfl) (hb hby at_205) (fun _ _ => ⟨rfl, e91, (by decide : 4 + 0 ≤ _), (by decide : 20 + 0 ≤ _)⟩)
      dsimp only [Pt.U, Pt.locs, Pt.cells, Pt.slots] at X96 l96 y96 z96 st96 hQ96
      subst l96 y96 z96
      obtain ⟨rfl, Nq96, e96⟩ := hQ96
      have N96 := Fr.app N91 Nq96
      have pre97 := Go.thn pre95 st96
      by_cases hc208_2 : (f11 (f1 p2)) = (0 : Int32)
      · have pre98 : Go p e below T96 _ (mkF m 248 #[.val (.int p0), .val (.int p1), .val (.int p2), .val (.int p3), .val (.int p4), .val (.int 4), .val (.int (f1 p1)), .val (.int (f1 p2)), .val (.int (f1 p3)), .val (.int (f1 p4)), .val (.ref b146), .val (.int 1)] []) _ := fun t k => pre97 t (by
          refine XS.ifYes X96.here hx rfl (pc0 := 208) (pc' := 248) rfl (hb hby at_208) rfl ((if0 _ _).trans (teq hc208_2).1) (by decide) (by decide) ?_
          exact k)
        exact ⟨T96, _, X96, e96, N96, fun t k => pre98 t (by simpa only [v0_4U_248_l11, if_neg hc191_1, if_pos hc208_2] using k)⟩
      · have pre99 : Go p e below T96 _ (mkF m 222 #[.val (.int p0), .val (.int p1), .val (.int p2), .val (.int p3), .val (.int p4), .val (.int 4), .val (.int (f1 p1)), .val (.int (f1 p2)), .val (.int (f1 p3)), .val (.int (f1 p4)), .val (.ref b146), .val (.int 2)] [(.int (f1 p3))]) _ := fun t k => pre97 t (by
          refine XS.ifNo X96.here hx rfl (hb hby at_208) rfl ((if0 _ _).trans (feq hc208_2).1) ?_
          refine XS.iconst X96.here hx rfl (hb hby at_211) ?_
          refine XS.istore X96.here hx rfl (hb hby at_212) rfl (l' := #[.val (.int p0), .val (.int p1), .val (.int p2), .val (.int p3), .val (.int p4), .val (.int 4), .val (.int (f1 p1)), .val (.int (f1 p2)), .val (.int (f1 p3)), .val (.int (f1 p4)), .val (.ref b146), .val (.int 2)]) rfl ?_
          refine XS.iload X96.here hx rfl (hb hby at_214) rfl ?_
          refine XS.iconst X96.here hx rfl (hb hby at_216) ?_
          refine XS.icmpNo X96.here hx rfl (hb hby at_217) rfl (by decide) ?_
          refine XS.iload X96.here hx rfl (hb hby at_220) rfl ?_
          exact k)
        obtain ⟨_, _, ⟨T100, L100, k100, n100⟩, -, X100, ⟨Lc100, hQ100, l100, y100, z100⟩, st100⟩ := Jvm.LawKit.callS X96 hx (y := Nm_1) hown (mvT hZ (wq hw 53 rfl)) (mvT hZ (wq hw 54 rfl)) (mvT hZ (wq hw 3 rfl)) (mvT hZ (wq hw 55 rfl)) (by decide) (backOf (W := 0) (rm11 l Z a0 hw [] (f1 p3) T81.heap n0 Z81) hZ (wq hw 55 rfl) (wq hw 3 rfl) (by decide) (by decide)) (g := (mkF m 222 #[.val (.int p0), .val (.int p1), .val (.int p2), .val (.int p3), .val (.int p4), .val (.int 4), .val (.int (f1 p1)), .val (.int (f1 p2)), .val (.int (f1 p3)), .val (.int (f1 p4)), .val (.ref b146), .val (.int 2)] [(.int (f1 p3))])) rfl (by rw [hml]; rfl) (argsL := [(.int (f1 p3))]) (rest := []) (lenOf pd__C_Z rfl) rfl (w00 rfl) (hb hby at_222) (fun _ _ => ⟨rfl, e96, (by decide : 4 + 0 ≤ _), (by decide : 20 + 0 ≤ _)⟩)
        dsimp only [Pt.U, Pt.locs, Pt.cells, Pt.slots] at X100 l100 y100 z100 st100 hQ100
        subst l100 y100 z100
        obtain ⟨rfl, Nq100, e100⟩ := hQ100
        have N100 := Fr.app N96 Nq100
        have pre101 := Go.thn pre99 st100
        by_cases hc225_3 : (f11 (f1 p3)) = (0 : Int32)
        · have pre102 : Go p e below T100 _ (mkF m 248 #[.val (.int p0), .val (.int p1), .val (.int p2), .val (.int p3), .val (.int p4), .val (.int 4), .val (.int (f1 p1)), .val (.int (f1 p2)), .val (.int (f1 p3)), .val (.int (f1 p4)), .val (.ref b146), .val (.int 2)] []) _ := fun t k => pre101 t (by
            refine XS.ifYes X100.here hx rfl (pc0 := 225) (pc' := 248) rfl (hb hby at_225) rfl ((if0 _ _).trans (teq hc225_3).1) (by decide) (by decide) ?_
            exact k)
          exact ⟨T100, _, X100, e100, N100, fun t k => pre102 t (by simpa only [v0_4U_248_l11, if_neg hc191_1, if_neg hc208_2, if_pos hc225_3] using k)⟩
        · have pre103 : Go p e below T100 _ (mkF m 239 #[.val (.int p0), .val (.int p1), .val (.int p2), .val (.int p3), .val (.int p4), .val (.int 4), .val (.int (f1 p1)), .val (.int (f1 p2)), .val (.int (f1 p3)), .val (.int (f1 p4)), .val (.ref b146), .val (.int 3)] [(.int (f1 p4))]) _ := fun t k => pre101 t (by
            refine XS.ifNo X100.here hx rfl (hb hby at_225) rfl ((if0 _ _).trans (feq hc225_3).1) ?_
            refine XS.iconst X100.here hx rfl (hb hby at_228) ?_
            refine XS.istore X100.here hx rfl (hb hby at_229) rfl (l' := #[.val (.int p0), .val (.int p1), .val (.int p2), .val (.int p3), .val (.int p4), .val (.int 4), .val (.int (f1 p1)), .val (.int (f1 p2)), .val (.int (f1 p3)), .val (.int (f1 p4)), .val (.ref b146), .val (.int 3)]) rfl ?_
            refine XS.iload X100.here hx rfl (hb hby at_231) rfl ?_
            refine XS.iconst X100.here hx rfl (hb hby at_233) ?_
            refine XS.icmpNo X100.here hx rfl (hb hby at_234) rfl (by decide) ?_
            refine XS.iload X100.here hx rfl (hb hby at_237) rfl ?_
            exact k)
          obtain ⟨_, _, ⟨T104, L104, k104, n104⟩, -, X104, ⟨Lc104, hQ104, l104, y104, z104⟩, st104⟩ := Jvm.LawKit.callS X100 hx (y := Nm_1) hown (mvT hZ (wq hw 53 rfl)) (mvT hZ (wq hw 54 rfl)) (mvT hZ (wq hw 3 rfl)) (mvT hZ (wq hw 55 rfl)) (by decide) (backOf (W := 0) (rm11 l Z a0 hw [] (f1 p4) T81.heap n0 Z81) hZ (wq hw 55 rfl) (wq hw 3 rfl) (by decide) (by decide)) (g := (mkF m 239 #[.val (.int p0), .val (.int p1), .val (.int p2), .val (.int p3), .val (.int p4), .val (.int 4), .val (.int (f1 p1)), .val (.int (f1 p2)), .val (.int (f1 p3)), .val (.int (f1 p4)), .val (.ref b146), .val (.int 3)] [(.int (f1 p4))])) rfl (by rw [hml]; rfl) (argsL := [(.int (f1 p4))]) (rest := []) (lenOf pd__C_Z rfl) rfl (w00 rfl) (hb hby at_239) (fun _ _ => ⟨rfl, e100, (by decide : 4 + 0 ≤ _), (by decide : 20 + 0 ≤ _)⟩)
          dsimp only [Pt.U, Pt.locs, Pt.cells, Pt.slots] at X104 l104 y104 z104 st104 hQ104
          subst l104 y104 z104
          obtain ⟨rfl, Nq104, e104⟩ := hQ104
          have N104 := Fr.app N100 Nq104
          have pre105 := Go.thn pre103 st104
          by_cases hc242_4 : (f11 (f1 p4)) = (0 : Int32)
          · have pre106 : Go p e below T104 _ (mkF m 248 #[.val (.int p0), .val (.int p1), .val (.int p2), .val (.int p3), .val (.int p4), .val (.int 4), .val (.int (f1 p1)), .val (.int (f1 p2)), .val (.int (f1 p3)), .val (.int (f1 p4)), .val (.ref b146), .val (.int 3)] []) _ := fun t k => pre105 t (by
              refine XS.ifYes X104.here hx rfl (pc0 := 242) (pc' := 248) rfl (hb hby at_242) rfl ((if0 _ _).trans (teq hc242_4).1) (by decide) (by decide) ?_
              exact k)
            exact ⟨T104, _, X104, e104, N104, fun t k => pre106 t (by simpa only [v0_4U_248_l11, if_neg hc191_1, if_neg hc208_2, if_neg hc225_3, if_pos hc242_4] using k)⟩
          · have pre107 : Go p e below T104 _ (mkF m 248 #[.val (.int p0), .val (.int p1), .val (.int p2), .val (.int p3), .val (.int p4), .val (.int 4), .val (.int (f1 p1)), .val (.int (f1 p2)), .val (.int (f1 p3)), .val (.int (f1 p4)), .val (.ref b146), .val (.int 4)] []) _ := fun t k => pre105 t (by
              refine XS.ifNo X104.here hx rfl (hb hby at_242) rfl ((if0 _ _).trans (feq hc242_4).1) ?_
              refine XS.iconst X104.here hx rfl (hb hby at_245) ?_
              refine XS.istore X104.here hx rfl (hb hby at_246) rfl (l' := #[.val (.int p0), .val (.int p1), .val (.int p2), .val (.int p3), .val (.int p4), .val (.int 4), .val (.int (f1 p1)), .val (.int (f1 p2)), .val (.int (f1 p3)), .val (.int (f1 p4)), .val (.ref b146), .val (.int 4)]) rfl ?_
              exact k)
            exact ⟨T104, _, X104, e104, N104, fun t k => pre107 t (by simpa only [v0_4U_248_l11, if_neg hc191_1, if_neg hc208_2, if_neg hc225_3, if_neg hc242_4] using k)⟩
  have pre108 : Go p e below T93 _ (mkF m 250 #[.val (.int p0), .val (.int p1), .val (.int p2), .val (.int p3), .val (.int p4), .val (.int 4), .val (.int (f1 p1)), .val (.int (f1 p2)), .val (.int (f1 p3)), .val (.int (f1 p4)), .val (.ref b146), .val (.int (v0_4U_248_l11 p1 p2 p3 p4))] [(.ref b146)]) _ := fun t k => pre93 t (by
    refine XS.aload X93.here hx rfl (hb hby at_248) rfl rfl ?_
    exact k)
  obtain ⟨_, _, ⟨T109, L109, k109, n109⟩, -, X109, ⟨Lc109, hQ109, l109, y109, z109⟩, st109⟩ := Jvm.LawKit.callS X93 hx (y := Nm_14) hown (mvT hZ (wq hw 28 rfl)) (mvT hZ (wq hw 29 rfl)) (mvT hZ (wq hw 30 rfl)) (mvT hZ (wq hw 31 rfl)) (by decide) (backOf (W := 0) (rm5_U l Z a0 hw [] b146 wcs wsf b173_0 _ (8 : Int32) [(own_b0 (nar .char (f1 p1))), (own_b8 (nar .char (f1 p1))), (own_b0 (nar .char (f1 p2))), (own_b8 (nar .char (f1 p2))), (own_b0 (nar .char (f1 p3))), (own_b8 (nar .char (f1 p3))), (own_b0 (nar .char (f1 p4))), (own_b8 (nar .char (f1 p4)))] T81.heap n0 Z81 x82 x83 o81_0 x84 x85 x86 o81_1 o81_2 o81_3 hcs hsf (Or.inr (Or.inr (Or.inr (rfl)))) (by decide)) hZ (wq hw 31 rfl) (wq hw 30 rfl) (by decide) (by decide)) (g := (mkF m 250 #[.val (.int p0), .val (.int p1), .val (.int p2), .val (.int p3), .val (.int p4), .val (.int 4), .val (.int (f1 p1)), .val (.int (f1 p2)), .val (.int (f1 p3)), .val (.int (f1 p4)), .val (.ref b146), .val (.int (v0_4U_248_l11 p1 p2 p3 p4))] [(.ref b146)])) rfl (by rw [hml]; rfl) (argsL := [(.ref b146)]) (rest := []) (lenOf pd__Ljava_lang_String__I rfl) rfl (w00 rfl) (hb hby at_250) (fun _ _ => ⟨rfl, e93, (by decide : 4 + 0 ≤ _), (by decide : 20 + 0 ≤ _)⟩)
  dsimp only [Pt.U, Pt.locs, Pt.cells, Pt.slots] at X109 l109 y109 z109 st109 hQ109
  subst l109 y109 z109
  obtain ⟨rfl, Nq109, e109⟩ := hQ109
  have N109 := Fr.app N93 Nq109
  have pre110 := Go.thn pre108 st109
  have pre111 : Go p e below T109 _ (mkF m 255 #[.val (.int p0), .val (.int p1), .val (.int p2), .val (.int p3), .val (.int p4), .val (.int 4), .val (.int (f1 p1)), .val (.int (f1 p2)), .val (.int (f1 p3)), .val (.int (f1 p4)), .val (.ref b146), .val (.int (v0_4U_248_l11 p1 p2 p3 p4))] [(.int (v0_4U_248_l11 p1 p2 p3 p4)), (.int (f5_U (8 : Int32) [(own_b0 (nar .char (f1 p1))), (own_b8 (nar .char (f1 p1))), (own_b0 (nar .char (f1 p2))), (own_b8 (nar .char (f1 p2))), (own_b0 (nar .char (f1 p3))), (own_b8 (nar .char (f1 p3))), (own_b0 (nar .char (f1 p4))), (own_b8 (nar .char (f1 p4)))]))]) _ := fun t k => pre110 t (by
    refine XS.iload X109.here hx rfl (hb hby at_253) rfl ?_
    exact k)
  by_cases hc255_5 : (f5_U (8 : Int32) [(own_b0 (nar .char (f1 p1))), (own_b8 (nar .char (f1 p1))), (own_b0 (nar .char (f1 p2))), (own_b8 (nar .char (f1 p2))), (own_b0 (nar .char (f1 p3))), (own_b8 (nar .char (f1 p3))), (own_b0 (nar .char (f1 p4))), (own_b8 (nar .char (f1 p4)))]) = (v0_4U_248_l11 p1 p2 p3 p4)
  · have pre112 : Go p e below T109 _ (mkF m 263 #[.val (.int p0), .val (.int p1), .val (.int p2), .val (.int p3), .val (.int p4), .val (.int 4), .val (.int (f1 p1)), .val (.int (f1 p2)), .val (.int (f1 p3)), .val (.int (f1 p4)), .val (.ref b146), .val (.int (v0_4U_248_l11 p1 p2 p3 p4))] [(.int 1)]) _ := fun t k => pre111 t (by
      refine XS.icmpNo X109.here hx rfl (hb hby at_255) rfl (teq hc255_5).2 ?_
      refine XS.iconst X109.here hx rfl (hb hby at_258) ?_
      refine XS.goto X109.here hx rfl (pc0 := 259) (pc' := 263) rfl (hb hby at_259) (by decide) (by decide) ?_
      exact k)
    obtain ⟨fs, hr, hrun, hended, hW, hsame⟩ := X109.leave (v := some (.int 1)) (fun h => by rw [Bd.returns] at h; cases h)
    refine ⟨_, _, ?_, hrun, hended, _, _, rfl, ?_, ⟨_, rfl⟩, hW, hsame.mono (by decide) (by decide)⟩
    · exact pre112 _ (retN X109 hx (t := .boolean) Bd.returns (by simp) (hb hby at_263) hr)
    · exact ⟨by simp only [f0_4U, if_pos hc255_5], N109, trivial⟩
  · have pre113 : Go p e below T109 _ (mkF m 263 #[.val (.int p0), .val (.int p1), .val (.int p2), .val (.int p3), .val (.int p4), .val (.int 4), .val (.int (f1 p1)), .val (.int (f1 p2)), .val (.int (f1 p3)), .val (.int (f1 p4)), .val (.ref b146), .val (.int (v0_4U_248_l11 p1 p2 p3 p4))] [(.int 0)]) _ := fun t k => pre111 t (by
      refine XS.icmpYes X109.here hx rfl (pc0 := 255) (pc' := 262) rfl (hb hby at_255) rfl (feq hc255_5).2 (by decide) (by decide) ?_
      refine XS.iconst X109.here hx rfl (hb hby at_262) ?_
      exact k)
    obtain ⟨fs, hr, hrun, hended, hW, hsame⟩ := X109.leave (v := some (.int 0)) (fun h => by rw [Bd.returns] at h; cases h)
    refine ⟨_, _, ?_, hrun, hended, _, _, rfl, ?_, ⟨_, rfl⟩, hW, hsame.mono (by decide) (by decide)⟩
    · exact pre113 _ (retN X109 hx (t := .boolean) Bd.returns (by simp) (hb hby at_263) hr)
    · exact ⟨by simp only [f0_4U, if_neg hc255_5], N109, trivial⟩
theorem own_f1 (x : Int32) : own_chr (f1 x) := by
  unfold f1
  split
  · exact own_nr _
  · split <;> exact own_nr _
theorem own_17 (x : Int32) : f17 x = f11 x := rfl
theorem own_law_0L : f0_0L = 1 := by decide
theorem own_law_1L (p1 : Int32) (hl0 : ¬ ((255 : Int32) < (nar .char (f1 p1)))) : f0_1L p1 = 1 := by
  have e0 : f12_L (0 : Int32) [(g9_1_o2_0 (nar .char (f1 p1)))] = f1 p1 := by
    have q : g9_1_o2_0 (nar .char (f1 p1)) = ((nar .char (f1 p1)).toInt8.toInt32).toInt8.toInt32 := by simp only [g9_1_o2_0, if_neg hl0]
    show nar .char (nar .char (((g9_1_o2_0 (nar .char (f1 p1))) &&& (255 : Int32)).toUInt32.toUInt16.toUInt32.toInt32)) = f1 p1
    rw [q, own_rl (own_nr _) hl0, own_nc (own_nr _), own_nc (own_f1 _)]
  unfold f0_1L
  refine if_pos ?_
  simp only [f5_L, v0_1L_248_l11, e0, own_17, if_true, if_false, eq_true (show (0 : Int32) < f6_L (1 : Int32) by decide), eq_false (show ¬ ((1 : Int32) < f6_L (1 : Int32)) by decide)]
theorem own_law_1U (p1 : Int32) : f0_1U p1 = 1 := by
  have e0 : f12_U (0 : Int32) [(own_b0 (nar .char (f1 p1))), (own_b8 (nar .char (f1 p1)))] = f1 p1 := by
    show nar .char (nar .char (f22 (0 : Int32) [(own_b0 (nar .char (f1 p1))), (own_b8 (nar .char (f1 p1)))])) = f1 p1
    rw [show f22 (0 : Int32) [(own_b0 (nar .char (f1 p1))), (own_b8 (nar .char (f1 p1)))] = (nar .char (f1 p1)) from own_rt (own_nr _), own_nc (own_nr _), own_nc (own_nr _), own_nc (own_f1 _)]
  unfold f0_1U
  refine if_pos ?_
  simp only [f5_U, v0_1U_248_l11, e0, own_17, if_true, if_false, eq_true (show (0 : Int32) < f6_U (2 : Int32) by decide), eq_false (show ¬ ((1 : Int32) < f6_U (2 : Int32)) by decide)]
theorem own_law_2L (p1 p2 : Int32) (hl0 : ¬ ((255 : Int32) < (nar .char (f1 p1)))) (hl1 : ¬ ((255 : Int32) < (nar .char (f1 p2)))) : f0_2L p1 p2 = 1 := by
  have e0 : f12_L (0 : Int32) [(g9_2_o2_0 (nar .char (f1 p1))), (g9_2_o2_1 (nar .char (f1 p1)) (nar .char (f1 p2)))] = f1 p1 := by
    have q : g9_2_o2_0 (nar .char (f1 p1)) = ((nar .char (f1 p1)).toInt8.toInt32).toInt8.toInt32 := by simp only [g9_2_o2_0, if_neg hl0]
    show nar .char (nar .char (((g9_2_o2_0 (nar .char (f1 p1))) &&& (255 : Int32)).toUInt32.toUInt16.toUInt32.toInt32)) = f1 p1
    rw [q, own_rl (own_nr _) hl0, own_nc (own_nr _), own_nc (own_f1 _)]
  have e1 : f12_L (1 : Int32) [(g9_2_o2_0 (nar .char (f1 p1))), (g9_2_o2_1 (nar .char (f1 p1)) (nar .char (f1 p2)))] = f1 p2 := by
    have q : g9_2_o2_1 (nar .char (f1 p1)) (nar .char (f1 p2)) = ((nar .char (f1 p2)).toInt8.toInt32).toInt8.toInt32 := by simp only [g9_2_o2_1, if_neg hl0, if_neg hl1]
    show nar .char (nar .char (((g9_2_o2_1 (nar .char (f1 p1)) (nar .char (f1 p2))) &&& (255 : Int32)).toUInt32.toUInt16.toUInt32.toInt32)) = f1 p2
    rw [q, own_rl (own_nr _) hl1, own_nc (own_nr _), own_nc (own_f1 _)]
  unfold f0_2L
  refine if_pos ?_
  simp only [f5_L, v0_2L_248_l11, e0, e1, own_17, if_true, if_false, eq_true (show (0 : Int32) < f6_L (2 : Int32) by decide), eq_true (show (1 : Int32) < f6_L (2 : Int32) by decide), eq_false (show ¬ ((2 : Int32) < f6_L (2 : Int32)) by decide)]
theorem own_law_2U (p1 p2 : Int32) : f0_2U p1 p2 = 1 := by
  have e0 : f12_U (0 : Int32) [(own_b0 (nar .char (f1 p1))), (own_b8 (nar .char (f1 p1))), (own_b0 (nar .char (f1 p2))), (own_b8 (nar .char (f1 p2)))] = f1 p1 := by
    show nar .char (nar .char (f22 (0 : Int32) [(own_b0 (nar .char (f1 p1))), (own_b8 (nar .char (f1 p1))), (own_b0 (nar .char (f1 p2))), (own_b8 (nar .char (f1 p2)))])) = f1 p1
    rw [show f22 (0 : Int32) [(own_b0 (nar .char (f1 p1))), (own_b8 (nar .char (f1 p1))), (own_b0 (nar .char (f1 p2))), (own_b8 (nar .char (f1 p2)))] = (nar .char (f1 p1)) from own_rt (own_nr _), own_nc (own_nr _), own_nc (own_nr _), own_nc (own_f1 _)]
  have e1 : f12_U (1 : Int32) [(own_b0 (nar .char (f1 p1))), (own_b8 (nar .char (f1 p1))), (own_b0 (nar .char (f1 p2))), (own_b8 (nar .char (f1 p2)))] = f1 p2 := by
    show nar .char (nar .char (f22 (1 : Int32) [(own_b0 (nar .char (f1 p1))), (own_b8 (nar .char (f1 p1))), (own_b0 (nar .char (f1 p2))), (own_b8 (nar .char (f1 p2)))])) = f1 p2
    rw [show f22 (1 : Int32) [(own_b0 (nar .char (f1 p1))), (own_b8 (nar .char (f1 p1))), (own_b0 (nar .char (f1 p2))), (own_b8 (nar .char (f1 p2)))] = (nar .char (f1 p2)) from own_rt (own_nr _), own_nc (own_nr _), own_nc (own_nr _), own_nc (own_f1 _)]
  unfold f0_2U
  refine if_pos ?_
  simp only [f5_U, v0_2U_248_l11, e0, e1, own_17, if_true, if_false, eq_true (show (0 : Int32) < f6_U (4 : Int32) by decide), eq_true (show (1 : Int32) < f6_U (4 : Int32) by decide), eq_false (show ¬ ((2 : Int32) < f6_U (4 : Int32)) by decide)]
theorem own_law_3L (p1 p2 p3 : Int32) (hl0 : ¬ ((255 : Int32) < (nar .char (f1 p1)))) (hl1 : ¬ ((255 : Int32) < (nar .char (f1 p2)))) (hl2 : ¬ ((255 : Int32) < (nar .char (f1 p3)))) : f0_3L p1 p2 p3 = 1 := by
  have e0 : f12_L (0 : Int32) [(g9_3_o2_0 (nar .char (f1 p1))), (g9_3_o2_1 (nar .char (f1 p1)) (nar .char (f1 p2))), (g9_3_o2_2 (nar .char (f1 p1)) (nar .char (f1 p2)) (nar .char (f1 p3)))] = f1 p1 := by
    have q : g9_3_o2_0 (nar .char (f1 p1)) = ((nar .char (f1 p1)).toInt8.toInt32).toInt8.toInt32 := by simp only [g9_3_o2_0, if_neg hl0]
    show nar .char (nar .char (((g9_3_o2_0 (nar .char (f1 p1))) &&& (255 : Int32)).toUInt32.toUInt16.toUInt32.toInt32)) = f1 p1
    rw [q, own_rl (own_nr _) hl0, own_nc (own_nr _), own_nc (own_f1 _)]
  have e1 : f12_L (1 : Int32) [(g9_3_o2_0 (nar .char (f1 p1))), (g9_3_o2_1 (nar .char (f1 p1)) (nar .char (f1 p2))), (g9_3_o2_2 (nar .char (f1 p1)) (nar .char (f1 p2)) (nar .char (f1 p3)))] = f1 p2 := by
    have q : g9_3_o2_1 (nar .char (f1 p1)) (nar .char (f1 p2)) = ((nar .char (f1 p2)).toInt8.toInt32).toInt8.toInt32 := by simp only [g9_3_o2_1, if_neg hl0, if_neg hl1]
    show nar .char (nar .char (((g9_3_o2_1 (nar .char (f1 p1)) (nar .char (f1 p2))) &&& (255 : Int32)).toUInt32.toUInt16.toUInt32.toInt32)) = f1 p2
    rw [q, own_rl (own_nr _) hl1, own_nc (own_nr _), own_nc (own_f1 _)]
  have e2 : f12_L (2 : Int32) [(g9_3_o2_0 (nar .char (f1 p1))), (g9_3_o2_1 (nar .char (f1 p1)) (nar .char (f1 p2))), (g9_3_o2_2 (nar .char (f1 p1)) (nar .char (f1 p2)) (nar .char (f1 p3)))] = f1 p3 := by
    have q : g9_3_o2_2 (nar .char (f1 p1)) (nar .char (f1 p2)) (nar .char (f1 p3)) = ((nar .char (f1 p3)).toInt8.toInt32).toInt8.toInt32 := by simp only [g9_3_o2_2, if_neg hl0, if_neg hl1, if_neg hl2]
    show nar .char (nar .char (((g9_3_o2_2 (nar .char (f1 p1)) (nar .char (f1 p2)) (nar .char (f1 p3))) &&& (255 : Int32)).toUInt32.toUInt16.toUInt32.toInt32)) = f1 p3
    rw [q, own_rl (own_nr _) hl2, own_nc (own_nr _), own_nc (own_f1 _)]
  unfold f0_3L
  refine if_pos ?_
  simp only [f5_L, v0_3L_248_l11, e0, e1, e2, own_17, if_true, if_false, eq_true (show (0 : Int32) < f6_L (3 : Int32) by decide), eq_true (show (1 : Int32) < f6_L (3 : Int32) by decide), eq_true (show (2 : Int32) < f6_L (3 : Int32) by decide), eq_false (show ¬ ((3 : Int32) < f6_L (3 : Int32)) by decide)]
theorem own_law_3U (p1 p2 p3 : Int32) : f0_3U p1 p2 p3 = 1 := by
  have e0 : f12_U (0 : Int32) [(own_b0 (nar .char (f1 p1))), (own_b8 (nar .char (f1 p1))), (own_b0 (nar .char (f1 p2))), (own_b8 (nar .char (f1 p2))), (own_b0 (nar .char (f1 p3))), (own_b8 (nar .char (f1 p3)))] = f1 p1 := by
    show nar .char (nar .char (f22 (0 : Int32) [(own_b0 (nar .char (f1 p1))), (own_b8 (nar .char (f1 p1))), (own_b0 (nar .char (f1 p2))), (own_b8 (nar .char (f1 p2))), (own_b0 (nar .char (f1 p3))), (own_b8 (nar .char (f1 p3)))])) = f1 p1
    rw [show f22 (0 : Int32) [(own_b0 (nar .char (f1 p1))), (own_b8 (nar .char (f1 p1))), (own_b0 (nar .char (f1 p2))), (own_b8 (nar .char (f1 p2))), (own_b0 (nar .char (f1 p3))), (own_b8 (nar .char (f1 p3)))] = (nar .char (f1 p1)) from own_rt (own_nr _), own_nc (own_nr _), own_nc (own_nr _), own_nc (own_f1 _)]
  have e1 : f12_U (1 : Int32) [(own_b0 (nar .char (f1 p1))), (own_b8 (nar .char (f1 p1))), (own_b0 (nar .char (f1 p2))), (own_b8 (nar .char (f1 p2))), (own_b0 (nar .char (f1 p3))), (own_b8 (nar .char (f1 p3)))] = f1 p2 := by
    show nar .char (nar .char (f22 (1 : Int32) [(own_b0 (nar .char (f1 p1))), (own_b8 (nar .char (f1 p1))), (own_b0 (nar .char (f1 p2))), (own_b8 (nar .char (f1 p2))), (own_b0 (nar .char (f1 p3))), (own_b8 (nar .char (f1 p3)))])) = f1 p2
    rw [show f22 (1 : Int32) [(own_b0 (nar .char (f1 p1))), (own_b8 (nar .char (f1 p1))), (own_b0 (nar .char (f1 p2))), (own_b8 (nar .char (f1 p2))), (own_b0 (nar .char (f1 p3))), (own_b8 (nar .char (f1 p3)))] = (nar .char (f1 p2)) from own_rt (own_nr _), own_nc (own_nr _), own_nc (own_nr _), own_nc (own_f1 _)]
  have e2 : f12_U (2 : Int32) [(own_b0 (nar .char (f1 p1))), (own_b8 (nar .char (f1 p1))), (own_b0 (nar .char (f1 p2))), (own_b8 (nar .char (f1 p2))), (own_b0 (nar .char (f1 p3))), (own_b8 (nar .char (f1 p3)))] = f1 p3 := by
    show nar .char (nar .char (f22 (2 : Int32) [(own_b0 (nar .char (f1 p1))), (own_b8 (nar .char (f1 p1))), (own_b0 (nar .char (f1 p2))), (own_b8 (nar .char (f1 p2))), (own_b0 (nar .char (f1 p3))), (own_b8 (nar .char (f1 p3)))])) = f1 p3
    rw [show f22 (2 : Int32) [(own_b0 (nar .char (f1 p1))), (own_b8 (nar .char (f1 p1))), (own_b0 (nar .char (f1 p2))), (own_b8 (nar .char (f1 p2))), (own_b0 (nar .char (f1 p3))), (own_b8 (nar .char (f1 p3)))] = (nar .char (f1 p3)) from own_rt (own_nr _), own_nc (own_nr _), own_nc (own_nr _), own_nc (own_f1 _)]
  unfold f0_3U
  refine if_pos ?_
  simp only [f5_U, v0_3U_248_l11, e0, e1, e2, own_17, if_true, if_false, eq_true (show (0 : Int32) < f6_U (6 : Int32) by decide), eq_true (show (1 : Int32) < f6_U (6 : Int32) by decide), eq_true (show (2 : Int32) < f6_U (6 : Int32) by decide), eq_false (show ¬ ((3 : Int32) < f6_U (6 : Int32)) by decide)]
theorem own_law_4L (p1 p2 p3 p4 : Int32) (hl0 : ¬ ((255 : Int32) < (nar .char (f1 p1)))) (hl1 : ¬ ((255 : Int32) < (nar .char (f1 p2)))) (hl2 : ¬ ((255 : Int32) < (nar .char (f1 p3)))) (hl3 : ¬ ((255 : Int32) < (nar .char (f1 p4)))) : f0_4L p1 p2 p3 p4 = 1 := by
  have e0 : f12_L (0 : Int32) [(g9_4_o2_0 (nar .char (f1 p1))), (g9_4_o2_1 (nar .char (f1 p1)) (nar .char (f1 p2))), (g9_4_o2_2 (nar .char (f1 p1)) (nar .char (f1 p2)) (nar .char (f1 p3))), (g9_4_o2_3 (nar .char (f1 p1)) (nar .char (f1 p2)) (nar .char (f1 p3)) (nar .char (f1 p4)))] = f1 p1 := by
    have q : g9_4_o2_0 (nar .char (f1 p1)) = ((nar .char (f1 p1)).toInt8.toInt32).toInt8.toInt32 := by simp only [g9_4_o2_0, if_neg hl0]
    show nar .char (nar .char (((g9_4_o2_0 (nar .char (f1 p1))) &&& (255 : Int32)).toUInt32.toUInt16.toUInt32.toInt32)) = f1 p1
    rw [q, own_rl (own_nr _) hl0, own_nc (own_nr _), own_nc (own_f1 _)]
  have e1 : f12_L (1 : Int32) [(g9_4_o2_0 (nar .char (f1 p1))), (g9_4_o2_1 (nar .char (f1 p1)) (nar .char (f1 p2))), (g9_4_o2_2 (nar .char (f1 p1)) (nar .char (f1 p2)) (nar .char (f1 p3))), (g9_4_o2_3 (nar .char (f1 p1)) (nar .char (f1 p2)) (nar .char (f1 p3)) (nar .char (f1 p4)))] = f1 p2 := by
    have q : g9_4_o2_1 (nar .char (f1 p1)) (nar .char (f1 p2)) = ((nar .char (f1 p2)).toInt8.toInt32).toInt8.toInt32 := by simp only [g9_4_o2_1, if_neg hl0, if_neg hl1]
    show nar .char (nar .char (((g9_4_o2_1 (nar .char (f1 p1)) (nar .char (f1 p2))) &&& (255 : Int32)).toUInt32.toUInt16.toUInt32.toInt32)) = f1 p2
    rw [q, own_rl (own_nr _) hl1, own_nc (own_nr _), own_nc (own_f1 _)]
  have e2 : f12_L (2 : Int32) [(g9_4_o2_0 (nar .char (f1 p1))), (g9_4_o2_1 (nar .char (f1 p1)) (nar .char (f1 p2))), (g9_4_o2_2 (nar .char (f1 p1)) (nar .char (f1 p2)) (nar .char (f1 p3))), (g9_4_o2_3 (nar .char (f1 p1)) (nar .char (f1 p2)) (nar .char (f1 p3)) (nar .char (f1 p4)))] = f1 p3 := by
    have q : g9_4_o2_2 (nar .char (f1 p1)) (nar .char (f1 p2)) (nar .char (f1 p3)) = ((nar .char (f1 p3)).toInt8.toInt32).toInt8.toInt32 := by simp only [g9_4_o2_2, if_neg hl0, if_neg hl1, if_neg hl2]
    show nar .char (nar .char (((g9_4_o2_2 (nar .char (f1 p1)) (nar .char (f1 p2)) (nar .char (f1 p3))) &&& (255 : Int32)).toUInt32.toUInt16.toUInt32.toInt32)) = f1 p3
    rw [q, own_rl (own_nr _) hl2, own_nc (own_nr _), own_nc (own_f1 _)]
  have e3 : f12_L (3 : Int32) [(g9_4_o2_0 (nar .char (f1 p1))), (g9_4_o2_1 (nar .char (f1 p1)) (nar .char (f1 p2))), (g9_4_o2_2 (nar .char (f1 p1)) (nar .char (f1 p2)) (nar .char (f1 p3))), (g9_4_o2_3 (nar .char (f1 p1)) (nar .char (f1 p2)) (nar .char (f1 p3)) (nar .char (f1 p4)))] = f1 p4 := by
    have q : g9_4_o2_3 (nar .char (f1 p1)) (nar .char (f1 p2)) (nar .char (f1 p3)) (nar .char (f1 p4)) = ((nar .char (f1 p4)).toInt8.toInt32).toInt8.toInt32 := by simp only [g9_4_o2_3, if_neg hl0, if_neg hl1, if_neg hl2, if_neg hl3]
    show nar .char (nar .char (((g9_4_o2_3 (nar .char (f1 p1)) (nar .char (f1 p2)) (nar .char (f1 p3)) (nar .char (f1 p4))) &&& (255 : Int32)).toUInt32.toUInt16.toUInt32.toInt32)) = f1 p4
    rw [q, own_rl (own_nr _) hl3, own_nc (own_nr _), own_nc (own_f1 _)]
  unfold f0_4L
  refine if_pos ?_
  simp only [f5_L, v0_4L_248_l11, e0, e1, e2, e3, own_17, if_true, if_false, eq_true (show (0 : Int32) < f6_L (4 : Int32) by decide), eq_true (show (1 : Int32) < f6_L (4 : Int32) by decide), eq_true (show (2 : Int32) < f6_L (4 : Int32) by decide), eq_true (show (3 : Int32) < f6_L (4 : Int32) by decide)]
theorem own_law_4U (p1 p2 p3 p4 : Int32) : f0_4U p1 p2 p3 p4 = 1 := by
  have e0 : f12_U (0 : Int32) [(own_b0 (nar .char (f1 p1))), (own_b8 (nar .char (f1 p1))), (own_b0 (nar .char (f1 p2))), (own_b8 (nar .char (f1 p2))), (own_b0 (nar .char (f1 p3))), (own_b8 (nar .char (f1 p3))), (own_b0 (nar .char (f1 p4))), (own_b8 (nar .char (f1 p4)))] = f1 p1 := by
    show nar .char (nar .char (f22 (0 : Int32) [(own_b0 (nar .char (f1 p1))), (own_b8 (nar .char (f1 p1))), (own_b0 (nar .char (f1 p2))), (own_b8 (nar .char (f1 p2))), (own_b0 (nar .char (f1 p3))), (own_b8 (nar .char (f1 p3))), (own_b0 (nar .char (f1 p4))), (own_b8 (nar .char (f1 p4)))])) = f1 p1
    rw [show f22 (0 : Int32) [(own_b0 (nar .char (f1 p1))), (own_b8 (nar .char (f1 p1))), (own_b0 (nar .char (f1 p2))), (own_b8 (nar .char (f1 p2))), (own_b0 (nar .char (f1 p3))), (own_b8 (nar .char (f1 p3))), (own_b0 (nar .char (f1 p4))), (own_b8 (nar .char (f1 p4)))] = (nar .char (f1 p1)) from own_rt (own_nr _), own_nc (own_nr _), own_nc (own_nr _), own_nc (own_f1 _)]
  have e1 : f12_U (1 : Int32) [(own_b0 (nar .char (f1 p1))), (own_b8 (nar .char (f1 p1))), (own_b0 (nar .char (f1 p2))), (own_b8 (nar .char (f1 p2))), (own_b0 (nar .char (f1 p3))), (own_b8 (nar .char (f1 p3))), (own_b0 (nar .char (f1 p4))), (own_b8 (nar .char (f1 p4)))] = f1 p2 := by
    show nar .char (nar .char (f22 (1 : Int32) [(own_b0 (nar .char (f1 p1))), (own_b8 (nar .char (f1 p1))), (own_b0 (nar .char (f1 p2))), (own_b8 (nar .char (f1 p2))), (own_b0 (nar .char (f1 p3))), (own_b8 (nar .char (f1 p3))), (own_b0 (nar .char (f1 p4))), (own_b8 (nar .char (f1 p4)))])) = f1 p2
    rw [show f22 (1 : Int32) [(own_b0 (nar .char (f1 p1))), (own_b8 (nar .char (f1 p1))), (own_b0 (nar .char (f1 p2))), (own_b8 (nar .char (f1 p2))), (own_b0 (nar .char (f1 p3))), (own_b8 (nar .char (f1 p3))), (own_b0 (nar .char (f1 p4))), (own_b8 (nar .char (f1 p4)))] = (nar .char (f1 p2)) from own_rt (own_nr _), own_nc (own_nr _), own_nc (own_nr _), own_nc (own_f1 _)]
  have e2 : f12_U (2 : Int32) [(own_b0 (nar .char (f1 p1))), (own_b8 (nar .char (f1 p1))), (own_b0 (nar .char (f1 p2))), (own_b8 (nar .char (f1 p2))), (own_b0 (nar .char (f1 p3))), (own_b8 (nar .char (f1 p3))), (own_b0 (nar .char (f1 p4))), (own_b8 (nar .char (f1 p4)))] = f1 p3 := by
    show nar .char (nar .char (f22 (2 : Int32) [(own_b0 (nar .char (f1 p1))), (own_b8 (nar .char (f1 p1))), (own_b0 (nar .char (f1 p2))), (own_b8 (nar .char (f1 p2))), (own_b0 (nar .char (f1 p3))), (own_b8 (nar .char (f1 p3))), (own_b0 (nar .char (f1 p4))), (own_b8 (nar .char (f1 p4)))])) = f1 p3
    rw [show f22 (2 : Int32) [(own_b0 (nar .char (f1 p1))), (own_b8 (nar .char (f1 p1))), (own_b0 (nar .char (f1 p2))), (own_b8 (nar .char (f1 p2))), (own_b0 (nar .char (f1 p3))), (own_b8 (nar .char (f1 p3))), (own_b0 (nar .char (f1 p4))), (own_b8 (nar .char (f1 p4)))] = (nar .char (f1 p3)) from own_rt (own_nr _), own_nc (own_nr _), own_nc (own_nr _), own_nc (own_f1 _)]
  have e3 : f12_U (3 : Int32) [(own_b0 (nar .char (f1 p1))), (own_b8 (nar .char (f1 p1))), (own_b0 (nar .char (f1 p2))), (own_b8 (nar .char (f1 p2))), (own_b0 (nar .char (f1 p3))), (own_b8 (nar .char (f1 p3))), (own_b0 (nar .char (f1 p4))), (own_b8 (nar .char (f1 p4)))] = f1 p4 := by
    show nar .char (nar .char (f22 (3 : Int32) [(own_b0 (nar .char (f1 p1))), (own_b8 (nar .char (f1 p1))), (own_b0 (nar .char (f1 p2))), (own_b8 (nar .char (f1 p2))), (own_b0 (nar .char (f1 p3))), (own_b8 (nar .char (f1 p3))), (own_b0 (nar .char (f1 p4))), (own_b8 (nar .char (f1 p4)))])) = f1 p4
    rw [show f22 (3 : Int32) [(own_b0 (nar .char (f1 p1))), (own_b8 (nar .char (f1 p1))), (own_b0 (nar .char (f1 p2))), (own_b8 (nar .char (f1 p2))), (own_b0 (nar .char (f1 p3))), (own_b8 (nar .char (f1 p3))), (own_b0 (nar .char (f1 p4))), (own_b8 (nar .char (f1 p4)))] = (nar .char (f1 p4)) from own_rt (own_nr _), own_nc (own_nr _), own_nc (own_nr _), own_nc (own_f1 _)]
  unfold f0_4U
  refine if_pos ?_
  simp only [f5_U, v0_4U_248_l11, e0, e1, e2, e3, own_17, if_true, if_false, eq_true (show (0 : Int32) < f6_U (8 : Int32) by decide), eq_true (show (1 : Int32) < f6_U (8 : Int32) by decide), eq_true (show (2 : Int32) < f6_U (8 : Int32) by decide), eq_true (show (3 : Int32) < f6_U (8 : Int32) by decide)]
theorem own_n5 (x : Int32) : ((x &&& (2147483647 : Int32)) - (x &&& (2147483647 : Int32)) / (5 : Int32) * (5 : Int32)) = 0 ∨ ((x &&& (2147483647 : Int32)) - (x &&& (2147483647 : Int32)) / (5 : Int32) * (5 : Int32)) = 1 ∨ ((x &&& (2147483647 : Int32)) - (x &&& (2147483647 : Int32)) / (5 : Int32) * (5 : Int32)) = 2 ∨ ((x &&& (2147483647 : Int32)) - (x &&& (2147483647 : Int32)) / (5 : Int32) * (5 : Int32)) = 3 ∨ ((x &&& (2147483647 : Int32)) - (x &&& (2147483647 : Int32)) / (5 : Int32) * (5 : Int32)) = 4 := by
  have h : (x &&& (2147483647 : Int32)).toInt = x.toInt % 2147483648 := c_mask x 2147483647 31 (by decide) (by decide)
  have b1 := x.le_toInt
  have b2 := x.toInt_lt
  generalize x &&& (2147483647 : Int32) = y at *
  have d := (c_idiv y 5 5 rfl (by decide)).1 (by omega)
  have m := c_imul (y / 5) 5
  have u := c_isub y (y / 5 * 5)
  rw [show (5 : Int32).toInt = 5 from rfl] at m
  have l1 := (y / 5 * 5).le_toInt
  have l2 := (y / 5 * 5).toInt_lt
  have l3 := (y - y / 5 * 5).le_toInt
  have l4 := (y - y / 5 * 5).toInt_lt
  have em : (y / 5 * 5).toInt = y.toInt / 5 * 5 := by omega
  have hr : (y - y / 5 * 5).toInt = 0 ∨ (y - y / 5 * 5).toInt = 1 ∨ (y - y / 5 * 5).toInt = 2 ∨ (y - y / 5 * 5).toInt = 3 ∨ (y - y / 5 * 5).toInt = 4 := by omega
  rcases hr with g | g | g | g | g
  · exact Or.inl (Int32.toInt_inj.mp g)
  · exact Or.inr (Or.inl (Int32.toInt_inj.mp g))
  · exact Or.inr (Or.inr (Or.inl (Int32.toInt_inj.mp g)))
  · exact Or.inr (Or.inr (Or.inr (Or.inl (Int32.toInt_inj.mp g))))
  · exact Or.inr (Or.inr (Or.inr (Or.inr (Int32.toInt_inj.mp g))))
theorem own_fe {l : Launch} {y : MethodName} {sp : Spec} {a0 : Array Value} {Z : State} {h0 : Heap} {Q : Option Value → Heap → List Loc → Prop} {k n : Nat} (q : MetFree l y sp (fun a U => a = a0 ∧ Z.Warmed39 U.vm ∧ U.heap = h0) (fun _ _ _ _ _ => True) (fun _ U o U' => ∃ v L, o = .returned v ∧ Q v U'.heap L ∧ FrameEnd U o U' L k n)) : MetFree l y sp (fun a U => a = a0 ∧ Z.Warmed39 U.vm ∧ U.heap = h0 ∧ IB Z U.vm []) (fun _ _ _ _ _ => True) (fun _ U o U' => ∃ v L, o = .returned v ∧ Q v U'.heap L ∧ ReturnedEndW U o U' L k n) := by
  intro p e ha hc hk s m a below hf hA hP hG
  obtain ⟨n, o, h1, h2, h3, v, L, r1, r2, r3⟩ := q p e ha hc hk s m a below hf hA ⟨hP.1, hP.2.1, hP.2.2.1⟩ hG
  exact ⟨n, o, h1, h2, h3, v, L, r1, r2, ReturnedEndW.of_narrow r3.1 r3.2.1 r3.2.2⟩
theorem rm0 (l : Launch) (Z : State) (a0 : Array Value) (hw : ∀ d ∈ tables_1, d.before a0 Z = true) (ws : List Jvm.Cond) (p0 p1 p2 p3 p4 : Int32) (wcs : Int32) (wsf : Value) (h0 : Heap) (n0 : Nat) (Z0 : n0 ≤ h0.size) (I0 : Sta Z h0 "java/lang/String" "COMPACT_STRINGS" "Z" (.int wcs)) (I1 : Sta Z h0 "jdk/internal/util/Preconditions" "SIOOBE_FORMATTER" "Ljava/util/function/BiFunction;" wsf) (I2 : Sta Z h0 "java/lang/StringUTF16" "$assertionsDisabled" "Z" (.int 1)) (I3 : Sta Z h0 "java/lang/StringUTF16" "HI_BYTE_SHIFT" "I" (.int 0)) (I4 : Sta Z h0 "java/lang/StringUTF16" "LO_BYTE_SHIFT" "I" (.int 8)) (OLD : Old Z n0 h0) (hcw : Jvm.Lit.compactW.before a0 Z = true) (hh7 : Jvm.Lit.constHeld Z "java/lang/String" 7) (hcs : ¬ (wcs = (0 : Int32))) (hsf : wsf.isRef = true) :
    MetFree l x (head1 (Jvm.Cond.code x code maxLocals ret :: ws) room_1) (fun a U => a = #[(.int p0), (.int p1), (.int p2), (.int p3), (.int p4)] ∧ Z.Warmed39 U.vm ∧ U.heap = h0 ∧ IB Z U.vm []) (fun _ _ _ _ _ => True) (fun _ U o U' => ∃ v L, o = .returned v ∧ QL (some (.int 1)) n0 v U'.heap L ∧ ReturnedEndW U o U' L room_1.cells room_1.slots) := by
  rcases own_n5 p0 with hn | hn | hn | hn | hn
  · have q := rm0_0L l Z a0 hw ws p0 p1 p2 p3 p4 wcs wsf h0 n0 Z0 I0 I1 I2 I3 I4 OLD hn hcw hh7 hcs hsf
    rw [own_law_0L] at q
    exact q
  · by_cases hU : (255 : Int32) < (nar .char (f1 p1))
    · have q := rm0_1U l Z a0 hw ws p0 p1 p2 p3 p4 wcs wsf h0 n0 Z0 I0 I1 I2 I3 I4 hn hcs hsf hU
      rw [own_law_1U p1] at q
      exact own_fe q
    · have q := rm0_1L l Z a0 hw ws p0 p1 p2 p3 p4 wcs wsf h0 n0 Z0 I0 I1 I2 I3 I4 hn hcs hsf (fun g => hU (g))
      rw [own_law_1L p1 (fun g => hU (g))] at q
      exact own_fe q
  · by_cases hU : (255 : Int32) < (nar .char (f1 p1)) ∨ (255 : Int32) < (nar .char (f1 p2))
    · have q := rm0_2U l Z a0 hw ws p0 p1 p2 p3 p4 wcs wsf h0 n0 Z0 I0 I1 I2 I3 I4 hn hcs hsf hU
      rw [own_law_2U p1 p2] at q
      exact own_fe q
    · have q := rm0_2L l Z a0 hw ws p0 p1 p2 p3 p4 wcs wsf h0 n0 Z0 I0 I1 I2 I3 I4 hn hcs hsf (fun g => hU (Or.inl g)) (fun g => hU (Or.inr (g)))
      rw [own_law_2L p1 p2 (fun g => hU (Or.inl g)) (fun g => hU (Or.inr (g)))] at q
      exact own_fe q
  · by_cases hU : (255 : Int32) < (nar .char (f1 p1)) ∨ (255 : Int32) < (nar .char (f1 p2)) ∨ (255 : Int32) < (nar .char (f1 p3))
    · have q := rm0_3U l Z a0 hw ws p0 p1 p2 p3 p4 wcs wsf h0 n0 Z0 I0 I1 I2 I3 I4 hn hcs hsf hU
      rw [own_law_3U p1 p2 p3] at q
      exact own_fe q
    · have q := rm0_3L l Z a0 hw ws p0 p1 p2 p3 p4 wcs wsf h0 n0 Z0 I0 I1 I2 I3 I4 hn hcs hsf (fun g => hU (Or.inl g)) (fun g => hU (Or.inr (Or.inl g))) (fun g => hU (Or.inr (Or.inr (g))))
      rw [own_law_3L p1 p2 p3 (fun g => hU (Or.inl g)) (fun g => hU (Or.inr (Or.inl g))) (fun g => hU (Or.inr (Or.inr (g))))] at q
      exact own_fe q
  · by_cases hU : (255 : Int32) < (nar .char (f1 p1)) ∨ (255 : Int32) < (nar .char (f1 p2)) ∨ (255 : Int32) < (nar .char (f1 p3)) ∨ (255 : Int32) < (nar .char (f1 p4))
    · have q := rm0_4U l Z a0 hw ws p0 p1 p2 p3 p4 wcs wsf h0 n0 Z0 I0 I1 I2 I3 I4 hn hcs hsf hU
      rw [own_law_4U p1 p2 p3 p4] at q
      exact own_fe q
    · have q := rm0_4L l Z a0 hw ws p0 p1 p2 p3 p4 wcs wsf h0 n0 Z0 I0 I1 I2 I3 I4 hn hcs hsf (fun g => hU (Or.inl g)) (fun g => hU (Or.inr (Or.inl g))) (fun g => hU (Or.inr (Or.inr (Or.inl g)))) (fun g => hU (Or.inr (Or.inr (Or.inr (g)))))
      rw [own_law_4L p1 p2 p3 p4 (fun g => hU (Or.inl g)) (fun g => hU (Or.inr (Or.inl g))) (fun g => hU (Or.inr (Or.inr (Or.inl g)))) (fun g => hU (Or.inr (Or.inr (Or.inr (g)))))] at q
      exact own_fe q
set_option maxRecDepth 65536 in
set_option maxHeartbeats 40000000 in
theorem comes_1 {Post : Tables → Env → Array Value → State → Outcome → State → Prop} (hpost : ∀ tb e args s v u, (limb_1_1.after args s (.returned v) u = true ∧ limb_1_2.after args s (.returned v) u = true ∧ True) → ReturnedEndW s (.returned v) u (Jvm.fieldLocs frame_1_writes args s ++ Jvm.arrayLocs frame_1_arrays args s ++ Jvm.staticLocs frame_1_statics s) 24 1152 → Post tb e args s (.returned v) u) :
    ArmFor flags0 classFile x code maxLocals ret World_1 tables_1 room_1 Calls_1 rest_1 Pre_1 Post := by
  intro l hfl _ _ p e ha hc hk s m args below hf hA hF happ hP
  obtain ⟨hcalls, hrest, hpre⟩ := hP
  obtain ⟨-, -, -, hnamed, -, -, -, hat⟩ := (Spec.applies_iff hf).mp happ
  obtain ⟨hg, hn⟩ := and_e (Cond.before_iff.mp (show (Jvm.Cond.and given_1 narrow_1).before args s = true from hpre))
  obtain ⟨g1, g2⟩ := and_e hg
  obtain ⟨g3, g4⟩ := and_e g2
  obtain ⟨g5, g6⟩ := and_e g4
  obtain ⟨g7, g8⟩ := and_e g6
  obtain ⟨g9, g10⟩ := and_e g8
  obtain ⟨w0, w1, w2, w3, w4, rfl⟩ : ∃ w0 w1 w2 w3 w4 : Value, args = #[w0, w1, w2, w3, w4] := by
    have hs : args.size = 5 := by simpa [Cond.value, given_1] using g1
    obtain ⟨L⟩ := args
    match L, hs with
    | [w0, w1, w2, w3, w4], _ => exact ⟨w0, w1, w2, w3, w4, rfl⟩
  have hw := fun d (hd : d ∈ tables_1) => atoms_spec (ws := Jvm.Cond.code x code maxLocals ret :: tables_1) hat d (List.mem_cons_of_mem _ hd)
  obtain ⟨hsets, hown0⟩ := atoms_of _ (rest_1_c_eq ▸ (show rest_1_c.before _ s = true from hrest))
  have hr0 := Cond.before_iff.mp hown0
  obtain ⟨i0, ei0⟩ := is_v g3
  obtain rfl : w0 = (.int i0) := Option.some.inj ei0
  obtain ⟨i1, ei1⟩ := is_v g5
  obtain rfl : w1 = (.int i1) := Option.some.inj ei1
  obtain ⟨i2, ei2⟩ := is_v g7
  obtain rfl : w2 = (.int i2) := Option.some.inj ei2
  obtain ⟨i3, ei3⟩ := is_v g9
  obtain rfl : w3 = (.int i3) := Option.some.inj ei3
  obtain ⟨i4, ei4⟩ := is_v g10
  obtain rfl : w4 = (.int i4) := Option.some.inj ei4
  have n5 := not_v (Cond.before_iff.mp (hsets _ (List.mem_of_getElem? (i := 2) rfl)))
  obtain ⟨wcs, e10⟩ := is_v (Cond.before_iff.mp (hsets _ (List.mem_of_getElem? (i := 1) rfl)))
  have S12 : Sta s s.heap "java/lang/String" "COMPACT_STRINGS" "Z" (.int wcs) := Sta.start e10 (Or.inl (hsets _ (List.mem_of_getElem? (i := 0) rfl)))
  obtain ⟨wsf, e14, r15⟩ := isR_v (Cond.before_iff.mp (hsets _ (List.mem_of_getElem? (i := 8) rfl)))
  have S16 : Sta s s.heap "jdk/internal/util/Preconditions" "SIOOBE_FORMATTER" "Ljava/util/function/BiFunction;" wsf := Sta.start e14 (Or.inl (hsets _ (List.mem_of_getElem? (i := 7) rfl)))
  have c17 : ¬ (wcs = (0 : Int32)) := gotF (Cond.eq_ints e10 (Term.int_eval (0))) n5
  have Sad : Sta s s.heap "java/lang/StringUTF16" "$assertionsDisabled" "Z" (.int 1) := Sta.start (Jvm.Free.NT.SwA.eq_int (hsets _ (List.mem_of_getElem? (i := 12) rfl))) (Or.inl (hsets _ (List.mem_of_getElem? (i := 11) rfl)))
  have Shi : Sta s s.heap "java/lang/StringUTF16" "HI_BYTE_SHIFT" "I" (.int 0) := Sta.start (Jvm.Free.NT.SwA.eq_int (hsets _ (List.mem_of_getElem? (i := 15) rfl))) (Or.inl (hsets _ (List.mem_of_getElem? (i := 14) rfl)))
  have Slo : Sta s s.heap "java/lang/StringUTF16" "LO_BYTE_SHIFT" "I" (.int 8) := Sta.start (Jvm.Free.NT.SwA.eq_int (hsets _ (List.mem_of_getElem? (i := 18) rfl))) (Or.inl (hsets _ (List.mem_of_getElem? (i := 17) rfl)))
  have hh7 : Jvm.Lit.constHeld s "java/lang/String" 7 := hcalls.1 ("java/lang/String", 7) (List.mem_of_getElem? (i := 0) rfl)
  obtain ⟨n, o, h1, h2, h3, _, L, rfl, ⟨rfl, N, -⟩, hq⟩ := rm0 l s _ hw tables_1 i0 i1 i2 i3 i4 wcs wsf s.heap s.heap.size (Nat.le_refl _) S12 S16 Sad Shi Slo (Old.start s) (hsets _ (List.mem_of_getElem? (i := 2) rfl)) hh7 c17 r15 p e ha hc hk s m _ below hf ((Spec.applies_iff_loose hf).mp happ).1 ⟨rfl, State.Warmed39.refl s, rfl, IB.start⟩ trivial
  refine ⟨n, _, h1, h2, h3, hpost _ _ _ _ _ _ ⟨Cond.after_iff.mpr rfl, Cond.after_iff.mpr (eq_i res_at (Term.int_eval (1)) rfl), trivial⟩ ⟨hq.1, hq.2.1, hq.2.2.1, (hq.2.2.2.sift fun y hy => Or.inr (N y hy)).mono (by decide) (by decide)⟩⟩
theorem main_1_1 : Claimed_1_1 := comes_1 fun _ _ _ _ _ _ h hF => ⟨h.1, hF⟩
theorem main_1_2 : Claimed_1_2 := comes_1 fun _ _ _ _ _ _ h hF => ⟨h.2.1, hF⟩
end Jvm.Pilot.@@N@@
namespace Jvm.Pilot.@@N@@
open Jvm Jvm.ClassFile Sem Op Lib Jvm.Free Jvm.Stand Jvm.Pilot.@@N@@.Jvm.D
/-! MADE BY PROGRAM (witnessworld.py) out of the Statement's table words and the real class files: 20 classes; the members and pool entries that the words name. The judged class is class 1, her method 3. -/
namespace start1
open Jvm.ClassFile
def u (s : String) : CpInfo := .utf8 (stringToUtf16 s)
/-- a pool by its gaps: so many unusable entries, then the entry; so many at the end -/
def gap : Nat → List CpInfo → List CpInfo
  | 0, r => r
  | n + 1, r => .unusable :: gap n r
def poolList (es : List (Nat × CpInfo)) (last : Nat) : List CpInfo := es.foldr (fun e r => gap e.1 (e.2 :: r)) (gap last [])
def pool (es : List (Nat × CpInfo)) (last : Nat) : Array CpInfo := ⟨poolList es last⟩
def fileOf (pool : Array CpInfo) (this : Nat) (attrs : Array Attribute := #[]) (ms : Array MethodInfo := #[]) (fl : Nat := 33) (sup : Nat := 0) (ifs : Array Nat := #[]) (fds : Array FieldInfo := #[]) : ClassFile where
  minorVersion := 0
  majorVersion := 65
  constantPool := pool
  accessFlags := fl
  thisClass := this
  superClass := sup
  interfaces := ifs
  fields := fds
  methods := ms
  attributes := attrs
def plain (name : String) (sup : Option ClassId) : Class where
  name := name
  kind := .ordinary
  loader := none
  accessFlags := 33
  super := sup
  interfaces := #[]
  cf := none
  fields := #[]
  methods := #[]
  instanceTypes := #[]
  staticTypes := #[]
  resolved := #[]
  callSites := []
  init := .initialized
  statics := none
  mirror := none

def pool0 : Array CpInfo := pool [(5, u "<init>"), (0, u "()V"), (1, .class_ 10), (1, u "java/lang/Object")] 113

def k0c0 : Code := { maxStack := 0, maxLocals := 1, code := object_method_1_code, exceptionTable := #[], attributes := #[] }
def k0m0 : Method := { name := "<init>", desc := "()V", sig := { parameters := [], returnType := none }, accessFlags := 1, code := some k0c0 }
/-- java/lang/Object -/
def k0 : Class := { plain "java/lang/Object" none with
  accessFlags := 33
  interfaces := #[]
  cf := some (fileOf pool0 8 #[] #[{ accessFlags := 1, nameIndex := 5, descriptorIndex := 6, attributes := #[] }] 33 0 #[] #[])
  fields := #[]
  methods := #[k0m0]
  instanceTypes := #[]
  staticTypes := #[]
  resolved := Array.replicate 124 none
  statics := none }

def pool1 : Array CpInfo := pool [(2, .class_ 4), (1, u "java/lang/Object"), (0, u "<init>"), (0, u "()V"), (0, .integer 65535), (0, .integer 2147483647), (0, .methodref 10 11), (0, .class_ 12), (0, .nameAndType 13 14), (0, u "com/example/stint/stint/WholeNumberLeadingDigitsPinLaw"), (0, u "ch"), (0, u "(I)C"), (0, .class_ 16), (0, u "java/lang/String"), (0, .methodref 15 18), (0, .nameAndType 5 19), (0, u "([C)V"), (0, .methodref 10 21), (0, .nameAndType 22 23), (0, u "dig"), (0, u "(C)Z"), (0, .methodref 25 26), (0, .class_ 27), (0, .nameAndType 28 29), (0, u "com/example/stint/stint/WholeNumber"), (0, u "leadingDigits"), (0, u "(Ljava/lang/String;)I"), (3, u "law"), (0, u "(IIIII)Z")] 2

def k1m0 : Method := { name := "<init>", desc := "()V", sig := { parameters := [], returnType := none }, accessFlags := 2, code := none }
def k1c1 : Code := { maxStack := 3, maxLocals := 2, code := method_2_code, exceptionTable := #[], attributes := #[] }
def k1m1 : Method := { name := "ch", desc := "(I)C", sig := { parameters := [.int], returnType := some .char }, accessFlags := 10, code := some k1c1 }
def k1c2 : Code := { maxStack := 2, maxLocals := 1, code := method_3_code, exceptionTable := #[], attributes := #[] }
def k1m2 : Method := { name := "dig", desc := "(C)Z", sig := { parameters := [.char], returnType := some .boolean }, accessFlags := 10, code := some k1c2 }
def k1c3 : Code := { maxStack := 6, maxLocals := 12, code := code, exceptionTable := #[], attributes := #[] }
def k1m3 : Method := { name := "law", desc := "(IIIII)Z", sig := { parameters := [.int, .int, .int, .int, .int], returnType := some .boolean }, accessFlags := 9, code := some k1c3 }
/-- com/example/stint/stint/WholeNumberLeadingDigitsPinLaw -/
def k1 : Class := { plain "com/example/stint/stint/WholeNumberLeadingDigitsPinLaw" (some 0) with
  accessFlags := 49
  interfaces := #[]
  cf := some (fileOf pool1 10 #[] #[{ accessFlags := 2, nameIndex := 5, descriptorIndex := 6, attributes := #[] }, { accessFlags := 10, nameIndex := 13, descriptorIndex := 14, attributes := #[] }, { accessFlags := 10, nameIndex := 22, descriptorIndex := 23, attributes := #[] }, { accessFlags := 9, nameIndex := 33, descriptorIndex := 34, attributes := #[] }] 49 2 #[] #[])
  fields := #[]
  methods := #[k1m0, k1m1, k1m2, k1m3]
  instanceTypes := #[]
  staticTypes := #[]
  resolved := Array.replicate 37 none
  statics := none }

def pool2 : Array CpInfo := pool [(1, .class_ 2), (0, u "java/io/Serializable"), (0, .class_ 4), (0, u "java/lang/Object")] 2

/-- java/io/Serializable -/
def k2 : Class := { plain "java/io/Serializable" (some 0) with
  accessFlags := 1537
  interfaces := #[]
  cf := some (fileOf pool2 1 #[] #[] 1537 3 #[] #[])
  fields := #[]
  methods := #[]
  instanceTypes := #[]
  staticTypes := #[]
  resolved := Array.replicate 7 none
  statics := none }

def pool3 : Array CpInfo := pool [(1, .class_ 2), (0, u "java/lang/Comparable"), (0, .class_ 4), (0, u "java/lang/Object")] 7

/-- java/lang/Comparable -/
def k3 : Class := { plain "java/lang/Comparable" (some 0) with
  accessFlags := 1537
  interfaces := #[]
  cf := some (fileOf pool3 1 #[] #[] 1537 3 #[] #[])
  fields := #[]
  methods := #[]
  instanceTypes := #[]
  staticTypes := #[]
  resolved := Array.replicate 12 none
  statics := none }

def pool4 : Array CpInfo := pool [(2, .class_ 4), (1, u "java/lang/CharSequence"), (42, .class_ 48), (0, u "java/lang/CharSequence$1CodePointIterator"), (10, .class_ 60), (0, u "java/lang/CharSequence$1CharIterator"), (5, .class_ 67), (0, u "java/lang/Object")] 63

/-- java/lang/CharSequence -/
def k4 : Class := { plain "java/lang/CharSequence" (some 0) with
  accessFlags := 1537
  interfaces := #[]
  cf := some (fileOf pool4 2 #[.nestMembers #[47, 59]] #[] 1537 66 #[] #[])
  fields := #[]
  methods := #[]
  instanceTypes := #[]
  staticTypes := #[]
  resolved := Array.replicate 131 none
  statics := none }

def pool5 : Array CpInfo := pool [(1, .class_ 2), (0, u "java/lang/constant/Constable"), (0, .class_ 4), (0, u "java/lang/Object")] 6

/-- java/lang/constant/Constable -/
def k5 : Class := { plain "java/lang/constant/Constable" (some 0) with
  accessFlags := 1537
  interfaces := #[]
  cf := some (fileOf pool5 1 #[] #[] 1537 3 #[] #[])
  fields := #[]
  methods := #[]
  instanceTypes := #[]
  staticTypes := #[]
  resolved := Array.replicate 11 none
  statics := none }

def pool6 : Array CpInfo := pool [(1, .class_ 2), (0, u "java/lang/constant/ConstantDesc"), (0, .class_ 4), (0, u "java/lang/Object")] 32

/-- java/lang/constant/ConstantDesc -/
def k6 : Class := { plain "java/lang/constant/ConstantDesc" (some 0) with
  accessFlags := 1537
  interfaces := #[]
  cf := some (fileOf pool6 1 #[] #[] 1537 3 #[] #[])
  fields := #[]
  methods := #[]
  instanceTypes := #[]
  staticTypes := #[]
  resolved := Array.replicate 37 none
  statics := none }

def pool7 : Array CpInfo := pool [(1, .methodref 2 3), (0, .class_ 4), (0, .nameAndType 5 6), (0, u "java/lang/Object"), (0, u "<init>"), (0, u "()V"), (0, .string 8), (0, u ""), (0, .fieldref 10 11), (0, .class_ 12), (0, .nameAndType 13 14), (0, u "java/lang/String"), (0, u "value"), (0, u "[B"), (0, .fieldref 10 16), (0, .nameAndType 17 18), (0, u "coder"), (0, u "B"), (2, u "hash"), (0, u "I"), (2, u "hashIsZero"), (0, u "Z"), (0, .methodref 10 28), (0, .nameAndType 5 29), (0, u "([CIILjava/lang/Void;)V"), (8, .fieldref 10 39), (0, .nameAndType 40 26), (0, u "COMPACT_STRINGS"), (1, .class_ 44), (1, u "java/lang/StringUTF16"), (0, u "compress"), (1, .methodref 42 48), (0, .nameAndType 49 50), (0, u "coderFromArrayLen"), (0, u "([BI)B"), (56, .class_ 109), (1, u "java/lang/StringLatin1"), (32, u "()Z"), (34, .methodref 42 178), (0, .nameAndType 45 179), (0, u "([CII)[B"), (154, u "()I"), (0, .methodref 10 336), (0, .nameAndType 17 337), (0, u "()B"), (25, u "([BI)C"), (27, u "(II)V"), (35, u "(I)C"), (64, .methodref 10 493), (0, .nameAndType 494 142), (0, u "isLatin1"), (0, .methodref 107 496), (0, .nameAndType 497 363), (0, u "charAt"), (0, .methodref 42 496), (2, u "checkIndex"), (5, u "length"), (67, .class_ 576), (0, u "java/lang/CharSequence"), (22, u "CASE_INSENSITIVE_ORDER"), (0, u "Ljava/util/Comparator;"), (409, u "([C)V"), (42, .fieldref 1054 1055), (0, .class_ 1056), (0, .nameAndType 1057 1058), (0, u "jdk/internal/util/Preconditions"), (0, u "SIOOBE_FORMATTER"), (0, u "Ljava/util/function/BiFunction;"), (0, .methodref 1054 1060), (0, .nameAndType 501 1061), (0, u "(IILjava/util/function/BiFunction;)I"), (39, u "serialPersistentFields"), (0, u "[Ljava/io/ObjectStreamField;"), (0, .class_ 1104), (0, u "java/lang/String$CaseInsensitiveComparator"), (1, .class_ 1107), (0, u "java/io/Serializable"), (0, .class_ 1109), (0, u "java/lang/Comparable"), (0, .class_ 1111), (0, u "java/lang/constant/Constable"), (0, .class_ 1113), (0, u "java/lang/constant/ConstantDesc"), (2, u "serialVersionUID"), (0, u "J"), (3, u "REPL"), (0, u "C"), (2, u "LATIN1"), (1, u "UTF16")] 323

def k7m0 : Method := { name := "<init>", desc := "()V", sig := { parameters := [], returnType := none }, accessFlags := 1, code := none }
def k7c1 : Code := { maxStack := 5, maxLocals := 2, code := jdk_42_method_3_code, exceptionTable := #[], attributes := #[] }
def k7m1 : Method := { name := "<init>", desc := "([C)V", sig := { parameters := [(.array .char)], returnType := none }, accessFlags := 1, code := some k7c1 }
def k7c2 : Code := { maxStack := 2, maxLocals := 1, code := jdk_42_method_54_code, exceptionTable := #[], attributes := #[] }
def k7m2 : Method := { name := "length", desc := "()I", sig := { parameters := [], returnType := some .int }, accessFlags := 1, code := some k7c2 }
def k7c3 : Code := { maxStack := 2, maxLocals := 2, code := jdk_42_method_56_code, exceptionTable := #[], attributes := #[] }
def k7m3 : Method := { name := "charAt", desc := "(I)C", sig := { parameters := [.int], returnType := some .char }, accessFlags := 1, code := some k7c3 }
def k7c4 : Code := { maxStack := 4, maxLocals := 6, code := jdk_42_method_149_code, exceptionTable := #[], attributes := #[] }
def k7m4 : Method := { name := "<init>", desc := "([CIILjava/lang/Void;)V", sig := { parameters := [(.array .char), .int, .int, (.object "java/lang/Void")], returnType := none }, accessFlags := 2, code := some k7c4 }
def k7c5 : Code := { maxStack := 1, maxLocals := 1, code := jdk_42_method_152_code, exceptionTable := #[], attributes := #[] }
def k7m5 : Method := { name := "coder", desc := "()B", sig := { parameters := [], returnType := some .byte }, accessFlags := 0, code := some k7c5 }
def k7c6 : Code := { maxStack := 1, maxLocals := 1, code := jdk_42_method_154_code, exceptionTable := #[], attributes := #[] }
def k7m6 : Method := { name := "isLatin1", desc := "()Z", sig := { parameters := [], returnType := some .boolean }, accessFlags := 0, code := some k7c6 }
def k7c7 : Code := { maxStack := 3, maxLocals := 2, code := jdk_42_method_155_code, exceptionTable := #[], attributes := #[] }
def k7m7 : Method := { name := "checkIndex", desc := "(II)V", sig := { parameters := [.int, .int], returnType := none }, accessFlags := 8, code := some k7c7 }
/-- java/lang/String -/
def k7 : Class := { plain "java/lang/String" (some 0) with
  accessFlags := 49
  interfaces := #[2, 3, 4, 5, 6]
  cf := some (fileOf pool7 10 #[.nestMembers #[1103]] #[{ accessFlags := 1, nameIndex := 5, descriptorIndex := 6, attributes := #[] }, { accessFlags := 1, nameIndex := 5, descriptorIndex := 1010, attributes := #[] }, { accessFlags := 1, nameIndex := 507, descriptorIndex := 334, attributes := #[] }, { accessFlags := 1, nameIndex := 497, descriptorIndex := 427, attributes := #[] }, { accessFlags := 2, nameIndex := 5, descriptorIndex := 29, attributes := #[] }, { accessFlags := 0, nameIndex := 17, descriptorIndex := 337, attributes := #[] }, { accessFlags := 0, nameIndex := 494, descriptorIndex := 142, attributes := #[] }, { accessFlags := 8, nameIndex := 501, descriptorIndex := 391, attributes := #[] }] 49 2 #[1106, 1108, 575, 1110, 1112] #[{ accessFlags := 18, nameIndex := 13, descriptorIndex := 14, attributes := #[] }, { accessFlags := 18, nameIndex := 17, descriptorIndex := 18, attributes := #[] }, { accessFlags := 2, nameIndex := 21, descriptorIndex := 22, attributes := #[] }, { accessFlags := 2, nameIndex := 25, descriptorIndex := 26, attributes := #[] }, { accessFlags := 26, nameIndex := 1116, descriptorIndex := 1117, attributes := #[] }, { accessFlags := 24, nameIndex := 40, descriptorIndex := 26, attributes := #[] }, { accessFlags := 26, nameIndex := 1101, descriptorIndex := 1102, attributes := #[] }, { accessFlags := 26, nameIndex := 1121, descriptorIndex := 1122, attributes := #[] }, { accessFlags := 25, nameIndex := 599, descriptorIndex := 600, attributes := #[] }, { accessFlags := 24, nameIndex := 1125, descriptorIndex := 18, attributes := #[] }, { accessFlags := 24, nameIndex := 1127, descriptorIndex := 18, attributes := #[] }])
  fields := #[{ name := "value", type := (.array .byte), accessFlags := 18, slot := 0, constantValue := 0 }, { name := "coder", type := .byte, accessFlags := 18, slot := 1, constantValue := 0 }, { name := "hash", type := .int, accessFlags := 2, slot := 2, constantValue := 0 }, { name := "hashIsZero", type := .boolean, accessFlags := 2, slot := 3, constantValue := 0 }, { name := "serialVersionUID", type := .long, accessFlags := 26, slot := 0, constantValue := 0 }, { name := "COMPACT_STRINGS", type := .boolean, accessFlags := 24, slot := 1, constantValue := 0 }, { name := "serialPersistentFields", type := (.array (.object "java/io/ObjectStreamField")), accessFlags := 26, slot := 2, constantValue := 0 }, { name := "REPL", type := .char, accessFlags := 26, slot := 3, constantValue := 0 }, { name := "CASE_INSENSITIVE_ORDER", type := (.object "java/util/Comparator"), accessFlags := 25, slot := 4, constantValue := 0 }, { name := "LATIN1", type := .byte, accessFlags := 24, slot := 5, constantValue := 0 }, { name := "UTF16", type := .byte, accessFlags := 24, slot := 6, constantValue := 0 }]
  methods := #[k7m0, k7m1, k7m2, k7m3, k7m4, k7m5, k7m6, k7m7]
  instanceTypes := #[(.array .byte), .byte, .int, .boolean]
  staticTypes := #[.long, .boolean, (.array (.object "java/io/ObjectStreamField")), .char, (.object "java/util/Comparator"), .byte, .byte]
  resolved := Array.replicate 1451 none
  statics := some 0 }

def pool8 : Array CpInfo := pool [(2, .class_ 4), (1, u "java/lang/Object"), (0, u "<init>"), (0, u "()V"), (9, .class_ 18), (1, u "java/lang/String"), (3, .class_ 24), (1, u "com/example/stint/stint/WholeNumber"), (0, u "leadingDigits"), (0, u "(Ljava/lang/String;)I"), (0, .methodref 16 28), (0, .nameAndType 29 30), (0, u "length"), (0, u "()I"), (21, .methodref 16 53), (0, .nameAndType 54 55), (0, u "charAt"), (0, u "(I)C"), (0, .methodref 22 57), (0, .nameAndType 58 59), (0, u "isAsciiDigit"), (0, u "(C)Z")] 33

def k8m0 : Method := { name := "<init>", desc := "()V", sig := { parameters := [], returnType := none }, accessFlags := 2, code := none }
def k8c1 : Code := { maxStack := 2, maxLocals := 2, code := prog_8_method_3_code, exceptionTable := #[], attributes := #[] }
def k8m1 : Method := { name := "leadingDigits", desc := "(Ljava/lang/String;)I", sig := { parameters := [(.object "java/lang/String")], returnType := some .int }, accessFlags := 8, code := some k8c1 }
def k8c2 : Code := { maxStack := 2, maxLocals := 1, code := prog_8_method_5_code, exceptionTable := #[], attributes := #[] }
def k8m2 : Method := { name := "isAsciiDigit", desc := "(C)Z", sig := { parameters := [.char], returnType := some .boolean }, accessFlags := 10, code := some k8c2 }
/-- com/example/stint/stint/WholeNumber -/
def k8 : Class := { plain "com/example/stint/stint/WholeNumber" (some 0) with
  accessFlags := 49
  interfaces := #[]
  cf := some (fileOf pool8 22 #[] #[{ accessFlags := 2, nameIndex := 5, descriptorIndex := 6, attributes := #[] }, { accessFlags := 8, nameIndex := 25, descriptorIndex := 26, attributes := #[] }, { accessFlags := 10, nameIndex := 58, descriptorIndex := 59, attributes := #[] }] 49 2 #[] #[])
  fields := #[]
  methods := #[k8m0, k8m1, k8m2]
  instanceTypes := #[]
  staticTypes := #[]
  resolved := Array.replicate 93 none
  statics := none }

def pool9 : Array CpInfo := pool [(3, .class_ 4), (0, u "java/lang/String"), (1, .class_ 8), (1, u "java/lang/Object"), (0, u "<init>"), (0, u "()V"), (0, .methodref 12 13), (0, .class_ 14), (0, .nameAndType 15 16), (0, u "java/lang/StringUTF16"), (0, u "newBytesLength"), (0, u "(I)I"), (3, .integer 1073741823), (23, .fieldref 12 45), (0, .nameAndType 46 47), (0, u "$assertionsDisabled"), (0, u "Z"), (0, .methodref 12 49), (0, .nameAndType 50 51), (0, u "length"), (0, u "([B)I"), (7, .fieldref 12 60), (0, .nameAndType 61 62), (0, u "HI_BYTE_SHIFT"), (0, u "I"), (0, .fieldref 12 64), (0, .nameAndType 65 62), (0, u "LO_BYTE_SHIFT"), (1, .methodref 12 68), (0, .nameAndType 69 70), (0, u "checkIndex"), (0, u "(I[B)V"), (0, .methodref 12 72), (0, .nameAndType 73 74), (0, u "getChar"), (0, u "([BI)C"), (32, .methodref 12 108), (0, .nameAndType 109 110), (0, u "newBytesFor"), (0, u "(I)[B"), (0, .methodref 12 112), (0, .nameAndType 113 114), (0, u "putChar"), (0, u "([BII)V"), (0, .methodref 12 116), (0, .nameAndType 117 118), (0, u "compress"), (0, u "([CI[BII)I"), (0, .methodref 12 120), (0, .nameAndType 121 122), (0, u "toBytes"), (0, u "([CII)[B"), (138, u "coderFromArrayLen"), (0, u "([BI)B"), (106, .class_ 371), (1, u "java/lang/StringUTF16$LinesSpliterator"), (20, u "charAt"), (21, .methodref 3 415), (0, .nameAndType 69 416), (0, u "(II)V"), (13, u "MAX_LENGTH"), (196, .class_ 628), (0, u "java/lang/StringUTF16$CodePointsSpliterator"), (0, .class_ 630), (0, u "java/lang/StringUTF16$CharsSpliterator")] 4

def k9m0 : Method := { name := "<init>", desc := "()V", sig := { parameters := [], returnType := none }, accessFlags := 0, code := none }
def k9c1 : Code := { maxStack := 1, maxLocals := 1, code := jdk_52_method_2_code, exceptionTable := #[], attributes := #[] }
def k9m1 : Method := { name := "newBytesFor", desc := "(I)[B", sig := { parameters := [.int], returnType := some (.array .byte) }, accessFlags := 9, code := some k9c1 }
def k9c2 : Code := { maxStack := 4, maxLocals := 1, code := jdk_52_method_3_code, exceptionTable := #[], attributes := #[] }
def k9m2 : Method := { name := "newBytesLength", desc := "(I)I", sig := { parameters := [.int], returnType := some .int }, accessFlags := 9, code := some k9c2 }
def k9c3 : Code := { maxStack := 4, maxLocals := 3, code := jdk_52_method_4_code, exceptionTable := #[], attributes := #[] }
def k9m3 : Method := { name := "putChar", desc := "([BII)V", sig := { parameters := [(.array .byte), .int, .int], returnType := none }, accessFlags := 8, code := some k9c3 }
def k9c4 : Code := { maxStack := 3, maxLocals := 2, code := jdk_52_method_5_code, exceptionTable := #[], attributes := #[] }
def k9m4 : Method := { name := "getChar", desc := "([BI)C", sig := { parameters := [(.array .byte), .int], returnType := some .char }, accessFlags := 8, code := some k9c4 }
def k9c5 : Code := { maxStack := 2, maxLocals := 1, code := jdk_52_method_6_code, exceptionTable := #[], attributes := #[] }
def k9m5 : Method := { name := "length", desc := "([B)I", sig := { parameters := [(.array .byte)], returnType := some .int }, accessFlags := 9, code := some k9c5 }
def k9c6 : Code := { maxStack := 4, maxLocals := 5, code := jdk_52_method_14_code, exceptionTable := #[], attributes := #[] }
def k9m6 : Method := { name := "toBytes", desc := "([CII)[B", sig := { parameters := [(.array .char), .int, .int], returnType := some (.array .byte) }, accessFlags := 9, code := some k9c6 }
def k9c7 : Code := { maxStack := 2, maxLocals := 2, code := jdk_52_method_15_code, exceptionTable := #[], attributes := #[] }
def k9m7 : Method := { name := "coderFromArrayLen", desc := "([BI)B", sig := { parameters := [(.array .byte), .int], returnType := some .byte }, accessFlags := 8, code := some k9c7 }
def k9c8 : Code := { maxStack := 5, maxLocals := 6, code := jdk_52_method_16_code, exceptionTable := #[], attributes := #[] }
def k9m8 : Method := { name := "compress", desc := "([CII)[B", sig := { parameters := [(.array .char), .int, .int], returnType := some (.array .byte) }, accessFlags := 9, code := some k9c8 }
def k9c9 : Code := { maxStack := 3, maxLocals := 7, code := jdk_52_method_21_code, exceptionTable := #[], attributes := #[] }
def k9m9 : Method := { name := "compress", desc := "([CI[BII)I", sig := { parameters := [(.array .char), .int, (.array .byte), .int, .int], returnType := some .int }, accessFlags := 9, code := some k9c9 }
def k9c10 : Code := { maxStack := 2, maxLocals := 2, code := jdk_52_method_83_code, exceptionTable := #[], attributes := #[] }
def k9m10 : Method := { name := "charAt", desc := "([BI)C", sig := { parameters := [(.array .byte), .int], returnType := some .char }, accessFlags := 9, code := some k9c10 }
def k9c11 : Code := { maxStack := 2, maxLocals := 2, code := jdk_52_method_91_code, exceptionTable := #[], attributes := #[] }
def k9m11 : Method := { name := "checkIndex", desc := "(I[B)V", sig := { parameters := [.int, (.array .byte)], returnType := none }, accessFlags := 9, code := some k9c11 }
/-- java/lang/StringUTF16 -/
def k9 : Class := { plain "java/lang/StringUTF16" (some 0) with
  accessFlags := 48
  interfaces := #[]
  cf := some (fileOf pool9 12 #[.nestMembers #[627, 629, 369]] #[{ accessFlags := 0, nameIndex := 9, descriptorIndex := 10, attributes := #[] }, { accessFlags := 9, nameIndex := 109, descriptorIndex := 110, attributes := #[] }, { accessFlags := 9, nameIndex := 15, descriptorIndex := 16, attributes := #[] }, { accessFlags := 8, nameIndex := 113, descriptorIndex := 114, attributes := #[] }, { accessFlags := 8, nameIndex := 73, descriptorIndex := 74, attributes := #[] }, { accessFlags := 9, nameIndex := 50, descriptorIndex := 51, attributes := #[] }, { accessFlags := 9, nameIndex := 121, descriptorIndex := 122, attributes := #[] }, { accessFlags := 8, nameIndex := 261, descriptorIndex := 262, attributes := #[] }, { accessFlags := 9, nameIndex := 117, descriptorIndex := 122, attributes := #[] }, { accessFlags := 9, nameIndex := 117, descriptorIndex := 118, attributes := #[] }, { accessFlags := 9, nameIndex := 392, descriptorIndex := 74, attributes := #[] }, { accessFlags := 9, nameIndex := 69, descriptorIndex := 70, attributes := #[] }] 48 6 #[] #[{ accessFlags := 26, nameIndex := 61, descriptorIndex := 62, attributes := #[] }, { accessFlags := 26, nameIndex := 65, descriptorIndex := 62, attributes := #[] }, { accessFlags := 24, nameIndex := 430, descriptorIndex := 62, attributes := #[] }, { accessFlags := 4120, nameIndex := 46, descriptorIndex := 47, attributes := #[] }])
  fields := #[{ name := "HI_BYTE_SHIFT", type := .int, accessFlags := 26, slot := 0, constantValue := 0 }, { name := "LO_BYTE_SHIFT", type := .int, accessFlags := 26, slot := 1, constantValue := 0 }, { name := "MAX_LENGTH", type := .int, accessFlags := 24, slot := 2, constantValue := 0 }, { name := "$assertionsDisabled", type := .boolean, accessFlags := 4120, slot := 3, constantValue := 0 }]
  methods := #[k9m0, k9m1, k9m2, k9m3, k9m4, k9m5, k9m6, k9m7, k9m8, k9m9, k9m10, k9m11]
  instanceTypes := #[]
  staticTypes := #[.int, .int, .int, .boolean]
  resolved := Array.replicate 635 none
  statics := some 1 }

def pool10 : Array CpInfo := pool [(1, .class_ 2), (0, u "java/lang/String"), (1, .class_ 6), (1, u "java/lang/Object"), (0, u "<init>"), (0, u "()V"), (0, .methodref 1 10), (0, .nameAndType 11 12), (0, u "checkIndex"), (0, u "(II)V"), (1, .class_ 16), (1, u "java/lang/StringLatin1"), (36, u "([BI)C"), (67, u "$assertionsDisabled"), (0, u "Z"), (98, .class_ 223), (1, u "java/lang/StringLatin1$LinesSpliterator"), (28, u "charAt"), (137, .class_ 391), (0, u "java/lang/StringLatin1$CharsSpliterator")] 3

def k10m0 : Method := { name := "<init>", desc := "()V", sig := { parameters := [], returnType := none }, accessFlags := 0, code := none }
def k10c1 : Code := { maxStack := 2, maxLocals := 2, code := jdk_43_method_2_code, exceptionTable := #[], attributes := #[] }
def k10m1 : Method := { name := "charAt", desc := "([BI)C", sig := { parameters := [(.array .byte), .int], returnType := some .char }, accessFlags := 9, code := some k10c1 }
/-- java/lang/StringLatin1 -/
def k10 : Class := { plain "java/lang/StringLatin1" (some 0) with
  accessFlags := 48
  interfaces := #[]
  cf := some (fileOf pool10 14 #[.nestMembers #[390, 221]] #[{ accessFlags := 0, nameIndex := 7, descriptorIndex := 8, attributes := #[] }, { accessFlags := 9, nameIndex := 252, descriptorIndex := 53, attributes := #[] }] 48 4 #[] #[{ accessFlags := 4120, nameIndex := 121, descriptorIndex := 122, attributes := #[] }])
  fields := #[{ name := "$assertionsDisabled", type := .boolean, accessFlags := 4120, slot := 0, constantValue := 0 }]
  methods := #[k10m0, k10m1]
  instanceTypes := #[]
  staticTypes := #[.boolean]
  resolved := Array.replicate 395 none
  statics := none }

def pool11 : Array CpInfo := pool [(2, .class_ 4), (1, u "java/lang/Object"), (0, u "<init>"), (0, u "()V"), (17, .class_ 26), (1, u "jdk/internal/util/Preconditions"), (6, u "checkIndex"), (21, .class_ 56), (0, u "jdk/internal/util/Preconditions$4"), (57, .class_ 115), (0, u "jdk/internal/util/Preconditions$1"), (7, u "SIOOBE_FORMATTER"), (0, u "Ljava/util/function/BiFunction;"), (0, .class_ 126), (0, u "jdk/internal/util/Preconditions$2"), (3, u "AIOOBE_FORMATTER"), (0, .class_ 132), (0, u "jdk/internal/util/Preconditions$3"), (3, u "IOOBE_FORMATTER"), (41, u "(IILjava/util/function/BiFunction;)I")] 15

def k11m0 : Method := { name := "<init>", desc := "()V", sig := { parameters := [], returnType := none }, accessFlags := 1, code := none }
def k11c1 : Code := { maxStack := 3, maxLocals := 3, code := jdk_41_method_11_code, exceptionTable := #[], attributes := #[] }
def k11m1 : Method := { name := "checkIndex", desc := "(IILjava/util/function/BiFunction;)I", sig := { parameters := [.int, .int, (.object "java/util/function/BiFunction")], returnType := some .int }, accessFlags := 9, code := some k11c1 }
/-- jdk/internal/util/Preconditions -/
def k11 : Class := { plain "jdk/internal/util/Preconditions" (some 0) with
  accessFlags := 33
  interfaces := #[]
  cf := some (fileOf pool11 24 #[.nestMembers #[55, 131, 125, 114]] #[{ accessFlags := 1, nameIndex := 5, descriptorIndex := 6, attributes := #[] }, { accessFlags := 9, nameIndex := 33, descriptorIndex := 178, attributes := #[] }] 33 2 #[] #[{ accessFlags := 25, nameIndex := 123, descriptorIndex := 124, attributes := #[] }, { accessFlags := 25, nameIndex := 130, descriptorIndex := 124, attributes := #[] }, { accessFlags := 25, nameIndex := 136, descriptorIndex := 124, attributes := #[] }])
  fields := #[{ name := "SIOOBE_FORMATTER", type := (.object "java/util/function/BiFunction"), accessFlags := 25, slot := 0, constantValue := 0 }, { name := "AIOOBE_FORMATTER", type := (.object "java/util/function/BiFunction"), accessFlags := 25, slot := 1, constantValue := 0 }, { name := "IOOBE_FORMATTER", type := (.object "java/util/function/BiFunction"), accessFlags := 25, slot := 2, constantValue := 0 }]
  methods := #[k11m0, k11m1]
  instanceTypes := #[]
  staticTypes := #[(.object "java/util/function/BiFunction"), (.object "java/util/function/BiFunction"), (.object "java/util/function/BiFunction")]
  resolved := Array.replicate 194 none
  statics := some 2 }

def pool12 : Array CpInfo := pool [(9, u "<init>"), (6, .class_ 18), (1, u "java/lang/Object"), (0, u "()V"), (1, .class_ 23), (1, u "jdk/internal/util/ArraysSupport"), (0, u "LOG2_ARRAY_LONG_INDEX_SCALE"), (0, u "I"), (2, u "U"), (0, u "Ljdk/internal/misc/Unsafe;"), (8, u "BIG_ENDIAN"), (0, u "Z"), (8, u "LOG2_BYTE_BIT_SIZE"), (4, u "LOG2_ARRAY_INT_INDEX_SCALE"), (54, u "JLA"), (0, u "Ljdk/internal/access/JavaLangAccess;"), (11, u "LOG2_ARRAY_BOOLEAN_INDEX_SCALE"), (9, u "LOG2_ARRAY_BYTE_INDEX_SCALE"), (5, u "LOG2_ARRAY_CHAR_INDEX_SCALE"), (5, u "LOG2_ARRAY_SHORT_INDEX_SCALE"), (18, u "LOG2_ARRAY_FLOAT_INDEX_SCALE"), (24, u "LOG2_ARRAY_DOUBLE_INDEX_SCALE"), (89, u "T_BOOLEAN"), (2, u "T_CHAR"), (1, u "T_FLOAT"), (1, u "T_DOUBLE"), (1, u "T_BYTE"), (1, u "T_SHORT"), (1, u "T_INT"), (1, u "T_LONG"), (1, u "SOFT_MAX_ARRAY_LENGTH")] 83

def k12m0 : Method := { name := "<init>", desc := "()V", sig := { parameters := [], returnType := none }, accessFlags := 2, code := none }
/-- jdk/internal/util/ArraysSupport -/
def k12 : Class := { plain "jdk/internal/util/ArraysSupport" (some 0) with
  accessFlags := 33
  interfaces := #[]
  cf := some (fileOf pool12 21 #[] #[{ accessFlags := 2, nameIndex := 9, descriptorIndex := 19, attributes := #[] }] 33 16 #[] #[{ accessFlags := 24, nameIndex := 28, descriptorIndex := 29, attributes := #[] }, { accessFlags := 26, nameIndex := 38, descriptorIndex := 39, attributes := #[] }, { accessFlags := 25, nameIndex := 121, descriptorIndex := 25, attributes := #[] }, { accessFlags := 25, nameIndex := 131, descriptorIndex := 25, attributes := #[] }, { accessFlags := 25, nameIndex := 137, descriptorIndex := 25, attributes := #[] }, { accessFlags := 25, nameIndex := 143, descriptorIndex := 25, attributes := #[] }, { accessFlags := 25, nameIndex := 53, descriptorIndex := 25, attributes := #[] }, { accessFlags := 25, nameIndex := 24, descriptorIndex := 25, attributes := #[] }, { accessFlags := 25, nameIndex := 162, descriptorIndex := 25, attributes := #[] }, { accessFlags := 25, nameIndex := 187, descriptorIndex := 25, attributes := #[] }, { accessFlags := 26, nameIndex := 48, descriptorIndex := 25, attributes := #[] }, { accessFlags := 25, nameIndex := 277, descriptorIndex := 25, attributes := #[] }, { accessFlags := 25, nameIndex := 280, descriptorIndex := 25, attributes := #[] }, { accessFlags := 25, nameIndex := 282, descriptorIndex := 25, attributes := #[] }, { accessFlags := 25, nameIndex := 284, descriptorIndex := 25, attributes := #[] }, { accessFlags := 25, nameIndex := 286, descriptorIndex := 25, attributes := #[] }, { accessFlags := 25, nameIndex := 288, descriptorIndex := 25, attributes := #[] }, { accessFlags := 25, nameIndex := 290, descriptorIndex := 25, attributes := #[] }, { accessFlags := 25, nameIndex := 292, descriptorIndex := 25, attributes := #[] }, { accessFlags := 26, nameIndex := 108, descriptorIndex := 109, attributes := #[] }, { accessFlags := 25, nameIndex := 294, descriptorIndex := 25, attributes := #[] }])
  fields := #[{ name := "U", type := (.object "jdk/internal/misc/Unsafe"), accessFlags := 24, slot := 0, constantValue := 0 }, { name := "BIG_ENDIAN", type := .boolean, accessFlags := 26, slot := 1, constantValue := 0 }, { name := "LOG2_ARRAY_BOOLEAN_INDEX_SCALE", type := .int, accessFlags := 25, slot := 2, constantValue := 0 }, { name := "LOG2_ARRAY_BYTE_INDEX_SCALE", type := .int, accessFlags := 25, slot := 3, constantValue := 0 }, { name := "LOG2_ARRAY_CHAR_INDEX_SCALE", type := .int, accessFlags := 25, slot := 4, constantValue := 0 }, { name := "LOG2_ARRAY_SHORT_INDEX_SCALE", type := .int, accessFlags := 25, slot := 5, constantValue := 0 }, { name := "LOG2_ARRAY_INT_INDEX_SCALE", type := .int, accessFlags := 25, slot := 6, constantValue := 0 }, { name := "LOG2_ARRAY_LONG_INDEX_SCALE", type := .int, accessFlags := 25, slot := 7, constantValue := 0 }, { name := "LOG2_ARRAY_FLOAT_INDEX_SCALE", type := .int, accessFlags := 25, slot := 8, constantValue := 0 }, { name := "LOG2_ARRAY_DOUBLE_INDEX_SCALE", type := .int, accessFlags := 25, slot := 9, constantValue := 0 }, { name := "LOG2_BYTE_BIT_SIZE", type := .int, accessFlags := 26, slot := 10, constantValue := 0 }, { name := "T_BOOLEAN", type := .int, accessFlags := 25, slot := 11, constantValue := 0 }, { name := "T_CHAR", type := .int, accessFlags := 25, slot := 12, constantValue := 0 }, { name := "T_FLOAT", type := .int, accessFlags := 25, slot := 13, constantValue := 0 }, { name := "T_DOUBLE", type := .int, accessFlags := 25, slot := 14, constantValue := 0 }, { name := "T_BYTE", type := .int, accessFlags := 25, slot := 15, constantValue := 0 }, { name := "T_SHORT", type := .int, accessFlags := 25, slot := 16, constantValue := 0 }, { name := "T_INT", type := .int, accessFlags := 25, slot := 17, constantValue := 0 }, { name := "T_LONG", type := .int, accessFlags := 25, slot := 18, constantValue := 0 }, { name := "JLA", type := (.object "jdk/internal/access/JavaLangAccess"), accessFlags := 26, slot := 19, constantValue := 0 }, { name := "SOFT_MAX_ARRAY_LENGTH", type := .int, accessFlags := 25, slot := 20, constantValue := 0 }]
  methods := #[k12m0]
  instanceTypes := #[]
  staticTypes := #[(.object "jdk/internal/misc/Unsafe"), .boolean, .int, .int, .int, .int, .int, .int, .int, .int, .int, .int, .int, .int, .int, .int, .int, .int, .int, (.object "jdk/internal/access/JavaLangAccess"), .int]
  resolved := Array.replicate 378 none
  statics := none }

def pool13 : Array CpInfo := pool [(1, u "java/lang/Cloneable"), (0, .class_ 1), (0, u "java/lang/Object"), (0, .class_ 3)] 3

/-- java/lang/Cloneable -/
def k13 : Class := { plain "java/lang/Cloneable" (some 0) with
  accessFlags := 1537
  interfaces := #[]
  cf := some (fileOf pool13 2 #[] #[] 1537 4 #[] #[])
  fields := #[]
  methods := #[]
  instanceTypes := #[]
  staticTypes := #[]
  resolved := Array.replicate 8 none
  statics := none }

/-- the primitive byte -/
def k14 : Class := { plain "byte" none with kind := .primitive 'B', accessFlags := 0x411 }
/-- [B -/
def k15 : Class := { plain "[B" (some 0) with kind := .array 14 .byte, interfaces := #[13, 2], accessFlags := 1041 }

/-- the primitive char -/
def k16 : Class := { plain "char" none with kind := .primitive 'C', accessFlags := 0x411 }
/-- [C -/
def k17 : Class := { plain "[C" (some 0) with kind := .array 16 .char, interfaces := #[13, 2], accessFlags := 1041 }

/-- the primitive int -/
def k18 : Class := { plain "int" none with kind := .primitive 'I', accessFlags := 0x411 }
/-- [I -/
def k19 : Class := { plain "[I" (some 0) with kind := .array 18 .int, interfaces := #[13, 2], accessFlags := 1041 }

def heap : Heap := #[{ cls := 7, slots := #[.long 0, .int 1, .null, .int 0, .null, .int 0, .int 0], vm := .statics 7 },
  { cls := 9, slots := #[.int 0, .int 8, .int 0, .int 1], vm := .statics 9 },
  { cls := 11, slots := #[.null, .null, .null], vm := .statics 11 }]
def classes : Array Class := #[k0, k1, k2, k3, k4, k5, k6, k7, k8, k9, k10, k11, k12, k13, k14, k15, k16, k17, k18, k19]
def interned : List (Array UInt16 × Addr) := []
def slotsUsed : Nat := 14
def theMethod : MethodId := ⟨1, 3⟩
def args0 : Array Value := #[.int 3, .int 7, .int 9, .int 65, .int 50]
def aboutOver (below : List Frame) : State where
  vm := { classes := classes, interned := interned.toArray }
  heap := heap
  slotsUsed := slotsUsed
  threads := #[{ frames := .invoking theMethod args0 :: below }]
def below0 : List Frame := [.native { method := ⟨0, 0⟩, args := #[] }]
def about1 : State := aboutOver below0
def p0 : Program := .bare "" "" ""
def e0 : Env := launch0.env 0 0 0
theorem w_frames : about1.frames = Frame.invoking theMethod args0 :: below0 := rfl
set_option maxRecDepth 65536 in
theorem w_args : argsFit about1.vm theMethod args0 = true := by decide +kernel
set_option maxRecDepth 65536 in
theorem w_heap : heapFits about1 = true := by decide +kernel
set_option maxRecDepth 65536 in
theorem w_runnable : about1.curStatus? = some .runnable := by decide +kernel
set_option maxRecDepth 65536 in
theorem w_alone : about1.alone = true := by decide +kernel
set_option maxRecDepth 65536 in
theorem w_named : about1.methodNamed? x = some theMethod := by decide +kernel
set_option maxRecDepth 65536 in
theorem w_hears : about1.hears theMethod below0 = true := by decide +kernel
set_option maxRecDepth 65536 in
theorem w_ripe : about1.ripe theMethod args0 below0 = true := by decide +kernel
theorem w_running : about1.status = .running := rfl
set_option maxRecDepth 65536 in
theorem w_room : about1.hasRoom e0.platform room_1 = true :=
  launch0.hasRoom_least _ room_1 (by decide +kernel) (by decide +kernel) (by decide +kernel) (by decide +kernel) (by decide +kernel) (by decide +kernel)
theorem allAtoms_all (ts : List Jvm.Cond) (a : Array Jvm.Value) (st : Jvm.State) : (allAtoms ts).before a st = ts.all (fun c => c.before a st) := by
  induction ts with
  | nil => rfl
  | cons c t ih =>
    show (Jvm.Cond.and c (allAtoms t)).before a st = _
    rw [Jvm.Cond.before_and, ih, List.all_cons]
def words1 : List Jvm.Cond := Jvm.Cond.code x code maxLocals ret :: tables_1
/-- a 'code' word, met by the world's own term for the bytes: nothing is compared byte by byte -/
theorem code_word {y : MethodName} {bytes : ByteArray} {mx : Nat} {rt : Option FieldType} {a : Array Value} {s : State} {m : MethodId} {meth : Method} {c : Code} (h1 : s.methodNamed? y = some m) (h2 : s.vm.method? m = some meth) (h3 : meth.code = some c) (h4 : c.code = bytes)
    (h5 : (c.maxLocals == mx && c.exceptionTable.isEmpty && decide (c.maxStack ≤ mostOperands) && decide (meth.sig.returnType = rt) && !meth.locks && decide (parseMethodDescriptor y.desc = some meth.sig)) = true) : (Jvm.Cond.code y bytes mx rt).before a s = true := by
  simp only [Bool.and_eq_true, beq_iff_eq, Bool.not_eq_true', decide_eq_true_eq] at h5
  obtain ⟨⟨⟨⟨⟨g1, g2⟩, g3⟩, g4⟩, g5⟩, g6⟩ := h5
  simp [Cond.before, Cond.holds, Cond.value, h1, h2, h3, h4, g1, g2, g3, g4, g5, g6]
def isCode : Jvm.Cond → Bool
  | .code _ _ _ _ => true
  | _ => false
theorem all_split {L : List Jvm.Cond} {P : Jvm.Cond → Bool} (h1 : L.all (fun c => isCode c || P c) = true) (h2 : ∀ c ∈ L.filter isCode, P c = true) : L.all P = true := by
  refine List.all_eq_true.mpr fun c hc => ?_
  have h := List.all_eq_true.mp h1 c hc
  rcases Bool.eq_false_or_eq_true (isCode c) with hi | hi
  · exact h2 c (List.mem_filter.mpr ⟨hc, hi⟩)
  · simpa [hi] using h
set_option maxRecDepth 65536 in
theorem w_c0 : (Jvm.Cond.code x code maxLocals ret).before args0 about1 = true := code_word (m := ⟨1, 3⟩) (meth := k1m3) (c := k1c3) (by decide +kernel) rfl rfl rfl (by decide +kernel)
set_option maxRecDepth 65536 in
theorem w_c1 : (Jvm.Cond.code ({ cls := "com/example/stint/stint/WholeNumberLeadingDigitsPinLaw", name := "ch", desc := "(I)C" } : Jvm.MethodName) method_2_code (2 : Nat) (Option.some Jvm.ClassFile.FieldType.char)).before args0 about1 = true := code_word (m := ⟨1, 1⟩) (meth := k1m1) (c := k1c1) (by decide +kernel) rfl rfl rfl (by decide +kernel)
set_option maxRecDepth 65536 in
theorem w_c2 : (Jvm.Cond.code ({ cls := "java/lang/String", name := "<init>", desc := "([C)V" } : Jvm.MethodName) jdk_42_method_3_code (2 : Nat) (Option.none : Option Jvm.ClassFile.FieldType)).before args0 about1 = true := code_word (m := ⟨7, 1⟩) (meth := k7m1) (c := k7c1) (by decide +kernel) rfl rfl rfl (by decide +kernel)
set_option maxRecDepth 65536 in
theorem w_c3 : (Jvm.Cond.code ({ cls := "java/lang/String", name := "<init>", desc := "([CIILjava/lang/Void;)V" } : Jvm.MethodName) jdk_42_method_149_code (6 : Nat) (Option.none : Option Jvm.ClassFile.FieldType)).before args0 about1 = true := code_word (m := ⟨7, 4⟩) (meth := k7m4) (c := k7c4) (by decide +kernel) rfl rfl rfl (by decide +kernel)
set_option maxRecDepth 65536 in
theorem w_c4 : (Jvm.Cond.code ({ cls := "java/lang/Object", name := "<init>", desc := "()V" } : Jvm.MethodName) object_method_1_code (1 : Nat) (Option.none : Option Jvm.ClassFile.FieldType)).before args0 about1 = true := code_word (m := ⟨0, 0⟩) (meth := k0m0) (c := k0c0) (by decide +kernel) rfl rfl rfl (by decide +kernel)
set_option maxRecDepth 65536 in
theorem w_c5 : (Jvm.Cond.code ({ cls := "com/example/stint/stint/WholeNumber", name := "leadingDigits", desc := "(Ljava/lang/String;)I" } : Jvm.MethodName) prog_8_method_3_code (2 : Nat) (Option.some Jvm.ClassFile.FieldType.int)).before args0 about1 = true := code_word (m := ⟨8, 1⟩) (meth := k8m1) (c := k8c1) (by decide +kernel) rfl rfl rfl (by decide +kernel)
set_option maxRecDepth 65536 in
theorem w_c6 : (Jvm.Cond.code ({ cls := "java/lang/String", name := "length", desc := "()I" } : Jvm.MethodName) jdk_42_method_54_code (1 : Nat) (Option.some Jvm.ClassFile.FieldType.int)).before args0 about1 = true := code_word (m := ⟨7, 2⟩) (meth := k7m2) (c := k7c2) (by decide +kernel) rfl rfl rfl (by decide +kernel)
set_option maxRecDepth 65536 in
theorem w_c7 : (Jvm.Cond.code ({ cls := "java/lang/String", name := "coder", desc := "()B" } : Jvm.MethodName) jdk_42_method_152_code (1 : Nat) (Option.some Jvm.ClassFile.FieldType.byte)).before args0 about1 = true := code_word (m := ⟨7, 5⟩) (meth := k7m5) (c := k7c5) (by decide +kernel) rfl rfl rfl (by decide +kernel)
set_option maxRecDepth 65536 in
theorem w_c8 : (Jvm.Cond.code ({ cls := "java/lang/StringUTF16", name := "compress", desc := "([CII)[B" } : Jvm.MethodName) jdk_52_method_16_code (6 : Nat) (Option.some (Jvm.ClassFile.FieldType.array Jvm.ClassFile.FieldType.byte))).before args0 about1 = true := code_word (m := ⟨9, 8⟩) (meth := k9m8) (c := k9c8) (by decide +kernel) rfl rfl rfl (by decide +kernel)
set_option maxRecDepth 65536 in
theorem w_c9 : (Jvm.Cond.code ({ cls := "java/lang/StringUTF16", name := "compress", desc := "([CI[BII)I" } : Jvm.MethodName) jdk_52_method_21_code (7 : Nat) (Option.some Jvm.ClassFile.FieldType.int)).before args0 about1 = true := code_word (m := ⟨9, 9⟩) (meth := k9m9) (c := k9c9) (by decide +kernel) rfl rfl rfl (by decide +kernel)
set_option maxRecDepth 65536 in
theorem w_c10 : (Jvm.Cond.code ({ cls := "java/lang/StringUTF16", name := "coderFromArrayLen", desc := "([BI)B" } : Jvm.MethodName) jdk_52_method_15_code (2 : Nat) (Option.some Jvm.ClassFile.FieldType.byte)).before args0 about1 = true := code_word (m := ⟨9, 7⟩) (meth := k9m7) (c := k9c7) (by decide +kernel) rfl rfl rfl (by decide +kernel)
set_option maxRecDepth 65536 in
theorem w_c11 : (Jvm.Cond.code ({ cls := "com/example/stint/stint/WholeNumberLeadingDigitsPinLaw", name := "dig", desc := "(C)Z" } : Jvm.MethodName) method_3_code (1 : Nat) (Option.some Jvm.ClassFile.FieldType.boolean)).before args0 about1 = true := code_word (m := ⟨1, 2⟩) (meth := k1m2) (c := k1c2) (by decide +kernel) rfl rfl rfl (by decide +kernel)
set_option maxRecDepth 65536 in
theorem w_c12 : (Jvm.Cond.code ({ cls := "java/lang/String", name := "charAt", desc := "(I)C" } : Jvm.MethodName) jdk_42_method_56_code (2 : Nat) (Option.some Jvm.ClassFile.FieldType.char)).before args0 about1 = true := code_word (m := ⟨7, 3⟩) (meth := k7m3) (c := k7c3) (by decide +kernel) rfl rfl rfl (by decide +kernel)
set_option maxRecDepth 65536 in
theorem w_c13 : (Jvm.Cond.code ({ cls := "java/lang/String", name := "isLatin1", desc := "()Z" } : Jvm.MethodName) jdk_42_method_154_code (1 : Nat) (Option.some Jvm.ClassFile.FieldType.boolean)).before args0 about1 = true := code_word (m := ⟨7, 6⟩) (meth := k7m6) (c := k7c6) (by decide +kernel) rfl rfl rfl (by decide +kernel)
set_option maxRecDepth 65536 in
theorem w_c14 : (Jvm.Cond.code ({ cls := "java/lang/StringLatin1", name := "charAt", desc := "([BI)C" } : Jvm.MethodName) jdk_43_method_2_code (2 : Nat) (Option.some Jvm.ClassFile.FieldType.char)).before args0 about1 = true := code_word (m := ⟨10, 1⟩) (meth := k10m1) (c := k10c1) (by decide +kernel) rfl rfl rfl (by decide +kernel)
set_option maxRecDepth 65536 in
theorem w_c15 : (Jvm.Cond.code ({ cls := "java/lang/String", name := "checkIndex", desc := "(II)V" } : Jvm.MethodName) jdk_42_method_155_code (2 : Nat) (Option.none : Option Jvm.ClassFile.FieldType)).before args0 about1 = true := code_word (m := ⟨7, 7⟩) (meth := k7m7) (c := k7c7) (by decide +kernel) rfl rfl rfl (by decide +kernel)
set_option maxRecDepth 65536 in
theorem w_c16 : (Jvm.Cond.code ({ cls := "jdk/internal/util/Preconditions", name := "checkIndex", desc := "(IILjava/util/function/BiFunction;)I" } : Jvm.MethodName) jdk_41_method_11_code (3 : Nat) (Option.some Jvm.ClassFile.FieldType.int)).before args0 about1 = true := code_word (m := ⟨11, 1⟩) (meth := k11m1) (c := k11c1) (by decide +kernel) rfl rfl rfl (by decide +kernel)
set_option maxRecDepth 65536 in
theorem w_c17 : (Jvm.Cond.code ({ cls := "com/example/stint/stint/WholeNumber", name := "isAsciiDigit", desc := "(C)Z" } : Jvm.MethodName) prog_8_method_5_code (1 : Nat) (Option.some Jvm.ClassFile.FieldType.boolean)).before args0 about1 = true := code_word (m := ⟨8, 2⟩) (meth := k8m2) (c := k8c2) (by decide +kernel) rfl rfl rfl (by decide +kernel)
set_option maxRecDepth 65536 in
theorem w_c18 : (Jvm.Cond.code ({ cls := "java/lang/StringUTF16", name := "toBytes", desc := "([CII)[B" } : Jvm.MethodName) jdk_52_method_14_code (5 : Nat) (Option.some (Jvm.ClassFile.FieldType.array Jvm.ClassFile.FieldType.byte))).before args0 about1 = true := code_word (m := ⟨9, 6⟩) (meth := k9m6) (c := k9c6) (by decide +kernel) rfl rfl rfl (by decide +kernel)
set_option maxRecDepth 65536 in
theorem w_c19 : (Jvm.Cond.code ({ cls := "java/lang/StringUTF16", name := "newBytesFor", desc := "(I)[B" } : Jvm.MethodName) jdk_52_method_2_code (1 : Nat) (Option.some (Jvm.ClassFile.FieldType.array Jvm.ClassFile.FieldType.byte))).before args0 about1 = true := code_word (m := ⟨9, 1⟩) (meth := k9m1) (c := k9c1) (by decide +kernel) rfl rfl rfl (by decide +kernel)
set_option maxRecDepth 65536 in
theorem w_c20 : (Jvm.Cond.code ({ cls := "java/lang/StringUTF16", name := "newBytesLength", desc := "(I)I" } : Jvm.MethodName) jdk_52_method_3_code (1 : Nat) (Option.some Jvm.ClassFile.FieldType.int)).before args0 about1 = true := code_word (m := ⟨9, 2⟩) (meth := k9m2) (c := k9c2) (by decide +kernel) rfl rfl rfl (by decide +kernel)
set_option maxRecDepth 65536 in
theorem w_c21 : (Jvm.Cond.code ({ cls := "java/lang/StringUTF16", name := "putChar", desc := "([BII)V" } : Jvm.MethodName) jdk_52_method_4_code (3 : Nat) (Option.none : Option Jvm.ClassFile.FieldType)).before args0 about1 = true := code_word (m := ⟨9, 3⟩) (meth := k9m3) (c := k9c3) (by decide +kernel) rfl rfl rfl (by decide +kernel)
set_option maxRecDepth 65536 in
theorem w_c22 : (Jvm.Cond.code ({ cls := "java/lang/StringUTF16", name := "getChar", desc := "([BI)C" } : Jvm.MethodName) jdk_52_method_5_code (2 : Nat) (Option.some Jvm.ClassFile.FieldType.char)).before args0 about1 = true := code_word (m := ⟨9, 4⟩) (meth := k9m4) (c := k9c4) (by decide +kernel) rfl rfl rfl (by decide +kernel)
set_option maxRecDepth 65536 in
theorem w_c23 : (Jvm.Cond.code ({ cls := "java/lang/StringUTF16", name := "charAt", desc := "([BI)C" } : Jvm.MethodName) jdk_52_method_83_code (2 : Nat) (Option.some Jvm.ClassFile.FieldType.char)).before args0 about1 = true := code_word (m := ⟨9, 10⟩) (meth := k9m10) (c := k9c10) (by decide +kernel) rfl rfl rfl (by decide +kernel)
set_option maxRecDepth 65536 in
theorem w_c24 : (Jvm.Cond.code ({ cls := "java/lang/StringUTF16", name := "checkIndex", desc := "(I[B)V" } : Jvm.MethodName) jdk_52_method_91_code (2 : Nat) (Option.none : Option Jvm.ClassFile.FieldType)).before args0 about1 = true := code_word (m := ⟨9, 11⟩) (meth := k9m11) (c := k9c11) (by decide +kernel) rfl rfl rfl (by decide +kernel)
set_option maxRecDepth 65536 in
theorem w_c25 : (Jvm.Cond.code ({ cls := "java/lang/StringUTF16", name := "length", desc := "([B)I" } : Jvm.MethodName) jdk_52_method_6_code (1 : Nat) (Option.some Jvm.ClassFile.FieldType.int)).before args0 about1 = true := code_word (m := ⟨9, 5⟩) (meth := k9m5) (c := k9c5) (by decide +kernel) rfl rfl rfl (by decide +kernel)
def codes1 : List Jvm.Cond := [Jvm.Cond.code x code maxLocals ret, Jvm.Cond.code ({ cls := "com/example/stint/stint/WholeNumberLeadingDigitsPinLaw", name := "ch", desc := "(I)C" } : Jvm.MethodName) method_2_code (2 : Nat) (Option.some Jvm.ClassFile.FieldType.char), Jvm.Cond.code ({ cls := "java/lang/String", name := "<init>", desc := "([C)V" } : Jvm.MethodName) jdk_42_method_3_code (2 : Nat) (Option.none : Option Jvm.ClassFile.FieldType), Jvm.Cond.code ({ cls := "java/lang/String", name := "<init>", desc := "([CIILjava/lang/Void;)V" } : Jvm.MethodName) jdk_42_method_149_code (6 : Nat) (Option.none : Option Jvm.ClassFile.FieldType), Jvm.Cond.code ({ cls := "java/lang/Object", name := "<init>", desc := "()V" } : Jvm.MethodName) object_method_1_code (1 : Nat) (Option.none : Option Jvm.ClassFile.FieldType), Jvm.Cond.code ({ cls := "com/example/stint/stint/WholeNumber", name := "leadingDigits", desc := "(Ljava/lang/String;)I" } : Jvm.MethodName) prog_8_method_3_code (2 : Nat) (Option.some Jvm.ClassFile.FieldType.int), Jvm.Cond.code ({ cls := "java/lang/String", name := "length", desc := "()I" } : Jvm.MethodName) jdk_42_method_54_code (1 : Nat) (Option.some Jvm.ClassFile.FieldType.int), Jvm.Cond.code ({ cls := "java/lang/String", name := "coder", desc := "()B" } : Jvm.MethodName) jdk_42_method_152_code (1 : Nat) (Option.some Jvm.ClassFile.FieldType.byte), Jvm.Cond.code ({ cls := "java/lang/StringUTF16", name := "compress", desc := "([CII)[B" } : Jvm.MethodName) jdk_52_method_16_code (6 : Nat) (Option.some (Jvm.ClassFile.FieldType.array Jvm.ClassFile.FieldType.byte)), Jvm.Cond.code ({ cls := "java/lang/StringUTF16", name := "compress", desc := "([CI[BII)I" } : Jvm.MethodName) jdk_52_method_21_code (7 : Nat) (Option.some Jvm.ClassFile.FieldType.int), Jvm.Cond.code ({ cls := "java/lang/StringUTF16", name := "coderFromArrayLen", desc := "([BI)B" } : Jvm.MethodName) jdk_52_method_15_code (2 : Nat) (Option.some Jvm.ClassFile.FieldType.byte), Jvm.Cond.code ({ cls := "com/example/stint/stint/WholeNumberLeadingDigitsPinLaw", name := "dig", desc := "(C)Z" } : Jvm.MethodName) method_3_code (1 : Nat) (Option.some Jvm.ClassFile.FieldType.boolean), Jvm.Cond.code ({ cls := "java/lang/String", name := "charAt", desc := "(I)C" } : Jvm.MethodName) jdk_42_method_56_code (2 : Nat) (Option.some Jvm.ClassFile.FieldType.char), Jvm.Cond.code ({ cls := "java/lang/String", name := "isLatin1", desc := "()Z" } : Jvm.MethodName) jdk_42_method_154_code (1 : Nat) (Option.some Jvm.ClassFile.FieldType.boolean), Jvm.Cond.code ({ cls := "java/lang/StringLatin1", name := "charAt", desc := "([BI)C" } : Jvm.MethodName) jdk_43_method_2_code (2 : Nat) (Option.some Jvm.ClassFile.FieldType.char), Jvm.Cond.code ({ cls := "java/lang/String", name := "checkIndex", desc := "(II)V" } : Jvm.MethodName) jdk_42_method_155_code (2 : Nat) (Option.none : Option Jvm.ClassFile.FieldType), Jvm.Cond.code ({ cls := "jdk/internal/util/Preconditions", name := "checkIndex", desc := "(IILjava/util/function/BiFunction;)I" } : Jvm.MethodName) jdk_41_method_11_code (3 : Nat) (Option.some Jvm.ClassFile.FieldType.int), Jvm.Cond.code ({ cls := "com/example/stint/stint/WholeNumber", name := "isAsciiDigit", desc := "(C)Z" } : Jvm.MethodName) prog_8_method_5_code (1 : Nat) (Option.some Jvm.ClassFile.FieldType.boolean), Jvm.Cond.code ({ cls := "java/lang/StringUTF16", name := "toBytes", desc := "([CII)[B" } : Jvm.MethodName) jdk_52_method_14_code (5 : Nat) (Option.some (Jvm.ClassFile.FieldType.array Jvm.ClassFile.FieldType.byte)), Jvm.Cond.code ({ cls := "java/lang/StringUTF16", name := "newBytesFor", desc := "(I)[B" } : Jvm.MethodName) jdk_52_method_2_code (1 : Nat) (Option.some (Jvm.ClassFile.FieldType.array Jvm.ClassFile.FieldType.byte)), Jvm.Cond.code ({ cls := "java/lang/StringUTF16", name := "newBytesLength", desc := "(I)I" } : Jvm.MethodName) jdk_52_method_3_code (1 : Nat) (Option.some Jvm.ClassFile.FieldType.int), Jvm.Cond.code ({ cls := "java/lang/StringUTF16", name := "putChar", desc := "([BII)V" } : Jvm.MethodName) jdk_52_method_4_code (3 : Nat) (Option.none : Option Jvm.ClassFile.FieldType), Jvm.Cond.code ({ cls := "java/lang/StringUTF16", name := "getChar", desc := "([BI)C" } : Jvm.MethodName) jdk_52_method_5_code (2 : Nat) (Option.some Jvm.ClassFile.FieldType.char), Jvm.Cond.code ({ cls := "java/lang/StringUTF16", name := "charAt", desc := "([BI)C" } : Jvm.MethodName) jdk_52_method_83_code (2 : Nat) (Option.some Jvm.ClassFile.FieldType.char), Jvm.Cond.code ({ cls := "java/lang/StringUTF16", name := "checkIndex", desc := "(I[B)V" } : Jvm.MethodName) jdk_52_method_91_code (2 : Nat) (Option.none : Option Jvm.ClassFile.FieldType), Jvm.Cond.code ({ cls := "java/lang/StringUTF16", name := "length", desc := "([B)I" } : Jvm.MethodName) jdk_52_method_6_code (1 : Nat) (Option.some Jvm.ClassFile.FieldType.int)]
set_option maxRecDepth 65536 in
theorem codes_eq : words1.filter isCode = codes1 := rfl
theorem w_codes : ∀ c ∈ words1.filter isCode, c.before args0 about1 = true := by
  rw [codes_eq]
  intro c hc
  simp only [codes1, List.mem_cons, List.not_mem_nil, or_false] at hc
  rcases hc with rfl | rfl | rfl | rfl | rfl | rfl | rfl | rfl | rfl | rfl | rfl | rfl | rfl | rfl | rfl | rfl | rfl | rfl | rfl | rfl | rfl | rfl | rfl | rfl | rfl | rfl
  · exact w_c0
  · exact w_c1
  · exact w_c2
  · exact w_c3
  · exact w_c4
  · exact w_c5
  · exact w_c6
  · exact w_c7
  · exact w_c8
  · exact w_c9
  · exact w_c10
  · exact w_c11
  · exact w_c12
  · exact w_c13
  · exact w_c14
  · exact w_c15
  · exact w_c16
  · exact w_c17
  · exact w_c18
  · exact w_c19
  · exact w_c20
  · exact w_c21
  · exact w_c22
  · exact w_c23
  · exact w_c24
  · exact w_c25
set_option maxRecDepth 65536 in
theorem w_t1 : (words1.take 24).all (fun c => isCode c || c.before args0 about1) = true := by decide +kernel
set_option maxRecDepth 65536 in
theorem w_t2 : ((words1.drop 24).take 24).all (fun c => isCode c || c.before args0 about1) = true := by decide +kernel
set_option maxRecDepth 65536 in
theorem w_t3 : (((words1.drop 24).drop 24).take 24).all (fun c => isCode c || c.before args0 about1) = true := by decide +kernel
set_option maxRecDepth 65536 in
theorem w_t4 : ((((words1.drop 24).drop 24).drop 24).take 24).all (fun c => isCode c || c.before args0 about1) = true := by decide +kernel
set_option maxRecDepth 65536 in
theorem w_t5 : ((((words1.drop 24).drop 24).drop 24).drop 24).all (fun c => isCode c || c.before args0 about1) = true := by decide +kernel
theorem w_tables : (allAtoms (Jvm.Cond.code x code maxLocals ret :: tables_1)).before args0 about1 = true := by
  rw [allAtoms_all]
  show words1.all (fun c => c.before args0 about1) = true
  refine all_split ?_ w_codes
  rw [← List.take_append_drop 24 words1, List.all_append, w_t1, ← List.take_append_drop 24 (words1.drop 24), List.all_append, w_t2, ← List.take_append_drop 24 ((words1.drop 24).drop 24), List.all_append, w_t3, ← List.take_append_drop 24 (((words1.drop 24).drop 24).drop 24), List.all_append, w_t4, w_t5]
  rfl
set_option maxRecDepth 65536 in
theorem w_rest : rest_1_c.before args0 about1 = true := by decide +kernel
set_option maxRecDepth 65536 in
theorem w_case : (Jvm.Cond.and given_1 narrow_1).before args0 about1 = true := by decide +kernel
set_option maxRecDepth 65536 in
theorem w_consts : constsHeld consts_1 about1 := Jvm.Lit.constsHeldB_iff.mp (by decide +kernel)
theorem w_applies : (headSpec (Jvm.Cond.code x code maxLocals ret :: tables_1) room_1).applies x e0.platform about1 = true :=
  (Spec.applies_iff w_frames).mpr ⟨w_running, w_runnable, w_alone, w_named, w_hears, w_ripe, w_room, w_tables⟩
theorem atStart : AtStart classFile x code maxLocals ret World_1 tables_1 room_1 Calls_1 rest_1 Pre_1 launch0 p0 e0 about1 theMethod args0 below0 :=
  ⟨lists_1, trivial, launch0.admits_env _ _ _, launch0.least_env, fairChoices_fair.cas, fairChoices_fair.clock, w_frames, w_args, w_heap, w_applies, ⟨w_consts, trivial⟩, w_rest, w_case⟩
end start1
theorem witness_1 : WitnessClaimed_1 := ⟨start1.p0, start1.e0, start1.about1, start1.theMethod, start1.args0, start1.below0, start1.atStart⟩
end Jvm.Pilot.@@N@@
