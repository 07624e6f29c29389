import JvmDerived
import JvmDerived.Pilot.@@N@@Statement
import JvmDerived.Pilot.@@N@@Code
set_option linter.unusedVariables false
set_option linter.unusedSimpArgs false
namespace Jvm.RoadKit
open Sem ClassFile Op Lib Jvm.Stand Jvm.Free Jvm.LawKit
section New
variable {p : Program} {l : Launch} {e : Env} {R : Room} {s : State} {m : MethodId} {args : Array Value} {below : List Frame} {meth : Method} {c : Code} {T : State} {locs : List Loc} {cells slots : Nat}
theorem retI (X : Stand p l e R s m args below meth c T locs cells slots) (hx : p.tables.exec = Jvm.exec) {pc : Nat} {Ls : Array Slot} {z : Int32} {rest : List Value} (hret : meth.sig.returnType = some .int) (hd : decode c.code pc = .ok (.ireturn, 1)) {fs : List Frame}
    (hl : ∀ (f : JFrame) (acts : List Action), f.method = m → f.locked = none → f.entered = [] → (doReturn e (T.setTop f) acts (some (.int z))).1 = T.setFrames fs) : Steps p.tables e below (T.setTop (mkF m pc Ls (.int z :: rest))) (T.setFrames fs) := by
  have hm' : T.vm.method? m = some meth := X.method'
  have hn : narrow .int (.int z) = .int z := rfl
  show Steps p.tables e below (T.setTop { method := m, pc := pc, locals := Ls, stack := _ :: rest, locked := none }) _
  jvm_step X.here [X.here.top, hx, hd, hm', hret, hn]
  first | (intro acts; rw [hl _ acts rfl rfl rfl]) | rw [hl _ _ rfl rfl rfl]
  exact Steps.refl _
end New
end Jvm.RoadKit
namespace Jvm.Pilot.@@N@@
open Jvm Jvm.ClassFile Sem Op Lib Jvm.Free Jvm.Stand Jvm.LawKit Jvm.RoadKit Bundle Jvm.Pilot.@@N@@.Jvm.D
theorem wq {a0 : Array Value} {Z : State} (hw : ∀ d ∈ tables_1, d.before a0 Z = true) (i : Nat) {d : Jvm.Cond} (h : tables_1[i]? = some d) : d.before a0 Z = true := hw _ (List.mem_of_getElem? h)
abbrev Go (p : Program) (e : Env) (below : List Frame) (T B : State) (F E : JFrame) : Prop := ∀ t, Steps p.tables e below (T.setTop F) t → Steps p.tables e below (B.setTop E) t
theorem Go.thn {p : Program} {e : Env} {below : List Frame} {T T2 B : State} {F F2 E : JFrame} (G : Go p e below T B F E) (h : ∀ t, Steps p.tables e below (T2.setTop F2) t → Steps p.tables e below (T.setTop F) t) : Go p e below T2 B F2 E := fun t k => G t (h t k)
theorem Go.trn {p : Program} {e : Env} {below : List Frame} {T T2 B : State} {F F2 E : JFrame} (G : Go p e below T B F E) (h : Steps p.tables e below (T.setTop F) (T2.setTop F2)) : Go p e below T2 B F2 E := fun t k => G t (h.trans k)
theorem w00 {a b : Nat} (h : a = b) : 2 * 0 + a ≤ b := by omega
abbrev Met1 (l : Launch) (y : MethodName) (co : Jvm.Cond) (ws : List Jvm.Cond) (rm : Room) (as : Array Value) (Z : State) (h0 : Heap) (Q : Option Value → Heap → List Loc → Prop) : Prop := MetFree l y (head1 (co :: ws) rm) (fun a U => a = as ∧ Z.Warmed39 U.vm ∧ U.heap = h0) (fun _ _ _ _ _ => True) (fun _ U o U' => ∃ v L, o = .returned v ∧ Q v U'.heap L ∧ FrameEnd U o U' L rm.cells rm.slots)
abbrev rom (a b c d : Nat) : Room := { frames := a, cells := b, slots := c, locals := d }
abbrev Nm_0 : MethodName := (⟨"java/lang/Math", "max", "(II)I"⟩ : MethodName)
abbrev Nm_1 : MethodName := (⟨"java/lang/Math", "max", "(JJ)J"⟩ : MethodName)
abbrev Nm_2 : MethodName := (⟨"java/lang/Record", "<init>", "()V"⟩ : MethodName)
abbrev Nm_3 : MethodName := (⟨"com/example/oncemark/oncemark/ReceiveQueueNeedsRefillPinLaw", "cost", "(II)J"⟩ : MethodName)
abbrev Nm_4 : MethodName := (⟨"java/lang/String", "<init>", "([CIILjava/lang/Void;)V"⟩ : MethodName)
abbrev Nm_5 : MethodName := (⟨"java/lang/String", "<init>", "([C)V"⟩ : MethodName)
abbrev Nm_6 : MethodName := (⟨"java/lang/StringUTF16", "coderFromArrayLen", "([BI)B"⟩ : MethodName)
abbrev Nm_7 : MethodName := (⟨"java/lang/StringUTF16", "compress", "([CI[BII)I"⟩ : MethodName)
abbrev Nm_8 : MethodName := (⟨"java/lang/StringUTF16", "compress", "([CII)[B"⟩ : MethodName)
abbrev Nm_9 : MethodName := (⟨"com/example/oncemark/oncemark/Message", "<init>", "(JLjava/lang/String;JLjava/lang/String;[B)V"⟩ : MethodName)
abbrev Nm_10 : MethodName := (⟨"com/example/oncemark/oncemark/ReceiveQueueNeedsRefillPinLaw", "message", "(JIICC)Lcom/example/oncemark/oncemark/Message;"⟩ : MethodName)
abbrev Nm_11 : MethodName := (⟨"java/lang/String", "coder", "()B"⟩ : MethodName)
abbrev Nm_12 : MethodName := (⟨"java/lang/String", "length", "()I"⟩ : MethodName)
abbrev Nm_13 : MethodName := (⟨"com/example/oncemark/oncemark/Message", "payload", "()[B"⟩ : MethodName)
abbrev Nm_14 : MethodName := (⟨"com/example/oncemark/oncemark/Message", "key", "()Ljava/lang/String;"⟩ : MethodName)
abbrev Nm_15 : MethodName := (⟨"com/example/oncemark/oncemark/ReceiveQueue", "bytes", "(Lcom/example/oncemark/oncemark/Message;)J"⟩ : MethodName)
abbrev Nm_16 : MethodName := (⟨"java/util/ArrayDeque", "inc", "(II)I"⟩ : MethodName)
abbrev Nm_17 : MethodName := (⟨"java/util/ArrayDeque", "sub", "(III)I"⟩ : MethodName)
abbrev Nm_18 : MethodName := (⟨"java/util/AbstractCollection", "<init>", "()V"⟩ : MethodName)
abbrev Nm_19 : MethodName := (⟨"java/util/ArrayDeque", "<init>", "()V"⟩ : MethodName)
abbrev Nm_20 : MethodName := (⟨"java/util/ArrayDeque", "addLast", "(Ljava/lang/Object;)V"⟩ : MethodName)
abbrev Nm_21 : MethodName := (⟨"java/util/ArrayDeque", "add", "(Ljava/lang/Object;)Z"⟩ : MethodName)
abbrev Nm_22 : MethodName := (⟨"com/example/oncemark/oncemark/ReceiveQueue", "add", "(Lcom/example/oncemark/oncemark/Message;)V"⟩ : MethodName)
abbrev Nm_23 : MethodName := (⟨"java/util/Deque", "add", "(Ljava/lang/Object;)Z"⟩ : MethodName)
abbrev Nm_24 : MethodName := (⟨"java/util/ArrayDeque", "size", "()I"⟩ : MethodName)
abbrev Nm_25 : MethodName := (⟨"com/example/oncemark/oncemark/ReceiveQueue", "needsRefill", "()Z"⟩ : MethodName)
abbrev Nm_26 : MethodName := (⟨"java/util/Deque", "size", "()I"⟩ : MethodName)
abbrev Nm_27 : MethodName := (⟨"com/example/oncemark/oncemark/ReceiveQueue", "<init>", "(IJ)V"⟩ : MethodName)
def QP (w : Option Value) (h0 : Heap) (n0 : Nat) (v : Option Value) (h : Heap) (L : List Loc) : Prop := v = w ∧ Fr n0 L ∧ h = h0
def QL (w : Option Value) (n0 : Nat) (v : Option Value) (h : Heap) (L : List Loc) : Prop := v = w ∧ Fr n0 L ∧ True
theorem own_fldne {Z : State} {h : Heap} {a b : Addr} {C n d : String} {v w : Value} (F : Fld Z h a C n d v) (G : Fld Z h b C n d w) (q : v ≠ w) : a ≠ b := fun e => by
  subst e
  obtain ⟨c1, cf1, k1, i1, f1, e1, g1, -, -, -, -, s1⟩ := F
  obtain ⟨c2, cf2, k2, i2, f2, e2, g2, -, -, -, -, s2⟩ := G
  cases e1.symm.trans e2
  cases g1.symm.trans g2
  cases s1.symm.trans s2
  exact q rfl
theorem own_ib {Z : State} {vm vm' : Vm} {Ts : List String} (I : IB Z vm Ts) (h : vm'.interned = vm.interned) : IB Z vm' Ts := by
  obtain ⟨more, e, q⟩ := I
  exact ⟨more, h.trans e, q⟩
theorem own_backIB {p : Program} {l : Launch} {e : Env} {R : Room} {s : State} {args : Array Value} {below : List Frame} {Z : State} {a0 : Array Value} {h : Heap} {y : MethodName} {bytes : ByteArray} {maxL : Nat} {ret : Option FieldType} {rm : Room} {len W : Nat} {as' : Array Value} {Q : Option Value → Heap → List Loc → Prop} {Ts : List String} (I : IB Z s.vm Ts)
    (hM : MetFree l y (head1 [Jvm.Cond.code y bytes maxL ret] rm) (fun a U => a = as' ∧ Z.Warmed39 U.vm ∧ U.heap = h ∧ IB Z U.vm Ts) (fun _ _ _ _ _ => True) (fun _ U o U' => ∃ v L, o = .returned v ∧ Q v U'.heap L ∧ ReturnedEndW U o U' L rm.cells rm.slots))
    (hZ : Z.Warmed39 s.vm) (wc : (Jvm.Cond.code y bytes maxL ret).before a0 Z = true) (wz : (Jvm.Cond.initialized y.cls).before a0 Z = true) (hf : rm.frames + 1 ≤ R.frames) (hl : W + (maxL + 11) + rm.locals ≤ R.locals) :
    BackS l R p e below s args y len W (fun A a => a = as' ∧ A.U.heap = h ∧ A.cells + rm.cells ≤ R.cells ∧ A.slots + rm.slots ≤ R.slots)
      (fun A _ v B => ∃ L, Q v B.U.heap L ∧ B.locs = A.locs ++ L ∧ B.cells = A.cells + rm.cells ∧ B.slots = A.slots + rm.slots) :=
  BackS.of_freeW (bytes := bytes) (maxL := maxL) (ret := ret) (E := fun _ _ o t L k n => k = rm.cells ∧ n = rm.slots ∧ ∃ v, o = .returned v ∧ Q v t.heap L) hM hf hl
    (fun m meth c A a Y hp => have hU : Z.Warmed39 A.U.vm := wtrans hZ Y.warmed
      ⟨by show (Jvm.Cond.and _ .tt).before a A.U = true; rw [Cond.before_and, mv hU wc]; rfl, mv hU wc, mv hU wz, hp.2.2.1, hp.2.2.2⟩)
    (fun m meth c A a g mk Y hp => ⟨hp.1, wtrans hZ Y.warmed, hp.2.1, own_ib I Y.warmed.interned_eq⟩) (fun _ _ _ _ _ _ _ _ _ => trivial)
    (fun _ _ _ _ ⟨v, L, h1, h2, h3⟩ => ⟨L, _, _, h3, rfl, rfl, v, h1, h2⟩)
    (fun m meth c A a g mk v t L k n Y hp _ _ ⟨e1, e2, v', e3, e4⟩ => by cases e3; subst e1 e2; exact ⟨L, e4, rfl, rfl, rfl⟩)
theorem own_neH {Z : State} {h : Heap} {a b : Addr} {C : String} {a0 : Array Value} {m : Nat} {k : ClassId} {ty : FieldType} {n : Int32} {hs : List (Int32 × Value)} {vs : List Value} {d : Value} (F : Exa Z h a C) (G : Arh Z h b k ty n hs vs d) (wi : (Cond.instantiable C m).before a0 Z = true) : a ≠ b := by
  obtain ⟨c, A, -⟩ := G
  exact ne_arr F wi A
theorem own_plE {Z : State} {h : Heap} {a : Addr} {C : String} (E : Exa Z h a C) : ∃ c : Cell, h[a]? = some c ∧ c.vm.isStatics = false := by
  obtain ⟨c, k, h1, -, -, h4, -⟩ := E
  exact ⟨c, h1, h4⟩
theorem own_plV {Z : State} {h : Heap} {a : Addr} {k : ClassId} {ty : FieldType} {n : Int32} {vs : List Value} {d : Value} (F : Arv Z h a k ty n vs d) : ∃ c : Cell, h[a]? = some c ∧ c.vm.isStatics = false := by
  obtain ⟨c, A, -⟩ := F
  exact ⟨c, A.1, A.plain⟩
theorem own_plH {Z : State} {h : Heap} {a : Addr} {k : ClassId} {ty : FieldType} {n : Int32} {hs : List (Int32 × Value)} {vs : List Value} {d : Value} (F : Arh Z h a k ty n hs vs d) : ∃ c : Cell, h[a]? = some c ∧ c.vm.isStatics = false := by
  obtain ⟨c, A, -⟩ := F
  exact ⟨c, A.1, A.plain⟩
theorem own_staK {Z : State} {h h' : Heap} {C n d : String} {v : Value} {ws : List Addr} (F : Sta Z h C n d v) (K : Keep h h' ws) (q : ∀ x ∈ ws, ∃ c : Cell, h[x]? = some c ∧ c.vm.isStatics = false) : Sta Z h' C n d v := by
  obtain ⟨cf, i, k, f, st, cell, h1, h2, h3, h4, h5, h6, h7⟩ := F
  refine ⟨cf, i, k, f, st, cell, h1, h2, h3, h4, K.2.1 st cell h5 fun hm => ?_, h6, h7⟩
  obtain ⟨c, e1, e2⟩ := q st hm
  rw [h5] at e1
  cases e1
  rw [h6] at e2
  cases e2
theorem own_wS {a0 : Array Value} {Z : State} (hw : ∀ d ∈ tables_1, d.before a0 Z = true) : ∀ a ∈ Bundle.stringAtoms, a.before a0 Z = true := by
  intro a ha
  simp only [Bundle.stringAtoms, Bundle.sN, List.mem_cons, List.not_mem_nil, or_false] at ha
  rcases ha with rfl | rfl | rfl | rfl | rfl | rfl | rfl
  · exact hw _ (List.mem_of_getElem? (i := 18) rfl)
  · exact hw _ (List.mem_of_getElem? (i := 19) rfl)
  · exact hw _ (List.mem_of_getElem? (i := 13) rfl)
  · exact hw _ (List.mem_of_getElem? (i := 20) rfl)
  · exact hw _ (List.mem_of_getElem? (i := 21) rfl)
  · exact hw _ (List.mem_of_getElem? (i := 22) rfl)
  · exact hw _ (List.mem_of_getElem? (i := 23) rfl)
/-- what is known of the two literals: which were loaded (Ts), and that a loaded one is booked; of "" also what it holds, below B -/
def own_J (W : String) (Z : State) (vm : Vm) (h : Heap) (B : Nat) : Prop := ∃ Ts : List String, IB Z vm Ts ∧
  ("" ∈ Ts → ∃ (a b : Addr) (k : ClassId), Lit (Z.setVm vm) "java/lang/String" 7 a ∧ Exa Z h a "java/lang/String" ∧ Fld Z h a "java/lang/String" "coder" "B" (.int 0) ∧ Fld Z h a "java/lang/String" "value" "[B" (.ref b) ∧ Arv Z h b k .byte (0 : Int32) [] (.int 0) ∧ a < B ∧ b < B) ∧
  ("p" ∈ Ts → ∃ a : Addr, Lit (Z.setVm vm) W 53 a)
theorem own_J.start {W : String} {Z : State} {h : Heap} {B : Nat} : own_J W Z Z.vm h B := ⟨[], IB.start, fun q => absurd q List.not_mem_nil, fun q => absurd q List.not_mem_nil⟩
theorem own_J.ext {W : String} {Z : State} {vm : Vm} {h h' : Heap} {B : Nat} (J : own_J W Z vm h B) (E : Ext h h') : own_J W Z vm h' B := by
  obtain ⟨Ts, I, p, q⟩ := J
  refine ⟨Ts, I, fun t => ?_, q⟩
  obtain ⟨a, b, k, L, e1, e2, e3, e4, l1, l2⟩ := p t
  exact ⟨a, b, k, L, e1.ext E, e2.ext E, e3.ext E, e4.ext E, l1, l2⟩
theorem own_J.keep {W : String} {Z : State} {vm : Vm} {h h' : Heap} {B : Nat} {ws : List Addr} (J : own_J W Z vm h B) (K : Keep h h' ws) (hw : ∀ x ∈ ws, B ≤ x) : own_J W Z vm h' B := by
  obtain ⟨Ts, I, p, q⟩ := J
  refine ⟨Ts, I, fun t => ?_, q⟩
  obtain ⟨a, b, k, L, e1, e2, e3, e4, l1, l2⟩ := p t
  have n1 : a ∉ ws := fun x => absurd (hw a x) (Nat.not_le.mpr l1)
  have n2 : b ∉ ws := fun x => absurd (hw b x) (Nat.not_le.mpr l2)
  exact ⟨a, b, k, L, e1.keep K, e2.keep K n1, e3.keep K n1, e4.keep K n2, l1, l2⟩
theorem own_J.grow {W : String} {Z : State} {vm : Vm} {h : Heap} {B B' : Nat} (J : own_J W Z vm h B) (hB : B ≤ B') : own_J W Z vm h B' := by
  obtain ⟨Ts, I, p, q⟩ := J
  refine ⟨Ts, I, fun t => ?_, q⟩
  obtain ⟨a, b, k, L, e1, e2, e3, e4, l1, l2⟩ := p t
  exact ⟨a, b, k, L, e1, e2, e3, e4, Nat.lt_of_lt_of_le l1 hB, Nat.lt_of_lt_of_le l2 hB⟩
theorem own_lit {Z s : State} {vm vm' : Vm} {o : String} {i : Nat} {a : Addr} (L : Lit (Z.setVm vm) o i a) (hW : (s.setVm vm).Warmed39 vm') : Lit (Z.setVm vm') o i a :=
  Lit.stays (s := s) (vm0 := vm) L hW
/-- the same tables, warmer, and no text the more -/
theorem own_J.warm {W : String} {Z s : State} {vm vm' : Vm} {h : Heap} {B : Nat} (J : own_J W Z vm h B) (hW : (s.setVm vm).WarmedH vm') : own_J W Z vm' h B := by
  obtain ⟨Ts, I, p, q⟩ := J
  refine ⟨Ts, ?_, fun t => ?_, fun t => ?_⟩
  · obtain ⟨more, e, r⟩ := I
    exact ⟨more, (show vm'.interned = vm.interned from hW.interned_eq).trans e, r⟩
  · obtain ⟨a, b, k, L, r⟩ := p t
    exact ⟨a, b, k, own_lit (s := s) L hW.wide, r⟩
  · obtain ⟨a, L⟩ := q t
    exact ⟨a, own_lit (s := s) L hW.wide⟩
section OwnJ
variable {p : Program} {l : Launch} {e : Env} {R : Room} {s : State} {vm0 : Vm} {m : MethodId} {args : Array Value} {below : List Frame} {meth : Method} {c : Code} {T : State} {locs : List Loc} {cells slots : Nat} {Z : State} {a0 : Array Value} {h : Heap}
theorem own_ldcE {W : String} {B : Nat} (X : Stand p l e R (s.setVm vm0) m args below meth c T locs cells slots) (hx : p.tables.exec = Jvm.exec) (hZ : Z.Warmed39 vm0) (hown : vm0.findClass "java/lang/String" = some m.cls) (w : (Cond.stringLink "java/lang/String" 7 "").before a0 Z = true) (wS : ∀ a ∈ Bundle.stringAtoms, a.before a0 Z = true)
    (eT : T.heap = h) {k0 : Nat} (hS : s.Since vm0 k0) (hk : k0 ≤ h.size) (N : Fr s.heap.size locs) (hkeep : ∀ (b : Addr) (cl : Cell), Z.heap[b]? = some cl → s.heap[b]? = some cl) (J : own_J W Z vm0 h B) (hB : B ≤ h.size) (hh : Jvm.Lit.constHeld Z "java/lang/String" 7) (hcw : Jvm.Lit.compactW.before a0 Z = true)
    {g : JFrame} (hg : g.method = m) (hd : decode c.code g.pc = .ok (.ldc 7, 2)) (hc : cells + 2 ≤ R.cells) (hl' : slots + (0 + 4) ≤ R.slots) :
    ∃ (a : Addr) (T' : State) (h' : Heap) (vm1 : Vm) (k1 : Nat) (b : Addr) (k : ClassId), Stand p l e R (s.setVm vm1) m args below meth c T' locs (cells + 2) (slots + (0 + 4)) ∧ T'.heap = h' ∧ Ext h h' ∧ s.Since vm1 k1 ∧ k1 ≤ h'.size ∧ Z.Warmed39 (s.setVm vm1).vm ∧ (s.setVm vm1).vm.findClass "java/lang/String" = some m.cls ∧
      Exa Z h' a "java/lang/String" ∧ Fld Z h' a "java/lang/String" "coder" "B" (.int 0) ∧ Fld Z h' a "java/lang/String" "value" "[B" (.ref b) ∧ Arv Z h' b k .byte (0 : Int32) [] (.int 0) ∧ a < h'.size ∧ b < h'.size ∧ own_J W Z vm1 h' h'.size ∧ Lit (s.setVm vm1) "java/lang/String" 7 a ∧
      ∀ target, Steps p.tables e below (T'.setTop { g with pc := g.pc + 2, stack := .ref a :: g.stack }) target → Steps p.tables e below (T.setTop g) target := by
  obtain ⟨Ts, I, hE, hP⟩ := id J
  by_cases q : "" ∈ Ts
  · obtain ⟨a, b, k, L, e1, e2, e3, e4, l1, l2⟩ := hE q
    exact ⟨a, T, h, vm0, k0, b, k, X.mono (Nat.le_add_right _ _) (Nat.le_add_right _ _), eT, ⟨Nat.le_refl _, fun _ _ r => r⟩, hS, hk, hZ, hown, e1, e2, e3, e4, Nat.lt_of_lt_of_le l1 hB, Nat.lt_of_lt_of_le l2 hB, J.grow hB, L, ldcAgain X hx hZ hown w L hg hd⟩
  · obtain ⟨a, T', h', k1, b, k, X', eT', E, hS', hk', hZ', hown', e1, e2, e3, e4, l1, l2, I', L', st⟩ := ldcSVL (s := s.setVm vm0) (vm0 := vm0) (own := "java/lang/String") (index := 7) (text := "") X hx hZ hown w wS eT ((State.WarmedH.refl (s.setVm vm0)).since k0) hk N hkeep I q hh hcw (vs := []) (z := 0) ⟨by decide, by decide⟩ (by decide) (by decide) hg hd (n := 0) (by decide) (by decide) hc hl'
    refine ⟨a, T', h', T'.vm, h'.size, b, k, X', eT', E, hS.trans (n₂ := h'.size) ⟨hS'.1, ?_⟩ (Nat.le_trans hk E.1), Nat.le_refl _, hZ', hown', e1, e2, e3, e4, l1, l2, ⟨"" :: Ts, I', fun _ => ⟨a, b, k, L', e1, e2, e3, e4, l1, l2⟩, fun t => ?_⟩, L', st⟩
    · exact hS'.2.mono hk'
    · obtain ⟨a', L⟩ := hP (by simpa using t)
      exact ⟨a', own_lit (s := s) L hS'.1⟩
theorem own_ldcP {W : String} {B : Nat} (X : Stand p l e R (s.setVm vm0) m args below meth c T locs cells slots) (hx : p.tables.exec = Jvm.exec) (hZ : Z.Warmed39 vm0) (hown : vm0.findClass W = some m.cls) (w : (Cond.stringLink W 53 "p").before a0 Z = true) (wS : ∀ a ∈ Bundle.stringAtoms, a.before a0 Z = true)
    (eT : T.heap = h) {k0 : Nat} (hS : s.Since vm0 k0) (hk : k0 ≤ h.size) (N : Fr s.heap.size locs) (hkeep : ∀ (b : Addr) (cl : Cell), Z.heap[b]? = some cl → s.heap[b]? = some cl) (J : own_J W Z vm0 h B) (hh : Jvm.Lit.constHeld Z W 53) (hcw : Jvm.Lit.compactW.before a0 Z = true)
    {g : JFrame} (hg : g.method = m) (hd : decode c.code g.pc = .ok (.ldc 53, 2)) (hc : cells + 2 ≤ R.cells) (hl' : slots + (4 + 4) ≤ R.slots) :
    ∃ (a : Addr) (T' : State) (h' : Heap) (vm1 : Vm) (k1 : Nat), Stand p l e R (s.setVm vm1) m args below meth c T' locs (cells + 2) (slots + (4 + 4)) ∧ T'.heap = h' ∧ Ext h h' ∧ s.Since vm1 k1 ∧ k1 ≤ h'.size ∧ Z.Warmed39 (s.setVm vm1).vm ∧ (s.setVm vm1).vm.findClass W = some m.cls ∧
      own_J W Z vm1 h' B ∧
      ∀ target, Steps p.tables e below (T'.setTop { g with pc := g.pc + 2, stack := .ref a :: g.stack }) target → Steps p.tables e below (T.setTop g) target := by
  obtain ⟨Ts, I, hE, hP⟩ := id J
  by_cases q : "p" ∈ Ts
  · obtain ⟨a, L⟩ := hP q
    exact ⟨a, T, h, vm0, k0, X.mono (Nat.le_add_right _ _) (Nat.le_add_right _ _), eT, ⟨Nat.le_refl _, fun _ _ r => r⟩, hS, hk, hZ, hown, J, ldcAgain X hx hZ hown w L hg hd⟩
  · obtain ⟨a, T', h', k1, b, k, X', eT', E, hS', hk', hZ', hown', e1, e2, e3, e4, l1, l2, I', L', st⟩ := ldcSVL (s := s.setVm vm0) (vm0 := vm0) (own := W) (index := 53) (text := "p") X hx hZ hown w wS eT ((State.WarmedH.refl (s.setVm vm0)).since k0) hk N hkeep I q hh hcw (vs := [.int 112]) (z := 1) ⟨by decide, by decide⟩ (by decide) (by decide) hg hd (n := 4) (by decide) (by decide) hc hl'
    refine ⟨a, T', h', T'.vm, h'.size, X', eT', E, hS.trans (n₂ := h'.size) ⟨hS'.1, hS'.2.mono hk'⟩ (Nat.le_trans hk E.1), Nat.le_refl _, hZ', hown', ⟨"p" :: Ts, I', fun t => ?_, fun _ => ⟨a, L'⟩⟩, st⟩
    obtain ⟨a', b', k', L, f1, f2, f3, f4, m1, m2⟩ := hE (by simpa using t)
    exact ⟨a', b', k', own_lit (s := s) L hS'.1, f1.ext E, f2.ext E, f3.ext E, f4.ext E, m1, m2⟩
theorem own_backJ {W : String} {y : MethodName} {bytes : ByteArray} {maxL : Nat} {ret : Option FieldType} {rm : Room} {len Wd : Nat} {as' : Array Value} {Q : Option Value → Heap → List Loc → Prop} {B : Nat} (J : own_J W Z s.vm h B)
    (hM : MetFree l y (head1 [Jvm.Cond.code y bytes maxL ret] rm) (fun a U => a = as' ∧ Z.Warmed39 U.vm ∧ U.heap = h ∧ own_J W Z U.vm h B) (fun _ _ _ _ _ => True) (fun _ U o U' => ∃ v L, o = .returned v ∧ (Q v U'.heap L ∧ own_J W Z U'.vm U'.heap U'.heap.size) ∧ ReturnedEndW U o U' L rm.cells rm.slots))
    (hZ : Z.Warmed39 s.vm) (wc : (Jvm.Cond.code y bytes maxL ret).before a0 Z = true) (wz : (Jvm.Cond.initialized y.cls).before a0 Z = true) (hf : rm.frames + 1 ≤ R.frames) (hl : Wd + (maxL + 11) + rm.locals ≤ R.locals) :
    BackS l R p e below s args y len Wd (fun A a => a = as' ∧ A.U.heap = h ∧ A.cells + rm.cells ≤ R.cells ∧ A.slots + rm.slots ≤ R.slots)
      (fun A _ v B => ∃ L, (Q v B.U.heap L ∧ own_J W Z B.U.vm B.U.heap B.U.heap.size) ∧ B.locs = A.locs ++ L ∧ B.cells = A.cells + rm.cells ∧ B.slots = A.slots + rm.slots) :=
  BackS.of_freeW (bytes := bytes) (maxL := maxL) (ret := ret) (E := fun _ _ o t L k n => k = rm.cells ∧ n = rm.slots ∧ ∃ v, o = .returned v ∧ (Q v t.heap L ∧ own_J W Z t.vm t.heap t.heap.size)) hM hf hl
    (fun m meth c A a Y hp => have hU : Z.Warmed39 A.U.vm := wtrans hZ Y.warmed
      ⟨by show (Jvm.Cond.and _ .tt).before a A.U = true; rw [Cond.before_and, mv hU wc]; rfl, mv hU wc, mv hU wz, hp.2.2.1, hp.2.2.2⟩)
    (fun m meth c A a g mk Y hp => ⟨hp.1, wtrans hZ Y.warmed, hp.2.1, J.warm (s := s) Y.warmed⟩) (fun _ _ _ _ _ _ _ _ _ => trivial)
    (fun _ _ _ _ ⟨v, L, h1, h2, h3⟩ => ⟨L, _, _, h3, rfl, rfl, v, h1, h2⟩)
    (fun m meth c A a g mk v t L k n Y hp _ _ ⟨e1, e2, v', e3, e4⟩ => by cases e3; subst e1 e2; exact ⟨L, e4, rfl, rfl, rfl⟩)
theorem own_J.re {W : String} {Z : State} {vm : Vm} {h h2 : Heap} {B B2 : Nat} {a b : Addr} {k : ClassId} (J : own_J W Z vm h B) (L : Lit (Z.setVm vm) "java/lang/String" 7 a) (e1 : Exa Z h2 a "java/lang/String") (e2 : Fld Z h2 a "java/lang/String" "coder" "B" (.int 0)) (e3 : Fld Z h2 a "java/lang/String" "value" "[B" (.ref b)) (e4 : Arv Z h2 b k .byte (0 : Int32) [] (.int 0)) (l1 : a < B2) (l2 : b < B2) : own_J W Z vm h2 B2 := by
  obtain ⟨Ts, I, -, q⟩ := J
  exact ⟨Ts, I, fun _ => ⟨a, b, k, L, e1, e2, e3, e4, l1, l2⟩, q⟩
def own_X (Z : State) (h : Heap) : Prop := Ext Z.heap h
theorem own_X.ext {Z : State} {h h' : Heap} (O : own_X Z h) (E : Ext h h') : own_X Z h' := ⟨Nat.le_trans O.1 E.1, fun x c q => E.2 x c (O.2 x c q)⟩
theorem own_X.keep {Z : State} {h h' : Heap} (O : own_X Z h) (K : Keep h h' []) : own_X Z h' := ⟨Nat.le_trans O.1 K.1, fun x c q => K.2.1 x c (O.2 x c q) List.not_mem_nil⟩
end OwnJ
theorem d1_0 : decode jdk_29_method_65_code 0 = .ok (.iload_n 0, 1) := by decide +kernel
theorem d1_1 : decode jdk_29_method_65_code 1 = .ok (.iload_n 1, 1) := by decide +kernel
theorem d1_2 : decode jdk_29_method_65_code 2 = .ok (.if_icmp .lt 7, 3) := by decide +kernel
theorem d1_5 : decode jdk_29_method_65_code 5 = .ok (.iload_n 0, 1) := by decide +kernel
theorem d1_6 : decode jdk_29_method_65_code 6 = .ok (.goto 4, 3) := by decide +kernel
theorem d1_9 : decode jdk_29_method_65_code 9 = .ok (.iload_n 1, 1) := by decide +kernel
theorem d1_10 : decode jdk_29_method_65_code 10 = .ok (.ireturn, 1) := by decide +kernel
theorem ef_1 (m : MethodId) (x0 : Int32) (x1 : Int32) : entryFrame m #[(.int x0), (.int x1)] 2 = mkF m 0 #[.val (.int x0), .val (.int x1)] [] := by first | (simp [entryFrame, mkF, argsToLocals, Value.category]; done) | rfl
def f1 (p0 : Int32) (p1 : Int32) : Int32 := (if p0 < p1 then p1 else p0)
set_option maxRecDepth 65536 in
set_option maxHeartbeats 40000000 in
theorem rm1 (l : Launch) (Z : State) (a0 : Array Value) (hw : ∀ d ∈ tables_1, d.before a0 Z = true) (ws : List Jvm.Cond) (p0 : Int32) (p1 : Int32) (h0 : Heap) (n0 : Nat) (Z0 : n0 ≤ h0.size) :
    Met1 l Nm_0 (Jvm.Cond.code Nm_0 jdk_29_method_65_code 2 (some .int)) ws (rom 0 0 0 0) #[(.int p0), (.int p1)] Z h0 (QP (some (.int (f1 p0 p1))) h0 n0) := by
  refine MetFree.of_bodySF (Jvm.Free.JP.mathPlain rfl (by decide +kernel)) hisR ?_
  intro p e s m args below meth c s₁ Bd hml0 hP hK
  obtain ⟨rfl, hZ, hh⟩ := hP
  have hx := Bd.exec
  have hby := Bd.bytes
  have hml : c.maxLocals = 2 := hml0
  have hown : s.vm.findClass "java/lang/Math" = some m.cls := findClass_of_methodNamed Bd.named
  have X0 : Stand p l e (rom 0 0 0 0) s m _ _ _ _ _ [] 0 0 := Stand.of_body Bd
  have e0 : s₁.heap = h0 := by rw [← hh, Bd.state]; rfl
  have N0 := Fr.nil n0
  have K0 : Keep h0 h0 [] := Keep.refl _ _
  have pre0 : Go p e below s₁ _ (mkF m 0 #[.val (.int p0), .val (.int p1)] []) _ := fun t k => castTop (ef_1 m p0 p1) k
  have pre2 : Go p e below s₁ _ (mkF m 2 #[.val (.int p0), .val (.int p1)] [(.int p1), (.int p0)]) _ := fun t k => pre0 t (by
    refine XS.iloadN X0.here hx rfl (hb hby d1_0) rfl ?_
    refine XS.iloadN X0.here hx rfl (hb hby d1_1) rfl ?_
    exact k)
  by_cases hc2_1 : p0 < p1
  · have pre3 : Go p e below s₁ _ (mkF m 10 #[.val (.int p0), .val (.int p1)] [(.int p1)]) _ := fun t k => pre2 t (by
      refine XS.icmpYes X0.here hx rfl (pc0 := 2) (pc' := 9) rfl (hb hby d1_2) rfl (tlt hc2_1).1 (by decide) (by decide) ?_
      refine XS.iloadN X0.here hx rfl (hb hby d1_9) rfl ?_
      exact k)
    obtain ⟨fs, hr, hrun, hended, hW, hsame⟩ := X0.leave (v := some (.int p1)) (fun h => by rw [Bd.returns] at h; cases h)
    refine ⟨_, _, ?_, hrun, hended, _, _, rfl, ?_, ⟨_, rfl⟩, hW, hsame.mono (by decide) (by decide)⟩
    · exact pre3 _ (retI X0 hx Bd.returns (hb hby d1_10) hr)
    · exact ⟨by simp only [f1, if_pos hc2_1], N0, e0⟩
  · have pre4 : Go p e below s₁ _ (mkF m 10 #[.val (.int p0), .val (.int p1)] [(.int p0)]) _ := fun t k => pre2 t (by
      refine XS.icmpNo X0.here hx rfl (hb hby d1_2) rfl (flt hc2_1).1 ?_
      refine XS.iloadN X0.here hx rfl (hb hby d1_5) rfl ?_
      refine XS.goto X0.here hx rfl (pc0 := 6) (pc' := 10) rfl (hb hby d1_6) (by decide) (by decide) ?_
      exact k)
    obtain ⟨fs, hr, hrun, hended, hW, hsame⟩ := X0.leave (v := some (.int p0)) (fun h => by rw [Bd.returns] at h; cases h)
    refine ⟨_, _, ?_, hrun, hended, _, _, rfl, ?_, ⟨_, rfl⟩, hW, hsame.mono (by decide) (by decide)⟩
    · exact pre4 _ (retI X0 hx Bd.returns (hb hby d1_10) hr)
    · exact ⟨by simp only [f1, if_neg hc2_1], N0, e0⟩
theorem d2_0 : decode jdk_29_method_66_code 0 = .ok (.lload_n 0, 1) := by decide +kernel
theorem d2_1 : decode jdk_29_method_66_code 1 = .ok (.lload_n 2, 1) := by decide +kernel
theorem d2_2 : decode jdk_29_method_66_code 2 = .ok (.lcmp, 1) := by decide +kernel
theorem d2_3 : decode jdk_29_method_66_code 3 = .ok (.ifCond .lt 7, 3) := by decide +kernel
theorem d2_6 : decode jdk_29_method_66_code 6 = .ok (.lload_n 0, 1) := by decide +kernel
theorem d2_7 : decode jdk_29_method_66_code 7 = .ok (.goto 4, 3) := by decide +kernel
theorem d2_10 : decode jdk_29_method_66_code 10 = .ok (.lload_n 2, 1) := by decide +kernel
theorem d2_11 : decode jdk_29_method_66_code 11 = .ok (.lreturn, 1) := by decide +kernel
theorem ef_2 (m : MethodId) (x0 : Int64) (x1 : Int64) : entryFrame m #[(.long x0), (.long x1)] 4 = mkF m 0 #[.val (.long x0), .second, .val (.long x1), .second] [] := by first | (simp [entryFrame, mkF, argsToLocals, Value.category]; done) | rfl
def f2 (q0 : Int64) (q1 : Int64) : Int64 := (if q0 < q1 then q1 else q0)
set_option maxRecDepth 65536 in
set_option maxHeartbeats 40000000 in
theorem rm2 (l : Launch) (Z : State) (a0 : Array Value) (hw : ∀ d ∈ tables_1, d.before a0 Z = true) (ws : List Jvm.Cond) (q0 : Int64) (q1 : Int64) (h0 : Heap) (n0 : Nat) (Z0 : n0 ≤ h0.size) :
    Met1 l Nm_1 (Jvm.Cond.code Nm_1 jdk_29_method_66_code 4 (some .long)) ws (rom 0 0 0 0) #[(.long q0), (.long q1)] Z h0 (QP (some (.long (f2 q0 q1))) h0 n0) := by
  refine MetFree.of_bodySF (Jvm.Free.JP.mathPlain rfl (by decide +kernel)) hisR ?_
  intro p e s m args below meth c s₁ Bd hml0 hP hK
  obtain ⟨rfl, hZ, hh⟩ := hP
  have hx := Bd.exec
  have hby := Bd.bytes
  have hml : c.maxLocals = 4 := hml0
  have hown : s.vm.findClass "java/lang/Math" = some m.cls := findClass_of_methodNamed Bd.named
  have X0 : Stand p l e (rom 0 0 0 0) s m _ _ _ _ _ [] 0 0 := Stand.of_body Bd
  have e0 : s₁.heap = h0 := by rw [← hh, Bd.state]; rfl
  have N0 := Fr.nil n0
  have K0 : Keep h0 h0 [] := Keep.refl _ _
  have pre0 : Go p e below s₁ _ (mkF m 0 #[.val (.long q0), .second, .val (.long q1), .second] []) _ := fun t k => castTop (ef_2 m q0 q1) k
  have pre2 : Go p e below s₁ _ (mkF m 3 #[.val (.long q0), .second, .val (.long q1), .second] [(.int (lcmpW q0 q1))]) _ := fun t k => pre0 t (by
    refine XS.lloadN X0.here hx rfl (hb hby d2_0) rfl ?_
    refine XS.lloadN X0.here hx rfl (hb hby d2_1) rfl ?_
    refine XS.lcmp X0.here hx rfl (hb hby d2_2) rfl ?_
    exact k)
  by_cases hc3_1 : q0 < q1
  · have pre3 : Go p e below s₁ _ (mkF m 11 #[.val (.long q0), .second, .val (.long q1), .second] [(.long q1)]) _ := fun t k => pre2 t (by
      refine XS.ifYes X0.here hx rfl (pc0 := 3) (pc' := 10) rfl (hb hby d2_3) rfl ((if0 _ _).trans (tlt ((lw_lt _ _).mpr hc3_1)).1) (by decide) (by decide) ?_
      refine XS.lloadN X0.here hx rfl (hb hby d2_10) rfl ?_
      exact k)
    obtain ⟨fs, hr, hrun, hended, hW, hsame⟩ := X0.leave (v := some (.long q1)) (fun h => by rw [Bd.returns] at h; cases h)
    refine ⟨_, _, ?_, hrun, hended, _, _, rfl, ?_, ⟨_, rfl⟩, hW, hsame.mono (by decide) (by decide)⟩
    · exact pre3 _ (X0.lreturnOut hx Bd.returns (hb hby d2_11) hr)
    · exact ⟨by simp only [f2, if_pos hc3_1], N0, e0⟩
  · have pre4 : Go p e below s₁ _ (mkF m 11 #[.val (.long q0), .second, .val (.long q1), .second] [(.long q0)]) _ := fun t k => pre2 t (by
      refine XS.ifNo X0.here hx rfl (hb hby d2_3) rfl ((if0 _ _).trans (flt (fun q => hc3_1 ((lw_lt _ _).mp q))).1) ?_
      refine XS.lloadN X0.here hx rfl (hb hby d2_6) rfl ?_
      refine XS.goto X0.here hx rfl (pc0 := 7) (pc' := 11) rfl (hb hby d2_7) (by decide) (by decide) ?_
      exact k)
    obtain ⟨fs, hr, hrun, hended, hW, hsame⟩ := X0.leave (v := some (.long q0)) (fun h => by rw [Bd.returns] at h; cases h)
    refine ⟨_, _, ?_, hrun, hended, _, _, rfl, ?_, ⟨_, rfl⟩, hW, hsame.mono (by decide) (by decide)⟩
    · exact pre4 _ (X0.lreturnOut hx Bd.returns (hb hby d2_11) hr)
    · exact ⟨by simp only [f2, if_neg hc3_1], N0, e0⟩
theorem d5_0 : decode jdk_30_method_1_code 0 = .ok (.aload_n 0, 1) := by decide +kernel
theorem d5_1 : decode jdk_30_method_1_code 1 = .ok (.invokespecial 1, 3) := by decide +kernel
theorem d5_4 : decode jdk_30_method_1_code 4 = .ok (.return_, 1) := by decide +kernel
theorem pn_5 : plainName "java/lang/Record" = true := by first | (simp [plainName, overriddenIn]; done) | decide +kernel
theorem ef_5 (m : MethodId) (x0 : Addr) : entryFrame m #[(.ref x0)] 1 = mkF m 0 #[.val (.ref x0)] [] := by first | (simp [entryFrame, mkF, argsToLocals, Value.category]; done) | rfl
set_option maxRecDepth 65536 in
set_option maxHeartbeats 40000000 in
theorem rm5 (l : Launch) (Z : State) (a0 : Array Value) (hw : ∀ d ∈ tables_1, d.before a0 Z = true) (ws : List Jvm.Cond) (o0 : Addr) (h0 : Heap) (n0 : Nat) (Z0 : n0 ≤ h0.size) :
    Met1 l Nm_2 (Jvm.Cond.code Nm_2 jdk_30_method_1_code 1 none) ws (rom 1 0 0 12) #[(.ref o0)] Z h0 (QP none h0 n0) := by
  refine MetFree.of_bodySF (plainFor_of_name pn_5) hisR ?_
  intro p e s m args below meth c s₁ Bd hml0 hP hK
  obtain ⟨rfl, hZ, hh⟩ := hP
  have hx := Bd.exec
  have hby := Bd.bytes
  have hml : c.maxLocals = 1 := hml0
  have hown : s.vm.findClass "java/lang/Record" = some m.cls := findClass_of_methodNamed Bd.named
  have X0 : Stand p l e (rom 1 0 0 12) s m _ _ _ _ _ [] 0 0 := Stand.of_body Bd
  have e0 : s₁.heap = h0 := by rw [← hh, Bd.state]; rfl
  have N0 := Fr.nil n0
  have K0 : Keep h0 h0 [] := Keep.refl _ _
  have pre0 : Go p e below s₁ _ (mkF m 0 #[.val (.ref o0)] []) _ := fun t k => castTop (ef_5 m o0) k
  have pre1 : Go p e below s₁ _ (mkF m 1 #[.val (.ref o0)] [(.ref o0)]) _ := fun t k => pre0 t (by
    refine XS.aloadN X0.here hx rfl (hb hby d5_0) rfl rfl ?_
    exact k)
  obtain ⟨T2, X2, e2, st2⟩ := initO X0 hx hZ hown (wq hw 32 rfl) (wq hw 33 rfl) (wq hw 34 rfl) e0 (g := (mkF m 1 #[.val (.ref o0)] [(.ref o0)])) rfl (by rw [hml]; rfl) rfl (hb hby d5_1) (by decide) (W := 0) (w00 rfl) (by decide)
  have pre3 := Go.thn pre1 st2
  obtain ⟨fs, hr, hrun, hended, hW, hsame⟩ := X2.leave (v := none) (fun _ => rfl)
  refine ⟨_, _, ?_, hrun, hended, _, _, rfl, ?_, ⟨_, rfl⟩, hW, hsame.mono (by decide) (by decide)⟩
  · exact pre3 _ (X2.returnOut hx Bd.returns (hb hby d5_4) hr)
  · exact ⟨rfl, N0, e2⟩
theorem d17_0 : decode method_3_code 0 = .ok (.iload_n 1, 1) := by decide +kernel
theorem d17_1 : decode method_3_code 1 = .ok (.ifCond .ne 6, 3) := by decide +kernel
theorem d17_4 : decode method_3_code 4 = .ok (.iload_n 0, 1) := by decide +kernel
theorem d17_5 : decode method_3_code 5 = .ok (.i2l, 1) := by decide +kernel
theorem d17_6 : decode method_3_code 6 = .ok (.lreturn, 1) := by decide +kernel
theorem d17_7 : decode method_3_code 7 = .ok (.iload_n 0, 1) := by decide +kernel
theorem d17_8 : decode method_3_code 8 = .ok (.i2l, 1) := by decide +kernel
theorem d17_9 : decode method_3_code 9 = .ok (.iload_n 1, 1) := by decide +kernel
theorem d17_10 : decode method_3_code 10 = .ok (.iconst 1, 1) := by decide +kernel
theorem d17_11 : decode method_3_code 11 = .ok (.isub, 1) := by decide +kernel
theorem d17_12 : decode method_3_code 12 = .ok (.i2l, 1) := by decide +kernel
theorem d17_13 : decode method_3_code 13 = .ok (.ladd, 1) := by decide +kernel
theorem d17_14 : decode method_3_code 14 = .ok (.lreturn, 1) := by decide +kernel
theorem pn_17 : plainName "com/example/oncemark/oncemark/ReceiveQueueNeedsRefillPinLaw" = true := by first | (simp [plainName, overriddenIn]; done) | decide +kernel
theorem ef_17 (m : MethodId) (x0 : Int32) (x1 : Int32) : entryFrame m #[(.int x0), (.int x1)] 2 = mkF m 0 #[.val (.int x0), .val (.int x1)] [] := by first | (simp [entryFrame, mkF, argsToLocals, Value.category]; done) | rfl
def f17 (p0 : Int32) (p1 : Int32) : Int64 := (if p1 = (0 : Int32) then (p0.toInt64) else ((p0.toInt64) + ((p1 - (1 : Int32)).toInt64)))
set_option maxRecDepth 65536 in
set_option maxHeartbeats 40000000 in
theorem rm17 (l : Launch) (Z : State) (a0 : Array Value) (hw : ∀ d ∈ tables_1, d.before a0 Z = true) (ws : List Jvm.Cond) (p0 : Int32) (p1 : Int32) (h0 : Heap) (n0 : Nat) (Z0 : n0 ≤ h0.size) :
    Met1 l Nm_3 (Jvm.Cond.code Nm_3 method_3_code 2 (some .long)) ws (rom 0 0 0 0) #[(.int p0), (.int p1)] Z h0 (QP (some (.long (f17 p0 p1))) h0 n0) := by
  refine MetFree.of_bodySF (plainFor_of_name pn_17) hisR ?_
  intro p e s m args below meth c s₁ Bd hml0 hP hK
  obtain ⟨rfl, hZ, hh⟩ := hP
  have hx := Bd.exec
  have hby := Bd.bytes
  have hml : c.maxLocals = 2 := hml0
  have hown : s.vm.findClass "com/example/oncemark/oncemark/ReceiveQueueNeedsRefillPinLaw" = some m.cls := findClass_of_methodNamed Bd.named
  have X0 : Stand p l e (rom 0 0 0 0) s m _ _ _ _ _ [] 0 0 := Stand.of_body Bd
  have e0 : s₁.heap = h0 := by rw [← hh, Bd.state]; rfl
  have N0 := Fr.nil n0
  have K0 : Keep h0 h0 [] := Keep.refl _ _
  have pre0 : Go p e below s₁ _ (mkF m 0 #[.val (.int p0), .val (.int p1)] []) _ := fun t k => castTop (ef_17 m p0 p1) k
  have pre2 : Go p e below s₁ _ (mkF m 1 #[.val (.int p0), .val (.int p1)] [(.int p1)]) _ := fun t k => pre0 t (by
    refine XS.iloadN X0.here hx rfl (hb hby d17_0) rfl ?_
    exact k)
  by_cases hc1_1 : p1 = (0 : Int32)
  · have pre3 : Go p e below s₁ _ (mkF m 6 #[.val (.int p0), .val (.int p1)] [(.long (p0.toInt64))]) _ := fun t k => pre2 t (by
      refine XS.ifNo X0.here hx rfl (hb hby d17_1) rfl ((if0 _ _).trans (teq hc1_1).2) ?_
      refine XS.iloadN X0.here hx rfl (hb hby d17_4) rfl ?_
      refine XS.i2l X0.here hx rfl (hb hby d17_5) rfl ?_
      exact k)
    obtain ⟨fs, hr, hrun, hended, hW, hsame⟩ := X0.leave (v := some (.long (p0.toInt64))) (fun h => by rw [Bd.returns] at h; cases h)
    refine ⟨_, _, ?_, hrun, hended, _, _, rfl, ?_, ⟨_, rfl⟩, hW, hsame.mono (by decide) (by decide)⟩
    · exact pre3 _ (X0.lreturnOut hx Bd.returns (hb hby d17_6) hr)
    · exact ⟨by simp only [f17, if_pos hc1_1], N0, e0⟩
  · have pre4 : Go p e below s₁ _ (mkF m 14 #[.val (.int p0), .val (.int p1)] [(.long ((p0.toInt64) + ((p1 - (1 : Int32)).toInt64)))]) _ := fun t k => pre2 t (by
      refine XS.ifYes X0.here hx rfl (pc0 := 1) (pc' := 7) rfl (hb hby d17_1) rfl ((if0 _ _).trans (feq hc1_1).2) (by decide) (by decide) ?_
      refine XS.iloadN X0.here hx rfl (hb hby d17_7) rfl ?_
      refine XS.i2l X0.here hx rfl (hb hby d17_8) rfl ?_
      refine XS.iloadN X0.here hx rfl (hb hby d17_9) rfl ?_
      refine XS.iconst X0.here hx rfl (hb hby d17_10) ?_
      refine XS.isub X0.here hx rfl (hb hby d17_11) rfl ?_
      refine XS.i2l X0.here hx rfl (hb hby d17_12) rfl ?_
      refine XS.ladd X0.here hx rfl (hb hby d17_13) rfl ?_
      exact k)
    obtain ⟨fs, hr, hrun, hended, hW, hsame⟩ := X0.leave (v := some (.long ((p0.toInt64) + ((p1 - (1 : Int32)).toInt64)))) (fun h => by rw [Bd.returns] at h; cases h)
    refine ⟨_, _, ?_, hrun, hended, _, _, rfl, ?_, ⟨_, rfl⟩, hW, hsame.mono (by decide) (by decide)⟩
    · exact pre4 _ (X0.lreturnOut hx Bd.returns (hb hby d17_14) hr)
    · exact ⟨by simp only [f17, if_neg hc1_1], N0, e0⟩
theorem d22_0 : decode jdk_42_method_149_code 0 = .ok (.aload_n 0, 1) := by decide +kernel
theorem d22_1 : decode jdk_42_method_149_code 1 = .ok (.invokespecial 1, 3) := by decide +kernel
theorem d22_4 : decode jdk_42_method_149_code 4 = .ok (.iload_n 3, 1) := by decide +kernel
theorem d22_5 : decode jdk_42_method_149_code 5 = .ok (.ifCond .ne 22, 3) := by decide +kernel
theorem d22_8 : decode jdk_42_method_149_code 8 = .ok (.aload_n 0, 1) := by decide +kernel
theorem d22_9 : decode jdk_42_method_149_code 9 = .ok (.ldc 7, 2) := by decide +kernel
theorem d22_11 : decode jdk_42_method_149_code 11 = .ok (.getfield 9, 3) := by decide +kernel
theorem d22_14 : decode jdk_42_method_149_code 14 = .ok (.putfield 9, 3) := by decide +kernel
theorem d22_17 : decode jdk_42_method_149_code 17 = .ok (.aload_n 0, 1) := by decide +kernel
theorem d22_18 : decode jdk_42_method_149_code 18 = .ok (.ldc 7, 2) := by decide +kernel
theorem d22_20 : decode jdk_42_method_149_code 20 = .ok (.getfield 15, 3) := by decide +kernel
theorem d22_23 : decode jdk_42_method_149_code 23 = .ok (.putfield 15, 3) := by decide +kernel
theorem d22_26 : decode jdk_42_method_149_code 26 = .ok (.return_, 1) := by decide +kernel
theorem pn_22 : plainName "java/lang/String" = true := by first | (simp [plainName, overriddenIn]; done) | decide +kernel
theorem ef_22_0 (m : MethodId) (x0 : Addr) (x1 : Addr) : entryFrame m #[(.ref x0), (.ref x1), (.int 0), (.int 0), .null] 6 = mkF m 0 #[.val (.ref x0), .val (.ref x1), .val (.int 0), .val (.int 0), .val .null, .unset] [] := by first | (simp [entryFrame, mkF, argsToLocals, Value.category]; done) | rfl
def Q22_0 (Z : State) (o0 : Addr) (o1 : Addr) (kc : ClassId) (jb : Nat) (h0 : Heap) (n0 : Nat) (v : Option Value) (h : Heap) (L : List Loc) : Prop := ∃ (lt9v : Addr) (k_lt9v : ClassId), v = none ∧ Fr n0 L ∧ Keep h0 h [o0] ∧ Exa Z h o0 "java/lang/String" ∧ Fld Z h o0 "java/lang/String" "value" "[B" (.ref lt9v) ∧ Fld Z h o0 "java/lang/String" "coder" "B" (.int 0) ∧ Arv Z h lt9v k_lt9v .byte (0 : Int32) [] (.int 0)
set_option maxRecDepth 65536 in
set_option maxHeartbeats 40000000 in
theorem rm22_0 (l : Launch) (Z : State) (a0 : Array Value) (hw : ∀ d ∈ tables_1, d.before a0 Z = true) (ws : List Jvm.Cond) (o0 : Addr) (o1 : Addr) (kc : ClassId) (jb : Nat) (h0 : Heap) (n0 : Nat) (Z0 : n0 ≤ h0.size) (I0 : Exa Z h0 o0 "java/lang/String") (I1 : Fld Z h0 o0 "java/lang/String" "value" "[B" .null) (I2 : Fld Z h0 o0 "java/lang/String" "coder" "B" (.int 0)) (I3 : Arv Z h0 o1 kc .char (0 : Int32) [] (.int 0)) (OX : own_X Z h0) (hjs : jb ≤ h0.size) (hj_o0 : jb ≤ o0) (gw_o0 : n0 ≤ o0) (ne_o1_o0 : o1 ≠ o0) (hcw : Jvm.Lit.compactW.before a0 Z = true) (hh7 : Jvm.Lit.constHeld Z "java/lang/String" 7) :
    MetFree l Nm_4 (head1 (Jvm.Cond.code Nm_4 jdk_42_method_149_code 6 none :: ws) (rom 1 2 4 12)) (fun a U => a = #[(.ref o0), (.ref o1), (.int 0), (.int 0), .null] ∧ Z.Warmed39 U.vm ∧ U.heap = h0 ∧ own_J "com/example/oncemark/oncemark/ReceiveQueueNeedsRefillPinLaw" Z U.vm h0 jb) (fun _ _ _ _ _ => True) (fun _ U o U' => ∃ v L, o = .returned v ∧ (Q22_0 Z o0 o1 kc jb h0 n0 v U'.heap L ∧ own_J "com/example/oncemark/oncemark/ReceiveQueueNeedsRefillPinLaw" Z U'.vm U'.heap U'.heap.size) ∧ ReturnedEndW U o U' L (rom 1 2 4 12).cells (rom 1 2 4 12).slots) := by
  refine MetFree.of_bodySF (plainFor_of_name pn_22) hisR ?_
  intro p e s m args below meth c s₁ Bd hml0 hP hK
  obtain ⟨rfl, hZ, hh, J0⟩ := hP
  have hx := Bd.exec
  have hby := Bd.bytes
  have hml : c.maxLocals = 6 := hml0
  have hown : s.vm.findClass "java/lang/String" = some m.cls := findClass_of_methodNamed Bd.named
  have hnm := (name_of_methodNamed Bd.named Bd.method).1
  have X0 : Stand p l e (rom 1 2 4 12) (s.setVm s.vm) m #[(.ref o0), (.ref o1), (.int 0), (.int 0), .null] below meth c s₁ [] 0 0 := by rw [State.setVm_self]; exact Stand.of_body Bd
  have hS0 : s.Since s.vm h0.size := (State.WarmedH.refl s).since _
  have kS0 : h0.size ≤ h0.size := Nat.le_refl _
  have hZ : Z.Warmed39 (s.setVm s.vm).vm := hZ
  have hown : (s.setVm s.vm).vm.findClass "java/lang/String" = some m.cls := hown
  have e0 : s₁.heap = h0 := by rw [← hh, Bd.state]; rfl
  have N0 := Fr.nil n0
  have K0 : Keep h0 h0 [o0] := Keep.refl _ _
  have pre0 : Go p e below s₁ _ (mkF m 0 #[.val (.ref o0), .val (.ref o1), .val (.int 0), .val (.int 0), .val .null, .unset] []) _ := fun t k => castTop (ef_22_0 m o0 o1) k
  have pre1 : Go p e below s₁ _ (mkF m 1 #[.val (.ref o0), .val (.ref o1), .val (.int 0), .val (.int 0), .val .null, .unset] [(.ref o0)]) _ := fun t k => pre0 t (by
    refine XS.aloadN X0.here hx rfl (hb hby d22_0) rfl rfl ?_
    exact k)
  obtain ⟨T2, X2, e2, st2⟩ := initO X0 hx hZ hown (wq hw 146 rfl) (wq hw 33 rfl) (wq hw 34 rfl) e0 (g := (mkF m 1 #[.val (.ref o0), .val (.ref o1), .val (.int 0), .val (.int 0), .val .null, .unset] [(.ref o0)])) rfl (by rw [hml]; rfl) rfl (hb hby d22_1) (by decide) (W := 0) (w00 rfl) (by decide)
  have pre3 := Go.thn pre1 st2
  have pre4 : Go p e below T2 _ (mkF m 9 #[.val (.ref o0), .val (.ref o1), .val (.int 0), .val (.int 0), .val .null, .unset] [(.ref o0)]) _ := fun t k => pre3 t (by
    refine XS.iloadN X2.here hx rfl (hb hby d22_4) rfl ?_
    refine XS.ifNo X2.here hx rfl (hb hby d22_5) rfl (by decide) ?_
    refine XS.aloadN X2.here hx rfl (hb hby d22_8) rfl rfl ?_
    exact k)
  obtain ⟨lt9, T5, h5, vm5, kk5, lt9v, kl5, X5, e5, E5, hS5, kS5, hZ, hown, El5, Fc5, Fv5, Vl5, lt5_a, lt5_b, J5, Lt5, st5⟩ := own_ldcE X2 hx hZ hown (wq hw 147 rfl) (own_wS hw) e2 hS0 kS0 (Fr.nil _) (fun b cl q => by rw [hh]; exact OX.2 b cl q) J0 hjs hh7 hcw (g := (mkF m 9 #[.val (.ref o0), .val (.ref o1), .val (.int 0), .val (.int 0), .val .null, .unset] [(.ref o0)])) rfl (hb hby d22_9) (by decide) (by decide)
  have K5 : Keep h0 h5 [o0] := K0.ext E5
  have Z5 : n0 ≤ h5.size := Nat.le_trans Z0 E5.1
  have x6 := I0.ext E5
  have x7 := I1.ext E5
  have x8 := I2.ext E5
  have x9 := I3.ext E5
  have x10 := OX.ext E5
  have nl5_o0 : lt9 ≠ o0 := own_fldne Fv5 x7 nofun
  have nv5_o0 : o0 ≠ lt9v := x6.neArv Vl5 (wq hw 19 rfl)
  have pre11 := Go.thn pre4 st5
  obtain ⟨T12, X12, e12, st12⟩ := getF X5 hx hZ hown (host := "") (Or.inl (wq hw 148 rfl)) Via.refl e5 Fv5 (g := (mkF m 11 #[.val (.ref o0), .val (.ref o1), .val (.int 0), .val (.int 0), .val .null, .unset] [(.ref lt9), (.ref o0)])) rfl rfl (hb hby d22_11)
  have pre13 := Go.thn pre11 st12
  obtain ⟨T14, h14, X14, e14, W14, st14⟩ := putF X12 hx hZ hown (host := "") (Or.inl (wq hw 148 rfl)) Via.refl e12 x7 x6 (Or.inr ⟨(wq hw 20 rfl), rfl, hnm⟩) (wq hw 19 rfl) (ty := (.array .byte)) (by decide) rfl rfl (g := (mkF m 14 #[.val (.ref o0), .val (.ref o1), .val (.int 0), .val (.int 0), .val .null, .unset] [(.ref lt9v), (.ref o0)])) rfl rfl (hb hby d22_14)
  have N14 := Fr.snoc X14 N0 gw_o0
  have K14 : Keep h0 h14 [o0] := K5.wr W14 (Or.inl (List.mem_of_getElem? (i := 0) rfl))
  have Z14 : n0 ≤ h14.size := Nat.le_trans Z5 (Keep.of_wr W14).1
  have x15 := x6.wr W14
  have x16 := x7.same W14
  have x17 := x8.other W14 (Or.inr (slot_ne (Or.inr (wq hw 21 rfl)) (Or.inr (wq hw 20 rfl)) (by decide) (t := .byte) (t' := (.array .byte)) (by decide) (by decide)))
  have x18 := x9.other W14 ne_o1_o0
  have x19 := El5.wr W14
  have x20 := Fc5.other W14 (Or.inl nl5_o0)
  have x21 := Fv5.other W14 (Or.inl nl5_o0)
  have x22 := Vl5.other W14 (Ne.symm nv5_o0)
  have pre23 := Go.thn pre13 st14
  have jl14 : h5.size ≤ h14.size := Nat.le_trans (Nat.le_refl _) (Keep.of_wr W14).1
  have kS14 : _ ≤ h14.size := Nat.le_trans kS5 (Keep.of_wr W14).1
  have pre24 : Go p e below T14 _ (mkF m 18 #[.val (.ref o0), .val (.ref o1), .val (.int 0), .val (.int 0), .val .null, .unset] [(.ref o0)]) _ := fun t k => pre23 t (by
    refine XS.aloadN X14.here hx rfl (hb hby d22_17) rfl rfl ?_
    exact k)
  have pre26 : Go p e below T14 _ (mkF m 20 #[.val (.ref o0), .val (.ref o1), .val (.int 0), .val (.int 0), .val .null, .unset] [(.ref lt9), (.ref o0)]) _ := fun t k => pre24 t (ldcAgain X14 hx hZ hown (wq hw 147 rfl) Lt5 (g := (mkF m 18 #[.val (.ref o0), .val (.ref o1), .val (.int 0), .val (.int 0), .val .null, .unset] [(.ref o0)])) rfl (hb hby d22_18) _ k)
  obtain ⟨T27, X27, e27, st27⟩ := getF X14 hx hZ hown (host := "") (Or.inl (wq hw 149 rfl)) Via.refl e14 x20 (g := (mkF m 20 #[.val (.ref o0), .val (.ref o1), .val (.int 0), .val (.int 0), .val .null, .unset] [(.ref lt9), (.ref o0)])) rfl rfl (hb hby d22_20)
  have pre28 := Go.thn pre26 st27
  obtain ⟨T29, h29, X29, e29, W29, st29⟩ := putFN X27 hx hZ hown (wq hw 149 rfl) Via.refl e27 x17 x15 (Or.inr ⟨(wq hw 21 rfl), rfl, hnm⟩) (wq hw 19 rfl) (ty := .byte) (v' := (.int 0)) (by decide) rfl (by decide) (g := (mkF m 23 #[.val (.ref o0), .val (.ref o1), .val (.int 0), .val (.int 0), .val .null, .unset] [(.int 0), (.ref o0)])) rfl rfl (hb hby d22_23)
  have N29 := Fr.snoc X29 N14 gw_o0
  have K29 : Keep h0 h29 [o0] := K14.wr W29 (Or.inl (List.mem_of_getElem? (i := 0) rfl))
  have Z29 : n0 ≤ h29.size := Nat.le_trans Z14 (Keep.of_wr W29).1
  have x30 := x15.wr W29
  have x31 := x16.other W29 (Or.inr (slot_ne (Or.inr (wq hw 20 rfl)) (Or.inr (wq hw 21 rfl)) (by decide) (t := (.array .byte)) (t' := .byte) (by decide) (by decide)))
  have x32 := x17.same W29
  have x33 := x18.other W29 ne_o1_o0
  have x34 := x19.wr W29
  have x35 := x20.other W29 (Or.inl nl5_o0)
  have x36 := x21.other W29 (Or.inl nl5_o0)
  have x37 := x22.other W29 (Ne.symm nv5_o0)
  have pre38 := Go.thn pre28 st29
  have jl29 : h5.size ≤ h29.size := Nat.le_trans jl14 (Keep.of_wr W29).1
  have kS29 : _ ≤ h29.size := Nat.le_trans kS14 (Keep.of_wr W29).1
  obtain ⟨fs, hr, hrun, hended, hE⟩ := X29.leaveW hS5 (by rw [e29]; exact kS29) (v := none) (fun _ => rfl)
  refine ⟨_, _, ?_, hrun, hended, _, _, rfl, ?_, hE.1, hE.2.1, hE.2.2.1, hE.2.2.2.mono (by decide) (by decide)⟩
  · exact pre38 _ (X29.returnOut hx Bd.returns (hb hby d22_26) hr)
  · refine ⟨?_, ?_⟩
    · show Q22_0 Z o0 o1 kc jb h0 n0 _ T29.heap _
      rw [e29]
      exact ⟨lt9v, _, rfl, N29, K29, x30, x31, x32, x37⟩
    · show own_J "com/example/oncemark/oncemark/ReceiveQueueNeedsRefillPinLaw" Z T29.vm T29.heap T29.heap.size
      rw [e29]
      exact own_J.re (J5.warm (s := s) X29.warmed) (own_lit (s := s) Lt5 X29.warmed.wide) x34 x35 x36 x37 x34.lt x37.lt
theorem d21_0 : decode jdk_42_method_3_code 0 = .ok (.aload_n 0, 1) := by decide +kernel
theorem d21_1 : decode jdk_42_method_3_code 1 = .ok (.aload_n 1, 1) := by decide +kernel
theorem d21_2 : decode jdk_42_method_3_code 2 = .ok (.iconst 0, 1) := by decide +kernel
theorem d21_3 : decode jdk_42_method_3_code 3 = .ok (.aload_n 1, 1) := by decide +kernel
theorem d21_4 : decode jdk_42_method_3_code 4 = .ok (.arraylength, 1) := by decide +kernel
theorem d21_5 : decode jdk_42_method_3_code 5 = .ok (.aconst_null, 1) := by decide +kernel
theorem d21_6 : decode jdk_42_method_3_code 6 = .ok (.invokespecial 27, 3) := by decide +kernel
theorem d21_9 : decode jdk_42_method_3_code 9 = .ok (.return_, 1) := by decide +kernel
theorem pn_21 : plainName "java/lang/String" = true := by first | (simp [plainName, overriddenIn]; done) | decide +kernel
theorem pd___CIILjava_lang_Void__V : parseMethodDescriptor "([CIILjava/lang/Void;)V" = some ⟨[(.array .char), .int, .int, (.object "java/lang/Void")], none⟩ := by decide +kernel
theorem ef_21_0 (m : MethodId) (x0 : Addr) (x1 : Addr) : entryFrame m #[(.ref x0), (.ref x1)] 2 = mkF m 0 #[.val (.ref x0), .val (.ref x1)] [] := by first | (simp [entryFrame, mkF, argsToLocals, Value.category]; done) | rfl
def Q21_0 (Z : State) (o0 : Addr) (o1 : Addr) (kc : ClassId) (jb : Nat) (h0 : Heap) (n0 : Nat) (v : Option Value) (h : Heap) (L : List Loc) : Prop := ∃ (x6_0 : Addr) (k_x6_0 : ClassId), v = none ∧ Fr n0 L ∧ Keep h0 h [o0] ∧ Exa Z h o0 "java/lang/String" ∧ Fld Z h o0 "java/lang/String" "value" "[B" (.ref x6_0) ∧ Fld Z h o0 "java/lang/String" "coder" "B" (.int 0) ∧ Arv Z h x6_0 k_x6_0 .byte (0 : Int32) [] (.int 0)
set_option maxRecDepth 65536 in
set_option maxHeartbeats 40000000 in
theorem rm21_0 (l : Launch) (Z : State) (a0 : Array Value) (hw : ∀ d ∈ tables_1, d.before a0 Z = true) (ws : List Jvm.Cond) (o0 : Addr) (o1 : Addr) (kc : ClassId) (jb : Nat) (h0 : Heap) (n0 : Nat) (Z0 : n0 ≤ h0.size) (I0 : Exa Z h0 o0 "java/lang/String") (I1 : Fld Z h0 o0 "java/lang/String" "value" "[B" .null) (I2 : Fld Z h0 o0 "java/lang/String" "coder" "B" (.int 0)) (I3 : Arv Z h0 o1 kc .char (0 : Int32) [] (.int 0)) (OX : own_X Z h0) (hjs : jb ≤ h0.size) (hj_o0 : jb ≤ o0) (gw_o0 : n0 ≤ o0) (ne_o1_o0 : o1 ≠ o0) (hcw : Jvm.Lit.compactW.before a0 Z = true) (hh7 : Jvm.Lit.constHeld Z "java/lang/String" 7) :
    MetFree l Nm_5 (head1 (Jvm.Cond.code Nm_5 jdk_42_method_3_code 2 none :: ws) (rom 2 2 4 29)) (fun a U => a = #[(.ref o0), (.ref o1)] ∧ Z.Warmed39 U.vm ∧ U.heap = h0 ∧ own_J "com/example/oncemark/oncemark/ReceiveQueueNeedsRefillPinLaw" Z U.vm h0 jb) (fun _ _ _ _ _ => True) (fun _ U o U' => ∃ v L, o = .returned v ∧ (Q21_0 Z o0 o1 kc jb h0 n0 v U'.heap L ∧ own_J "com/example/oncemark/oncemark/ReceiveQueueNeedsRefillPinLaw" Z U'.vm U'.heap U'.heap.size) ∧ ReturnedEndW U o U' L (rom 2 2 4 29).cells (rom 2 2 4 29).slots) := by
  refine MetFree.of_bodySF (plainFor_of_name pn_21) hisR ?_
  intro p e s m args below meth c s₁ Bd hml0 hP hK
  obtain ⟨rfl, hZ, hh, J0⟩ := hP
  have hx := Bd.exec
  have hby := Bd.bytes
  have hml : c.maxLocals = 2 := hml0
  have hown : s.vm.findClass "java/lang/String" = some m.cls := findClass_of_methodNamed Bd.named
  have X0 : Stand p l e (rom 2 2 4 29) (s.setVm s.vm) m #[(.ref o0), (.ref o1)] below meth c s₁ [] 0 0 := by rw [State.setVm_self]; exact Stand.of_body Bd
  have hS0 : s.Since s.vm h0.size := (State.WarmedH.refl s).since _
  have kS0 : h0.size ≤ h0.size := Nat.le_refl _
  have hZ : Z.Warmed39 (s.setVm s.vm).vm := hZ
  have hown : (s.setVm s.vm).vm.findClass "java/lang/String" = some m.cls := hown
  have e0 : s₁.heap = h0 := by rw [← hh, Bd.state]; rfl
  have N0 := Fr.nil n0
  have K0 : Keep h0 h0 [o0] := Keep.refl _ _
  have pre0 : Go p e below s₁ _ (mkF m 0 #[.val (.ref o0), .val (.ref o1)] []) _ := fun t k => castTop (ef_21_0 m o0 o1) k
  have pre1 : Go p e below s₁ _ (mkF m 4 #[.val (.ref o0), .val (.ref o1)] [(.ref o1), (.int 0), (.ref o1), (.ref o0)]) _ := fun t k => pre0 t (by
    refine XS.aloadN X0.here hx rfl (hb hby d21_0) rfl rfl ?_
    refine XS.aloadN X0.here hx rfl (hb hby d21_1) rfl rfl ?_
    refine XS.iconst X0.here hx rfl (hb hby d21_2) ?_
    refine XS.aloadN X0.here hx rfl (hb hby d21_3) rfl rfl ?_
    exact k)
  obtain ⟨cl2, Ar2, -, Sz2, Mn2, Hs2, -⟩ := id I3
  have pre3 : Go p e below s₁ _ (mkF m 5 #[.val (.ref o0), .val (.ref o1)] [(.int 0), (.int 0), (.ref o1), (.ref o0)]) _ := fun t k => pre1 t (by
    show Steps p.tables e below (s₁.setTop (mkF m 4 #[.val (.ref o0), .val (.ref o1)] [(.ref o1), (.int 0), (.ref o1), (.ref o0)])) _
    refine X0.arraylength hx (by rw [e0]; exact Ar2.1) (State.isArrayOf_alike hZ.alike Ar2.2.1) (g := (mkF m 4 #[.val (.ref o0), .val (.ref o1)] [(.ref o1), (.int 0), (.ref o1), (.ref o0)])) rfl rfl (hb hby d21_4) _ ?_
    rw [len_of Sz2 Mn2]
    exact k)
  have pre4 : Go p e below s₁ _ (mkF m 6 #[.val (.ref o0), .val (.ref o1)] [.null, (.int 0), (.int 0), (.ref o1), (.ref o0)]) _ := fun t k => pre3 t (by
    refine XS.aconstNull X0.here hx rfl (hb hby d21_5) ?_
    exact k)
  obtain ⟨_, _, ⟨T5, L5, k5, n5⟩, -, X5, hSn5, hgn5, ⟨Lc5, hQ5, l5, y5, z5⟩, st5⟩ := X0.specialBackS hx (y := Nm_4) rfl hown (mvT hZ (wq hw 142 rfl)) (mvT hZ (wq hw 143 rfl)) (mvT hZ (wq hw 145 rfl)) (by decide) (own_backJ J0 (Wd := 0) (rm22_0 l Z a0 hw [] o0 o1 _ jb h0 n0 Z0 I0 I1 I2 I3 OX hjs hj_o0 gw_o0 ne_o1_o0 hcw hh7) hZ (wq hw 145 rfl) (wq hw 18 rfl) (by decide) (by decide)) (g := (mkF m 6 #[.val (.ref o0), .val (.ref o1)] [.null, (.int 0), (.int 0), (.ref o1), (.ref o0)])) rfl (by rw [hml]; rfl) (Steps.refl _) (a := o0) (argsL := [(.ref o1), (.int 0), (.int 0), .null]) (rest := []) (lenOf pd___CIILjava_lang_Void__V rfl) rfl (w00 rfl) (hb hby d21_6) (fun _ _ => ⟨rfl, e0, (by decide : 0 + 2 ≤ _), (by decide : 0 + 4 ≤ _)⟩)
  dsimp only [Pt.U, Pt.locs, Pt.cells, Pt.slots] at X5 l5 y5 z5 st5 hQ5 hSn5 hgn5
  subst l5 y5 z5
  obtain ⟨X5, hS5, hZ, hown⟩ := rebS hS0 (by rw [e0]; exact kS0) X5 hSn5 hgn5 hZ hown
  obtain ⟨hQ5, Jq5⟩ := hQ5
  obtain ⟨x6_0, k_lt9v_5, rfl, Nq5, Kq5, o5_0, o5_1, o5_2, o5_3⟩ := hQ5
  have N5 := Fr.app N0 Nq5
  have K5 : Keep h0 T5.heap [o0] := K0.trans Kq5 (allS (Or.inl (List.mem_of_getElem? (i := 0) rfl)) all0)
  have Z5 : n0 ≤ T5.heap.size := Nat.le_trans Z0 Kq5.1
  have x6 := I0.keep Kq5
  have x7 := I3.keep Kq5 (ninS ne_o1_o0 nin0)
  have pre8 := Go.trn pre4 st5
  obtain ⟨fs, hr, hrun, hended, hE⟩ := X5.leaveW hS5 (Nat.le_refl _) (v := none) (fun _ => rfl)
  refine ⟨_, _, ?_, hrun, hended, _, _, rfl, ?_, hE.1, hE.2.1, hE.2.2.1, hE.2.2.2.mono (by decide) (by decide)⟩
  · exact pre8 _ (X5.returnOut hx Bd.returns (hb hby d21_9) hr)
  · refine ⟨?_, ?_⟩
    · show Q21_0 Z o0 o1 kc jb h0 n0 _ T5.heap _
      skip
      exact ⟨x6_0, _, rfl, N5, K5, o5_0, o5_1, o5_2, o5_3⟩
    · show own_J "com/example/oncemark/oncemark/ReceiveQueueNeedsRefillPinLaw" Z T5.vm T5.heap T5.heap.size
      skip
      exact (Jq5.warm (s := s) X5.warmed).grow (Nat.le_refl _)
theorem d27_0 : decode jdk_52_method_15_code 0 = .ok (.iload_n 1, 1) := by decide +kernel
theorem d27_1 : decode jdk_52_method_15_code 1 = .ok (.aload_n 0, 1) := by decide +kernel
theorem d27_2 : decode jdk_52_method_15_code 2 = .ok (.arraylength, 1) := by decide +kernel
theorem d27_3 : decode jdk_52_method_15_code 3 = .ok (.isub, 1) := by decide +kernel
theorem d27_4 : decode jdk_52_method_15_code 4 = .ok (.bipush 31, 2) := by decide +kernel
theorem d27_6 : decode jdk_52_method_15_code 6 = .ok (.iushr, 1) := by decide +kernel
theorem d27_7 : decode jdk_52_method_15_code 7 = .ok (.i2b, 1) := by decide +kernel
theorem d27_8 : decode jdk_52_method_15_code 8 = .ok (.ireturn, 1) := by decide +kernel
theorem pn_27 : plainName "java/lang/StringUTF16" = true := by first | (simp [plainName, overriddenIn]; done) | decide +kernel
theorem ef_27_1 (m : MethodId) (x0 : Addr) : entryFrame m #[(.ref x0), (.int 1)] 2 = mkF m 0 #[.val (.ref x0), .val (.int 1)] [] := by first | (simp [entryFrame, mkF, argsToLocals, Value.category]; done) | rfl
def f27_1 : Int32 := (nar .byte ((0 : Int32).toInt8.toInt32))
set_option maxRecDepth 65536 in
set_option maxHeartbeats 40000000 in
theorem rm27_1 (l : Launch) (Z : State) (a0 : Array Value) (hw : ∀ d ∈ tables_1, d.before a0 Z = true) (ws : List Jvm.Cond) (o0 : Addr) (ka : ClassId) (u0 : Int32) (h0 : Heap) (n0 : Nat) (Z0 : n0 ≤ h0.size) (I0 : Arv Z h0 o0 ka .byte (1 : Int32) [(.int u0)] (.int 0)) :
    Met1 l Nm_6 (Jvm.Cond.code Nm_6 jdk_52_method_15_code 2 (some .byte)) ws (rom 0 0 0 0) #[(.ref o0), (.int 1)] Z h0 (QP (some (.int (f27_1))) h0 n0) := by
  refine MetFree.of_bodySF (plainFor_of_name pn_27) hisR ?_
  intro p e s m args below meth c s₁ Bd hml0 hP hK
  obtain ⟨rfl, hZ, hh⟩ := hP
  have hx := Bd.exec
  have hby := Bd.bytes
  have hml : c.maxLocals = 2 := hml0
  have hown : s.vm.findClass "java/lang/StringUTF16" = some m.cls := findClass_of_methodNamed Bd.named
  have X0 : Stand p l e (rom 0 0 0 0) s m _ _ _ _ _ [] 0 0 := Stand.of_body Bd
  have e0 : s₁.heap = h0 := by rw [← hh, Bd.state]; rfl
  have N0 := Fr.nil n0
  have K0 : Keep h0 h0 [] := Keep.refl _ _
  have pre0 : Go p e below s₁ _ (mkF m 0 #[.val (.ref o0), .val (.int 1)] []) _ := fun t k => castTop (ef_27_1 m o0) k
  have pre1 : Go p e below s₁ _ (mkF m 2 #[.val (.ref o0), .val (.int 1)] [(.ref o0), (.int 1)]) _ := fun t k => pre0 t (by
    refine XS.iloadN X0.here hx rfl (hb hby d27_0) rfl ?_
    refine XS.aloadN X0.here hx rfl (hb hby d27_1) rfl rfl ?_
    exact k)
  obtain ⟨cl2, Ar2, -, Sz2, Mn2, Hs2, -⟩ := id I0
  have pre3 : Go p e below s₁ _ (mkF m 3 #[.val (.ref o0), .val (.int 1)] [(.int 1), (.int 1)]) _ := fun t k => pre1 t (by
    show Steps p.tables e below (s₁.setTop (mkF m 2 #[.val (.ref o0), .val (.int 1)] [(.ref o0), (.int 1)])) _
    refine X0.arraylength hx (by rw [e0]; exact Ar2.1) (State.isArrayOf_alike hZ.alike Ar2.2.1) (g := (mkF m 2 #[.val (.ref o0), .val (.int 1)] [(.ref o0), (.int 1)])) rfl rfl (hb hby d27_2) _ ?_
    rw [len_of Sz2 Mn2]
    exact k)
  have pre4 : Go p e below s₁ _ (mkF m 8 #[.val (.ref o0), .val (.int 1)] [(.int ((0 : Int32).toInt8.toInt32))]) _ := fun t k => pre3 t (by
    refine XS.isub X0.here hx rfl (hb hby d27_3) rfl ?_
    refine XS.bipush X0.here hx rfl (hb hby d27_4) ?_
    refine XS.iushr X0.here hx rfl (hb hby d27_6) rfl ?_
    refine XS.i2b X0.here hx rfl (hb hby d27_7) rfl ?_
    exact k)
  obtain ⟨fs, hr, hrun, hended, hW, hsame⟩ := X0.leave (v := some (.int (nar .byte ((0 : Int32).toInt8.toInt32)))) (fun h => by rw [Bd.returns] at h; cases h)
  refine ⟨_, _, ?_, hrun, hended, _, _, rfl, ?_, ⟨_, rfl⟩, hW, hsame.mono (by decide) (by decide)⟩
  · exact pre4 _ (retN X0 hx (t := .byte) Bd.returns (by simp) (hb hby d27_8) hr)
  · exact ⟨by simp only [f27_1], N0, e0⟩
theorem d26_0 : decode jdk_52_method_21_code 0 = .ok (.iconst 0, 1) := by decide +kernel
theorem d26_1 : decode jdk_52_method_21_code 1 = .ok (.istore 5, 2) := by decide +kernel
theorem d26_3 : decode jdk_52_method_21_code 3 = .ok (.iload 5, 2) := by decide +kernel
theorem d26_5 : decode jdk_52_method_21_code 5 = .ok (.iload 4, 2) := by decide +kernel
theorem d26_7 : decode jdk_52_method_21_code 7 = .ok (.if_icmp .ge 37, 3) := by decide +kernel
theorem d26_10 : decode jdk_52_method_21_code 10 = .ok (.aload_n 0, 1) := by decide +kernel
theorem d26_11 : decode jdk_52_method_21_code 11 = .ok (.iload_n 1, 1) := by decide +kernel
theorem d26_12 : decode jdk_52_method_21_code 12 = .ok (.caload, 1) := by decide +kernel
theorem d26_13 : decode jdk_52_method_21_code 13 = .ok (.istore 6, 2) := by decide +kernel
theorem d26_15 : decode jdk_52_method_21_code 15 = .ok (.iload 6, 2) := by decide +kernel
theorem d26_17 : decode jdk_52_method_21_code 17 = .ok (.sipush 255, 3) := by decide +kernel
theorem d26_20 : decode jdk_52_method_21_code 20 = .ok (.if_icmp .le 6, 3) := by decide +kernel
theorem d26_26 : decode jdk_52_method_21_code 26 = .ok (.aload_n 2, 1) := by decide +kernel
theorem d26_27 : decode jdk_52_method_21_code 27 = .ok (.iload_n 3, 1) := by decide +kernel
theorem d26_28 : decode jdk_52_method_21_code 28 = .ok (.iload 6, 2) := by decide +kernel
theorem d26_30 : decode jdk_52_method_21_code 30 = .ok (.i2b, 1) := by decide +kernel
theorem d26_31 : decode jdk_52_method_21_code 31 = .ok (.bastore, 1) := by decide +kernel
theorem d26_32 : decode jdk_52_method_21_code 32 = .ok (.iinc 1 1, 3) := by decide +kernel
theorem d26_35 : decode jdk_52_method_21_code 35 = .ok (.iinc 3 1, 3) := by decide +kernel
theorem d26_38 : decode jdk_52_method_21_code 38 = .ok (.iinc 5 1, 3) := by decide +kernel
theorem d26_41 : decode jdk_52_method_21_code 41 = .ok (.goto (-38), 3) := by decide +kernel
theorem d26_44 : decode jdk_52_method_21_code 44 = .ok (.iload 4, 2) := by decide +kernel
theorem d26_46 : decode jdk_52_method_21_code 46 = .ok (.ireturn, 1) := by decide +kernel
theorem pn_26 : plainName "java/lang/StringUTF16" = true := by first | (simp [plainName, overriddenIn]; done) | decide +kernel
theorem ef_26_1 (m : MethodId) (x0 : Addr) (x2 : Addr) : entryFrame m #[(.ref x0), (.int 0), (.ref x2), (.int 0), (.int 1)] 7 = mkF m 0 #[.val (.ref x0), .val (.int 0), .val (.ref x2), .val (.int 0), .val (.int 1), .unset, .unset] [] := by first | (simp [entryFrame, mkF, argsToLocals, Value.category]; done) | rfl
def f26_1 : Int32 := (1 : Int32)
def Q26_1 (Z : State) (o0 : Addr) (o2 : Addr) (kc : ClassId) (w0 : Int32) (kb : ClassId) (h0 : Heap) (n0 : Nat) (v : Option Value) (h : Heap) (L : List Loc) : Prop := v = (some (.int (f26_1))) ∧ Fr n0 L ∧ Keep h0 h [o2] ∧ Arv Z h o2 kb .byte (1 : Int32) [(.int ((w0.toInt8.toInt32).toInt8.toInt32))] (.int 0)
set_option maxRecDepth 65536 in
set_option maxHeartbeats 40000000 in
theorem rm26_1 (l : Launch) (Z : State) (a0 : Array Value) (hw : ∀ d ∈ tables_1, d.before a0 Z = true) (ws : List Jvm.Cond) (o0 : Addr) (o2 : Addr) (kc : ClassId) (w0 : Int32) (kb : ClassId) (h0 : Heap) (n0 : Nat) (Z0 : n0 ≤ h0.size) (I0 : Arv Z h0 o0 kc .char (1 : Int32) [(.int w0)] (.int 0)) (I1 : Arv Z h0 o2 kb .byte (1 : Int32) [(.int 0)] (.int 0)) (gw_o2 : n0 ≤ o2) (ne_o0_o2 : o0 ≠ o2) (hl0 : ¬ ((255 : Int32) < w0)) :
    Met1 l Nm_7 (Jvm.Cond.code Nm_7 jdk_52_method_21_code 7 (some .int)) ws (rom 0 0 0 0) #[(.ref o0), (.int 0), (.ref o2), (.int 0), (.int 1)] Z h0 (Q26_1 Z o0 o2 kc w0 kb h0 n0) := by
  refine MetFree.of_bodySF (plainFor_of_name pn_26) hisR ?_
  intro p e s m args below meth c s₁ Bd hml0 hP hK
  obtain ⟨rfl, hZ, hh⟩ := hP
  have hx := Bd.exec
  have hby := Bd.bytes
  have hml : c.maxLocals = 7 := hml0
  have hown : s.vm.findClass "java/lang/StringUTF16" = some m.cls := findClass_of_methodNamed Bd.named
  have X0 : Stand p l e (rom 0 0 0 0) s m _ _ _ _ _ [] 0 0 := Stand.of_body Bd
  have e0 : s₁.heap = h0 := by rw [← hh, Bd.state]; rfl
  have N0 := Fr.nil n0
  have K0 : Keep h0 h0 [o2] := Keep.refl _ _
  have pre0 : Go p e below s₁ _ (mkF m 0 #[.val (.ref o0), .val (.int 0), .val (.ref o2), .val (.int 0), .val (.int 1), .unset, .unset] []) _ := fun t k => castTop (ef_26_1 m o0 o2) k
  have pre1 : Go p e below s₁ _ (mkF m 12 #[.val (.ref o0), .val (.int 0), .val (.ref o2), .val (.int 0), .val (.int 1), .val (.int 0), .unset] [(.int 0), (.ref o0)]) _ := fun t k => pre0 t (by
    refine XS.iconst X0.here hx rfl (hb hby d26_0) ?_
    refine XS.istore X0.here hx rfl (hb hby d26_1) rfl (l' := #[.val (.ref o0), .val (.int 0), .val (.ref o2), .val (.int 0), .val (.int 1), .val (.int 0), .unset]) rfl ?_
    refine XS.iload X0.here hx rfl (hb hby d26_3) rfl ?_
    refine XS.iload X0.here hx rfl (hb hby d26_5) rfl ?_
    refine XS.icmpNo X0.here hx rfl (hb hby d26_7) rfl (by decide) ?_
    refine XS.aloadN X0.here hx rfl (hb hby d26_10) rfl rfl ?_
    refine XS.iloadN X0.here hx rfl (hb hby d26_11) rfl ?_
    exact k)
  obtain ⟨cl2, Ar2, -, Sz2, Mn2, Hs2, -⟩ := id I0
  have hin2 : ¬ ((0 : Int32) < 0 ∨ cl2.slots.size ≤ ((0 : Int32)).toNatClampNeg) := inb_of Sz2 ⟨by decide, by decide⟩
  have hat2 : cl2.slots[((0 : Int32)).toNatClampNeg]? = some (.int w0) := Hs2.at hin2 rfl
  have pre3 : Go p e below s₁ _ (mkF m 13 #[.val (.ref o0), .val (.int 0), .val (.ref o2), .val (.int 0), .val (.int 1), .val (.int 0), .unset] [(.int w0)]) _ := fun t k => pre1 t (by
    show Steps p.tables e below (s₁.setTop (mkF m 12 #[.val (.ref o0), .val (.int 0), .val (.ref o2), .val (.int 0), .val (.int 1), .val (.int 0), .unset] [(.int 0), (.ref o0)])) _
    refine X0.caload hx (j := (0 : Int32)) (v := (.int w0)) (by rw [e0]; exact Ar2.1) (State.isArrayOf_alike hZ.alike Ar2.2.1) Ar2.2.2 hin2 hat2 (g := (mkF m 12 #[.val (.ref o0), .val (.int 0), .val (.ref o2), .val (.int 0), .val (.int 1), .val (.int 0), .unset] [(.int 0), (.ref o0)])) rfl rfl (hb hby d26_12) _ ?_
    exact k)
  have pre4 : Go p e below s₁ _ (mkF m 31 #[.val (.ref o0), .val (.int 0), .val (.ref o2), .val (.int 0), .val (.int 1), .val (.int 0), .val (.int w0)] [(.int (w0.toInt8.toInt32)), (.int 0), (.ref o2)]) _ := fun t k => pre3 t (by
    refine XS.istore X0.here hx rfl (hb hby d26_13) rfl (l' := #[.val (.ref o0), .val (.int 0), .val (.ref o2), .val (.int 0), .val (.int 1), .val (.int 0), .val (.int w0)]) rfl ?_
    refine XS.iload X0.here hx rfl (hb hby d26_15) rfl ?_
    refine XS.sipush X0.here hx rfl (hb hby d26_17) ?_
    refine XS.icmpYes X0.here hx rfl (pc0 := 20) (pc' := 26) rfl (hb hby d26_20) rfl (flt hl0).2.2.2 (by decide) (by decide) ?_
    refine XS.aloadN X0.here hx rfl (hb hby d26_26) rfl rfl ?_
    refine XS.iloadN X0.here hx rfl (hb hby d26_27) rfl ?_
    refine XS.iload X0.here hx rfl (hb hby d26_28) rfl ?_
    refine XS.i2b X0.here hx rfl (hb hby d26_30) rfl ?_
    exact k)
  obtain ⟨cl5, Ar5, q5, Sz5, Mn5, Hs5, Gs5⟩ := id I1
  have hin5 : ¬ ((0 : Int32) < 0 ∨ cl5.slots.size ≤ ((0 : Int32)).toNatClampNeg) := inb_of Sz5 ⟨by decide, by decide⟩
  obtain ⟨T5, h5, X5, e5, W5, st5⟩ := stB X0 hx hZ e0 Ar5 (j := (0 : Int32)) hin5 (g := (mkF m 31 #[.val (.ref o0), .val (.int 0), .val (.ref o2), .val (.int 0), .val (.int 1), .val (.int 0), .val (.int w0)] [(.int (w0.toInt8.toInt32)), (.int 0), (.ref o2)])) rfl rfl (hb hby d26_31)
  have V5 : Arv Z h5 o2 kb .byte (1 : Int32) [(.int ((w0.toInt8.toInt32).toInt8.toInt32))] (.int 0) := Arv.set Ar5 q5 Sz5 Mn5 Hs5 Gs5 (fits_nar_byte _) W5 0 rfl (Nat.le_of_ble_eq_true rfl)
  have N5 := Fr.snoc X5 N0 gw_o2
  have K5 : Keep h0 h5 [o2] := K0.wr W5 (Or.inl (List.mem_of_getElem? (i := 0) rfl))
  have Z5 : n0 ≤ h5.size := Nat.le_trans Z0 (Keep.of_wr W5).1
  have x6 := I0.other W5 ne_o0_o2
  have pre7 := Go.thn pre4 st5
  have pre8 : Go p e below T5 _ (mkF m 46 #[.val (.ref o0), .val (.int 1), .val (.ref o2), .val (.int 1), .val (.int 1), .val (.int 1), .val (.int w0)] [(.int 1)]) _ := fun t k => pre7 t (by
    refine XS.iinc X5.here hx rfl (hb hby d26_32) rfl (l' := #[.val (.ref o0), .val (.int 1), .val (.ref o2), .val (.int 0), .val (.int 1), .val (.int 0), .val (.int w0)]) rfl ?_
    refine XS.iinc X5.here hx rfl (hb hby d26_35) rfl (l' := #[.val (.ref o0), .val (.int 1), .val (.ref o2), .val (.int 1), .val (.int 1), .val (.int 0), .val (.int w0)]) rfl ?_
    refine XS.iinc X5.here hx rfl (hb hby d26_38) rfl (l' := #[.val (.ref o0), .val (.int 1), .val (.ref o2), .val (.int 1), .val (.int 1), .val (.int 1), .val (.int w0)]) rfl ?_
    refine XS.goto X5.here hx rfl (pc0 := 41) (pc' := 3) rfl (hb hby d26_41) (by decide) (by decide) ?_
    refine XS.iload X5.here hx rfl (hb hby d26_3) rfl ?_
    refine XS.iload X5.here hx rfl (hb hby d26_5) rfl ?_
    refine XS.icmpYes X5.here hx rfl (pc0 := 7) (pc' := 44) rfl (hb hby d26_7) rfl (by decide) (by decide) (by decide) ?_
    refine XS.iload X5.here hx rfl (hb hby d26_44) rfl ?_
    exact k)
  obtain ⟨fs, hr, hrun, hended, hW, hsame⟩ := X5.leave (v := some (.int 1)) (fun h => by rw [Bd.returns] at h; cases h)
  refine ⟨_, _, ?_, hrun, hended, _, _, rfl, ?_, ⟨_, rfl⟩, hW, hsame.mono (by decide) (by decide)⟩
  · exact pre8 _ (retI X5 hx Bd.returns (hb hby d26_46) hr)
  · show Q26_1 Z o0 o2 kc w0 kb h0 n0 _ T5.heap _
    rw [e5]
    exact ⟨by simp only [f26_1], N5, K5, V5⟩
theorem d25_0 : decode jdk_52_method_16_code 0 = .ok (.iload_n 2, 1) := by decide +kernel
theorem d25_1 : decode jdk_52_method_16_code 1 = .ok (.newarray .byte, 2) := by decide +kernel
theorem d25_3 : decode jdk_52_method_16_code 3 = .ok (.astore_n 3, 1) := by decide +kernel
theorem d25_4 : decode jdk_52_method_16_code 4 = .ok (.aload_n 0, 1) := by decide +kernel
theorem d25_5 : decode jdk_52_method_16_code 5 = .ok (.iload_n 1, 1) := by decide +kernel
theorem d25_6 : decode jdk_52_method_16_code 6 = .ok (.aload_n 3, 1) := by decide +kernel
theorem d25_7 : decode jdk_52_method_16_code 7 = .ok (.iconst 0, 1) := by decide +kernel
theorem d25_8 : decode jdk_52_method_16_code 8 = .ok (.iload_n 2, 1) := by decide +kernel
theorem d25_9 : decode jdk_52_method_16_code 9 = .ok (.invokestatic 115, 3) := by decide +kernel
theorem d25_12 : decode jdk_52_method_16_code 12 = .ok (.istore 4, 2) := by decide +kernel
theorem d25_14 : decode jdk_52_method_16_code 14 = .ok (.iload 4, 2) := by decide +kernel
theorem d25_16 : decode jdk_52_method_16_code 16 = .ok (.iload_n 2, 1) := by decide +kernel
theorem d25_17 : decode jdk_52_method_16_code 17 = .ok (.if_icmp .eq 40, 3) := by decide +kernel
theorem d25_57 : decode jdk_52_method_16_code 57 = .ok (.aload_n 3, 1) := by decide +kernel
theorem d25_58 : decode jdk_52_method_16_code 58 = .ok (.areturn, 1) := by decide +kernel
theorem pn_25 : plainName "java/lang/StringUTF16" = true := by first | (simp [plainName, overriddenIn]; done) | decide +kernel
theorem pd___CI_BII_I : parseMethodDescriptor "([CI[BII)I" = some ⟨[(.array .char), .int, (.array .byte), .int, .int], some .int⟩ := by decide +kernel
theorem ef_25_1 (m : MethodId) (x0 : Addr) : entryFrame m #[(.ref x0), (.int 0), (.int 1)] 6 = mkF m 0 #[.val (.ref x0), .val (.int 0), .val (.int 1), .unset, .unset, .unset] [] := by first | (simp [entryFrame, mkF, argsToLocals, Value.category]; done) | rfl
def Q25_1 (Z : State) (o0 : Addr) (kc : ClassId) (w0 : Int32) (h0 : Heap) (n0 : Nat) (v : Option Value) (h : Heap) (L : List Loc) : Prop := ∃ (b1 : Addr) (k_b1 : ClassId), v = (some (.ref b1)) ∧ Fr n0 L ∧ Keep h0 h [] ∧ h0.size ≤ b1 ∧ Arv Z h b1 k_b1 .byte (1 : Int32) [(.int ((w0.toInt8.toInt32).toInt8.toInt32))] (.int 0)
set_option maxRecDepth 65536 in
set_option maxHeartbeats 40000000 in
theorem rm25_1 (l : Launch) (Z : State) (a0 : Array Value) (hw : ∀ d ∈ tables_1, d.before a0 Z = true) (ws : List Jvm.Cond) (o0 : Addr) (kc : ClassId) (w0 : Int32) (h0 : Heap) (n0 : Nat) (Z0 : n0 ≤ h0.size) (I0 : Arv Z h0 o0 kc .char (1 : Int32) [(.int w0)] (.int 0)) (hl0 : ¬ ((255 : Int32) < w0)) :
    Met1 l Nm_8 (Jvm.Cond.code Nm_8 jdk_52_method_16_code 6 (some (.array .byte))) ws (rom 1 1 1 18) #[(.ref o0), (.int 0), (.int 1)] Z h0 (Q25_1 Z o0 kc w0 h0 n0) := by
  refine MetFree.of_bodySF (plainFor_of_name pn_25) hisR ?_
  intro p e s m args below meth c s₁ Bd hml0 hP hK
  obtain ⟨rfl, hZ, hh⟩ := hP
  have hx := Bd.exec
  have hby := Bd.bytes
  have hml : c.maxLocals = 6 := hml0
  have hown : s.vm.findClass "java/lang/StringUTF16" = some m.cls := findClass_of_methodNamed Bd.named
  have X0 : Stand p l e (rom 1 1 1 18) s m _ _ _ _ _ [] 0 0 := Stand.of_body Bd
  have e0 : s₁.heap = h0 := by rw [← hh, Bd.state]; rfl
  have N0 := Fr.nil n0
  have K0 : Keep h0 h0 [] := Keep.refl _ _
  have pre0 : Go p e below s₁ _ (mkF m 0 #[.val (.ref o0), .val (.int 0), .val (.int 1), .unset, .unset, .unset] []) _ := fun t k => castTop (ef_25_1 m o0) k
  have pre1 : Go p e below s₁ _ (mkF m 1 #[.val (.ref o0), .val (.int 0), .val (.int 1), .unset, .unset, .unset] [(.int 1)]) _ := fun t k => pre0 t (by
    refine XS.iloadN X0.here hx rfl (hb hby d25_0) rfl ?_
    exact k)
  obtain ⟨T2, h2, k2, X2, e2, E2, A2, st2⟩ := newP X0 hx hZ (wq hw 13 rfl) e0 (g := (mkF m 1 #[.val (.ref o0), .val (.int 0), .val (.int 1), .unset, .unset, .unset] [(.int 1)])) rfl (hb hby d25_1) rfl (by decide) (cap := 1) (by decide) (by decide) (by decide) (by decide)
  obtain ⟨b1, g2⟩ : ∃ z, z = h0.size := ⟨_, rfl⟩
  rw [← g2] at A2 st2
  have gg2 : n0 ≤ b1 := Nat.le_trans Z0 (Nat.le_of_eq g2.symm)
  have sz2 : h0.size ≤ b1 := Nat.le_trans K0.1 (Nat.le_of_eq g2.symm)
  have K2 : Keep h0 h2 [] := K0.ext E2
  have Z2 : n0 ≤ h2.size := Nat.le_trans Z0 E2.1
  have V2 : Arv Z h2 b1 k2 .byte (1 : Int32) [(.int 0)] (.int 0) := (Arv.new A2 (by decide)).pad (pad_rep [] (.int 0) 1)
  have ne2_o0 : o0 ≠ b1 := Nat.ne_of_lt (Nat.lt_of_lt_of_le I0.lt (Nat.le_of_eq g2.symm))
  have x3 := I0.ext E2
  have pre4 := Go.thn pre1 st2
  have pre5 : Go p e below T2 _ (mkF m 9 #[.val (.ref o0), .val (.int 0), .val (.int 1), .val (.ref b1), .unset, .unset] [(.int 1), (.int 0), (.ref b1), (.int 0), (.ref o0)]) _ := fun t k => pre4 t (by
    refine XS.astoreN X2.here hx rfl (hb hby d25_3) rfl rfl (l' := #[.val (.ref o0), .val (.int 0), .val (.int 1), .val (.ref b1), .unset, .unset]) rfl ?_
    refine XS.aloadN X2.here hx rfl (hb hby d25_4) rfl rfl ?_
    refine XS.iloadN X2.here hx rfl (hb hby d25_5) rfl ?_
    refine XS.aloadN X2.here hx rfl (hb hby d25_6) rfl rfl ?_
    refine XS.iconst X2.here hx rfl (hb hby d25_7) ?_
    refine XS.iloadN X2.here hx rfl (hb hby d25_8) rfl ?_
    exact k)
  obtain ⟨_, _, ⟨T6, L6, k6, n6⟩, -, X6, ⟨Lc6, hQ6, l6, y6, z6⟩, st6⟩ := Jvm.LawKit.callS X2 hx (y := Nm_7) hown (mvT hZ (wq hw 166 rfl)) (mvT hZ (wq hw 167 rfl)) (mvT hZ (wq hw 164 rfl)) (mvT hZ (wq hw 168 rfl)) (by decide) (backOf (W := 0) (rm26_1 l Z a0 hw [] o0 b1 _ w0 _ h2 n0 Z2 x3 V2 gg2 ne2_o0 hl0) hZ (wq hw 168 rfl) (wq hw 164 rfl) (by decide) (by decide)) (g := (mkF m 9 #[.val (.ref o0), .val (.int 0), .val (.int 1), .val (.ref b1), .unset, .unset] [(.int 1), (.int 0), (.ref b1), (.int 0), (.ref o0)])) rfl (by rw [hml]; rfl) (argsL := [(.ref o0), (.int 0), (.ref b1), (.int 0), (.int 1)]) (rest := []) (lenOf pd___CI_BII_I rfl) rfl (w00 rfl) (hb hby d25_9) (fun _ _ => ⟨rfl, e2, (by decide : 1 + 0 ≤ _), (by decide : 1 + 0 ≤ _)⟩)
  dsimp only [Pt.U, Pt.locs, Pt.cells, Pt.slots] at X6 l6 y6 z6 st6 hQ6
  subst l6 y6 z6
  obtain ⟨rfl, Nq6, Kq6, o6_0⟩ := hQ6
  have N6 := Fr.app N0 Nq6
  have K6 : Keep h0 T6.heap [] := K2.trans Kq6 (allS (Or.inr sz2) all0)
  have Z6 : n0 ≤ T6.heap.size := Nat.le_trans Z2 Kq6.1
  have x7 := x3.keep Kq6 (ninS ne2_o0 nin0)
  have pre8 := Go.thn pre5 st6
  have pre9 : Go p e below T6 _ (mkF m 58 #[.val (.ref o0), .val (.int 0), .val (.int 1), .val (.ref b1), .val (.int 1), .unset] [(.ref b1)]) _ := fun t k => pre8 t (by
    show Steps p.tables e below (T6.setTop (mkF m 12 #[.val (.ref o0), .val (.int 0), .val (.int 1), .val (.ref b1), .unset, .unset] [(.int (f26_1))])) _
    rw [show f26_1 = (1 : Int32) from rfl]
    refine XS.istore X6.here hx rfl (hb hby d25_12) rfl (l' := #[.val (.ref o0), .val (.int 0), .val (.int 1), .val (.ref b1), .val (.int 1), .unset]) rfl ?_
    refine XS.iload X6.here hx rfl (hb hby d25_14) rfl ?_
    refine XS.iloadN X6.here hx rfl (hb hby d25_16) rfl ?_
    refine XS.icmpYes X6.here hx rfl (pc0 := 17) (pc' := 57) rfl (hb hby d25_17) rfl (by decide) (by decide) (by decide) ?_
    refine XS.aloadN X6.here hx rfl (hb hby d25_57) rfl rfl ?_
    exact k)
  obtain ⟨fs, hr, hrun, hended, hW, hsame⟩ := X6.leave (v := some (.ref b1)) (fun h => by rw [Bd.returns] at h; cases h)
  refine ⟨_, _, ?_, hrun, hended, _, _, rfl, ?_, ⟨_, rfl⟩, hW, hsame.mono (by decide) (by decide)⟩
  · refine pre9 _ ?_
    jvm_step X6.here [X6.here.top, hx, (hb hby d25_58), X6.method', Bd.returns, Value.isRef, FieldType.isReference]
    first | (intro acts; rw [hr _ acts rfl rfl rfl]) | rw [hr _ _ rfl rfl rfl]
    exact Steps.refl _
  · show Q25_1 Z o0 kc w0 h0 n0 _ T6.heap _
    skip
    exact ⟨b1, _, rfl, N6, K6, sz2, o6_0⟩
theorem d22_27 : decode jdk_42_method_149_code 27 = .ok (.getstatic 38, 3) := by decide +kernel
theorem d22_30 : decode jdk_42_method_149_code 30 = .ok (.ifCond .eq 28, 3) := by decide +kernel
theorem d22_33 : decode jdk_42_method_149_code 33 = .ok (.aload_n 1, 1) := by decide +kernel
theorem d22_34 : decode jdk_42_method_149_code 34 = .ok (.iload_n 2, 1) := by decide +kernel
theorem d22_35 : decode jdk_42_method_149_code 35 = .ok (.iload_n 3, 1) := by decide +kernel
theorem d22_36 : decode jdk_42_method_149_code 36 = .ok (.invokestatic 177, 3) := by decide +kernel
theorem d22_39 : decode jdk_42_method_149_code 39 = .ok (.astore 5, 2) := by decide +kernel
theorem d22_41 : decode jdk_42_method_149_code 41 = .ok (.aload_n 0, 1) := by decide +kernel
theorem d22_42 : decode jdk_42_method_149_code 42 = .ok (.aload 5, 2) := by decide +kernel
theorem d22_44 : decode jdk_42_method_149_code 44 = .ok (.iload_n 3, 1) := by decide +kernel
theorem d22_45 : decode jdk_42_method_149_code 45 = .ok (.invokestatic 47, 3) := by decide +kernel
theorem d22_48 : decode jdk_42_method_149_code 48 = .ok (.putfield 15, 3) := by decide +kernel
theorem d22_51 : decode jdk_42_method_149_code 51 = .ok (.aload_n 0, 1) := by decide +kernel
theorem d22_52 : decode jdk_42_method_149_code 52 = .ok (.aload 5, 2) := by decide +kernel
theorem d22_54 : decode jdk_42_method_149_code 54 = .ok (.putfield 9, 3) := by decide +kernel
theorem d22_57 : decode jdk_42_method_149_code 57 = .ok (.return_, 1) := by decide +kernel
theorem pd___CII__B : parseMethodDescriptor "([CII)[B" = some ⟨[(.array .char), .int, .int], some (.array .byte)⟩ := by decide +kernel
theorem pd___BI_B : parseMethodDescriptor "([BI)B" = some ⟨[(.array .byte), .int], some .byte⟩ := by decide +kernel
theorem ef_22_1 (m : MethodId) (x0 : Addr) (x1 : Addr) : entryFrame m #[(.ref x0), (.ref x1), (.int 0), (.int 1), .null] 6 = mkF m 0 #[.val (.ref x0), .val (.ref x1), .val (.int 0), .val (.int 1), .val .null, .unset] [] := by first | (simp [entryFrame, mkF, argsToLocals, Value.category]; done) | rfl
def Q22_1 (Z : State) (o0 : Addr) (o1 : Addr) (wcs : Int32) (kc : ClassId) (w0 : Int32) (h0 : Heap) (n0 : Nat) (v : Option Value) (h : Heap) (L : List Loc) : Prop := ∃ (b36_0 : Addr) (k_b36_0 : ClassId), v = none ∧ Fr n0 L ∧ Keep h0 h [o0] ∧ h0.size ≤ b36_0 ∧ Exa Z h o0 "java/lang/String" ∧ Fld Z h o0 "java/lang/String" "value" "[B" (.ref b36_0) ∧ Fld Z h o0 "java/lang/String" "coder" "B" (.int 0) ∧ Arv Z h b36_0 k_b36_0 .byte (1 : Int32) [(.int ((w0.toInt8.toInt32).toInt8.toInt32))] (.int 0)
set_option maxRecDepth 65536 in
set_option maxHeartbeats 40000000 in
theorem rm22_1 (l : Launch) (Z : State) (a0 : Array Value) (hw : ∀ d ∈ tables_1, d.before a0 Z = true) (ws : List Jvm.Cond) (o0 : Addr) (o1 : Addr) (wcs : Int32) (kc : ClassId) (w0 : Int32) (h0 : Heap) (n0 : Nat) (Z0 : n0 ≤ h0.size) (I0 : Sta Z h0 "java/lang/String" "COMPACT_STRINGS" "Z" (.int wcs)) (I1 : Exa Z h0 o0 "java/lang/String") (I2 : Fld Z h0 o0 "java/lang/String" "value" "[B" .null) (I3 : Fld Z h0 o0 "java/lang/String" "coder" "B" (.int 0)) (I4 : Arv Z h0 o1 kc .char (1 : Int32) [(.int w0)] (.int 0)) (gw_o0 : n0 ≤ o0) (ne_o1_o0 : o1 ≠ o0) (hcs : ¬ (wcs = (0 : Int32))) (hl0 : ¬ ((255 : Int32) < w0)) :
    Met1 l Nm_4 (Jvm.Cond.code Nm_4 jdk_42_method_149_code 6 none) ws (rom 2 1 1 35) #[(.ref o0), (.ref o1), (.int 0), (.int 1), .null] Z h0 (Q22_1 Z o0 o1 wcs kc w0 h0 n0) := by
  refine MetFree.of_bodySF (plainFor_of_name pn_22) hisR ?_
  intro p e s m args below meth c s₁ Bd hml0 hP hK
  obtain ⟨rfl, hZ, hh⟩ := hP
  have hx := Bd.exec
  have hby := Bd.bytes
  have hml : c.maxLocals = 6 := hml0
  have hown : s.vm.findClass "java/lang/String" = some m.cls := findClass_of_methodNamed Bd.named
  have hnm := (name_of_methodNamed Bd.named Bd.method).1
  have X0 : Stand p l e (rom 2 1 1 35) s m _ _ _ _ _ [] 0 0 := Stand.of_body Bd
  have e0 : s₁.heap = h0 := by rw [← hh, Bd.state]; rfl
  have N0 := Fr.nil n0
  have K0 : Keep h0 h0 [o0] := Keep.refl _ _
  have pre0 : Go p e below s₁ _ (mkF m 0 #[.val (.ref o0), .val (.ref o1), .val (.int 0), .val (.int 1), .val .null, .unset] []) _ := fun t k => castTop (ef_22_1 m o0 o1) k
  have pre1 : Go p e below s₁ _ (mkF m 1 #[.val (.ref o0), .val (.ref o1), .val (.int 0), .val (.int 1), .val .null, .unset] [(.ref o0)]) _ := fun t k => pre0 t (by
    refine XS.aloadN X0.here hx rfl (hb hby d22_0) rfl rfl ?_
    exact k)
  obtain ⟨T2, X2, e2, st2⟩ := initO X0 hx hZ hown (wq hw 146 rfl) (wq hw 33 rfl) (wq hw 34 rfl) e0 (g := (mkF m 1 #[.val (.ref o0), .val (.ref o1), .val (.int 0), .val (.int 1), .val .null, .unset] [(.ref o0)])) rfl (by rw [hml]; rfl) rfl (hb hby d22_1) (by decide) (W := 0) (w00 rfl) (by decide)
  have pre3 := Go.thn pre1 st2
  have pre4 : Go p e below T2 _ (mkF m 27 #[.val (.ref o0), .val (.ref o1), .val (.int 0), .val (.int 1), .val .null, .unset] []) _ := fun t k => pre3 t (by
    refine XS.iloadN X2.here hx rfl (hb hby d22_4) rfl ?_
    refine XS.ifYes X2.here hx rfl (pc0 := 5) (pc' := 27) rfl (hb hby d22_5) rfl (by decide) (by decide) (by decide) ?_
    exact k)
  obtain ⟨T5, X5, e5, st5⟩ := getS2 X2 hx hZ hown (host := "") (Or.inl (wq hw 160 rfl)) Via.refl e2 I0 (g := (mkF m 27 #[.val (.ref o0), .val (.ref o1), .val (.int 0), .val (.int 1), .val .null, .unset] [])) rfl (hb hby d22_27)
  have pre6 := Go.thn pre4 st5
  have pre7 : Go p e below T5 _ (mkF m 36 #[.val (.ref o0), .val (.ref o1), .val (.int 0), .val (.int 1), .val .null, .unset] [(.int 1), (.int 0), (.ref o1)]) _ := fun t k => pre6 t (by
    refine XS.ifNo X5.here hx rfl (hb hby d22_30) rfl ((if0 _ _).trans (feq hcs).1) ?_
    refine XS.aloadN X5.here hx rfl (hb hby d22_33) rfl rfl ?_
    refine XS.iloadN X5.here hx rfl (hb hby d22_34) rfl ?_
    refine XS.iloadN X5.here hx rfl (hb hby d22_35) rfl ?_
    exact k)
  obtain ⟨_, _, ⟨T8, L8, k8, n8⟩, -, X8, ⟨Lc8, hQ8, l8, y8, z8⟩, st8⟩ := Jvm.LawKit.callS X5 hx (y := Nm_8) hown (mvT hZ (wq hw 162 rfl)) (mvT hZ (wq hw 163 rfl)) (mvT hZ (wq hw 164 rfl)) (mvT hZ (wq hw 165 rfl)) (by decide) (backOf (W := 0) (rm25_1 l Z a0 hw [] o1 _ w0 h0 n0 Z0 I4 hl0) hZ (wq hw 165 rfl) (wq hw 164 rfl) (by decide) (by decide)) (g := (mkF m 36 #[.val (.ref o0), .val (.ref o1), .val (.int 0), .val (.int 1), .val .null, .unset] [(.int 1), (.int 0), (.ref o1)])) rfl (by rw [hml]; rfl) (argsL := [(.ref o1), (.int 0), (.int 1)]) (rest := []) (lenOf pd___CII__B rfl) rfl (w00 rfl) (hb hby d22_36) (fun _ _ => ⟨rfl, e5, (by decide : 0 + 1 ≤ _), (by decide : 0 + 1 ≤ _)⟩)
  dsimp only [Pt.U, Pt.locs, Pt.cells, Pt.slots] at X8 l8 y8 z8 st8 hQ8
  subst l8 y8 z8
  obtain ⟨b36_0, k_b1_8, rfl, Nq8, Kq8, gz8_b36_0, o8_0⟩ := hQ8
  have N8 := Fr.app N0 Nq8
  have K8 : Keep h0 T8.heap [o0] := K0.trans Kq8 all0
  have Z8 : n0 ≤ T8.heap.size := Nat.le_trans Z0 Kq8.1
  have x9 := own_staK I0 Kq8 all0
  have x10 := I1.keep Kq8
  have x11 := I2.keep Kq8 nin0
  have x12 := I3.keep Kq8 nin0
  have x13 := I4.keep Kq8 nin0
  have gg8_b36_0 : n0 ≤ b36_0 := Nat.le_trans Z0 gz8_b36_0
  have sz8_b36_0 : h0.size ≤ b36_0 := Nat.le_trans K0.1 gz8_b36_0
  have ne8_o0_b36_0 : o0 ≠ b36_0 := Nat.ne_of_lt (Nat.lt_of_lt_of_le I1.lt gz8_b36_0)
  have ne8_o1_b36_0 : o1 ≠ b36_0 := Nat.ne_of_lt (Nat.lt_of_lt_of_le I4.lt gz8_b36_0)
  have pre14 := Go.thn pre7 st8
  have pre15 : Go p e below T8 _ (mkF m 45 #[.val (.ref o0), .val (.ref o1), .val (.int 0), .val (.int 1), .val .null, .val (.ref b36_0)] [(.int 1), (.ref b36_0), (.ref o0)]) _ := fun t k => pre14 t (by
    refine XS.astore X8.here hx rfl (hb hby d22_39) rfl rfl (l' := #[.val (.ref o0), .val (.ref o1), .val (.int 0), .val (.int 1), .val .null, .val (.ref b36_0)]) rfl ?_
    refine XS.aloadN X8.here hx rfl (hb hby d22_41) rfl rfl ?_
    refine XS.aload X8.here hx rfl (hb hby d22_42) rfl rfl ?_
    refine XS.iloadN X8.here hx rfl (hb hby d22_44) rfl ?_
    exact k)
  obtain ⟨_, _, ⟨T16, L16, k16, n16⟩, -, X16, ⟨Lc16, hQ16, l16, y16, z16⟩, st16⟩ := Jvm.LawKit.callS X8 hx (y := Nm_6) hown (mvT hZ (wq hw 169 rfl)) (mvT hZ (wq hw 170 rfl)) (mvT hZ (wq hw 164 rfl)) (mvT hZ (wq hw 171 rfl)) (by decide) (backOf (W := 1) (rm27_1 l Z a0 hw [] b36_0 _ ((w0.toInt8.toInt32).toInt8.toInt32) T8.heap n0 Z8 o8_0) hZ (wq hw 171 rfl) (wq hw 164 rfl) (by decide) (by decide)) (g := (mkF m 45 #[.val (.ref o0), .val (.ref o1), .val (.int 0), .val (.int 1), .val .null, .val (.ref b36_0)] [(.int 1), (.ref b36_0), (.ref o0)])) rfl (by rw [hml]; rfl) (argsL := [(.ref b36_0), (.int 1)]) (rest := [(.ref o0)]) (lenOf pd___BI_B rfl) rfl (w00 rfl) (hb hby d22_45) (fun _ _ => ⟨rfl, rfl, (by decide : 1 + 0 ≤ _), (by decide : 1 + 0 ≤ _)⟩)
  dsimp only [Pt.U, Pt.locs, Pt.cells, Pt.slots] at X16 l16 y16 z16 st16 hQ16
  subst l16 y16 z16
  obtain ⟨rfl, Nq16, e16⟩ := hQ16
  have N16 := Fr.app N8 Nq16
  have pre17 := Go.thn pre15 st16
  have pre18 : Go p e below T16 _ (mkF m 48 #[.val (.ref o0), .val (.ref o1), .val (.int 0), .val (.int 1), .val .null, .val (.ref b36_0)] [(.int 0), (.ref o0)]) _ := fun t k => pre17 t (by
    show Steps p.tables e below (T16.setTop (mkF m 48 #[.val (.ref o0), .val (.ref o1), .val (.int 0), .val (.int 1), .val .null, .val (.ref b36_0)] [(.int (f27_1)), (.ref o0)])) _
    rw [show f27_1 = (0 : Int32) from rfl]
    exact k)
  obtain ⟨T19, h19, X19, e19, W19, st19⟩ := putFN X16 hx hZ hown (wq hw 149 rfl) Via.refl e16 x12 x10 (Or.inr ⟨(wq hw 21 rfl), rfl, hnm⟩) (wq hw 19 rfl) (ty := .byte) (v' := (.int 0)) (by decide) rfl (by decide) (g := (mkF m 48 #[.val (.ref o0), .val (.ref o1), .val (.int 0), .val (.int 1), .val .null, .val (.ref b36_0)] [(.int 0), (.ref o0)])) rfl rfl (hb hby d22_48)
  have N19 := Fr.snoc X19 N16 gw_o0
  have K19 : Keep h0 h19 [o0] := K8.wr W19 (Or.inl (List.mem_of_getElem? (i := 0) rfl))
  have Z19 : n0 ≤ h19.size := Nat.le_trans Z8 (Keep.of_wr W19).1
  have x20 := x9.wr W19
  have x21 := x10.wr W19
  have x22 := x11.other W19 (Or.inr (slot_ne (Or.inr (wq hw 20 rfl)) (Or.inr (wq hw 21 rfl)) (by decide) (t := (.array .byte)) (t' := .byte) (by decide) (by decide)))
  have x23 := x12.same W19
  have x24 := x13.other W19 ne_o1_o0
  have x25 := o8_0.other W19 (Ne.symm ne8_o0_b36_0)
  have pre26 := Go.thn pre18 st19
  have pre27 : Go p e below T19 _ (mkF m 54 #[.val (.ref o0), .val (.ref o1), .val (.int 0), .val (.int 1), .val .null, .val (.ref b36_0)] [(.ref b36_0), (.ref o0)]) _ := fun t k => pre26 t (by
    refine XS.aloadN X19.here hx rfl (hb hby d22_51) rfl rfl ?_
    refine XS.aload X19.here hx rfl (hb hby d22_52) rfl rfl ?_
    exact k)
  obtain ⟨T28, h28, X28, e28, W28, st28⟩ := putF X19 hx hZ hown (host := "") (Or.inl (wq hw 148 rfl)) Via.refl e19 x22 x21 (Or.inr ⟨(wq hw 20 rfl), rfl, hnm⟩) (wq hw 19 rfl) (ty := (.array .byte)) (by decide) rfl rfl (g := (mkF m 54 #[.val (.ref o0), .val (.ref o1), .val (.int 0), .val (.int 1), .val .null, .val (.ref b36_0)] [(.ref b36_0), (.ref o0)])) rfl rfl (hb hby d22_54)
  have N28 := Fr.snoc X28 N19 gw_o0
  have K28 : Keep h0 h28 [o0] := K19.wr W28 (Or.inl (List.mem_of_getElem? (i := 0) rfl))
  have Z28 : n0 ≤ h28.size := Nat.le_trans Z19 (Keep.of_wr W28).1
  have x29 := x20.wr W28
  have x30 := x21.wr W28
  have x31 := x22.same W28
  have x32 := x23.other W28 (Or.inr (slot_ne (Or.inr (wq hw 21 rfl)) (Or.inr (wq hw 20 rfl)) (by decide) (t := .byte) (t' := (.array .byte)) (by decide) (by decide)))
  have x33 := x24.other W28 ne_o1_o0
  have x34 := x25.other W28 (Ne.symm ne8_o0_b36_0)
  have pre35 := Go.thn pre27 st28
  obtain ⟨fs, hr, hrun, hended, hW, hsame⟩ := X28.leave (v := none) (fun _ => rfl)
  refine ⟨_, _, ?_, hrun, hended, _, _, rfl, ?_, ⟨_, rfl⟩, hW, hsame.mono (by decide) (by decide)⟩
  · exact pre35 _ (X28.returnOut hx Bd.returns (hb hby d22_57) hr)
  · show Q22_1 Z o0 o1 wcs kc w0 h0 n0 _ T28.heap _
    rw [e28]
    exact ⟨b36_0, _, rfl, N28, K28, sz8_b36_0, x30, x31, x32, x34⟩
def Q21_1 (Z : State) (o0 : Addr) (o1 : Addr) (wcs : Int32) (kc : ClassId) (w0 : Int32) (h0 : Heap) (n0 : Nat) (v : Option Value) (h : Heap) (L : List Loc) : Prop := ∃ (b6_0 : Addr) (k_b6_0 : ClassId), v = none ∧ Fr n0 L ∧ Keep h0 h [o0] ∧ h0.size ≤ b6_0 ∧ Exa Z h o0 "java/lang/String" ∧ Fld Z h o0 "java/lang/String" "value" "[B" (.ref b6_0) ∧ Fld Z h o0 "java/lang/String" "coder" "B" (.int 0) ∧ Arv Z h b6_0 k_b6_0 .byte (1 : Int32) [(.int ((w0.toInt8.toInt32).toInt8.toInt32))] (.int 0)
set_option maxRecDepth 65536 in
set_option maxHeartbeats 40000000 in
theorem rm21_1 (l : Launch) (Z : State) (a0 : Array Value) (hw : ∀ d ∈ tables_1, d.before a0 Z = true) (ws : List Jvm.Cond) (o0 : Addr) (o1 : Addr) (wcs : Int32) (kc : ClassId) (w0 : Int32) (h0 : Heap) (n0 : Nat) (Z0 : n0 ≤ h0.size) (I0 : Sta Z h0 "java/lang/String" "COMPACT_STRINGS" "Z" (.int wcs)) (I1 : Exa Z h0 o0 "java/lang/String") (I2 : Fld Z h0 o0 "java/lang/String" "value" "[B" .null) (I3 : Fld Z h0 o0 "java/lang/String" "coder" "B" (.int 0)) (I4 : Arv Z h0 o1 kc .char (1 : Int32) [(.int w0)] (.int 0)) (gw_o0 : n0 ≤ o0) (ne_o1_o0 : o1 ≠ o0) (hcs : ¬ (wcs = (0 : Int32))) (hl0 : ¬ ((255 : Int32) < w0)) :
    Met1 l Nm_5 (Jvm.Cond.code Nm_5 jdk_42_method_3_code 2 none) ws (rom 3 1 1 52) #[(.ref o0), (.ref o1)] Z h0 (Q21_1 Z o0 o1 wcs kc w0 h0 n0) := by
  refine MetFree.of_bodySF (plainFor_of_name pn_21) hisR ?_
  intro p e s m args below meth c s₁ Bd hml0 hP hK
  obtain ⟨rfl, hZ, hh⟩ := hP
  have hx := Bd.exec
  have hby := Bd.bytes
  have hml : c.maxLocals = 2 := hml0
  have hown : s.vm.findClass "java/lang/String" = some m.cls := findClass_of_methodNamed Bd.named
  have X0 : Stand p l e (rom 3 1 1 52) s m _ _ _ _ _ [] 0 0 := Stand.of_body Bd
  have e0 : s₁.heap = h0 := by rw [← hh, Bd.state]; rfl
  have N0 := Fr.nil n0
  have K0 : Keep h0 h0 [o0] := Keep.refl _ _
  have pre0 : Go p e below s₁ _ (mkF m 0 #[.val (.ref o0), .val (.ref o1)] []) _ := fun t k => castTop (ef_21_0 m o0 o1) k
  have pre1 : Go p e below s₁ _ (mkF m 4 #[.val (.ref o0), .val (.ref o1)] [(.ref o1), (.int 0), (.ref o1), (.ref o0)]) _ := fun t k => pre0 t (by
    refine XS.aloadN X0.here hx rfl (hb hby d21_0) rfl rfl ?_
    refine XS.aloadN X0.here hx rfl (hb hby d21_1) rfl rfl ?_
    refine XS.iconst X0.here hx rfl (hb hby d21_2) ?_
    refine XS.aloadN X0.here hx rfl (hb hby d21_3) rfl rfl ?_
    exact k)
  obtain ⟨cl2, Ar2, -, Sz2, Mn2, Hs2, -⟩ := id I4
  have pre3 : Go p e below s₁ _ (mkF m 5 #[.val (.ref o0), .val (.ref o1)] [(.int 1), (.int 0), (.ref o1), (.ref o0)]) _ := fun t k => pre1 t (by
    show Steps p.tables e below (s₁.setTop (mkF m 4 #[.val (.ref o0), .val (.ref o1)] [(.ref o1), (.int 0), (.ref o1), (.ref o0)])) _
    refine X0.arraylength hx (by rw [e0]; exact Ar2.1) (State.isArrayOf_alike hZ.alike Ar2.2.1) (g := (mkF m 4 #[.val (.ref o0), .val (.ref o1)] [(.ref o1), (.int 0), (.ref o1), (.ref o0)])) rfl rfl (hb hby d21_4) _ ?_
    rw [len_of Sz2 Mn2]
    exact k)
  have pre4 : Go p e below s₁ _ (mkF m 6 #[.val (.ref o0), .val (.ref o1)] [.null, (.int 1), (.int 0), (.ref o1), (.ref o0)]) _ := fun t k => pre3 t (by
    refine XS.aconstNull X0.here hx rfl (hb hby d21_5) ?_
    exact k)
  obtain ⟨_, _, ⟨T5, L5, k5, n5⟩, -, X5, ⟨Lc5, hQ5, l5, y5, z5⟩, st5⟩ := X0.specialBack hx (y := Nm_4) rfl hown (mvT hZ (wq hw 142 rfl)) (mvT hZ (wq hw 143 rfl)) (mvT hZ (wq hw 145 rfl)) (by decide) (backOf (W := 0) (rm22_1 l Z a0 hw [] o0 o1 wcs _ w0 h0 n0 Z0 I0 I1 I2 I3 I4 gw_o0 ne_o1_o0 hcs hl0) hZ (wq hw 145 rfl) (wq hw 18 rfl) (by decide) (by decide)) (g := (mkF m 6 #[.val (.ref o0), .val (.ref o1)] [.null, (.int 1), (.int 0), (.ref o1), (.ref o0)])) rfl (by rw [hml]; rfl) (Steps.refl _) (a := o0) (argsL := [(.ref o1), (.int 0), (.int 1), .null]) (rest := []) (lenOf pd___CIILjava_lang_Void__V rfl) rfl (w00 rfl) (hb hby d21_6) (fun _ _ => ⟨rfl, e0, (by decide : 0 + 1 ≤ _), (by decide : 0 + 1 ≤ _)⟩)
  dsimp only [Pt.U, Pt.locs, Pt.cells, Pt.slots] at X5 l5 y5 z5 st5 hQ5
  subst l5 y5 z5
  obtain ⟨b6_0, k_b36_0_5, rfl, Nq5, Kq5, gz5_b6_0, o5_0, o5_1, o5_2, o5_3⟩ := hQ5
  have N5 := Fr.app N0 Nq5
  have K5 : Keep h0 T5.heap [o0] := K0.trans Kq5 (allS (Or.inl (List.mem_of_getElem? (i := 0) rfl)) all0)
  have Z5 : n0 ≤ T5.heap.size := Nat.le_trans Z0 Kq5.1
  have x6 := own_staK I0 Kq5 (allS (own_plE I1) all0)
  have x7 := I1.keep Kq5
  have x8 := I4.keep Kq5 (ninS ne_o1_o0 nin0)
  have gg5_b6_0 : n0 ≤ b6_0 := Nat.le_trans Z0 gz5_b6_0
  have sz5_b6_0 : h0.size ≤ b6_0 := Nat.le_trans K0.1 gz5_b6_0
  have ne5_o0_b6_0 : o0 ≠ b6_0 := Nat.ne_of_lt (Nat.lt_of_lt_of_le I1.lt gz5_b6_0)
  have ne5_o1_b6_0 : o1 ≠ b6_0 := Nat.ne_of_lt (Nat.lt_of_lt_of_le I4.lt gz5_b6_0)
  have pre9 := Go.trn pre4 st5
  obtain ⟨fs, hr, hrun, hended, hW, hsame⟩ := X5.leave (v := none) (fun _ => rfl)
  refine ⟨_, _, ?_, hrun, hended, _, _, rfl, ?_, ⟨_, rfl⟩, hW, hsame.mono (by decide) (by decide)⟩
  · exact pre9 _ (X5.returnOut hx Bd.returns (hb hby d21_9) hr)
  · show Q21_1 Z o0 o1 wcs kc w0 h0 n0 _ T5.heap _
    skip
    exact ⟨b6_0, _, rfl, N5, K5, sz5_b6_0, o5_0, o5_1, o5_2, o5_3⟩
theorem ef_27_2 (m : MethodId) (x0 : Addr) : entryFrame m #[(.ref x0), (.int 2)] 2 = mkF m 0 #[.val (.ref x0), .val (.int 2)] [] := by first | (simp [entryFrame, mkF, argsToLocals, Value.category]; done) | rfl
def f27_2 : Int32 := (nar .byte ((0 : Int32).toInt8.toInt32))
set_option maxRecDepth 65536 in
set_option maxHeartbeats 40000000 in
theorem rm27_2 (l : Launch) (Z : State) (a0 : Array Value) (hw : ∀ d ∈ tables_1, d.before a0 Z = true) (ws : List Jvm.Cond) (o0 : Addr) (ka : ClassId) (u0 : Int32) (u1 : Int32) (h0 : Heap) (n0 : Nat) (Z0 : n0 ≤ h0.size) (I0 : Arv Z h0 o0 ka .byte (2 : Int32) [(.int u0), (.int u1)] (.int 0)) :
    Met1 l Nm_6 (Jvm.Cond.code Nm_6 jdk_52_method_15_code 2 (some .byte)) ws (rom 0 0 0 0) #[(.ref o0), (.int 2)] Z h0 (QP (some (.int (f27_2))) h0 n0) := by
  refine MetFree.of_bodySF (plainFor_of_name pn_27) hisR ?_
  intro p e s m args below meth c s₁ Bd hml0 hP hK
  obtain ⟨rfl, hZ, hh⟩ := hP
  have hx := Bd.exec
  have hby := Bd.bytes
  have hml : c.maxLocals = 2 := hml0
  have hown : s.vm.findClass "java/lang/StringUTF16" = some m.cls := findClass_of_methodNamed Bd.named
  have X0 : Stand p l e (rom 0 0 0 0) s m _ _ _ _ _ [] 0 0 := Stand.of_body Bd
  have e0 : s₁.heap = h0 := by rw [← hh, Bd.state]; rfl
  have N0 := Fr.nil n0
  have K0 : Keep h0 h0 [] := Keep.refl _ _
  have pre0 : Go p e below s₁ _ (mkF m 0 #[.val (.ref o0), .val (.int 2)] []) _ := fun t k => castTop (ef_27_2 m o0) k
  have pre1 : Go p e below s₁ _ (mkF m 2 #[.val (.ref o0), .val (.int 2)] [(.ref o0), (.int 2)]) _ := fun t k => pre0 t (by
    refine XS.iloadN X0.here hx rfl (hb hby d27_0) rfl ?_
    refine XS.aloadN X0.here hx rfl (hb hby d27_1) rfl rfl ?_
    exact k)
  obtain ⟨cl2, Ar2, -, Sz2, Mn2, Hs2, -⟩ := id I0
  have pre3 : Go p e below s₁ _ (mkF m 3 #[.val (.ref o0), .val (.int 2)] [(.int 2), (.int 2)]) _ := fun t k => pre1 t (by
    show Steps p.tables e below (s₁.setTop (mkF m 2 #[.val (.ref o0), .val (.int 2)] [(.ref o0), (.int 2)])) _
    refine X0.arraylength hx (by rw [e0]; exact Ar2.1) (State.isArrayOf_alike hZ.alike Ar2.2.1) (g := (mkF m 2 #[.val (.ref o0), .val (.int 2)] [(.ref o0), (.int 2)])) rfl rfl (hb hby d27_2) _ ?_
    rw [len_of Sz2 Mn2]
    exact k)
  have pre4 : Go p e below s₁ _ (mkF m 8 #[.val (.ref o0), .val (.int 2)] [(.int ((0 : Int32).toInt8.toInt32))]) _ := fun t k => pre3 t (by
    refine XS.isub X0.here hx rfl (hb hby d27_3) rfl ?_
    refine XS.bipush X0.here hx rfl (hb hby d27_4) ?_
    refine XS.iushr X0.here hx rfl (hb hby d27_6) rfl ?_
    refine XS.i2b X0.here hx rfl (hb hby d27_7) rfl ?_
    exact k)
  obtain ⟨fs, hr, hrun, hended, hW, hsame⟩ := X0.leave (v := some (.int (nar .byte ((0 : Int32).toInt8.toInt32)))) (fun h => by rw [Bd.returns] at h; cases h)
  refine ⟨_, _, ?_, hrun, hended, _, _, rfl, ?_, ⟨_, rfl⟩, hW, hsame.mono (by decide) (by decide)⟩
  · exact pre4 _ (retN X0 hx (t := .byte) Bd.returns (by simp) (hb hby d27_8) hr)
  · exact ⟨by simp only [f27_2], N0, e0⟩
theorem ef_26_2 (m : MethodId) (x0 : Addr) (x2 : Addr) : entryFrame m #[(.ref x0), (.int 0), (.ref x2), (.int 0), (.int 2)] 7 = mkF m 0 #[.val (.ref x0), .val (.int 0), .val (.ref x2), .val (.int 0), .val (.int 2), .unset, .unset] [] := by first | (simp [entryFrame, mkF, argsToLocals, Value.category]; done) | rfl
def f26_2 : Int32 := (2 : Int32)
def Q26_2 (Z : State) (o0 : Addr) (o2 : Addr) (kc : ClassId) (w0 : Int32) (w1 : Int32) (kb : ClassId) (h0 : Heap) (n0 : Nat) (v : Option Value) (h : Heap) (L : List Loc) : Prop := v = (some (.int (f26_2))) ∧ Fr n0 L ∧ Keep h0 h [o2] ∧ Arv Z h o2 kb .byte (2 : Int32) [(.int ((w0.toInt8.toInt32).toInt8.toInt32)), (.int ((w1.toInt8.toInt32).toInt8.toInt32))] (.int 0)
set_option maxRecDepth 65536 in
set_option maxHeartbeats 40000000 in
theorem rm26_2 (l : Launch) (Z : State) (a0 : Array Value) (hw : ∀ d ∈ tables_1, d.before a0 Z = true) (ws : List Jvm.Cond) (o0 : Addr) (o2 : Addr) (kc : ClassId) (w0 : Int32) (w1 : Int32) (kb : ClassId) (h0 : Heap) (n0 : Nat) (Z0 : n0 ≤ h0.size) (I0 : Arv Z h0 o0 kc .char (2 : Int32) [(.int w0), (.int w1)] (.int 0)) (I1 : Arv Z h0 o2 kb .byte (2 : Int32) [(.int 0), (.int 0)] (.int 0)) (gw_o2 : n0 ≤ o2) (ne_o0_o2 : o0 ≠ o2) (hl0 : ¬ ((255 : Int32) < w0)) (hl1 : ¬ ((255 : Int32) < w1)) :
    Met1 l Nm_7 (Jvm.Cond.code Nm_7 jdk_52_method_21_code 7 (some .int)) ws (rom 0 0 0 0) #[(.ref o0), (.int 0), (.ref o2), (.int 0), (.int 2)] Z h0 (Q26_2 Z o0 o2 kc w0 w1 kb h0 n0) := by
  refine MetFree.of_bodySF (plainFor_of_name pn_26) hisR ?_
  intro p e s m args below meth c s₁ Bd hml0 hP hK
  obtain ⟨rfl, hZ, hh⟩ := hP
  have hx := Bd.exec
  have hby := Bd.bytes
  have hml : c.maxLocals = 7 := hml0
  have hown : s.vm.findClass "java/lang/StringUTF16" = some m.cls := findClass_of_methodNamed Bd.named
  have X0 : Stand p l e (rom 0 0 0 0) s m _ _ _ _ _ [] 0 0 := Stand.of_body Bd
  have e0 : s₁.heap = h0 := by rw [← hh, Bd.state]; rfl
  have N0 := Fr.nil n0
  have K0 : Keep h0 h0 [o2] := Keep.refl _ _
  have pre0 : Go p e below s₁ _ (mkF m 0 #[.val (.ref o0), .val (.int 0), .val (.ref o2), .val (.int 0), .val (.int 2), .unset, .unset] []) _ := fun t k => castTop (ef_26_2 m o0 o2) k
  have pre1 : Go p e below s₁ _ (mkF m 12 #[.val (.ref o0), .val (.int 0), .val (.ref o2), .val (.int 0), .val (.int 2), .val (.int 0), .unset] [(.int 0), (.ref o0)]) _ := fun t k => pre0 t (by
    refine XS.iconst X0.here hx rfl (hb hby d26_0) ?_
    refine XS.istore X0.here hx rfl (hb hby d26_1) rfl (l' := #[.val (.ref o0), .val (.int 0), .val (.ref o2), .val (.int 0), .val (.int 2), .val (.int 0), .unset]) rfl ?_
    refine XS.iload X0.here hx rfl (hb hby d26_3) rfl ?_
    refine XS.iload X0.here hx rfl (hb hby d26_5) rfl ?_
    refine XS.icmpNo X0.here hx rfl (hb hby d26_7) rfl (by decide) ?_
    refine XS.aloadN X0.here hx rfl (hb hby d26_10) rfl rfl ?_
    refine XS.iloadN X0.here hx rfl (hb hby d26_11) rfl ?_
    exact k)
  obtain ⟨cl2, Ar2, -, Sz2, Mn2, Hs2, -⟩ := id I0
  have hin2 : ¬ ((0 : Int32) < 0 ∨ cl2.slots.size ≤ ((0 : Int32)).toNatClampNeg) := inb_of Sz2 ⟨by decide, by decide⟩
  have hat2 : cl2.slots[((0 : Int32)).toNatClampNeg]? = some (.int w0) := Hs2.at hin2 rfl
  have pre3 : Go p e below s₁ _ (mkF m 13 #[.val (.ref o0), .val (.int 0), .val (.ref o2), .val (.int 0), .val (.int 2), .val (.int 0), .unset] [(.int w0)]) _ := fun t k => pre1 t (by
    show Steps p.tables e below (s₁.setTop (mkF m 12 #[.val (.ref o0), .val (.int 0), .val (.ref o2), .val (.int 0), .val (.int 2), .val (.int 0), .unset] [(.int 0), (.ref o0)])) _
    refine X0.caload hx (j := (0 : Int32)) (v := (.int w0)) (by rw [e0]; exact Ar2.1) (State.isArrayOf_alike hZ.alike Ar2.2.1) Ar2.2.2 hin2 hat2 (g := (mkF m 12 #[.val (.ref o0), .val (.int 0), .val (.ref o2), .val (.int 0), .val (.int 2), .val (.int 0), .unset] [(.int 0), (.ref o0)])) rfl rfl (hb hby d26_12) _ ?_
    exact k)
  have pre4 : Go p e below s₁ _ (mkF m 31 #[.val (.ref o0), .val (.int 0), .val (.ref o2), .val (.int 0), .val (.int 2), .val (.int 0), .val (.int w0)] [(.int (w0.toInt8.toInt32)), (.int 0), (.ref o2)]) _ := fun t k => pre3 t (by
    refine XS.istore X0.here hx rfl (hb hby d26_13) rfl (l' := #[.val (.ref o0), .val (.int 0), .val (.ref o2), .val (.int 0), .val (.int 2), .val (.int 0), .val (.int w0)]) rfl ?_
    refine XS.iload X0.here hx rfl (hb hby d26_15) rfl ?_
    refine XS.sipush X0.here hx rfl (hb hby d26_17) ?_
    refine XS.icmpYes X0.here hx rfl (pc0 := 20) (pc' := 26) rfl (hb hby d26_20) rfl (flt hl0).2.2.2 (by decide) (by decide) ?_
    refine XS.aloadN X0.here hx rfl (hb hby d26_26) rfl rfl ?_
    refine XS.iloadN X0.here hx rfl (hb hby d26_27) rfl ?_
    refine XS.iload X0.here hx rfl (hb hby d26_28) rfl ?_
    refine XS.i2b X0.here hx rfl (hb hby d26_30) rfl ?_
    exact k)
  obtain ⟨cl5, Ar5, q5, Sz5, Mn5, Hs5, Gs5⟩ := id I1
  have hin5 : ¬ ((0 : Int32) < 0 ∨ cl5.slots.size ≤ ((0 : Int32)).toNatClampNeg) := inb_of Sz5 ⟨by decide, by decide⟩
  obtain ⟨T5, h5, X5, e5, W5, st5⟩ := stB X0 hx hZ e0 Ar5 (j := (0 : Int32)) hin5 (g := (mkF m 31 #[.val (.ref o0), .val (.int 0), .val (.ref o2), .val (.int 0), .val (.int 2), .val (.int 0), .val (.int w0)] [(.int (w0.toInt8.toInt32)), (.int 0), (.ref o2)])) rfl rfl (hb hby d26_31)
  have V5 : Arv Z h5 o2 kb .byte (2 : Int32) [(.int ((w0.toInt8.toInt32).toInt8.toInt32)), (.int 0)] (.int 0) := Arv.set Ar5 q5 Sz5 Mn5 Hs5 Gs5 (fits_nar_byte _) W5 0 rfl (Nat.le_of_ble_eq_true rfl)
  have N5 := Fr.snoc X5 N0 gw_o2
  have K5 : Keep h0 h5 [o2] := K0.wr W5 (Or.inl (List.mem_of_getElem? (i := 0) rfl))
  have Z5 : n0 ≤ h5.size := Nat.le_trans Z0 (Keep.of_wr W5).1
  have x6 := I0.other W5 ne_o0_o2
  have pre7 := Go.thn pre4 st5
  have pre8 : Go p e below T5 _ (mkF m 12 #[.val (.ref o0), .val (.int 1), .val (.ref o2), .val (.int 1), .val (.int 2), .val (.int 1), .val (.int w0)] [(.int 1), (.ref o0)]) _ := fun t k => pre7 t (by
    refine XS.iinc X5.here hx rfl (hb hby d26_32) rfl (l' := #[.val (.ref o0), .val (.int 1), .val (.ref o2), .val (.int 0), .val (.int 2), .val (.int 0), .val (.int w0)]) rfl ?_
    refine XS.iinc X5.here hx rfl (hb hby d26_35) rfl (l' := #[.val (.ref o0), .val (.int 1), .val (.ref o2), .val (.int 1), .val (.int 2), .val (.int 0), .val (.int w0)]) rfl ?_
    refine XS.iinc X5.here hx rfl (hb hby d26_38) rfl (l' := #[.val (.ref o0), .val (.int 1), .val (.ref o2), .val (.int 1), .val (.int 2), .val (.int 1), .val (.int w0)]) rfl ?_
    refine XS.goto X5.here hx rfl (pc0 := 41) (pc' := 3) rfl (hb hby d26_41) (by decide) (by decide) ?_
    refine XS.iload X5.here hx rfl (hb hby d26_3) rfl ?_
    refine XS.iload X5.here hx rfl (hb hby d26_5) rfl ?_
    refine XS.icmpNo X5.here hx rfl (hb hby d26_7) rfl (by decide) ?_
    refine XS.aloadN X5.here hx rfl (hb hby d26_10) rfl rfl ?_
    refine XS.iloadN X5.here hx rfl (hb hby d26_11) rfl ?_
    exact k)
  obtain ⟨cl9, Ar9, -, Sz9, Mn9, Hs9, -⟩ := id x6
  have hin9 : ¬ ((1 : Int32) < 0 ∨ cl9.slots.size ≤ ((1 : Int32)).toNatClampNeg) := inb_of Sz9 ⟨by decide, by decide⟩
  have hat9 : cl9.slots[((1 : Int32)).toNatClampNeg]? = some (.int w1) := Hs9.at hin9 rfl
  have pre10 : Go p e below T5 _ (mkF m 13 #[.val (.ref o0), .val (.int 1), .val (.ref o2), .val (.int 1), .val (.int 2), .val (.int 1), .val (.int w0)] [(.int w1)]) _ := fun t k => pre8 t (by
    show Steps p.tables e below (T5.setTop (mkF m 12 #[.val (.ref o0), .val (.int 1), .val (.ref o2), .val (.int 1), .val (.int 2), .val (.int 1), .val (.int w0)] [(.int 1), (.ref o0)])) _
    refine X5.caload hx (j := (1 : Int32)) (v := (.int w1)) (by rw [e5]; exact Ar9.1) (State.isArrayOf_alike hZ.alike Ar9.2.1) Ar9.2.2 hin9 hat9 (g := (mkF m 12 #[.val (.ref o0), .val (.int 1), .val (.ref o2), .val (.int 1), .val (.int 2), .val (.int 1), .val (.int w0)] [(.int 1), (.ref o0)])) rfl rfl (hb hby d26_12) _ ?_
    exact k)
  have pre11 : Go p e below T5 _ (mkF m 31 #[.val (.ref o0), .val (.int 1), .val (.ref o2), .val (.int 1), .val (.int 2), .val (.int 1), .val (.int w1)] [(.int (w1.toInt8.toInt32)), (.int 1), (.ref o2)]) _ := fun t k => pre10 t (by
    refine XS.istore X5.here hx rfl (hb hby d26_13) rfl (l' := #[.val (.ref o0), .val (.int 1), .val (.ref o2), .val (.int 1), .val (.int 2), .val (.int 1), .val (.int w1)]) rfl ?_
    refine XS.iload X5.here hx rfl (hb hby d26_15) rfl ?_
    refine XS.sipush X5.here hx rfl (hb hby d26_17) ?_
    refine XS.icmpYes X5.here hx rfl (pc0 := 20) (pc' := 26) rfl (hb hby d26_20) rfl (flt hl1).2.2.2 (by decide) (by decide) ?_
    refine XS.aloadN X5.here hx rfl (hb hby d26_26) rfl rfl ?_
    refine XS.iloadN X5.here hx rfl (hb hby d26_27) rfl ?_
    refine XS.iload X5.here hx rfl (hb hby d26_28) rfl ?_
    refine XS.i2b X5.here hx rfl (hb hby d26_30) rfl ?_
    exact k)
  obtain ⟨cl12, Ar12, q12, Sz12, Mn12, Hs12, Gs12⟩ := id V5
  have hin12 : ¬ ((1 : Int32) < 0 ∨ cl12.slots.size ≤ ((1 : Int32)).toNatClampNeg) := inb_of Sz12 ⟨by decide, by decide⟩
  obtain ⟨T12, h12, X12, e12, W12, st12⟩ := stB X5 hx hZ e5 Ar12 (j := (1 : Int32)) hin12 (g := (mkF m 31 #[.val (.ref o0), .val (.int 1), .val (.ref o2), .val (.int 1), .val (.int 2), .val (.int 1), .val (.int w1)] [(.int (w1.toInt8.toInt32)), (.int 1), (.ref o2)])) rfl rfl (hb hby d26_31)
  have V12 : Arv Z h12 o2 kb .byte (2 : Int32) [(.int ((w0.toInt8.toInt32).toInt8.toInt32)), (.int ((w1.toInt8.toInt32).toInt8.toInt32))] (.int 0) := Arv.set Ar12 q12 Sz12 Mn12 Hs12 Gs12 (fits_nar_byte _) W12 1 rfl (Nat.le_of_ble_eq_true rfl)
  have N12 := Fr.snoc X12 N5 gw_o2
  have K12 : Keep h0 h12 [o2] := K5.wr W12 (Or.inl (List.mem_of_getElem? (i := 0) rfl))
  have Z12 : n0 ≤ h12.size := Nat.le_trans Z5 (Keep.of_wr W12).1
  have x13 := x6.other W12 ne_o0_o2
  have pre14 := Go.thn pre11 st12
  have pre15 : Go p e below T12 _ (mkF m 46 #[.val (.ref o0), .val (.int 2), .val (.ref o2), .val (.int 2), .val (.int 2), .val (.int 2), .val (.int w1)] [(.int 2)]) _ := fun t k => pre14 t (by
    refine XS.iinc X12.here hx rfl (hb hby d26_32) rfl (l' := #[.val (.ref o0), .val (.int 2), .val (.ref o2), .val (.int 1), .val (.int 2), .val (.int 1), .val (.int w1)]) rfl ?_
    refine XS.iinc X12.here hx rfl (hb hby d26_35) rfl (l' := #[.val (.ref o0), .val (.int 2), .val (.ref o2), .val (.int 2), .val (.int 2), .val (.int 1), .val (.int w1)]) rfl ?_
    refine XS.iinc X12.here hx rfl (hb hby d26_38) rfl (l' := #[.val (.ref o0), .val (.int 2), .val (.ref o2), .val (.int 2), .val (.int 2), .val (.int 2), .val (.int w1)]) rfl ?_
    refine XS.goto X12.here hx rfl (pc0 := 41) (pc' := 3) rfl (hb hby d26_41) (by decide) (by decide) ?_
    refine XS.iload X12.here hx rfl (hb hby d26_3) rfl ?_
    refine XS.iload X12.here hx rfl (hb hby d26_5) rfl ?_
    refine XS.icmpYes X12.here hx rfl (pc0 := 7) (pc' := 44) rfl (hb hby d26_7) rfl (by decide) (by decide) (by decide) ?_
    refine XS.iload X12.here hx rfl (hb hby d26_44) rfl ?_
    exact k)
  obtain ⟨fs, hr, hrun, hended, hW, hsame⟩ := X12.leave (v := some (.int 2)) (fun h => by rw [Bd.returns] at h; cases h)
  refine ⟨_, _, ?_, hrun, hended, _, _, rfl, ?_, ⟨_, rfl⟩, hW, hsame.mono (by decide) (by decide)⟩
  · exact pre15 _ (retI X12 hx Bd.returns (hb hby d26_46) hr)
  · show Q26_2 Z o0 o2 kc w0 w1 kb h0 n0 _ T12.heap _
    rw [e12]
    exact ⟨by simp only [f26_2], N12, K12, V12⟩
theorem ef_25_2 (m : MethodId) (x0 : Addr) : entryFrame m #[(.ref x0), (.int 0), (.int 2)] 6 = mkF m 0 #[.val (.ref x0), .val (.int 0), .val (.int 2), .unset, .unset, .unset] [] := by first | (simp [entryFrame, mkF, argsToLocals, Value.category]; done) | rfl
def Q25_2 (Z : State) (o0 : Addr) (kc : ClassId) (w0 : Int32) (w1 : Int32) (h0 : Heap) (n0 : Nat) (v : Option Value) (h : Heap) (L : List Loc) : Prop := ∃ (b1 : Addr) (k_b1 : ClassId), v = (some (.ref b1)) ∧ Fr n0 L ∧ Keep h0 h [] ∧ h0.size ≤ b1 ∧ Arv Z h b1 k_b1 .byte (2 : Int32) [(.int ((w0.toInt8.toInt32).toInt8.toInt32)), (.int ((w1.toInt8.toInt32).toInt8.toInt32))] (.int 0)
set_option maxRecDepth 65536 in
set_option maxHeartbeats 40000000 in
theorem rm25_2 (l : Launch) (Z : State) (a0 : Array Value) (hw : ∀ d ∈ tables_1, d.before a0 Z = true) (ws : List Jvm.Cond) (o0 : Addr) (kc : ClassId) (w0 : Int32) (w1 : Int32) (h0 : Heap) (n0 : Nat) (Z0 : n0 ≤ h0.size) (I0 : Arv Z h0 o0 kc .char (2 : Int32) [(.int w0), (.int w1)] (.int 0)) (hl0 : ¬ ((255 : Int32) < w0)) (hl1 : ¬ ((255 : Int32) < w1)) :
    Met1 l Nm_8 (Jvm.Cond.code Nm_8 jdk_52_method_16_code 6 (some (.array .byte))) ws (rom 1 1 2 18) #[(.ref o0), (.int 0), (.int 2)] Z h0 (Q25_2 Z o0 kc w0 w1 h0 n0) := by
  refine MetFree.of_bodySF (plainFor_of_name pn_25) hisR ?_
  intro p e s m args below meth c s₁ Bd hml0 hP hK
  obtain ⟨rfl, hZ, hh⟩ := hP
  have hx := Bd.exec
  have hby := Bd.bytes
  have hml : c.maxLocals = 6 := hml0
  have hown : s.vm.findClass "java/lang/StringUTF16" = some m.cls := findClass_of_methodNamed Bd.named
  have X0 : Stand p l e (rom 1 1 2 18) s m _ _ _ _ _ [] 0 0 := Stand.of_body Bd
  have e0 : s₁.heap = h0 := by rw [← hh, Bd.state]; rfl
  have N0 := Fr.nil n0
  have K0 : Keep h0 h0 [] := Keep.refl _ _
  have pre0 : Go p e below s₁ _ (mkF m 0 #[.val (.ref o0), .val (.int 0), .val (.int 2), .unset, .unset, .unset] []) _ := fun t k => castTop (ef_25_2 m o0) k
  have pre1 : Go p e below s₁ _ (mkF m 1 #[.val (.ref o0), .val (.int 0), .val (.int 2), .unset, .unset, .unset] [(.int 2)]) _ := fun t k => pre0 t (by
    refine XS.iloadN X0.here hx rfl (hb hby d25_0) rfl ?_
    exact k)
  obtain ⟨T2, h2, k2, X2, e2, E2, A2, st2⟩ := newP X0 hx hZ (wq hw 13 rfl) e0 (g := (mkF m 1 #[.val (.ref o0), .val (.int 0), .val (.int 2), .unset, .unset, .unset] [(.int 2)])) rfl (hb hby d25_1) rfl (by decide) (cap := 2) (by decide) (by decide) (by decide) (by decide)
  obtain ⟨b1, g2⟩ : ∃ z, z = h0.size := ⟨_, rfl⟩
  rw [← g2] at A2 st2
  have gg2 : n0 ≤ b1 := Nat.le_trans Z0 (Nat.le_of_eq g2.symm)
  have sz2 : h0.size ≤ b1 := Nat.le_trans K0.1 (Nat.le_of_eq g2.symm)
  have K2 : Keep h0 h2 [] := K0.ext E2
  have Z2 : n0 ≤ h2.size := Nat.le_trans Z0 E2.1
  have V2 : Arv Z h2 b1 k2 .byte (2 : Int32) [(.int 0), (.int 0)] (.int 0) := (Arv.new A2 (by decide)).pad (pad_rep [] (.int 0) 2)
  have ne2_o0 : o0 ≠ b1 := Nat.ne_of_lt (Nat.lt_of_lt_of_le I0.lt (Nat.le_of_eq g2.symm))
  have x3 := I0.ext E2
  have pre4 := Go.thn pre1 st2
  have pre5 : Go p e below T2 _ (mkF m 9 #[.val (.ref o0), .val (.int 0), .val (.int 2), .val (.ref b1), .unset, .unset] [(.int 2), (.int 0), (.ref b1), (.int 0), (.ref o0)]) _ := fun t k => pre4 t (by
    refine XS.astoreN X2.here hx rfl (hb hby d25_3) rfl rfl (l' := #[.val (.ref o0), .val (.int 0), .val (.int 2), .val (.ref b1), .unset, .unset]) rfl ?_
    refine XS.aloadN X2.here hx rfl (hb hby d25_4) rfl rfl ?_
    refine XS.iloadN X2.here hx rfl (hb hby d25_5) rfl ?_
    refine XS.aloadN X2.here hx rfl (hb hby d25_6) rfl rfl ?_
    refine XS.iconst X2.here hx rfl (hb hby d25_7) ?_
    refine XS.iloadN X2.here hx rfl (hb hby d25_8) rfl ?_
    exact k)
  obtain ⟨_, _, ⟨T6, L6, k6, n6⟩, -, X6, ⟨Lc6, hQ6, l6, y6, z6⟩, st6⟩ := Jvm.LawKit.callS X2 hx (y := Nm_7) hown (mvT hZ (wq hw 166 rfl)) (mvT hZ (wq hw 167 rfl)) (mvT hZ (wq hw 164 rfl)) (mvT hZ (wq hw 168 rfl)) (by decide) (backOf (W := 0) (rm26_2 l Z a0 hw [] o0 b1 _ w0 w1 _ h2 n0 Z2 x3 V2 gg2 ne2_o0 hl0 hl1) hZ (wq hw 168 rfl) (wq hw 164 rfl) (by decide) (by decide)) (g := (mkF m 9 #[.val (.ref o0), .val (.int 0), .val (.int 2), .val (.ref b1), .unset, .unset] [(.int 2), (.int 0), (.ref b1), (.int 0), (.ref o0)])) rfl (by rw [hml]; rfl) (argsL := [(.ref o0), (.int 0), (.ref b1), (.int 0), (.int 2)]) (rest := []) (lenOf pd___CI_BII_I rfl) rfl (w00 rfl) (hb hby d25_9) (fun _ _ => ⟨rfl, e2, (by decide : 1 + 0 ≤ _), (by decide : 2 + 0 ≤ _)⟩)
  dsimp only [Pt.U, Pt.locs, Pt.cells, Pt.slots] at X6 l6 y6 z6 st6 hQ6
  subst l6 y6 z6
  obtain ⟨rfl, Nq6, Kq6, o6_0⟩ := hQ6
  have N6 := Fr.app N0 Nq6
  have K6 : Keep h0 T6.heap [] := K2.trans Kq6 (allS (Or.inr sz2) all0)
  have Z6 : n0 ≤ T6.heap.size := Nat.le_trans Z2 Kq6.1
  have x7 := x3.keep Kq6 (ninS ne2_o0 nin0)
  have pre8 := Go.thn pre5 st6
  have pre9 : Go p e below T6 _ (mkF m 58 #[.val (.ref o0), .val (.int 0), .val (.int 2), .val (.ref b1), .val (.int 2), .unset] [(.ref b1)]) _ := fun t k => pre8 t (by
    show Steps p.tables e below (T6.setTop (mkF m 12 #[.val (.ref o0), .val (.int 0), .val (.int 2), .val (.ref b1), .unset, .unset] [(.int (f26_2))])) _
    rw [show f26_2 = (2 : Int32) from rfl]
    refine XS.istore X6.here hx rfl (hb hby d25_12) rfl (l' := #[.val (.ref o0), .val (.int 0), .val (.int 2), .val (.ref b1), .val (.int 2), .unset]) rfl ?_
    refine XS.iload X6.here hx rfl (hb hby d25_14) rfl ?_
    refine XS.iloadN X6.here hx rfl (hb hby d25_16) rfl ?_
    refine XS.icmpYes X6.here hx rfl (pc0 := 17) (pc' := 57) rfl (hb hby d25_17) rfl (by decide) (by decide) (by decide) ?_
    refine XS.aloadN X6.here hx rfl (hb hby d25_57) rfl rfl ?_
    exact k)
  obtain ⟨fs, hr, hrun, hended, hW, hsame⟩ := X6.leave (v := some (.ref b1)) (fun h => by rw [Bd.returns] at h; cases h)
  refine ⟨_, _, ?_, hrun, hended, _, _, rfl, ?_, ⟨_, rfl⟩, hW, hsame.mono (by decide) (by decide)⟩
  · refine pre9 _ ?_
    jvm_step X6.here [X6.here.top, hx, (hb hby d25_58), X6.method', Bd.returns, Value.isRef, FieldType.isReference]
    first | (intro acts; rw [hr _ acts rfl rfl rfl]) | rw [hr _ _ rfl rfl rfl]
    exact Steps.refl _
  · show Q25_2 Z o0 kc w0 w1 h0 n0 _ T6.heap _
    skip
    exact ⟨b1, _, rfl, N6, K6, sz2, o6_0⟩
theorem ef_22_2 (m : MethodId) (x0 : Addr) (x1 : Addr) : entryFrame m #[(.ref x0), (.ref x1), (.int 0), (.int 2), .null] 6 = mkF m 0 #[.val (.ref x0), .val (.ref x1), .val (.int 0), .val (.int 2), .val .null, .unset] [] := by first | (simp [entryFrame, mkF, argsToLocals, Value.category]; done) | rfl
def Q22_2 (Z : State) (o0 : Addr) (o1 : Addr) (wcs : Int32) (kc : ClassId) (w0 : Int32) (w1 : Int32) (h0 : Heap) (n0 : Nat) (v : Option Value) (h : Heap) (L : List Loc) : Prop := ∃ (b36_0 : Addr) (k_b36_0 : ClassId), v = none ∧ Fr n0 L ∧ Keep h0 h [o0] ∧ h0.size ≤ b36_0 ∧ Exa Z h o0 "java/lang/String" ∧ Fld Z h o0 "java/lang/String" "value" "[B" (.ref b36_0) ∧ Fld Z h o0 "java/lang/String" "coder" "B" (.int 0) ∧ Arv Z h b36_0 k_b36_0 .byte (2 : Int32) [(.int ((w0.toInt8.toInt32).toInt8.toInt32)), (.int ((w1.toInt8.toInt32).toInt8.toInt32))] (.int 0)
set_option maxRecDepth 65536 in
set_option maxHeartbeats 40000000 in
theorem rm22_2 (l : Launch) (Z : State) (a0 : Array Value) (hw : ∀ d ∈ tables_1, d.before a0 Z = true) (ws : List Jvm.Cond) (o0 : Addr) (o1 : Addr) (wcs : Int32) (kc : ClassId) (w0 : Int32) (w1 : Int32) (h0 : Heap) (n0 : Nat) (Z0 : n0 ≤ h0.size) (I0 : Sta Z h0 "java/lang/String" "COMPACT_STRINGS" "Z" (.int wcs)) (I1 : Exa Z h0 o0 "java/lang/String") (I2 : Fld Z h0 o0 "java/lang/String" "value" "[B" .null) (I3 : Fld Z h0 o0 "java/lang/String" "coder" "B" (.int 0)) (I4 : Arv Z h0 o1 kc .char (2 : Int32) [(.int w0), (.int w1)] (.int 0)) (gw_o0 : n0 ≤ o0) (ne_o1_o0 : o1 ≠ o0) (hcs : ¬ (wcs = (0 : Int32))) (hl0 : ¬ ((255 : Int32) < w0)) (hl1 : ¬ ((255 : Int32) < w1)) :
    Met1 l Nm_4 (Jvm.Cond.code Nm_4 jdk_42_method_149_code 6 none) ws (rom 2 1 2 35) #[(.ref o0), (.ref o1), (.int 0), (.int 2), .null] Z h0 (Q22_2 Z o0 o1 wcs kc w0 w1 h0 n0) := by
  refine MetFree.of_bodySF (plainFor_of_name pn_22) hisR ?_
  intro p e s m args below meth c s₁ Bd hml0 hP hK
  obtain ⟨rfl, hZ, hh⟩ := hP
  have hx := Bd.exec
  have hby := Bd.bytes
  have hml : c.maxLocals = 6 := hml0
  have hown : s.vm.findClass "java/lang/String" = some m.cls := findClass_of_methodNamed Bd.named
  have hnm := (name_of_methodNamed Bd.named Bd.method).1
  have X0 : Stand p l e (rom 2 1 2 35) s m _ _ _ _ _ [] 0 0 := Stand.of_body Bd
  have e0 : s₁.heap = h0 := by rw [← hh, Bd.state]; rfl
  have N0 := Fr.nil n0
  have K0 : Keep h0 h0 [o0] := Keep.refl _ _
  have pre0 : Go p e below s₁ _ (mkF m 0 #[.val (.ref o0), .val (.ref o1), .val (.int 0), .val (.int 2), .val .null, .unset] []) _ := fun t k => castTop (ef_22_2 m o0 o1) k
  have pre1 : Go p e below s₁ _ (mkF m 1 #[.val (.ref o0), .val (.ref o1), .val (.int 0), .val (.int 2), .val .null, .unset] [(.ref o0)]) _ := fun t k => pre0 t (by
    refine XS.aloadN X0.here hx rfl (hb hby d22_0) rfl rfl ?_
    exact k)
  obtain ⟨T2, X2, e2, st2⟩ := initO X0 hx hZ hown (wq hw 146 rfl) (wq hw 33 rfl) (wq hw 34 rfl) e0 (g := (mkF m 1 #[.val (.ref o0), .val (.ref o1), .val (.int 0), .val (.int 2), .val .null, .unset] [(.ref o0)])) rfl (by rw [hml]; rfl) rfl (hb hby d22_1) (by decide) (W := 0) (w00 rfl) (by decide)
  have pre3 := Go.thn pre1 st2
  have pre4 : Go p e below T2 _ (mkF m 27 #[.val (.ref o0), .val (.ref o1), .val (.int 0), .val (.int 2), .val .null, .unset] []) _ := fun t k => pre3 t (by
    refine XS.iloadN X2.here hx rfl (hb hby d22_4) rfl ?_
    refine XS.ifYes X2.here hx rfl (pc0 := 5) (pc' := 27) rfl (hb hby d22_5) rfl (by decide) (by decide) (by decide) ?_
    exact k)
  obtain ⟨T5, X5, e5, st5⟩ := getS2 X2 hx hZ hown (host := "") (Or.inl (wq hw 160 rfl)) Via.refl e2 I0 (g := (mkF m 27 #[.val (.ref o0), .val (.ref o1), .val (.int 0), .val (.int 2), .val .null, .unset] [])) rfl (hb hby d22_27)
  have pre6 := Go.thn pre4 st5
  have pre7 : Go p e below T5 _ (mkF m 36 #[.val (.ref o0), .val (.ref o1), .val (.int 0), .val (.int 2), .val .null, .unset] [(.int 2), (.int 0), (.ref o1)]) _ := fun t k => pre6 t (by
    refine XS.ifNo X5.here hx rfl (hb hby d22_30) rfl ((if0 _ _).trans (feq hcs).1) ?_
    refine XS.aloadN X5.here hx rfl (hb hby d22_33) rfl rfl ?_
    refine XS.iloadN X5.here hx rfl (hb hby d22_34) rfl ?_
    refine XS.iloadN X5.here hx rfl (hb hby d22_35) rfl ?_
    exact k)
  obtain ⟨_, _, ⟨T8, L8, k8, n8⟩, -, X8, ⟨Lc8, hQ8, l8, y8, z8⟩, st8⟩ := Jvm.LawKit.callS X5 hx (y := Nm_8) hown (mvT hZ (wq hw 162 rfl)) (mvT hZ (wq hw 163 rfl)) (mvT hZ (wq hw 164 rfl)) (mvT hZ (wq hw 165 rfl)) (by decide) (backOf (W := 0) (rm25_2 l Z a0 hw [] o1 _ w0 w1 h0 n0 Z0 I4 hl0 hl1) hZ (wq hw 165 rfl) (wq hw 164 rfl) (by decide) (by decide)) (g := (mkF m 36 #[.val (.ref o0), .val (.ref o1), .val (.int 0), .val (.int 2), .val .null, .unset] [(.int 2), (.int 0), (.ref o1)])) rfl (by rw [hml]; rfl) (argsL := [(.ref o1), (.int 0), (.int 2)]) (rest := []) (lenOf pd___CII__B rfl) rfl (w00 rfl) (hb hby d22_36) (fun _ _ => ⟨rfl, e5, (by decide : 0 + 1 ≤ _), (by decide : 0 + 2 ≤ _)⟩)
  dsimp only [Pt.U, Pt.locs, Pt.cells, Pt.slots] at X8 l8 y8 z8 st8 hQ8
  subst l8 y8 z8
  obtain ⟨b36_0, k_b1_8, rfl, Nq8, Kq8, gz8_b36_0, o8_0⟩ := hQ8
  have N8 := Fr.app N0 Nq8
  have K8 : Keep h0 T8.heap [o0] := K0.trans Kq8 all0
  have Z8 : n0 ≤ T8.heap.size := Nat.le_trans Z0 Kq8.1
  have x9 := own_staK I0 Kq8 all0
  have x10 := I1.keep Kq8
  have x11 := I2.keep Kq8 nin0
  have x12 := I3.keep Kq8 nin0
  have x13 := I4.keep Kq8 nin0
  have gg8_b36_0 : n0 ≤ b36_0 := Nat.le_trans Z0 gz8_b36_0
  have sz8_b36_0 : h0.size ≤ b36_0 := Nat.le_trans K0.1 gz8_b36_0
  have ne8_o0_b36_0 : o0 ≠ b36_0 := Nat.ne_of_lt (Nat.lt_of_lt_of_le I1.lt gz8_b36_0)
  have ne8_o1_b36_0 : o1 ≠ b36_0 := Nat.ne_of_lt (Nat.lt_of_lt_of_le I4.lt gz8_b36_0)
  have pre14 := Go.thn pre7 st8
  have pre15 : Go p e below T8 _ (mkF m 45 #[.val (.ref o0), .val (.ref o1), .val (.int 0), .val (.int 2), .val .null, .val (.ref b36_0)] [(.int 2), (.ref b36_0), (.ref o0)]) _ := fun t k => pre14 t (by
    refine XS.astore X8.here hx rfl (hb hby d22_39) rfl rfl (l' := #[.val (.ref o0), .val (.ref o1), .val (.int 0), .val (.int 2), .val .null, .val (.ref b36_0)]) rfl ?_
    refine XS.aloadN X8.here hx rfl (hb hby d22_41) rfl rfl ?_
    refine XS.aload X8.here hx rfl (hb hby d22_42) rfl rfl ?_
    refine XS.iloadN X8.here hx rfl (hb hby d22_44) rfl ?_
    exact k)
  obtain ⟨_, _, ⟨T16, L16, k16, n16⟩, -, X16, ⟨Lc16, hQ16, l16, y16, z16⟩, st16⟩ := Jvm.LawKit.callS X8 hx (y := Nm_6) hown (mvT hZ (wq hw 169 rfl)) (mvT hZ (wq hw 170 rfl)) (mvT hZ (wq hw 164 rfl)) (mvT hZ (wq hw 171 rfl)) (by decide) (backOf (W := 1) (rm27_2 l Z a0 hw [] b36_0 _ ((w0.toInt8.toInt32).toInt8.toInt32) ((w1.toInt8.toInt32).toInt8.toInt32) T8.heap n0 Z8 o8_0) hZ (wq hw 171 rfl) (wq hw 164 rfl) (by decide) (by decide)) (g := (mkF m 45 #[.val (.ref o0), .val (.ref o1), .val (.int 0), .val (.int 2), .val .null, .val (.ref b36_0)] [(.int 2), (.ref b36_0), (.ref o0)])) rfl (by rw [hml]; rfl) (argsL := [(.ref b36_0), (.int 2)]) (rest := [(.ref o0)]) (lenOf pd___BI_B rfl) rfl (w00 rfl) (hb hby d22_45) (fun _ _ => ⟨rfl, rfl, (by decide : 1 + 0 ≤ _), (by decide : 2 + 0 ≤ _)⟩)
  dsimp only [Pt.U, Pt.locs, Pt.cells, Pt.slots] at X16 l16 y16 z16 st16 hQ16
  subst l16 y16 z16
  obtain ⟨rfl, Nq16, e16⟩ := hQ16
  have N16 := Fr.app N8 Nq16
  have pre17 := Go.thn pre15 st16
  have pre18 : Go p e below T16 _ (mkF m 48 #[.val (.ref o0), .val (.ref o1), .val (.int 0), .val (.int 2), .val .null, .val (.ref b36_0)] [(.int 0), (.ref o0)]) _ := fun t k => pre17 t (by
    show Steps p.tables e below (T16.setTop (mkF m 48 #[.val (.ref o0), .val (.ref o1), .val (.int 0), .val (.int 2), .val .null, .val (.ref b36_0)] [(.int (f27_2)), (.ref o0)])) _
    rw [show f27_2 = (0 : Int32) from rfl]
    exact k)
  obtain ⟨T19, h19, X19, e19, W19, st19⟩ := putFN X16 hx hZ hown (wq hw 149 rfl) Via.refl e16 x12 x10 (Or.inr ⟨(wq hw 21 rfl), rfl, hnm⟩) (wq hw 19 rfl) (ty := .byte) (v' := (.int 0)) (by decide) rfl (by decide) (g := (mkF m 48 #[.val (.ref o0), .val (.ref o1), .val (.int 0), .val (.int 2), .val .null, .val (.ref b36_0)] [(.int 0), (.ref o0)])) rfl rfl (hb hby d22_48)
  have N19 := Fr.snoc X19 N16 gw_o0
  have K19 : Keep h0 h19 [o0] := K8.wr W19 (Or.inl (List.mem_of_getElem? (i := 0) rfl))
  have Z19 : n0 ≤ h19.size := Nat.le_trans Z8 (Keep.of_wr W19).1
  have x20 := x9.wr W19
  have x21 := x10.wr W19
  have x22 := x11.other W19 (Or.inr (slot_ne (Or.inr (wq hw 20 rfl)) (Or.inr (wq hw 21 rfl)) (by decide) (t := (.array .byte)) (t' := .byte) (by decide) (by decide)))
  have x23 := x12.same W19
  have x24 := x13.other W19 ne_o1_o0
  have x25 := o8_0.other W19 (Ne.symm ne8_o0_b36_0)
  have pre26 := Go.thn pre18 st19
  have pre27 : Go p e below T19 _ (mkF m 54 #[.val (.ref o0), .val (.ref o1), .val (.int 0), .val (.int 2), .val .null, .val (.ref b36_0)] [(.ref b36_0), (.ref o0)]) _ := fun t k => pre26 t (by
    refine XS.aloadN X19.here hx rfl (hb hby d22_51) rfl rfl ?_
    refine XS.aload X19.here hx rfl (hb hby d22_52) rfl rfl ?_
    exact k)
  obtain ⟨T28, h28, X28, e28, W28, st28⟩ := putF X19 hx hZ hown (host := "") (Or.inl (wq hw 148 rfl)) Via.refl e19 x22 x21 (Or.inr ⟨(wq hw 20 rfl), rfl, hnm⟩) (wq hw 19 rfl) (ty := (.array .byte)) (by decide) rfl rfl (g := (mkF m 54 #[.val (.ref o0), .val (.ref o1), .val (.int 0), .val (.int 2), .val .null, .val (.ref b36_0)] [(.ref b36_0), (.ref o0)])) rfl rfl (hb hby d22_54)
  have N28 := Fr.snoc X28 N19 gw_o0
  have K28 : Keep h0 h28 [o0] := K19.wr W28 (Or.inl (List.mem_of_getElem? (i := 0) rfl))
  have Z28 : n0 ≤ h28.size := Nat.le_trans Z19 (Keep.of_wr W28).1
  have x29 := x20.wr W28
  have x30 := x21.wr W28
  have x31 := x22.same W28
  have x32 := x23.other W28 (Or.inr (slot_ne (Or.inr (wq hw 21 rfl)) (Or.inr (wq hw 20 rfl)) (by decide) (t := .byte) (t' := (.array .byte)) (by decide) (by decide)))
  have x33 := x24.other W28 ne_o1_o0
  have x34 := x25.other W28 (Ne.symm ne8_o0_b36_0)
  have pre35 := Go.thn pre27 st28
  obtain ⟨fs, hr, hrun, hended, hW, hsame⟩ := X28.leave (v := none) (fun _ => rfl)
  refine ⟨_, _, ?_, hrun, hended, _, _, rfl, ?_, ⟨_, rfl⟩, hW, hsame.mono (by decide) (by decide)⟩
  · exact pre35 _ (X28.returnOut hx Bd.returns (hb hby d22_57) hr)
  · show Q22_2 Z o0 o1 wcs kc w0 w1 h0 n0 _ T28.heap _
    rw [e28]
    exact ⟨b36_0, _, rfl, N28, K28, sz8_b36_0, x30, x31, x32, x34⟩
def Q21_2 (Z : State) (o0 : Addr) (o1 : Addr) (wcs : Int32) (kc : ClassId) (w0 : Int32) (w1 : Int32) (h0 : Heap) (n0 : Nat) (v : Option Value) (h : Heap) (L : List Loc) : Prop := ∃ (b6_0 : Addr) (k_b6_0 : ClassId), v = none ∧ Fr n0 L ∧ Keep h0 h [o0] ∧ h0.size ≤ b6_0 ∧ Exa Z h o0 "java/lang/String" ∧ Fld Z h o0 "java/lang/String" "value" "[B" (.ref b6_0) ∧ Fld Z h o0 "java/lang/String" "coder" "B" (.int 0) ∧ Arv Z h b6_0 k_b6_0 .byte (2 : Int32) [(.int ((w0.toInt8.toInt32).toInt8.toInt32)), (.int ((w1.toInt8.toInt32).toInt8.toInt32))] (.int 0)
set_option maxRecDepth 65536 in
set_option maxHeartbeats 40000000 in
theorem rm21_2 (l : Launch) (Z : State) (a0 : Array Value) (hw : ∀ d ∈ tables_1, d.before a0 Z = true) (ws : List Jvm.Cond) (o0 : Addr) (o1 : Addr) (wcs : Int32) (kc : ClassId) (w0 : Int32) (w1 : Int32) (h0 : Heap) (n0 : Nat) (Z0 : n0 ≤ h0.size) (I0 : Sta Z h0 "java/lang/String" "COMPACT_STRINGS" "Z" (.int wcs)) (I1 : Exa Z h0 o0 "java/lang/String") (I2 : Fld Z h0 o0 "java/lang/String" "value" "[B" .null) (I3 : Fld Z h0 o0 "java/lang/String" "coder" "B" (.int 0)) (I4 : Arv Z h0 o1 kc .char (2 : Int32) [(.int w0), (.int w1)] (.int 0)) (gw_o0 : n0 ≤ o0) (ne_o1_o0 : o1 ≠ o0) (hcs : ¬ (wcs = (0 : Int32))) (hl0 : ¬ ((255 : Int32) < w0)) (hl1 : ¬ ((255 : Int32) < w1)) :
    Met1 l Nm_5 (Jvm.Cond.code Nm_5 jdk_42_method_3_code 2 none) ws (rom 3 1 2 52) #[(.ref o0), (.ref o1)] Z h0 (Q21_2 Z o0 o1 wcs kc w0 w1 h0 n0) := by
  refine MetFree.of_bodySF (plainFor_of_name pn_21) hisR ?_
  intro p e s m args below meth c s₁ Bd hml0 hP hK
  obtain ⟨rfl, hZ, hh⟩ := hP
  have hx := Bd.exec
  have hby := Bd.bytes
  have hml : c.maxLocals = 2 := hml0
  have hown : s.vm.findClass "java/lang/String" = some m.cls := findClass_of_methodNamed Bd.named
  have X0 : Stand p l e (rom 3 1 2 52) s m _ _ _ _ _ [] 0 0 := Stand.of_body Bd
  have e0 : s₁.heap = h0 := by rw [← hh, Bd.state]; rfl
  have N0 := Fr.nil n0
  have K0 : Keep h0 h0 [o0] := Keep.refl _ _
  have pre0 : Go p e below s₁ _ (mkF m 0 #[.val (.ref o0), .val (.ref o1)] []) _ := fun t k => castTop (ef_21_0 m o0 o1) k
  have pre1 : Go p e below s₁ _ (mkF m 4 #[.val (.ref o0), .val (.ref o1)] [(.ref o1), (.int 0), (.ref o1), (.ref o0)]) _ := fun t k => pre0 t (by
    refine XS.aloadN X0.here hx rfl (hb hby d21_0) rfl rfl ?_
    refine XS.aloadN X0.here hx rfl (hb hby d21_1) rfl rfl ?_
    refine XS.iconst X0.here hx rfl (hb hby d21_2) ?_
    refine XS.aloadN X0.here hx rfl (hb hby d21_3) rfl rfl ?_
    exact k)
  obtain ⟨cl2, Ar2, -, Sz2, Mn2, Hs2, -⟩ := id I4
  have pre3 : Go p e below s₁ _ (mkF m 5 #[.val (.ref o0), .val (.ref o1)] [(.int 2), (.int 0), (.ref o1), (.ref o0)]) _ := fun t k => pre1 t (by
    show Steps p.tables e below (s₁.setTop (mkF m 4 #[.val (.ref o0), .val (.ref o1)] [(.ref o1), (.int 0), (.ref o1), (.ref o0)])) _
    refine X0.arraylength hx (by rw [e0]; exact Ar2.1) (State.isArrayOf_alike hZ.alike Ar2.2.1) (g := (mkF m 4 #[.val (.ref o0), .val (.ref o1)] [(.ref o1), (.int 0), (.ref o1), (.ref o0)])) rfl rfl (hb hby d21_4) _ ?_
    rw [len_of Sz2 Mn2]
    exact k)
  have pre4 : Go p e below s₁ _ (mkF m 6 #[.val (.ref o0), .val (.ref o1)] [.null, (.int 2), (.int 0), (.ref o1), (.ref o0)]) _ := fun t k => pre3 t (by
    refine XS.aconstNull X0.here hx rfl (hb hby d21_5) ?_
    exact k)
  obtain ⟨_, _, ⟨T5, L5, k5, n5⟩, -, X5, ⟨Lc5, hQ5, l5, y5, z5⟩, st5⟩ := X0.specialBack hx (y := Nm_4) rfl hown (mvT hZ (wq hw 142 rfl)) (mvT hZ (wq hw 143 rfl)) (mvT hZ (wq hw 145 rfl)) (by decide) (backOf (W := 0) (rm22_2 l Z a0 hw [] o0 o1 wcs _ w0 w1 h0 n0 Z0 I0 I1 I2 I3 I4 gw_o0 ne_o1_o0 hcs hl0 hl1) hZ (wq hw 145 rfl) (wq hw 18 rfl) (by decide) (by decide)) (g := (mkF m 6 #[.val (.ref o0), .val (.ref o1)] [.null, (.int 2), (.int 0), (.ref o1), (.ref o0)])) rfl (by rw [hml]; rfl) (Steps.refl _) (a := o0) (argsL := [(.ref o1), (.int 0), (.int 2), .null]) (rest := []) (lenOf pd___CIILjava_lang_Void__V rfl) rfl (w00 rfl) (hb hby d21_6) (fun _ _ => ⟨rfl, e0, (by decide : 0 + 1 ≤ _), (by decide : 0 + 2 ≤ _)⟩)
  dsimp only [Pt.U, Pt.locs, Pt.cells, Pt.slots] at X5 l5 y5 z5 st5 hQ5
  subst l5 y5 z5
  obtain ⟨b6_0, k_b36_0_5, rfl, Nq5, Kq5, gz5_b6_0, o5_0, o5_1, o5_2, o5_3⟩ := hQ5
  have N5 := Fr.app N0 Nq5
  have K5 : Keep h0 T5.heap [o0] := K0.trans Kq5 (allS (Or.inl (List.mem_of_getElem? (i := 0) rfl)) all0)
  have Z5 : n0 ≤ T5.heap.size := Nat.le_trans Z0 Kq5.1
  have x6 := own_staK I0 Kq5 (allS (own_plE I1) all0)
  have x7 := I1.keep Kq5
  have x8 := I4.keep Kq5 (ninS ne_o1_o0 nin0)
  have gg5_b6_0 : n0 ≤ b6_0 := Nat.le_trans Z0 gz5_b6_0
  have sz5_b6_0 : h0.size ≤ b6_0 := Nat.le_trans K0.1 gz5_b6_0
  have ne5_o0_b6_0 : o0 ≠ b6_0 := Nat.ne_of_lt (Nat.lt_of_lt_of_le I1.lt gz5_b6_0)
  have ne5_o1_b6_0 : o1 ≠ b6_0 := Nat.ne_of_lt (Nat.lt_of_lt_of_le I4.lt gz5_b6_0)
  have pre9 := Go.trn pre4 st5
  obtain ⟨fs, hr, hrun, hended, hW, hsame⟩ := X5.leave (v := none) (fun _ => rfl)
  refine ⟨_, _, ?_, hrun, hended, _, _, rfl, ?_, ⟨_, rfl⟩, hW, hsame.mono (by decide) (by decide)⟩
  · exact pre9 _ (X5.returnOut hx Bd.returns (hb hby d21_9) hr)
  · show Q21_2 Z o0 o1 wcs kc w0 w1 h0 n0 _ T5.heap _
    skip
    exact ⟨b6_0, _, rfl, N5, K5, sz5_b6_0, o5_0, o5_1, o5_2, o5_3⟩
theorem d4_0 : decode prog_15_method_1_code 0 = .ok (.aload_n 0, 1) := by decide +kernel
theorem d4_1 : decode prog_15_method_1_code 1 = .ok (.invokespecial 1, 3) := by decide +kernel
theorem d4_4 : decode prog_15_method_1_code 4 = .ok (.aload_n 0, 1) := by decide +kernel
theorem d4_5 : decode prog_15_method_1_code 5 = .ok (.lload_n 1, 1) := by decide +kernel
theorem d4_6 : decode prog_15_method_1_code 6 = .ok (.putfield 7, 3) := by decide +kernel
theorem d4_9 : decode prog_15_method_1_code 9 = .ok (.aload_n 0, 1) := by decide +kernel
theorem d4_10 : decode prog_15_method_1_code 10 = .ok (.aload_n 3, 1) := by decide +kernel
theorem d4_11 : decode prog_15_method_1_code 11 = .ok (.putfield 13, 3) := by decide +kernel
theorem d4_14 : decode prog_15_method_1_code 14 = .ok (.aload_n 0, 1) := by decide +kernel
theorem d4_15 : decode prog_15_method_1_code 15 = .ok (.lload 4, 2) := by decide +kernel
theorem d4_17 : decode prog_15_method_1_code 17 = .ok (.putfield 17, 3) := by decide +kernel
theorem d4_20 : decode prog_15_method_1_code 20 = .ok (.aload_n 0, 1) := by decide +kernel
theorem d4_21 : decode prog_15_method_1_code 21 = .ok (.aload 6, 2) := by decide +kernel
theorem d4_23 : decode prog_15_method_1_code 23 = .ok (.putfield 20, 3) := by decide +kernel
theorem d4_26 : decode prog_15_method_1_code 26 = .ok (.aload_n 0, 1) := by decide +kernel
theorem d4_27 : decode prog_15_method_1_code 27 = .ok (.aload 7, 2) := by decide +kernel
theorem d4_29 : decode prog_15_method_1_code 29 = .ok (.putfield 23, 3) := by decide +kernel
theorem d4_32 : decode prog_15_method_1_code 32 = .ok (.return_, 1) := by decide +kernel
theorem pn_4 : plainName "com/example/oncemark/oncemark/Message" = true := by first | (simp [plainName, overriddenIn]; done) | decide +kernel
theorem pd___V : parseMethodDescriptor "()V" = some ⟨[], none⟩ := by decide +kernel
theorem ef_4_n (m : MethodId) (x0 : Addr) (x1 : Int64) (x2 : Addr) (x3 : Int64) (x5 : Addr) : entryFrame m #[(.ref x0), (.long x1), (.ref x2), (.long x3), .null, (.ref x5)] 8 = mkF m 0 #[.val (.ref x0), .val (.long x1), .second, .val (.ref x2), .val (.long x3), .second, .val .null, .val (.ref x5)] [] := by first | (simp [entryFrame, mkF, argsToLocals, Value.category]; done) | rfl
def Q4_n (Z : State) (o0 : Addr) (q1 : Int64) (o2 : Addr) (q3 : Int64) (o5 : Addr) (h0 : Heap) (n0 : Nat) (v : Option Value) (h : Heap) (L : List Loc) : Prop := v = none ∧ Fr n0 L ∧ Keep h0 h [o0] ∧ Exa Z h o0 "com/example/oncemark/oncemark/Message" ∧ Fld Z h o0 "com/example/oncemark/oncemark/Message" "key" "Ljava/lang/String;" .null ∧ Fld Z h o0 "com/example/oncemark/oncemark/Message" "payload" "[B" (.ref o5)
set_option maxRecDepth 65536 in
set_option maxHeartbeats 40000000 in
theorem rm4_n (l : Launch) (Z : State) (a0 : Array Value) (hw : ∀ d ∈ tables_1, d.before a0 Z = true) (ws : List Jvm.Cond) (o0 : Addr) (q1 : Int64) (o2 : Addr) (q3 : Int64) (o5 : Addr) (h0 : Heap) (n0 : Nat) (Z0 : n0 ≤ h0.size) (I0 : Exa Z h0 o0 "com/example/oncemark/oncemark/Message") (I1 : Fld Z h0 o0 "com/example/oncemark/oncemark/Message" "id" "J" (.long (0 : Int64))) (I2 : Fld Z h0 o0 "com/example/oncemark/oncemark/Message" "producer" "Ljava/lang/String;" .null) (I3 : Fld Z h0 o0 "com/example/oncemark/oncemark/Message" "sequenceId" "J" (.long (0 : Int64))) (I4 : Fld Z h0 o0 "com/example/oncemark/oncemark/Message" "key" "Ljava/lang/String;" .null) (I5 : Fld Z h0 o0 "com/example/oncemark/oncemark/Message" "payload" "[B" .null) (gw_o0 : n0 ≤ o0) :
    Met1 l Nm_9 (Jvm.Cond.code Nm_9 prog_15_method_1_code 8 none) ws (rom 2 0 0 24) #[(.ref o0), (.long q1), (.ref o2), (.long q3), .null, (.ref o5)] Z h0 (Q4_n Z o0 q1 o2 q3 o5 h0 n0) := by
  refine MetFree.of_bodySF (plainFor_of_name pn_4) hisR ?_
  intro p e s m args below meth c s₁ Bd hml0 hP hK
  obtain ⟨rfl, hZ, hh⟩ := hP
  have hx := Bd.exec
  have hby := Bd.bytes
  have hml : c.maxLocals = 8 := hml0
  have hown : s.vm.findClass "com/example/oncemark/oncemark/Message" = some m.cls := findClass_of_methodNamed Bd.named
  have hnm := (name_of_methodNamed Bd.named Bd.method).1
  have X0 : Stand p l e (rom 2 0 0 24) s m _ _ _ _ _ [] 0 0 := Stand.of_body Bd
  have e0 : s₁.heap = h0 := by rw [← hh, Bd.state]; rfl
  have N0 := Fr.nil n0
  have K0 : Keep h0 h0 [o0] := Keep.refl _ _
  have pre0 : Go p e below s₁ _ (mkF m 0 #[.val (.ref o0), .val (.long q1), .second, .val (.ref o2), .val (.long q3), .second, .val .null, .val (.ref o5)] []) _ := fun t k => castTop (ef_4_n m o0 q1 o2 q3 o5) k
  have pre1 : Go p e below s₁ _ (mkF m 1 #[.val (.ref o0), .val (.long q1), .second, .val (.ref o2), .val (.long q3), .second, .val .null, .val (.ref o5)] [(.ref o0)]) _ := fun t k => pre0 t (by
    refine XS.aloadN X0.here hx rfl (hb hby d4_0) rfl rfl ?_
    exact k)
  obtain ⟨_, _, ⟨T2, L2, k2, n2⟩, -, X2, ⟨Lc2, hQ2, l2, y2, z2⟩, st2⟩ := X0.specialBack hx (y := Nm_2) rfl hown (mvT hZ (wq hw 27 rfl)) (mvT hZ (wq hw 28 rfl)) (mvT hZ (wq hw 31 rfl)) (by decide) (backOf (W := 0) (rm5 l Z a0 hw [] o0 h0 n0 Z0) hZ (wq hw 31 rfl) (wq hw 30 rfl) (by decide) (by decide)) (g := (mkF m 1 #[.val (.ref o0), .val (.long q1), .second, .val (.ref o2), .val (.long q3), .second, .val .null, .val (.ref o5)] [(.ref o0)])) rfl (by rw [hml]; rfl) (Steps.refl _) (a := o0) (argsL := []) (rest := []) (lenOf pd___V rfl) rfl (w00 rfl) (hb hby d4_1) (fun _ _ => ⟨rfl, e0, (by decide : 0 + 0 ≤ _), (by decide : 0 + 0 ≤ _)⟩)
  dsimp only [Pt.U, Pt.locs, Pt.cells, Pt.slots] at X2 l2 y2 z2 st2 hQ2
  subst l2 y2 z2
  obtain ⟨rfl, Nq2, e2⟩ := hQ2
  have N2 := Fr.app N0 Nq2
  have pre3 := Go.trn pre1 st2
  have pre4 : Go p e below T2 _ (mkF m 6 #[.val (.ref o0), .val (.long q1), .second, .val (.ref o2), .val (.long q3), .second, .val .null, .val (.ref o5)] [(.long q1), (.ref o0)]) _ := fun t k => pre3 t (by
    refine XS.aloadN X2.here hx rfl (hb hby d4_4) rfl rfl ?_
    refine XS.lloadN X2.here hx rfl (hb hby d4_5) rfl ?_
    exact k)
  obtain ⟨T5, h5, X5, e5, W5, st5⟩ := putF X2 hx hZ hown (host := "") (Or.inl (wq hw 35 rfl)) Via.refl e2 I1 I0 (Or.inr ⟨(wq hw 36 rfl), rfl, hnm⟩) (wq hw 15 rfl) (ty := .long) (by decide) rfl rfl (g := (mkF m 6 #[.val (.ref o0), .val (.long q1), .second, .val (.ref o2), .val (.long q3), .second, .val .null, .val (.ref o5)] [(.long q1), (.ref o0)])) rfl rfl (hb hby d4_6)
  have N5 := Fr.snoc X5 N2 gw_o0
  have K5 : Keep h0 h5 [o0] := K0.wr W5 (Or.inl (List.mem_of_getElem? (i := 0) rfl))
  have Z5 : n0 ≤ h5.size := Nat.le_trans Z0 (Keep.of_wr W5).1
  have x6 := I0.wr W5
  have x7 := I1.same W5
  have x8 := I2.other W5 (Or.inr (slot_ne (Or.inr (wq hw 38 rfl)) (Or.inr (wq hw 36 rfl)) (by decide) (t := (.object "java/lang/String")) (t' := .long) (by decide) (by decide)))
  have x9 := I3.other W5 (Or.inr (slot_ne (Or.inr (wq hw 40 rfl)) (Or.inr (wq hw 36 rfl)) (by decide) (t := .long) (t' := .long) (by decide) (by decide)))
  have x10 := I4.other W5 (Or.inr (slot_ne (Or.inr (wq hw 42 rfl)) (Or.inr (wq hw 36 rfl)) (by decide) (t := (.object "java/lang/String")) (t' := .long) (by decide) (by decide)))
  have x11 := I5.other W5 (Or.inr (slot_ne (Or.inr (wq hw 44 rfl)) (Or.inr (wq hw 36 rfl)) (by decide) (t := (.array .byte)) (t' := .long) (by decide) (by decide)))
  have pre12 := Go.thn pre4 st5
  have pre13 : Go p e below T5 _ (mkF m 11 #[.val (.ref o0), .val (.long q1), .second, .val (.ref o2), .val (.long q3), .second, .val .null, .val (.ref o5)] [(.ref o2), (.ref o0)]) _ := fun t k => pre12 t (by
    refine XS.aloadN X5.here hx rfl (hb hby d4_9) rfl rfl ?_
    refine XS.aloadN X5.here hx rfl (hb hby d4_10) rfl rfl ?_
    exact k)
  obtain ⟨T14, h14, X14, e14, W14, st14⟩ := putF X5 hx hZ hown (host := "") (Or.inl (wq hw 37 rfl)) Via.refl e5 x8 x6 (Or.inr ⟨(wq hw 38 rfl), rfl, hnm⟩) (wq hw 15 rfl) (ty := (.object "java/lang/String")) (by decide) rfl rfl (g := (mkF m 11 #[.val (.ref o0), .val (.long q1), .second, .val (.ref o2), .val (.long q3), .second, .val .null, .val (.ref o5)] [(.ref o2), (.ref o0)])) rfl rfl (hb hby d4_11)
  have N14 := Fr.snoc X14 N5 gw_o0
  have K14 : Keep h0 h14 [o0] := K5.wr W14 (Or.inl (List.mem_of_getElem? (i := 0) rfl))
  have Z14 : n0 ≤ h14.size := Nat.le_trans Z5 (Keep.of_wr W14).1
  have x15 := x6.wr W14
  have x16 := x7.other W14 (Or.inr (slot_ne (Or.inr (wq hw 36 rfl)) (Or.inr (wq hw 38 rfl)) (by decide) (t := .long) (t' := (.object "java/lang/String")) (by decide) (by decide)))
  have x17 := x8.same W14
  have x18 := x9.other W14 (Or.inr (slot_ne (Or.inr (wq hw 40 rfl)) (Or.inr (wq hw 38 rfl)) (by decide) (t := .long) (t' := (.object "java/lang/String")) (by decide) (by decide)))
  have x19 := x10.other W14 (Or.inr (slot_ne (Or.inr (wq hw 42 rfl)) (Or.inr (wq hw 38 rfl)) (by decide) (t := (.object "java/lang/String")) (t' := (.object "java/lang/String")) (by decide) (by decide)))
  have x20 := x11.other W14 (Or.inr (slot_ne (Or.inr (wq hw 44 rfl)) (Or.inr (wq hw 38 rfl)) (by decide) (t := (.array .byte)) (t' := (.object "java/lang/String")) (by decide) (by decide)))
  have pre21 := Go.thn pre13 st14
  have pre22 : Go p e below T14 _ (mkF m 17 #[.val (.ref o0), .val (.long q1), .second, .val (.ref o2), .val (.long q3), .second, .val .null, .val (.ref o5)] [(.long q3), (.ref o0)]) _ := fun t k => pre21 t (by
    refine XS.aloadN X14.here hx rfl (hb hby d4_14) rfl rfl ?_
    refine XS.lload X14.here hx rfl (hb hby d4_15) rfl ?_
    exact k)
  obtain ⟨T23, h23, X23, e23, W23, st23⟩ := putF X14 hx hZ hown (host := "") (Or.inl (wq hw 39 rfl)) Via.refl e14 x18 x15 (Or.inr ⟨(wq hw 40 rfl), rfl, hnm⟩) (wq hw 15 rfl) (ty := .long) (by decide) rfl rfl (g := (mkF m 17 #[.val (.ref o0), .val (.long q1), .second, .val (.ref o2), .val (.long q3), .second, .val .null, .val (.ref o5)] [(.long q3), (.ref o0)])) rfl rfl (hb hby d4_17)
  have N23 := Fr.snoc X23 N14 gw_o0
  have K23 : Keep h0 h23 [o0] := K14.wr W23 (Or.inl (List.mem_of_getElem? (i := 0) rfl))
  have Z23 : n0 ≤ h23.size := Nat.le_trans Z14 (Keep.of_wr W23).1
  have x24 := x15.wr W23
  have x25 := x16.other W23 (Or.inr (slot_ne (Or.inr (wq hw 36 rfl)) (Or.inr (wq hw 40 rfl)) (by decide) (t := .long) (t' := .long) (by decide) (by decide)))
  have x26 := x17.other W23 (Or.inr (slot_ne (Or.inr (wq hw 38 rfl)) (Or.inr (wq hw 40 rfl)) (by decide) (t := (.object "java/lang/String")) (t' := .long) (by decide) (by decide)))
  have x27 := x18.same W23
  have x28 := x19.other W23 (Or.inr (slot_ne (Or.inr (wq hw 42 rfl)) (Or.inr (wq hw 40 rfl)) (by decide) (t := (.object "java/lang/String")) (t' := .long) (by decide) (by decide)))
  have x29 := x20.other W23 (Or.inr (slot_ne (Or.inr (wq hw 44 rfl)) (Or.inr (wq hw 40 rfl)) (by decide) (t := (.array .byte)) (t' := .long) (by decide) (by decide)))
  have pre30 := Go.thn pre22 st23
  have pre31 : Go p e below T23 _ (mkF m 23 #[.val (.ref o0), .val (.long q1), .second, .val (.ref o2), .val (.long q3), .second, .val .null, .val (.ref o5)] [.null, (.ref o0)]) _ := fun t k => pre30 t (by
    refine XS.aloadN X23.here hx rfl (hb hby d4_20) rfl rfl ?_
    refine XS.aload X23.here hx rfl (hb hby d4_21) rfl rfl ?_
    exact k)
  obtain ⟨T32, h32, X32, e32, W32, st32⟩ := putF X23 hx hZ hown (host := "") (Or.inl (wq hw 41 rfl)) Via.refl e23 x28 x24 (Or.inr ⟨(wq hw 42 rfl), rfl, hnm⟩) (wq hw 15 rfl) (ty := (.object "java/lang/String")) (by decide) rfl rfl (g := (mkF m 23 #[.val (.ref o0), .val (.long q1), .second, .val (.ref o2), .val (.long q3), .second, .val .null, .val (.ref o5)] [.null, (.ref o0)])) rfl rfl (hb hby d4_23)
  have N32 := Fr.snoc X32 N23 gw_o0
  have K32 : Keep h0 h32 [o0] := K23.wr W32 (Or.inl (List.mem_of_getElem? (i := 0) rfl))
  have Z32 : n0 ≤ h32.size := Nat.le_trans Z23 (Keep.of_wr W32).1
  have x33 := x24.wr W32
  have x34 := x25.other W32 (Or.inr (slot_ne (Or.inr (wq hw 36 rfl)) (Or.inr (wq hw 42 rfl)) (by decide) (t := .long) (t' := (.object "java/lang/String")) (by decide) (by decide)))
  have x35 := x26.other W32 (Or.inr (slot_ne (Or.inr (wq hw 38 rfl)) (Or.inr (wq hw 42 rfl)) (by decide) (t := (.object "java/lang/String")) (t' := (.object "java/lang/String")) (by decide) (by decide)))
  have x36 := x27.other W32 (Or.inr (slot_ne (Or.inr (wq hw 40 rfl)) (Or.inr (wq hw 42 rfl)) (by decide) (t := .long) (t' := (.object "java/lang/String")) (by decide) (by decide)))
  have x37 := x28.same W32
  have x38 := x29.other W32 (Or.inr (slot_ne (Or.inr (wq hw 44 rfl)) (Or.inr (wq hw 42 rfl)) (by decide) (t := (.array .byte)) (t' := (.object "java/lang/String")) (by decide) (by decide)))
  have pre39 := Go.thn pre31 st32
  have pre40 : Go p e below T32 _ (mkF m 29 #[.val (.ref o0), .val (.long q1), .second, .val (.ref o2), .val (.long q3), .second, .val .null, .val (.ref o5)] [(.ref o5), (.ref o0)]) _ := fun t k => pre39 t (by
    refine XS.aloadN X32.here hx rfl (hb hby d4_26) rfl rfl ?_
    refine XS.aload X32.here hx rfl (hb hby d4_27) rfl rfl ?_
    exact k)
  obtain ⟨T41, h41, X41, e41, W41, st41⟩ := putF X32 hx hZ hown (host := "") (Or.inl (wq hw 43 rfl)) Via.refl e32 x38 x33 (Or.inr ⟨(wq hw 44 rfl), rfl, hnm⟩) (wq hw 15 rfl) (ty := (.array .byte)) (by decide) rfl rfl (g := (mkF m 29 #[.val (.ref o0), .val (.long q1), .second, .val (.ref o2), .val (.long q3), .second, .val .null, .val (.ref o5)] [(.ref o5), (.ref o0)])) rfl rfl (hb hby d4_29)
  have N41 := Fr.snoc X41 N32 gw_o0
  have K41 : Keep h0 h41 [o0] := K32.wr W41 (Or.inl (List.mem_of_getElem? (i := 0) rfl))
  have Z41 : n0 ≤ h41.size := Nat.le_trans Z32 (Keep.of_wr W41).1
  have x42 := x33.wr W41
  have x43 := x34.other W41 (Or.inr (slot_ne (Or.inr (wq hw 36 rfl)) (Or.inr (wq hw 44 rfl)) (by decide) (t := .long) (t' := (.array .byte)) (by decide) (by decide)))
  have x44 := x35.other W41 (Or.inr (slot_ne (Or.inr (wq hw 38 rfl)) (Or.inr (wq hw 44 rfl)) (by decide) (t := (.object "java/lang/String")) (t' := (.array .byte)) (by decide) (by decide)))
  have x45 := x36.other W41 (Or.inr (slot_ne (Or.inr (wq hw 40 rfl)) (Or.inr (wq hw 44 rfl)) (by decide) (t := .long) (t' := (.array .byte)) (by decide) (by decide)))
  have x46 := x37.other W41 (Or.inr (slot_ne (Or.inr (wq hw 42 rfl)) (Or.inr (wq hw 44 rfl)) (by decide) (t := (.object "java/lang/String")) (t' := (.array .byte)) (by decide) (by decide)))
  have x47 := x38.same W41
  have pre48 := Go.thn pre40 st41
  obtain ⟨fs, hr, hrun, hended, hW, hsame⟩ := X41.leave (v := none) (fun _ => rfl)
  refine ⟨_, _, ?_, hrun, hended, _, _, rfl, ?_, ⟨_, rfl⟩, hW, hsame.mono (by decide) (by decide)⟩
  · exact pre48 _ (X41.returnOut hx Bd.returns (hb hby d4_32) hr)
  · show Q4_n Z o0 q1 o2 q3 o5 h0 n0 _ T41.heap _
    rw [e41]
    exact ⟨rfl, N41, K41, x42, x46, x47⟩
theorem ef_4_k (m : MethodId) (x0 : Addr) (x1 : Int64) (x2 : Addr) (x3 : Int64) (x4 : Addr) (x5 : Addr) : entryFrame m #[(.ref x0), (.long x1), (.ref x2), (.long x3), (.ref x4), (.ref x5)] 8 = mkF m 0 #[.val (.ref x0), .val (.long x1), .second, .val (.ref x2), .val (.long x3), .second, .val (.ref x4), .val (.ref x5)] [] := by first | (simp [entryFrame, mkF, argsToLocals, Value.category]; done) | rfl
def Q4_k (Z : State) (o0 : Addr) (q1 : Int64) (o2 : Addr) (q3 : Int64) (o4 : Addr) (o5 : Addr) (h0 : Heap) (n0 : Nat) (v : Option Value) (h : Heap) (L : List Loc) : Prop := v = none ∧ Fr n0 L ∧ Keep h0 h [o0] ∧ Exa Z h o0 "com/example/oncemark/oncemark/Message" ∧ Fld Z h o0 "com/example/oncemark/oncemark/Message" "key" "Ljava/lang/String;" (.ref o4) ∧ Fld Z h o0 "com/example/oncemark/oncemark/Message" "payload" "[B" (.ref o5)
set_option maxRecDepth 65536 in
set_option maxHeartbeats 40000000 in
theorem rm4_k (l : Launch) (Z : State) (a0 : Array Value) (hw : ∀ d ∈ tables_1, d.before a0 Z = true) (ws : List Jvm.Cond) (o0 : Addr) (q1 : Int64) (o2 : Addr) (q3 : Int64) (o4 : Addr) (o5 : Addr) (h0 : Heap) (n0 : Nat) (Z0 : n0 ≤ h0.size) (I0 : Exa Z h0 o0 "com/example/oncemark/oncemark/Message") (I1 : Fld Z h0 o0 "com/example/oncemark/oncemark/Message" "id" "J" (.long (0 : Int64))) (I2 : Fld Z h0 o0 "com/example/oncemark/oncemark/Message" "producer" "Ljava/lang/String;" .null) (I3 : Fld Z h0 o0 "com/example/oncemark/oncemark/Message" "sequenceId" "J" (.long (0 : Int64))) (I4 : Fld Z h0 o0 "com/example/oncemark/oncemark/Message" "key" "Ljava/lang/String;" .null) (I5 : Fld Z h0 o0 "com/example/oncemark/oncemark/Message" "payload" "[B" .null) (gw_o0 : n0 ≤ o0) :
    Met1 l Nm_9 (Jvm.Cond.code Nm_9 prog_15_method_1_code 8 none) ws (rom 2 0 0 24) #[(.ref o0), (.long q1), (.ref o2), (.long q3), (.ref o4), (.ref o5)] Z h0 (Q4_k Z o0 q1 o2 q3 o4 o5 h0 n0) := by
  refine MetFree.of_bodySF (plainFor_of_name pn_4) hisR ?_
  intro p e s m args below meth c s₁ Bd hml0 hP hK
  obtain ⟨rfl, hZ, hh⟩ := hP
  have hx := Bd.exec
  have hby := Bd.bytes
  have hml : c.maxLocals = 8 := hml0
  have hown : s.vm.findClass "com/example/oncemark/oncemark/Message" = some m.cls := findClass_of_methodNamed Bd.named
  have hnm := (name_of_methodNamed Bd.named Bd.method).1
  have X0 : Stand p l e (rom 2 0 0 24) s m _ _ _ _ _ [] 0 0 := Stand.of_body Bd
  have e0 : s₁.heap = h0 := by rw [← hh, Bd.state]; rfl
  have N0 := Fr.nil n0
  have K0 : Keep h0 h0 [o0] := Keep.refl _ _
  have pre0 : Go p e below s₁ _ (mkF m 0 #[.val (.ref o0), .val (.long q1), .second, .val (.ref o2), .val (.long q3), .second, .val (.ref o4), .val (.ref o5)] []) _ := fun t k => castTop (ef_4_k m o0 q1 o2 q3 o4 o5) k
  have pre1 : Go p e below s₁ _ (mkF m 1 #[.val (.ref o0), .val (.long q1), .second, .val (.ref o2), .val (.long q3), .second, .val (.ref o4), .val (.ref o5)] [(.ref o0)]) _ := fun t k => pre0 t (by
    refine XS.aloadN X0.here hx rfl (hb hby d4_0) rfl rfl ?_
    exact k)
  obtain ⟨_, _, ⟨T2, L2, k2, n2⟩, -, X2, ⟨Lc2, hQ2, l2, y2, z2⟩, st2⟩ := X0.specialBack hx (y := Nm_2) rfl hown (mvT hZ (wq hw 27 rfl)) (mvT hZ (wq hw 28 rfl)) (mvT hZ (wq hw 31 rfl)) (by decide) (backOf (W := 0) (rm5 l Z a0 hw [] o0 h0 n0 Z0) hZ (wq hw 31 rfl) (wq hw 30 rfl) (by decide) (by decide)) (g := (mkF m 1 #[.val (.ref o0), .val (.long q1), .second, .val (.ref o2), .val (.long q3), .second, .val (.ref o4), .val (.ref o5)] [(.ref o0)])) rfl (by rw [hml]; rfl) (Steps.refl _) (a := o0) (argsL := []) (rest := []) (lenOf pd___V rfl) rfl (w00 rfl) (hb hby d4_1) (fun _ _ => ⟨rfl, e0, (by decide : 0 + 0 ≤ _), (by decide : 0 + 0 ≤ _)⟩)
  dsimp only [Pt.U, Pt.locs, Pt.cells, Pt.slots] at X2 l2 y2 z2 st2 hQ2
  subst l2 y2 z2
  obtain ⟨rfl, Nq2, e2⟩ := hQ2
  have N2 := Fr.app N0 Nq2
  have pre3 := Go.trn pre1 st2
  have pre4 : Go p e below T2 _ (mkF m 6 #[.val (.ref o0), .val (.long q1), .second, .val (.ref o2), .val (.long q3), .second, .val (.ref o4), .val (.ref o5)] [(.long q1), (.ref o0)]) _ := fun t k => pre3 t (by
    refine XS.aloadN X2.here hx rfl (hb hby d4_4) rfl rfl ?_
    refine XS.lloadN X2.here hx rfl (hb hby d4_5) rfl ?_
    exact k)
  obtain ⟨T5, h5, X5, e5, W5, st5⟩ := putF X2 hx hZ hown (host := "") (Or.inl (wq hw 35 rfl)) Via.refl e2 I1 I0 (Or.inr ⟨(wq hw 36 rfl), rfl, hnm⟩) (wq hw 15 rfl) (ty := .long) (by decide) rfl rfl (g := (mkF m 6 #[.val (.ref o0), .val (.long q1), .second, .val (.ref o2), .val (.long q3), .second, .val (.ref o4), .val (.ref o5)] [(.long q1), (.ref o0)])) rfl rfl (hb hby d4_6)
  have N5 := Fr.snoc X5 N2 gw_o0
  have K5 : Keep h0 h5 [o0] := K0.wr W5 (Or.inl (List.mem_of_getElem? (i := 0) rfl))
  have Z5 : n0 ≤ h5.size := Nat.le_trans Z0 (Keep.of_wr W5).1
  have x6 := I0.wr W5
  have x7 := I1.same W5
  have x8 := I2.other W5 (Or.inr (slot_ne (Or.inr (wq hw 38 rfl)) (Or.inr (wq hw 36 rfl)) (by decide) (t := (.object "java/lang/String")) (t' := .long) (by decide) (by decide)))
  have x9 := I3.other W5 (Or.inr (slot_ne (Or.inr (wq hw 40 rfl)) (Or.inr (wq hw 36 rfl)) (by decide) (t := .long) (t' := .long) (by decide) (by decide)))
  have x10 := I4.other W5 (Or.inr (slot_ne (Or.inr (wq hw 42 rfl)) (Or.inr (wq hw 36 rfl)) (by decide) (t := (.object "java/lang/String")) (t' := .long) (by decide) (by decide)))
  have x11 := I5.other W5 (Or.inr (slot_ne (Or.inr (wq hw 44 rfl)) (Or.inr (wq hw 36 rfl)) (by decide) (t := (.array .byte)) (t' := .long) (by decide) (by decide)))
  have pre12 := Go.thn pre4 st5
  have pre13 : Go p e below T5 _ (mkF m 11 #[.val (.ref o0), .val (.long q1), .second, .val (.ref o2), .val (.long q3), .second, .val (.ref o4), .val (.ref o5)] [(.ref o2), (.ref o0)]) _ := fun t k => pre12 t (by
    refine XS.aloadN X5.here hx rfl (hb hby d4_9) rfl rfl ?_
    refine XS.aloadN X5.here hx rfl (hb hby d4_10) rfl rfl ?_
    exact k)
  obtain ⟨T14, h14, X14, e14, W14, st14⟩ := putF X5 hx hZ hown (host := "") (Or.inl (wq hw 37 rfl)) Via.refl e5 x8 x6 (Or.inr ⟨(wq hw 38 rfl), rfl, hnm⟩) (wq hw 15 rfl) (ty := (.object "java/lang/String")) (by decide) rfl rfl (g := (mkF m 11 #[.val (.ref o0), .val (.long q1), .second, .val (.ref o2), .val (.long q3), .second, .val (.ref o4), .val (.ref o5)] [(.ref o2), (.ref o0)])) rfl rfl (hb hby d4_11)
  have N14 := Fr.snoc X14 N5 gw_o0
  have K14 : Keep h0 h14 [o0] := K5.wr W14 (Or.inl (List.mem_of_getElem? (i := 0) rfl))
  have Z14 : n0 ≤ h14.size := Nat.le_trans Z5 (Keep.of_wr W14).1
  have x15 := x6.wr W14
  have x16 := x7.other W14 (Or.inr (slot_ne (Or.inr (wq hw 36 rfl)) (Or.inr (wq hw 38 rfl)) (by decide) (t := .long) (t' := (.object "java/lang/String")) (by decide) (by decide)))
  have x17 := x8.same W14
  have x18 := x9.other W14 (Or.inr (slot_ne (Or.inr (wq hw 40 rfl)) (Or.inr (wq hw 38 rfl)) (by decide) (t := .long) (t' := (.object "java/lang/String")) (by decide) (by decide)))
  have x19 := x10.other W14 (Or.inr (slot_ne (Or.inr (wq hw 42 rfl)) (Or.inr (wq hw 38 rfl)) (by decide) (t := (.object "java/lang/String")) (t' := (.object "java/lang/String")) (by decide) (by decide)))
  have x20 := x11.other W14 (Or.inr (slot_ne (Or.inr (wq hw 44 rfl)) (Or.inr (wq hw 38 rfl)) (by decide) (t := (.array .byte)) (t' := (.object "java/lang/String")) (by decide) (by decide)))
  have pre21 := Go.thn pre13 st14
  have pre22 : Go p e below T14 _ (mkF m 17 #[.val (.ref o0), .val (.long q1), .second, .val (.ref o2), .val (.long q3), .second, .val (.ref o4), .val (.ref o5)] [(.long q3), (.ref o0)]) _ := fun t k => pre21 t (by
    refine XS.aloadN X14.here hx rfl (hb hby d4_14) rfl rfl ?_
    refine XS.lload X14.here hx rfl (hb hby d4_15) rfl ?_
    exact k)
  obtain ⟨T23, h23, X23, e23, W23, st23⟩ := putF X14 hx hZ hown (host := "") (Or.inl (wq hw 39 rfl)) Via.refl e14 x18 x15 (Or.inr ⟨(wq hw 40 rfl), rfl, hnm⟩) (wq hw 15 rfl) (ty := .long) (by decide) rfl rfl (g := (mkF m 17 #[.val (.ref o0), .val (.long q1), .second, .val (.ref o2), .val (.long q3), .second, .val (.ref o4), .val (.ref o5)] [(.long q3), (.ref o0)])) rfl rfl (hb hby d4_17)
  have N23 := Fr.snoc X23 N14 gw_o0
  have K23 : Keep h0 h23 [o0] := K14.wr W23 (Or.inl (List.mem_of_getElem? (i := 0) rfl))
  have Z23 : n0 ≤ h23.size := Nat.le_trans Z14 (Keep.of_wr W23).1
  have x24 := x15.wr W23
  have x25 := x16.other W23 (Or.inr (slot_ne (Or.inr (wq hw 36 rfl)) (Or.inr (wq hw 40 rfl)) (by decide) (t := .long) (t' := .long) (by decide) (by decide)))
  have x26 := x17.other W23 (Or.inr (slot_ne (Or.inr (wq hw 38 rfl)) (Or.inr (wq hw 40 rfl)) (by decide) (t := (.object "java/lang/String")) (t' := .long) (by decide) (by decide)))
  have x27 := x18.same W23
  have x28 := x19.other W23 (Or.inr (slot_ne (Or.inr (wq hw 42 rfl)) (Or.inr (wq hw 40 rfl)) (by decide) (t := (.object "java/lang/String")) (t' := .long) (by decide) (by decide)))
  have x29 := x20.other W23 (Or.inr (slot_ne (Or.inr (wq hw 44 rfl)) (Or.inr (wq hw 40 rfl)) (by decide) (t := (.array .byte)) (t' := .long) (by decide) (by decide)))
  have pre30 := Go.thn pre22 st23
  have pre31 : Go p e below T23 _ (mkF m 23 #[.val (.ref o0), .val (.long q1), .second, .val (.ref o2), .val (.long q3), .second, .val (.ref o4), .val (.ref o5)] [(.ref o4), (.ref o0)]) _ := fun t k => pre30 t (by
    refine XS.aloadN X23.here hx rfl (hb hby d4_20) rfl rfl ?_
    refine XS.aload X23.here hx rfl (hb hby d4_21) rfl rfl ?_
    exact k)
  obtain ⟨T32, h32, X32, e32, W32, st32⟩ := putF X23 hx hZ hown (host := "") (Or.inl (wq hw 41 rfl)) Via.refl e23 x28 x24 (Or.inr ⟨(wq hw 42 rfl), rfl, hnm⟩) (wq hw 15 rfl) (ty := (.object "java/lang/String")) (by decide) rfl rfl (g := (mkF m 23 #[.val (.ref o0), .val (.long q1), .second, .val (.ref o2), .val (.long q3), .second, .val (.ref o4), .val (.ref o5)] [(.ref o4), (.ref o0)])) rfl rfl (hb hby d4_23)
  have N32 := Fr.snoc X32 N23 gw_o0
  have K32 : Keep h0 h32 [o0] := K23.wr W32 (Or.inl (List.mem_of_getElem? (i := 0) rfl))
  have Z32 : n0 ≤ h32.size := Nat.le_trans Z23 (Keep.of_wr W32).1
  have x33 := x24.wr W32
  have x34 := x25.other W32 (Or.inr (slot_ne (Or.inr (wq hw 36 rfl)) (Or.inr (wq hw 42 rfl)) (by decide) (t := .long) (t' := (.object "java/lang/String")) (by decide) (by decide)))
  have x35 := x26.other W32 (Or.inr (slot_ne (Or.inr (wq hw 38 rfl)) (Or.inr (wq hw 42 rfl)) (by decide) (t := (.object "java/lang/String")) (t' := (.object "java/lang/String")) (by decide) (by decide)))
  have x36 := x27.other W32 (Or.inr (slot_ne (Or.inr (wq hw 40 rfl)) (Or.inr (wq hw 42 rfl)) (by decide) (t := .long) (t' := (.object "java/lang/String")) (by decide) (by decide)))
  have x37 := x28.same W32
  have x38 := x29.other W32 (Or.inr (slot_ne (Or.inr (wq hw 44 rfl)) (Or.inr (wq hw 42 rfl)) (by decide) (t := (.array .byte)) (t' := (.object "java/lang/String")) (by decide) (by decide)))
  have pre39 := Go.thn pre31 st32
  have pre40 : Go p e below T32 _ (mkF m 29 #[.val (.ref o0), .val (.long q1), .second, .val (.ref o2), .val (.long q3), .second, .val (.ref o4), .val (.ref o5)] [(.ref o5), (.ref o0)]) _ := fun t k => pre39 t (by
    refine XS.aloadN X32.here hx rfl (hb hby d4_26) rfl rfl ?_
    refine XS.aload X32.here hx rfl (hb hby d4_27) rfl rfl ?_
    exact k)
  obtain ⟨T41, h41, X41, e41, W41, st41⟩ := putF X32 hx hZ hown (host := "") (Or.inl (wq hw 43 rfl)) Via.refl e32 x38 x33 (Or.inr ⟨(wq hw 44 rfl), rfl, hnm⟩) (wq hw 15 rfl) (ty := (.array .byte)) (by decide) rfl rfl (g := (mkF m 29 #[.val (.ref o0), .val (.long q1), .second, .val (.ref o2), .val (.long q3), .second, .val (.ref o4), .val (.ref o5)] [(.ref o5), (.ref o0)])) rfl rfl (hb hby d4_29)
  have N41 := Fr.snoc X41 N32 gw_o0
  have K41 : Keep h0 h41 [o0] := K32.wr W41 (Or.inl (List.mem_of_getElem? (i := 0) rfl))
  have Z41 : n0 ≤ h41.size := Nat.le_trans Z32 (Keep.of_wr W41).1
  have x42 := x33.wr W41
  have x43 := x34.other W41 (Or.inr (slot_ne (Or.inr (wq hw 36 rfl)) (Or.inr (wq hw 44 rfl)) (by decide) (t := .long) (t' := (.array .byte)) (by decide) (by decide)))
  have x44 := x35.other W41 (Or.inr (slot_ne (Or.inr (wq hw 38 rfl)) (Or.inr (wq hw 44 rfl)) (by decide) (t := (.object "java/lang/String")) (t' := (.array .byte)) (by decide) (by decide)))
  have x45 := x36.other W41 (Or.inr (slot_ne (Or.inr (wq hw 40 rfl)) (Or.inr (wq hw 44 rfl)) (by decide) (t := .long) (t' := (.array .byte)) (by decide) (by decide)))
  have x46 := x37.other W41 (Or.inr (slot_ne (Or.inr (wq hw 42 rfl)) (Or.inr (wq hw 44 rfl)) (by decide) (t := (.object "java/lang/String")) (t' := (.array .byte)) (by decide) (by decide)))
  have x47 := x38.same W41
  have pre48 := Go.thn pre40 st41
  obtain ⟨fs, hr, hrun, hended, hW, hsame⟩ := X41.leave (v := none) (fun _ => rfl)
  refine ⟨_, _, ?_, hrun, hended, _, _, rfl, ?_, ⟨_, rfl⟩, hW, hsame.mono (by decide) (by decide)⟩
  · exact pre48 _ (X41.returnOut hx Bd.returns (hb hby d4_32) hr)
  · show Q4_k Z o0 q1 o2 q3 o4 o5 h0 n0 _ T41.heap _
    rw [e41]
    exact ⟨rfl, N41, K41, x42, x46, x47⟩
theorem d3_0 : decode method_4_code 0 = .ok (.iload_n 2, 1) := by decide +kernel
theorem d3_1 : decode method_4_code 1 = .ok (.newarray .byte, 2) := by decide +kernel
theorem d3_3 : decode method_4_code 3 = .ok (.astore 6, 2) := by decide +kernel
theorem d3_5 : decode method_4_code 5 = .ok (.aconst_null, 1) := by decide +kernel
theorem d3_6 : decode method_4_code 6 = .ok (.astore 7, 2) := by decide +kernel
theorem d3_8 : decode method_4_code 8 = .ok (.iload_n 3, 1) := by decide +kernel
theorem d3_9 : decode method_4_code 9 = .ok (.ifCond .eq 43, 3) := by decide +kernel
theorem d3_52 : decode method_4_code 52 = .ok (.new 51, 3) := by decide +kernel
theorem d3_55 : decode method_4_code 55 = .ok (.dup, 1) := by decide +kernel
theorem d3_56 : decode method_4_code 56 = .ok (.lload_n 0, 1) := by decide +kernel
theorem d3_57 : decode method_4_code 57 = .ok (.ldc 53, 2) := by decide +kernel
theorem d3_59 : decode method_4_code 59 = .ok (.lload_n 0, 1) := by decide +kernel
theorem d3_60 : decode method_4_code 60 = .ok (.aload 7, 2) := by decide +kernel
theorem d3_62 : decode method_4_code 62 = .ok (.aload 6, 2) := by decide +kernel
theorem d3_64 : decode method_4_code 64 = .ok (.invokespecial 55, 3) := by decide +kernel
theorem d3_67 : decode method_4_code 67 = .ok (.areturn, 1) := by decide +kernel
theorem pn_3 : plainName "com/example/oncemark/oncemark/ReceiveQueueNeedsRefillPinLaw" = true := by first | (simp [plainName, overriddenIn]; done) | decide +kernel
theorem pd__JLjava_lang_String_JLjava_lang_String__B_V : parseMethodDescriptor "(JLjava/lang/String;JLjava/lang/String;[B)V" = some ⟨[.long, (.object "java/lang/String"), .long, (.object "java/lang/String"), (.array .byte)], none⟩ := by decide +kernel
theorem ef_3_0 (m : MethodId) (x0 : Int64) (x1 : Int32) (x3 : Int32) (x4 : Int32) : entryFrame m #[(.long x0), (.int x1), (.int 0), (.int x3), (.int x4)] 9 = mkF m 0 #[.val (.long x0), .second, .val (.int x1), .val (.int 0), .val (.int x3), .val (.int x4), .unset, .unset, .unset] [] := by first | (simp [entryFrame, mkF, argsToLocals, Value.category]; done) | rfl
def Q3_0 (Z : State) (q0 : Int64) (p1 : Int32) (p3 : Int32) (p4 : Int32) (jb : Nat) (h0 : Heap) (n0 : Nat) (v : Option Value) (h : Heap) (L : List Loc) : Prop := ∃ (b1 : Addr) (b52 : Addr) (k_b1 : ClassId), v = (some (.ref b52)) ∧ Fr n0 L ∧ Keep h0 h [] ∧ h0.size ≤ b1 ∧ h0.size ≤ b52 ∧ Exa Z h b52 "com/example/oncemark/oncemark/Message" ∧ Fld Z h b52 "com/example/oncemark/oncemark/Message" "key" "Ljava/lang/String;" .null ∧ Fld Z h b52 "com/example/oncemark/oncemark/Message" "payload" "[B" (.ref b1) ∧ Arh Z h b1 k_b1 .byte p1 [] [] (.int 0)
set_option maxRecDepth 65536 in
set_option maxHeartbeats 40000000 in
theorem rm3_0 (l : Launch) (Z : State) (a0 : Array Value) (hw : ∀ d ∈ tables_1, d.before a0 Z = true) (ws : List Jvm.Cond) (q0 : Int64) (p1 : Int32) (p3 : Int32) (p4 : Int32) (jb : Nat) (h0 : Heap) (n0 : Nat) (Z0 : n0 ≤ h0.size) (OX : own_X Z h0) (hjs : jb ≤ h0.size) (hn0 : n0 = h0.size) (hln : (¬ (p1 < (0 : Int32))) ∧ p1.toNatClampNeg ≤ 7) (hcw : Jvm.Lit.compactW.before a0 Z = true) (hh53 : Jvm.Lit.constHeld Z "com/example/oncemark/oncemark/ReceiveQueueNeedsRefillPinLaw" 53) :
    MetFree l Nm_10 (head1 (Jvm.Cond.code Nm_10 method_4_code 9 (some (.object "com/example/oncemark/oncemark/Message")) :: ws) (rom 4 8 28 66)) (fun a U => a = #[(.long q0), (.int p1), (.int 0), (.int p3), (.int p4)] ∧ Z.Warmed39 U.vm ∧ U.heap = h0 ∧ own_J "com/example/oncemark/oncemark/ReceiveQueueNeedsRefillPinLaw" Z U.vm h0 jb) (fun _ _ _ _ _ => True) (fun _ U o U' => ∃ v L, o = .returned v ∧ (Q3_0 Z q0 p1 p3 p4 jb h0 n0 v U'.heap L ∧ own_J "com/example/oncemark/oncemark/ReceiveQueueNeedsRefillPinLaw" Z U'.vm U'.heap U'.heap.size) ∧ ReturnedEndW U o U' L (rom 4 8 28 66).cells (rom 4 8 28 66).slots) := by
  refine MetFree.of_bodySF (plainFor_of_name pn_3) hisR ?_
  intro p e s m args below meth c s₁ Bd hml0 hP hK
  obtain ⟨rfl, hZ, hh, J0⟩ := hP
  have hx := Bd.exec
  have hby := Bd.bytes
  have hml : c.maxLocals = 9 := hml0
  have hown : s.vm.findClass "com/example/oncemark/oncemark/ReceiveQueueNeedsRefillPinLaw" = some m.cls := findClass_of_methodNamed Bd.named
  have X0 : Stand p l e (rom 4 8 28 66) (s.setVm s.vm) m #[(.long q0), (.int p1), (.int 0), (.int p3), (.int p4)] below meth c s₁ [] 0 0 := by rw [State.setVm_self]; exact Stand.of_body Bd
  have hS0 : s.Since s.vm h0.size := (State.WarmedH.refl s).since _
  have kS0 : h0.size ≤ h0.size := Nat.le_refl _
  have hZ : Z.Warmed39 (s.setVm s.vm).vm := hZ
  have hown : (s.setVm s.vm).vm.findClass "com/example/oncemark/oncemark/ReceiveQueueNeedsRefillPinLaw" = some m.cls := hown
  have e0 : s₁.heap = h0 := by rw [← hh, Bd.state]; rfl
  have N0 := Fr.nil n0
  have K0 : Keep h0 h0 [] := Keep.refl _ _
  have pre0 : Go p e below s₁ _ (mkF m 0 #[.val (.long q0), .second, .val (.int p1), .val (.int 0), .val (.int p3), .val (.int p4), .unset, .unset, .unset] []) _ := fun t k => castTop (ef_3_0 m q0 p1 p3 p4) k
  have pre1 : Go p e below s₁ _ (mkF m 1 #[.val (.long q0), .second, .val (.int p1), .val (.int 0), .val (.int p3), .val (.int p4), .unset, .unset, .unset] [(.int p1)]) _ := fun t k => pre0 t (by
    refine XS.iloadN X0.here hx rfl (hb hby d3_0) rfl ?_
    exact k)
  obtain ⟨T2, h2, k2, X2, e2, E2, A2, st2⟩ := newP X0 hx hZ (wq hw 13 rfl) e0 (g := (mkF m 1 #[.val (.long q0), .second, .val (.int p1), .val (.int 0), .val (.int p3), .val (.int p4), .unset, .unset, .unset] [(.int p1)])) rfl (hb hby d3_1) rfl hln.1 (cap := 7) hln.2 (by decide) (by decide) (by decide)
  obtain ⟨b1, g2⟩ : ∃ z, z = h0.size := ⟨_, rfl⟩
  rw [← g2] at A2 st2
  have gg2 : n0 ≤ b1 := Nat.le_trans Z0 (Nat.le_of_eq g2.symm)
  have sz2 : h0.size ≤ b1 := Nat.le_trans K0.1 (Nat.le_of_eq g2.symm)
  have K2 : Keep h0 h2 [] := K0.ext E2
  have Z2 : n0 ≤ h2.size := Nat.le_trans Z0 E2.1
  have V2 : Arh Z h2 b1 k2 .byte p1 [] [] (.int 0) := (Arv.new A2 hln.1).arh
  have x3 := OX.ext E2
  have x4 := J0.ext E2
  have pre5 := Go.thn pre1 st2
  have jl2 : jb ≤ h2.size := Nat.le_trans hjs E2.1
  have kS2 : _ ≤ h2.size := Nat.le_trans kS0 E2.1
  have pre6 : Go p e below T2 _ (mkF m 52 #[.val (.long q0), .second, .val (.int p1), .val (.int 0), .val (.int p3), .val (.int p4), .val (.ref b1), .val .null, .unset] []) _ := fun t k => pre5 t (by
    refine XS.astore X2.here hx rfl (hb hby d3_3) rfl rfl (l' := #[.val (.long q0), .second, .val (.int p1), .val (.int 0), .val (.int p3), .val (.int p4), .val (.ref b1), .unset, .unset]) rfl ?_
    refine XS.aconstNull X2.here hx rfl (hb hby d3_5) ?_
    refine XS.astore X2.here hx rfl (hb hby d3_6) rfl rfl (l' := #[.val (.long q0), .second, .val (.int p1), .val (.int 0), .val (.int p3), .val (.int p4), .val (.ref b1), .val .null, .unset]) rfl ?_
    refine XS.iloadN X2.here hx rfl (hb hby d3_8) rfl ?_
    refine XS.ifYes X2.here hx rfl (pc0 := 9) (pc' := 52) rfl (hb hby d3_9) rfl (by decide) (by decide) (by decide) ?_
    exact k)
  obtain ⟨T7, h7, X7, e7, E7, A7, D7, -, st7⟩ := newO X2 hx hZ hown (wq hw 14 rfl) (wq hw 15 rfl) (wq hw 16 rfl) e2 (g := (mkF m 52 #[.val (.long q0), .second, .val (.int p1), .val (.int 0), .val (.int p3), .val (.int p4), .val (.ref b1), .val .null, .unset] [])) rfl (hb hby d3_52) (by decide) (by decide)
  obtain ⟨b52, g7⟩ : ∃ z, z = h2.size := ⟨_, rfl⟩
  rw [← g7] at A7 D7 st7
  have gg7 : n0 ≤ b52 := Nat.le_trans Z2 (Nat.le_of_eq g7.symm)
  have sz7 : h0.size ≤ b52 := Nat.le_trans K2.1 (Nat.le_of_eq g7.symm)
  have K7 : Keep h0 h7 [] := K2.ext E7
  have Z7 : n0 ≤ h7.size := Nat.le_trans Z2 E7.1
  have ne7_b1 : b1 ≠ b52 := Nat.ne_of_lt (Nat.lt_of_lt_of_le V2.lt (Nat.le_of_eq g7.symm))
  have x8 := x3.ext E7
  have x9 := x4.ext E7
  have x10 := V2.ext E7
  have Fn7_id : Fld Z h7 b52 "com/example/oncemark/oncemark/Message" "id" "J" (.long (0 : Int64)) := D7 (Or.inr (wq hw 36 rfl)) (ty := .long) (by decide)
  have Fn7_producer : Fld Z h7 b52 "com/example/oncemark/oncemark/Message" "producer" "Ljava/lang/String;" .null := D7 (Or.inr (wq hw 38 rfl)) (ty := (.object "java/lang/String")) (by decide)
  have Fn7_sequenceId : Fld Z h7 b52 "com/example/oncemark/oncemark/Message" "sequenceId" "J" (.long (0 : Int64)) := D7 (Or.inr (wq hw 40 rfl)) (ty := .long) (by decide)
  have Fn7_key : Fld Z h7 b52 "com/example/oncemark/oncemark/Message" "key" "Ljava/lang/String;" .null := D7 (Or.inr (wq hw 42 rfl)) (ty := (.object "java/lang/String")) (by decide)
  have Fn7_payload : Fld Z h7 b52 "com/example/oncemark/oncemark/Message" "payload" "[B" .null := D7 (Or.inr (wq hw 44 rfl)) (ty := (.array .byte)) (by decide)
  have pre11 := Go.thn pre6 st7
  have jl7 : jb ≤ h7.size := Nat.le_trans jl2 E7.1
  have kS7 : _ ≤ h7.size := Nat.le_trans kS2 E7.1
  have pre12 : Go p e below T7 _ (mkF m 57 #[.val (.long q0), .second, .val (.int p1), .val (.int 0), .val (.int p3), .val (.int p4), .val (.ref b1), .val .null, .unset] [(.long q0), (.ref b52), (.ref b52)]) _ := fun t k => pre11 t (by
    refine XS.dup X7.here hx rfl (hb hby d3_55) rfl rfl ?_
    refine XS.lloadN X7.here hx rfl (hb hby d3_56) rfl ?_
    exact k)
  obtain ⟨lt57, T13, h13, vm13, kk13, X13, e13, E13, hS13, kS13, hZ, hown, J13, st13⟩ := own_ldcP X7 hx hZ hown (wq hw 17 rfl) (own_wS hw) e7 hS0 kS7 (by rw [hh, ← hn0]; exact N0) (fun b cl q => by rw [hh]; exact OX.2 b cl q) x9 hh53 hcw (g := (mkF m 57 #[.val (.long q0), .second, .val (.int p1), .val (.int 0), .val (.int p3), .val (.int p4), .val (.ref b1), .val .null, .unset] [(.long q0), (.ref b52), (.ref b52)])) rfl (hb hby d3_57) (by decide) (by decide)
  have K13 : Keep h0 h13 [] := K7.ext E13
  have Z13 : n0 ≤ h13.size := Nat.le_trans Z7 E13.1
  have x14 := x8.ext E13
  have x15 := x10.ext E13
  have x16 := A7.ext E13
  have x17 := Fn7_id.ext E13
  have x18 := Fn7_producer.ext E13
  have x19 := Fn7_sequenceId.ext E13
  have x20 := Fn7_key.ext E13
  have x21 := Fn7_payload.ext E13
  have pre22 := Go.thn pre12 st13
  have jl13 : jb ≤ h13.size := Nat.le_trans jl7 E13.1
  have pre23 : Go p e below T13 _ (mkF m 64 #[.val (.long q0), .second, .val (.int p1), .val (.int 0), .val (.int p3), .val (.int p4), .val (.ref b1), .val .null, .unset] [(.ref b1), .null, (.long q0), (.ref lt57), (.long q0), (.ref b52), (.ref b52)]) _ := fun t k => pre22 t (by
    refine XS.lloadN X13.here hx rfl (hb hby d3_59) rfl ?_
    refine XS.aload X13.here hx rfl (hb hby d3_60) rfl rfl ?_
    refine XS.aload X13.here hx rfl (hb hby d3_62) rfl rfl ?_
    exact k)
  obtain ⟨_, _, ⟨T24, L24, k24, n24⟩, -, X24, ⟨Lc24, hQ24, l24, y24, z24⟩, st24⟩ := X13.specialBack hx (y := Nm_9) rfl hown (mvT hZ (wq hw 24 rfl)) (mvT hZ (wq hw 25 rfl)) (mvT hZ (wq hw 26 rfl)) (by decide) (backOf (W := 1) (rm4_n l Z a0 hw [] b52 q0 lt57 q0 b1 h13 n0 Z13 x16 x17 x18 x19 x20 x21 gg7) hZ (wq hw 26 rfl) (wq hw 16 rfl) (by decide) (by decide)) (g := (mkF m 64 #[.val (.long q0), .second, .val (.int p1), .val (.int 0), .val (.int p3), .val (.int p4), .val (.ref b1), .val .null, .unset] [(.ref b1), .null, (.long q0), (.ref lt57), (.long q0), (.ref b52), (.ref b52)])) rfl (by rw [hml]; rfl) (Steps.refl _) (a := b52) (argsL := [(.long q0), (.ref lt57), (.long q0), .null, (.ref b1)]) (rest := [(.ref b52)]) (lenOf pd__JLjava_lang_String_JLjava_lang_String__B_V rfl) rfl (w00 rfl) (hb hby d3_64) (fun _ _ => ⟨rfl, e13, (by decide : 4 + 0 ≤ _), (by decide : 20 + 0 ≤ _)⟩)
  dsimp only [Pt.U, Pt.locs, Pt.cells, Pt.slots] at X24 l24 y24 z24 st24 hQ24
  subst l24 y24 z24
  obtain ⟨rfl, Nq24, Kq24, o24_0, o24_1, o24_2⟩ := hQ24
  have N24 := Fr.app N0 Nq24
  have K24 : Keep h0 T24.heap [] := K13.trans Kq24 (allS (Or.inr sz7) all0)
  have Z24 : n0 ≤ T24.heap.size := Nat.le_trans Z13 Kq24.1
  have x25 := J13.keep Kq24 (allS (Nat.le_trans jl2 (Nat.le_of_eq g7.symm)) all0)
  have x26 := x15.keep Kq24 (ninS ne7_b1 nin0)
  have x27 := x16.keep Kq24
  have pre28 := Go.trn pre23 st24
  have jl24 : jb ≤ T24.heap.size := Nat.le_trans jl13 Kq24.1
  have kS24 : _ ≤ T24.heap.size := Nat.le_trans kS13 Kq24.1
  obtain ⟨fs, hr, hrun, hended, hE⟩ := X24.leaveW hS13 kS24 (v := some (.ref b52)) (fun h => by rw [Bd.returns] at h; cases h)
  refine ⟨_, _, ?_, hrun, hended, _, _, rfl, ?_, hE.1, hE.2.1, hE.2.2.1, hE.2.2.2.mono (by decide) (by decide)⟩
  · refine pre28 _ ?_
    jvm_step X24.here [X24.here.top, hx, (hb hby d3_67), X24.method', Bd.returns, Value.isRef, FieldType.isReference]
    first | (intro acts; rw [hr _ acts rfl rfl rfl]) | rw [hr _ _ rfl rfl rfl]
    exact Steps.refl _
  · refine ⟨?_, ?_⟩
    · show Q3_0 Z q0 p1 p3 p4 jb h0 n0 _ T24.heap _
      skip
      exact ⟨b1, b52, _, rfl, N24, K24, sz2, sz7, o24_0, o24_1, o24_2, x26⟩
    · show own_J "com/example/oncemark/oncemark/ReceiveQueueNeedsRefillPinLaw" Z T24.vm T24.heap T24.heap.size
      skip
      exact (x25.warm (s := s) X24.warmed).grow jl24
theorem d3_12 : decode method_4_code 12 = .ok (.iload_n 3, 1) := by decide +kernel
theorem d3_13 : decode method_4_code 13 = .ok (.iconst 1, 1) := by decide +kernel
theorem d3_14 : decode method_4_code 14 = .ok (.isub, 1) := by decide +kernel
theorem d3_15 : decode method_4_code 15 = .ok (.newarray .char, 2) := by decide +kernel
theorem d3_17 : decode method_4_code 17 = .ok (.astore 8, 2) := by decide +kernel
theorem d3_19 : decode method_4_code 19 = .ok (.iload_n 3, 1) := by decide +kernel
theorem d3_20 : decode method_4_code 20 = .ok (.iconst 2, 1) := by decide +kernel
theorem d3_21 : decode method_4_code 21 = .ok (.if_icmp .lt 9, 3) := by decide +kernel
theorem d3_30 : decode method_4_code 30 = .ok (.iload_n 3, 1) := by decide +kernel
theorem d3_31 : decode method_4_code 31 = .ok (.iconst 3, 1) := by decide +kernel
theorem d3_32 : decode method_4_code 32 = .ok (.if_icmp .ne 9, 3) := by decide +kernel
theorem d3_41 : decode method_4_code 41 = .ok (.new 46, 3) := by decide +kernel
theorem d3_44 : decode method_4_code 44 = .ok (.dup, 1) := by decide +kernel
theorem d3_45 : decode method_4_code 45 = .ok (.aload 8, 2) := by decide +kernel
theorem d3_47 : decode method_4_code 47 = .ok (.invokespecial 48, 3) := by decide +kernel
theorem d3_50 : decode method_4_code 50 = .ok (.astore 7, 2) := by decide +kernel
theorem pd___C_V : parseMethodDescriptor "([C)V" = some ⟨[(.array .char)], none⟩ := by decide +kernel
theorem ef_3_1 (m : MethodId) (x0 : Int64) (x1 : Int32) (x3 : Int32) (x4 : Int32) : entryFrame m #[(.long x0), (.int x1), (.int 1), (.int x3), (.int x4)] 9 = mkF m 0 #[.val (.long x0), .second, .val (.int x1), .val (.int 1), .val (.int x3), .val (.int x4), .unset, .unset, .unset] [] := by first | (simp [entryFrame, mkF, argsToLocals, Value.category]; done) | rfl
def Q3_1 (Z : State) (q0 : Int64) (p1 : Int32) (p3 : Int32) (p4 : Int32) (jb : Nat) (h0 : Heap) (n0 : Nat) (v : Option Value) (h : Heap) (L : List Loc) : Prop := ∃ (b1 : Addr) (b52 : Addr) (b41 : Addr) (x47_0 : Addr) (k_b1 : ClassId) (k_x47_0 : ClassId), v = (some (.ref b52)) ∧ Fr n0 L ∧ Keep h0 h [] ∧ h0.size ≤ b1 ∧ h0.size ≤ b52 ∧ h0.size ≤ b41 ∧ Exa Z h b52 "com/example/oncemark/oncemark/Message" ∧ Fld Z h b52 "com/example/oncemark/oncemark/Message" "key" "Ljava/lang/String;" (.ref b41) ∧ Fld Z h b52 "com/example/oncemark/oncemark/Message" "payload" "[B" (.ref b1) ∧ Arh Z h b1 k_b1 .byte p1 [] [] (.int 0) ∧ Exa Z h b41 "java/lang/String" ∧ Fld Z h b41 "java/lang/String" "value" "[B" (.ref x47_0) ∧ Fld Z h b41 "java/lang/String" "coder" "B" (.int 0) ∧ Arv Z h x47_0 k_x47_0 .byte (0 : Int32) [] (.int 0)
set_option maxRecDepth 65536 in
set_option maxHeartbeats 40000000 in
theorem rm3_1 (l : Launch) (Z : State) (a0 : Array Value) (hw : ∀ d ∈ tables_1, d.before a0 Z = true) (ws : List Jvm.Cond) (q0 : Int64) (p1 : Int32) (p3 : Int32) (p4 : Int32) (jb : Nat) (h0 : Heap) (n0 : Nat) (Z0 : n0 ≤ h0.size) (OX : own_X Z h0) (hjs : jb ≤ h0.size) (hn0 : n0 = h0.size) (hln : (¬ (p1 < (0 : Int32))) ∧ p1.toNatClampNeg ≤ 7) (hcw : Jvm.Lit.compactW.before a0 Z = true) (hh53 : Jvm.Lit.constHeld Z "com/example/oncemark/oncemark/ReceiveQueueNeedsRefillPinLaw" 53) (hh7 : Jvm.Lit.constHeld Z "java/lang/String" 7) :
    MetFree l Nm_10 (head1 (Jvm.Cond.code Nm_10 method_4_code 9 (some (.object "com/example/oncemark/oncemark/Message")) :: ws) (rom 4 8 28 66)) (fun a U => a = #[(.long q0), (.int p1), (.int 1), (.int p3), (.int p4)] ∧ Z.Warmed39 U.vm ∧ U.heap = h0 ∧ own_J "com/example/oncemark/oncemark/ReceiveQueueNeedsRefillPinLaw" Z U.vm h0 jb) (fun _ _ _ _ _ => True) (fun _ U o U' => ∃ v L, o = .returned v ∧ (Q3_1 Z q0 p1 p3 p4 jb h0 n0 v U'.heap L ∧ own_J "com/example/oncemark/oncemark/ReceiveQueueNeedsRefillPinLaw" Z U'.vm U'.heap U'.heap.size) ∧ ReturnedEndW U o U' L (rom 4 8 28 66).cells (rom 4 8 28 66).slots) := by
  refine MetFree.of_bodySF (plainFor_of_name pn_3) hisR ?_
  intro p e s m args below meth c s₁ Bd hml0 hP hK
  obtain ⟨rfl, hZ, hh, J0⟩ := hP
  have hx := Bd.exec
  have hby := Bd.bytes
  have hml : c.maxLocals = 9 := hml0
  have hown : s.vm.findClass "com/example/oncemark/oncemark/ReceiveQueueNeedsRefillPinLaw" = some m.cls := findClass_of_methodNamed Bd.named
  have X0 : Stand p l e (rom 4 8 28 66) (s.setVm s.vm) m #[(.long q0), (.int p1), (.int 1), (.int p3), (.int p4)] below meth c s₁ [] 0 0 := by rw [State.setVm_self]; exact Stand.of_body Bd
  have hS0 : s.Since s.vm h0.size := (State.WarmedH.refl s).since _
  have kS0 : h0.size ≤ h0.size := Nat.le_refl _
  have hZ : Z.Warmed39 (s.setVm s.vm).vm := hZ
  have hown : (s.setVm s.vm).vm.findClass "com/example/oncemark/oncemark/ReceiveQueueNeedsRefillPinLaw" = some m.cls := hown
  have e0 : s₁.heap = h0 := by rw [← hh, Bd.state]; rfl
  have N0 := Fr.nil n0
  have K0 : Keep h0 h0 [] := Keep.refl _ _
  have pre0 : Go p e below s₁ _ (mkF m 0 #[.val (.long q0), .second, .val (.int p1), .val (.int 1), .val (.int p3), .val (.int p4), .unset, .unset, .unset] []) _ := fun t k => castTop (ef_3_1 m q0 p1 p3 p4) k
  have pre1 : Go p e below s₁ _ (mkF m 1 #[.val (.long q0), .second, .val (.int p1), .val (.int 1), .val (.int p3), .val (.int p4), .unset, .unset, .unset] [(.int p1)]) _ := fun t k => pre0 t (by
    refine XS.iloadN X0.here hx rfl (hb hby d3_0) rfl ?_
    exact k)
  obtain ⟨T2, h2, k2, X2, e2, E2, A2, st2⟩ := newP X0 hx hZ (wq hw 13 rfl) e0 (g := (mkF m 1 #[.val (.long q0), .second, .val (.int p1), .val (.int 1), .val (.int p3), .val (.int p4), .unset, .unset, .unset] [(.int p1)])) rfl (hb hby d3_1) rfl hln.1 (cap := 7) hln.2 (by decide) (by decide) (by decide)
  obtain ⟨b1, g2⟩ : ∃ z, z = h0.size := ⟨_, rfl⟩
  rw [← g2] at A2 st2
  have gg2 : n0 ≤ b1 := Nat.le_trans Z0 (Nat.le_of_eq g2.symm)
  have sz2 : h0.size ≤ b1 := Nat.le_trans K0.1 (Nat.le_of_eq g2.symm)
  have K2 : Keep h0 h2 [] := K0.ext E2
  have Z2 : n0 ≤ h2.size := Nat.le_trans Z0 E2.1
  have V2 : Arh Z h2 b1 k2 .byte p1 [] [] (.int 0) := (Arv.new A2 hln.1).arh
  have x3 := OX.ext E2
  have x4 := J0.ext E2
  have pre5 := Go.thn pre1 st2
  have jl2 : jb ≤ h2.size := Nat.le_trans hjs E2.1
  have kS2 : _ ≤ h2.size := Nat.le_trans kS0 E2.1
  have pre6 : Go p e below T2 _ (mkF m 15 #[.val (.long q0), .second, .val (.int p1), .val (.int 1), .val (.int p3), .val (.int p4), .val (.ref b1), .val .null, .unset] [(.int 0)]) _ := fun t k => pre5 t (by
    refine XS.astore X2.here hx rfl (hb hby d3_3) rfl rfl (l' := #[.val (.long q0), .second, .val (.int p1), .val (.int 1), .val (.int p3), .val (.int p4), .val (.ref b1), .unset, .unset]) rfl ?_
    refine XS.aconstNull X2.here hx rfl (hb hby d3_5) ?_
    refine XS.astore X2.here hx rfl (hb hby d3_6) rfl rfl (l' := #[.val (.long q0), .second, .val (.int p1), .val (.int 1), .val (.int p3), .val (.int p4), .val (.ref b1), .val .null, .unset]) rfl ?_
    refine XS.iloadN X2.here hx rfl (hb hby d3_8) rfl ?_
    refine XS.ifNo X2.here hx rfl (hb hby d3_9) rfl (by decide) ?_
    refine XS.iloadN X2.here hx rfl (hb hby d3_12) rfl ?_
    refine XS.iconst X2.here hx rfl (hb hby d3_13) ?_
    refine XS.isub X2.here hx rfl (hb hby d3_14) rfl ?_
    exact k)
  obtain ⟨T7, h7, k7, X7, e7, E7, A7, st7⟩ := newP X2 hx hZ (wq hw 137 rfl) e2 (g := (mkF m 15 #[.val (.long q0), .second, .val (.int p1), .val (.int 1), .val (.int p3), .val (.int p4), .val (.ref b1), .val .null, .unset] [(.int 0)])) rfl (hb hby d3_15) rfl (by decide) (cap := 0) (by decide) (by decide) (by decide) (by decide)
  obtain ⟨b15, g7⟩ : ∃ z, z = h2.size := ⟨_, rfl⟩
  rw [← g7] at A7 st7
  have gg7 : n0 ≤ b15 := Nat.le_trans Z2 (Nat.le_of_eq g7.symm)
  have sz7 : h0.size ≤ b15 := Nat.le_trans K2.1 (Nat.le_of_eq g7.symm)
  have K7 : Keep h0 h7 [] := K2.ext E7
  have Z7 : n0 ≤ h7.size := Nat.le_trans Z2 E7.1
  have V7 : Arv Z h7 b15 k7 .char (0 : Int32) [] (.int 0) := (Arv.new A7 (by decide)).pad (pad_rep [] (.int 0) 0)
  have ne7_b1 : b1 ≠ b15 := Nat.ne_of_lt (Nat.lt_of_lt_of_le V2.lt (Nat.le_of_eq g7.symm))
  have x8 := x3.ext E7
  have x9 := x4.ext E7
  have x10 := V2.ext E7
  have pre11 := Go.thn pre6 st7
  have jl7 : jb ≤ h7.size := Nat.le_trans jl2 E7.1
  have kS7 : _ ≤ h7.size := Nat.le_trans kS2 E7.1
  have pre12 : Go p e below T7 _ (mkF m 41 #[.val (.long q0), .second, .val (.int p1), .val (.int 1), .val (.int p3), .val (.int p4), .val (.ref b1), .val .null, .val (.ref b15)] []) _ := fun t k => pre11 t (by
    refine XS.astore X7.here hx rfl (hb hby d3_17) rfl rfl (l' := #[.val (.long q0), .second, .val (.int p1), .val (.int 1), .val (.int p3), .val (.int p4), .val (.ref b1), .val .null, .val (.ref b15)]) rfl ?_
    refine XS.iloadN X7.here hx rfl (hb hby d3_19) rfl ?_
    refine XS.iconst X7.here hx rfl (hb hby d3_20) ?_
    refine XS.icmpYes X7.here hx rfl (pc0 := 21) (pc' := 30) rfl (hb hby d3_21) rfl (by decide) (by decide) (by decide) ?_
    refine XS.iloadN X7.here hx rfl (hb hby d3_30) rfl ?_
    refine XS.iconst X7.here hx rfl (hb hby d3_31) ?_
    refine XS.icmpYes X7.here hx rfl (pc0 := 32) (pc' := 41) rfl (hb hby d3_32) rfl (by decide) (by decide) (by decide) ?_
    exact k)
  obtain ⟨T13, h13, X13, e13, E13, A13, D13, -, st13⟩ := newO X7 hx hZ hown (wq hw 138 rfl) (wq hw 19 rfl) (wq hw 18 rfl) e7 (g := (mkF m 41 #[.val (.long q0), .second, .val (.int p1), .val (.int 1), .val (.int p3), .val (.int p4), .val (.ref b1), .val .null, .val (.ref b15)] [])) rfl (hb hby d3_41) (by decide) (by decide)
  obtain ⟨b41, g13⟩ : ∃ z, z = h7.size := ⟨_, rfl⟩
  rw [← g13] at A13 D13 st13
  have gg13 : n0 ≤ b41 := Nat.le_trans Z7 (Nat.le_of_eq g13.symm)
  have sz13 : h0.size ≤ b41 := Nat.le_trans K7.1 (Nat.le_of_eq g13.symm)
  have K13 : Keep h0 h13 [] := K7.ext E13
  have Z13 : n0 ≤ h13.size := Nat.le_trans Z7 E13.1
  have ne13_b1 : b1 ≠ b41 := Nat.ne_of_lt (Nat.lt_of_lt_of_le x10.lt (Nat.le_of_eq g13.symm))
  have ne13_b15 : b15 ≠ b41 := Nat.ne_of_lt (Nat.lt_of_lt_of_le V7.lt (Nat.le_of_eq g13.symm))
  have x14 := x8.ext E13
  have x15 := x9.ext E13
  have x16 := x10.ext E13
  have x17 := V7.ext E13
  have Fn13_value : Fld Z h13 b41 "java/lang/String" "value" "[B" .null := D13 (Or.inr (wq hw 20 rfl)) (ty := (.array .byte)) (by decide)
  have Fn13_coder : Fld Z h13 b41 "java/lang/String" "coder" "B" (.int 0) := D13 (Or.inr (wq hw 21 rfl)) (ty := .byte) (by decide)
  have pre18 := Go.thn pre12 st13
  have jl13 : jb ≤ h13.size := Nat.le_trans jl7 E13.1
  have kS13 : _ ≤ h13.size := Nat.le_trans kS7 E13.1
  have pre19 : Go p e below T13 _ (mkF m 47 #[.val (.long q0), .second, .val (.int p1), .val (.int 1), .val (.int p3), .val (.int p4), .val (.ref b1), .val .null, .val (.ref b15)] [(.ref b15), (.ref b41), (.ref b41)]) _ := fun t k => pre18 t (by
    refine XS.dup X13.here hx rfl (hb hby d3_44) rfl rfl ?_
    refine XS.aload X13.here hx rfl (hb hby d3_45) rfl rfl ?_
    exact k)
  obtain ⟨_, _, ⟨T20, L20, k20, n20⟩, -, X20, hSn20, hgn20, ⟨Lc20, hQ20, l20, y20, z20⟩, st20⟩ := X13.specialBackS hx (y := Nm_5) rfl hown (mvT hZ (wq hw 139 rfl)) (mvT hZ (wq hw 140 rfl)) (mvT hZ (wq hw 141 rfl)) (by decide) (own_backJ x15 (Wd := 1) (rm21_0 l Z a0 hw [] b41 b15 _ jb h13 n0 Z13 A13 Fn13_value Fn13_coder x17 x14 jl13 (Nat.le_trans jl7 (Nat.le_of_eq g13.symm)) gg13 ne13_b15 hcw hh7) hZ (wq hw 141 rfl) (wq hw 18 rfl) (by decide) (by decide)) (g := (mkF m 47 #[.val (.long q0), .second, .val (.int p1), .val (.int 1), .val (.int p3), .val (.int p4), .val (.ref b1), .val .null, .val (.ref b15)] [(.ref b15), (.ref b41), (.ref b41)])) rfl (by rw [hml]; rfl) (Steps.refl _) (a := b41) (argsL := [(.ref b15)]) (rest := [(.ref b41)]) (lenOf pd___C_V rfl) rfl (w00 rfl) (hb hby d3_47) (fun _ _ => ⟨rfl, e13, (by decide : 3 + 2 ≤ _), (by decide : 11 + 4 ≤ _)⟩)
  dsimp only [Pt.U, Pt.locs, Pt.cells, Pt.slots] at X20 l20 y20 z20 st20 hQ20 hSn20 hgn20
  subst l20 y20 z20
  obtain ⟨X20, hS20, hZ, hown⟩ := rebS hS0 (by rw [e13]; exact kS13) X20 hSn20 hgn20 hZ hown
  obtain ⟨hQ20, Jq20⟩ := hQ20
  obtain ⟨x47_0, k_x6_0_20, rfl, Nq20, Kq20, o20_0, o20_1, o20_2, o20_3⟩ := hQ20
  have N20 := Fr.app N0 Nq20
  have K20 : Keep h0 T20.heap [] := K13.trans Kq20 (allS (Or.inr sz13) all0)
  have Z20 : n0 ≤ T20.heap.size := Nat.le_trans Z13 Kq20.1
  have x21 := x16.keep Kq20 (ninS ne13_b1 nin0)
  have x22 := x17.keep Kq20 (ninS ne13_b15 nin0)
  have x23 := A13.keep Kq20
  have pre24 := Go.trn pre19 st20
  have pre25 : Go p e below T20 _ (mkF m 52 #[.val (.long q0), .second, .val (.int p1), .val (.int 1), .val (.int p3), .val (.int p4), .val (.ref b1), .val (.ref b41), .val (.ref b15)] []) _ := fun t k => pre24 t (by
    refine XS.astore X20.here hx rfl (hb hby d3_50) rfl rfl (l' := #[.val (.long q0), .second, .val (.int p1), .val (.int 1), .val (.int p3), .val (.int p4), .val (.ref b1), .val (.ref b41), .val (.ref b15)]) rfl ?_
    exact k)
  obtain ⟨T26, h26, X26, e26, E26, A26, D26, -, st26⟩ := newO X20 hx hZ hown (wq hw 14 rfl) (wq hw 15 rfl) (wq hw 16 rfl) rfl (g := (mkF m 52 #[.val (.long q0), .second, .val (.int p1), .val (.int 1), .val (.int p3), .val (.int p4), .val (.ref b1), .val (.ref b41), .val (.ref b15)] [])) rfl (hb hby d3_52) (by decide) (by decide)
  obtain ⟨b52, g26⟩ : ∃ z, z = T20.heap.size := ⟨_, rfl⟩
  rw [← g26] at A26 D26 st26
  have gg26 : n0 ≤ b52 := Nat.le_trans Z20 (Nat.le_of_eq g26.symm)
  have sz26 : h0.size ≤ b52 := Nat.le_trans K20.1 (Nat.le_of_eq g26.symm)
  have K26 : Keep h0 h26 [] := K20.ext E26
  have Z26 : n0 ≤ h26.size := Nat.le_trans Z20 E26.1
  have ne26_b1 : b1 ≠ b52 := Nat.ne_of_lt (Nat.lt_of_lt_of_le x21.lt (Nat.le_of_eq g26.symm))
  have ne26_b15 : b15 ≠ b52 := Nat.ne_of_lt (Nat.lt_of_lt_of_le x22.lt (Nat.le_of_eq g26.symm))
  have ne26_b41 : b41 ≠ b52 := Nat.ne_of_lt (Nat.lt_of_lt_of_le o20_0.lt (Nat.le_of_eq g26.symm))
  have ne26_x47_0 : x47_0 ≠ b52 := Nat.ne_of_lt (Nat.lt_of_lt_of_le o20_3.lt (Nat.le_of_eq g26.symm))
  have x27 := Jq20.ext E26
  have x28 := x21.ext E26
  have x29 := x22.ext E26
  have x30 := o20_0.ext E26
  have x31 := o20_1.ext E26
  have x32 := o20_2.ext E26
  have x33 := o20_3.ext E26
  have Fn26_id : Fld Z h26 b52 "com/example/oncemark/oncemark/Message" "id" "J" (.long (0 : Int64)) := D26 (Or.inr (wq hw 36 rfl)) (ty := .long) (by decide)
  have Fn26_producer : Fld Z h26 b52 "com/example/oncemark/oncemark/Message" "producer" "Ljava/lang/String;" .null := D26 (Or.inr (wq hw 38 rfl)) (ty := (.object "java/lang/String")) (by decide)
  have Fn26_sequenceId : Fld Z h26 b52 "com/example/oncemark/oncemark/Message" "sequenceId" "J" (.long (0 : Int64)) := D26 (Or.inr (wq hw 40 rfl)) (ty := .long) (by decide)
  have Fn26_key : Fld Z h26 b52 "com/example/oncemark/oncemark/Message" "key" "Ljava/lang/String;" .null := D26 (Or.inr (wq hw 42 rfl)) (ty := (.object "java/lang/String")) (by decide)
  have Fn26_payload : Fld Z h26 b52 "com/example/oncemark/oncemark/Message" "payload" "[B" .null := D26 (Or.inr (wq hw 44 rfl)) (ty := (.array .byte)) (by decide)
  have pre34 := Go.thn pre25 st26
  have jl26 : T20.heap.size ≤ h26.size := Nat.le_trans (Nat.le_refl _) E26.1
  have kS26 : _ ≤ h26.size := Nat.le_trans (Nat.le_refl _) E26.1
  have pre35 : Go p e below T26 _ (mkF m 57 #[.val (.long q0), .second, .val (.int p1), .val (.int 1), .val (.int p3), .val (.int p4), .val (.ref b1), .val (.ref b41), .val (.ref b15)] [(.long q0), (.ref b52), (.ref b52)]) _ := fun t k => pre34 t (by
    refine XS.dup X26.here hx rfl (hb hby d3_55) rfl rfl ?_
    refine XS.lloadN X26.here hx rfl (hb hby d3_56) rfl ?_
    exact k)
  obtain ⟨lt57, T36, h36, vm36, kk36, X36, e36, E36, hS36, kS36, hZ, hown, J36, st36⟩ := own_ldcP X26 hx hZ hown (wq hw 17 rfl) (own_wS hw) e26 hS20 kS26 (by rw [hh, ← hn0]; exact N20) (fun b cl q => by rw [hh]; exact OX.2 b cl q) x27 hh53 hcw (g := (mkF m 57 #[.val (.long q0), .second, .val (.int p1), .val (.int 1), .val (.int p3), .val (.int p4), .val (.ref b1), .val (.ref b41), .val (.ref b15)] [(.long q0), (.ref b52), (.ref b52)])) rfl (hb hby d3_57) (by decide) (by decide)
  have K36 : Keep h0 h36 [] := K26.ext E36
  have Z36 : n0 ≤ h36.size := Nat.le_trans Z26 E36.1
  have x37 := x28.ext E36
  have x38 := x29.ext E36
  have x39 := x30.ext E36
  have x40 := x31.ext E36
  have x41 := x32.ext E36
  have x42 := x33.ext E36
  have x43 := A26.ext E36
  have x44 := Fn26_id.ext E36
  have x45 := Fn26_producer.ext E36
  have x46 := Fn26_sequenceId.ext E36
  have x47 := Fn26_key.ext E36
  have x48 := Fn26_payload.ext E36
  have pre49 := Go.thn pre35 st36
  have jl36 : T20.heap.size ≤ h36.size := Nat.le_trans jl26 E36.1
  have pre50 : Go p e below T36 _ (mkF m 64 #[.val (.long q0), .second, .val (.int p1), .val (.int 1), .val (.int p3), .val (.int p4), .val (.ref b1), .val (.ref b41), .val (.ref b15)] [(.ref b1), (.ref b41), (.long q0), (.ref lt57), (.long q0), (.ref b52), (.ref b52)]) _ := fun t k => pre49 t (by
    refine XS.lloadN X36.here hx rfl (hb hby d3_59) rfl ?_
    refine XS.aload X36.here hx rfl (hb hby d3_60) rfl rfl ?_
    refine XS.aload X36.here hx rfl (hb hby d3_62) rfl rfl ?_
    exact k)
  obtain ⟨_, _, ⟨T51, L51, k51, n51⟩, -, X51, ⟨Lc51, hQ51, l51, y51, z51⟩, st51⟩ := X36.specialBack hx (y := Nm_9) rfl hown (mvT hZ (wq hw 24 rfl)) (mvT hZ (wq hw 25 rfl)) (mvT hZ (wq hw 26 rfl)) (by decide) (backOf (W := 1) (rm4_k l Z a0 hw [] b52 q0 lt57 q0 b41 b1 h36 n0 Z36 x43 x44 x45 x46 x47 x48 gg26) hZ (wq hw 26 rfl) (wq hw 16 rfl) (by decide) (by decide)) (g := (mkF m 64 #[.val (.long q0), .second, .val (.int p1), .val (.int 1), .val (.int p3), .val (.int p4), .val (.ref b1), .val (.ref b41), .val (.ref b15)] [(.ref b1), (.ref b41), (.long q0), (.ref lt57), (.long q0), (.ref b52), (.ref b52)])) rfl (by rw [hml]; rfl) (Steps.refl _) (a := b52) (argsL := [(.long q0), (.ref lt57), (.long q0), (.ref b41), (.ref b1)]) (rest := [(.ref b52)]) (lenOf pd__JLjava_lang_String_JLjava_lang_String__B_V rfl) rfl (w00 rfl) (hb hby d3_64) (fun _ _ => ⟨rfl, e36, (by decide : 8 + 0 ≤ _), (by decide : 28 + 0 ≤ _)⟩)
  dsimp only [Pt.U, Pt.locs, Pt.cells, Pt.slots] at X51 l51 y51 z51 st51 hQ51
  subst l51 y51 z51
  obtain ⟨rfl, Nq51, Kq51, o51_0, o51_1, o51_2⟩ := hQ51
  have N51 := Fr.app N20 Nq51
  have K51 : Keep h0 T51.heap [] := K36.trans Kq51 (allS (Or.inr sz26) all0)
  have Z51 : n0 ≤ T51.heap.size := Nat.le_trans Z36 Kq51.1
  have x52 := J36.keep Kq51 (allS (Nat.le_trans (Nat.le_refl _) (Nat.le_of_eq g26.symm)) all0)
  have x53 := x37.keep Kq51 (ninS ne26_b1 nin0)
  have x54 := x38.keep Kq51 (ninS ne26_b15 nin0)
  have x55 := x39.keep Kq51
  have x56 := x40.keep Kq51 (ninS ne26_b41 nin0)
  have x57 := x41.keep Kq51 (ninS ne26_b41 nin0)
  have x58 := x42.keep Kq51 (ninS ne26_x47_0 nin0)
  have x59 := x43.keep Kq51
  have pre60 := Go.trn pre50 st51
  have jl51 : T20.heap.size ≤ T51.heap.size := Nat.le_trans jl36 Kq51.1
  have kS51 : _ ≤ T51.heap.size := Nat.le_trans kS36 Kq51.1
  obtain ⟨fs, hr, hrun, hended, hE⟩ := X51.leaveW hS36 kS51 (v := some (.ref b52)) (fun h => by rw [Bd.returns] at h; cases h)
  refine ⟨_, _, ?_, hrun, hended, _, _, rfl, ?_, hE.1, hE.2.1, hE.2.2.1, hE.2.2.2.mono (by decide) (by decide)⟩
  · refine pre60 _ ?_
    jvm_step X51.here [X51.here.top, hx, (hb hby d3_67), X51.method', Bd.returns, Value.isRef, FieldType.isReference]
    first | (intro acts; rw [hr _ acts rfl rfl rfl]) | rw [hr _ _ rfl rfl rfl]
    exact Steps.refl _
  · refine ⟨?_, ?_⟩
    · show Q3_1 Z q0 p1 p3 p4 jb h0 n0 _ T51.heap _
      skip
      exact ⟨b1, b52, b41, x47_0, _, _, rfl, N51, K51, sz2, sz26, sz13, o51_0, o51_1, o51_2, x53, x55, x56, x57, x58⟩
    · show own_J "com/example/oncemark/oncemark/ReceiveQueueNeedsRefillPinLaw" Z T51.vm T51.heap T51.heap.size
      skip
      exact (x52.warm (s := s) X51.warmed).grow jl51
theorem d3_24 : decode method_4_code 24 = .ok (.aload 8, 2) := by decide +kernel
theorem d3_26 : decode method_4_code 26 = .ok (.iconst 0, 1) := by decide +kernel
theorem d3_27 : decode method_4_code 27 = .ok (.iload 4, 2) := by decide +kernel
theorem d3_29 : decode method_4_code 29 = .ok (.castore, 1) := by decide +kernel
theorem ef_3_2 (m : MethodId) (x0 : Int64) (x1 : Int32) (x3 : Int32) (x4 : Int32) : entryFrame m #[(.long x0), (.int x1), (.int 2), (.int x3), (.int x4)] 9 = mkF m 0 #[.val (.long x0), .second, .val (.int x1), .val (.int 2), .val (.int x3), .val (.int x4), .unset, .unset, .unset] [] := by first | (simp [entryFrame, mkF, argsToLocals, Value.category]; done) | rfl
def Q3_2 (Z : State) (q0 : Int64) (p1 : Int32) (p3 : Int32) (p4 : Int32) (wcs : Int32) (jb : Nat) (h0 : Heap) (n0 : Nat) (v : Option Value) (h : Heap) (L : List Loc) : Prop := ∃ (b1 : Addr) (b52 : Addr) (b41 : Addr) (b47_0 : Addr) (k_b1 : ClassId) (k_b47_0 : ClassId), v = (some (.ref b52)) ∧ Fr n0 L ∧ Keep h0 h [] ∧ h0.size ≤ b1 ∧ h0.size ≤ b52 ∧ h0.size ≤ b41 ∧ h0.size ≤ b47_0 ∧ Exa Z h b52 "com/example/oncemark/oncemark/Message" ∧ Fld Z h b52 "com/example/oncemark/oncemark/Message" "key" "Ljava/lang/String;" (.ref b41) ∧ Fld Z h b52 "com/example/oncemark/oncemark/Message" "payload" "[B" (.ref b1) ∧ Arh Z h b1 k_b1 .byte p1 [] [] (.int 0) ∧ Exa Z h b41 "java/lang/String" ∧ Fld Z h b41 "java/lang/String" "value" "[B" (.ref b47_0) ∧ Fld Z h b41 "java/lang/String" "coder" "B" (.int 0) ∧ Arv Z h b47_0 k_b47_0 .byte (1 : Int32) [(.int (((nar .char p3).toInt8.toInt32).toInt8.toInt32))] (.int 0)
set_option maxRecDepth 65536 in
set_option maxHeartbeats 40000000 in
theorem rm3_2 (l : Launch) (Z : State) (a0 : Array Value) (hw : ∀ d ∈ tables_1, d.before a0 Z = true) (ws : List Jvm.Cond) (q0 : Int64) (p1 : Int32) (p3 : Int32) (p4 : Int32) (wcs : Int32) (jb : Nat) (h0 : Heap) (n0 : Nat) (Z0 : n0 ≤ h0.size) (I0 : Sta Z h0 "java/lang/String" "COMPACT_STRINGS" "Z" (.int wcs)) (OX : own_X Z h0) (hjs : jb ≤ h0.size) (hn0 : n0 = h0.size) (hln : (¬ (p1 < (0 : Int32))) ∧ p1.toNatClampNeg ≤ 7) (hcw : Jvm.Lit.compactW.before a0 Z = true) (hh53 : Jvm.Lit.constHeld Z "com/example/oncemark/oncemark/ReceiveQueueNeedsRefillPinLaw" 53) (hcs : ¬ (wcs = (0 : Int32))) (hl0 : ¬ ((255 : Int32) < (nar .char p3))) :
    MetFree l Nm_10 (head1 (Jvm.Cond.code Nm_10 method_4_code 9 (some (.object "com/example/oncemark/oncemark/Message")) :: ws) (rom 4 8 28 66)) (fun a U => a = #[(.long q0), (.int p1), (.int 2), (.int p3), (.int p4)] ∧ Z.Warmed39 U.vm ∧ U.heap = h0 ∧ own_J "com/example/oncemark/oncemark/ReceiveQueueNeedsRefillPinLaw" Z U.vm h0 jb) (fun _ _ _ _ _ => True) (fun _ U o U' => ∃ v L, o = .returned v ∧ (Q3_2 Z q0 p1 p3 p4 wcs jb h0 n0 v U'.heap L ∧ own_J "com/example/oncemark/oncemark/ReceiveQueueNeedsRefillPinLaw" Z U'.vm U'.heap U'.heap.size) ∧ ReturnedEndW U o U' L (rom 4 8 28 66).cells (rom 4 8 28 66).slots) := by
  refine MetFree.of_bodySF (plainFor_of_name pn_3) hisR ?_
  intro p e s m args below meth c s₁ Bd hml0 hP hK
  obtain ⟨rfl, hZ, hh, J0⟩ := hP
  have hx := Bd.exec
  have hby := Bd.bytes
  have hml : c.maxLocals = 9 := hml0
  have hown : s.vm.findClass "com/example/oncemark/oncemark/ReceiveQueueNeedsRefillPinLaw" = some m.cls := findClass_of_methodNamed Bd.named
  have X0 : Stand p l e (rom 4 8 28 66) (s.setVm s.vm) m #[(.long q0), (.int p1), (.int 2), (.int p3), (.int p4)] below meth c s₁ [] 0 0 := by rw [State.setVm_self]; exact Stand.of_body Bd
  have hS0 : s.Since s.vm h0.size := (State.WarmedH.refl s).since _
  have kS0 : h0.size ≤ h0.size := Nat.le_refl _
  have hZ : Z.Warmed39 (s.setVm s.vm).vm := hZ
  have hown : (s.setVm s.vm).vm.findClass "com/example/oncemark/oncemark/ReceiveQueueNeedsRefillPinLaw" = some m.cls := hown
  have e0 : s₁.heap = h0 := by rw [← hh, Bd.state]; rfl
  have N0 := Fr.nil n0
  have K0 : Keep h0 h0 [] := Keep.refl _ _
  have pre0 : Go p e below s₁ _ (mkF m 0 #[.val (.long q0), .second, .val (.int p1), .val (.int 2), .val (.int p3), .val (.int p4), .unset, .unset, .unset] []) _ := fun t k => castTop (ef_3_2 m q0 p1 p3 p4) k
  have pre1 : Go p e below s₁ _ (mkF m 1 #[.val (.long q0), .second, .val (.int p1), .val (.int 2), .val (.int p3), .val (.int p4), .unset, .unset, .unset] [(.int p1)]) _ := fun t k => pre0 t (by
    refine XS.iloadN X0.here hx rfl (hb hby d3_0) rfl ?_
    exact k)
  obtain ⟨T2, h2, k2, X2, e2, E2, A2, st2⟩ := newP X0 hx hZ (wq hw 13 rfl) e0 (g := (mkF m 1 #[.val (.long q0), .second, .val (.int p1), .val (.int 2), .val (.int p3), .val (.int p4), .unset, .unset, .unset] [(.int p1)])) rfl (hb hby d3_1) rfl hln.1 (cap := 7) hln.2 (by decide) (by decide) (by decide)
  obtain ⟨b1, g2⟩ : ∃ z, z = h0.size := ⟨_, rfl⟩
  rw [← g2] at A2 st2
  have gg2 : n0 ≤ b1 := Nat.le_trans Z0 (Nat.le_of_eq g2.symm)
  have sz2 : h0.size ≤ b1 := Nat.le_trans K0.1 (Nat.le_of_eq g2.symm)
  have K2 : Keep h0 h2 [] := K0.ext E2
  have Z2 : n0 ≤ h2.size := Nat.le_trans Z0 E2.1
  have V2 : Arh Z h2 b1 k2 .byte p1 [] [] (.int 0) := (Arv.new A2 hln.1).arh
  have x3 := I0.ext E2
  have x4 := OX.ext E2
  have x5 := J0.ext E2
  have pre6 := Go.thn pre1 st2
  have jl2 : jb ≤ h2.size := Nat.le_trans hjs E2.1
  have kS2 : _ ≤ h2.size := Nat.le_trans kS0 E2.1
  have pre7 : Go p e below T2 _ (mkF m 15 #[.val (.long q0), .second, .val (.int p1), .val (.int 2), .val (.int p3), .val (.int p4), .val (.ref b1), .val .null, .unset] [(.int 1)]) _ := fun t k => pre6 t (by
    refine XS.astore X2.here hx rfl (hb hby d3_3) rfl rfl (l' := #[.val (.long q0), .second, .val (.int p1), .val (.int 2), .val (.int p3), .val (.int p4), .val (.ref b1), .unset, .unset]) rfl ?_
    refine XS.aconstNull X2.here hx rfl (hb hby d3_5) ?_
    refine XS.astore X2.here hx rfl (hb hby d3_6) rfl rfl (l' := #[.val (.long q0), .second, .val (.int p1), .val (.int 2), .val (.int p3), .val (.int p4), .val (.ref b1), .val .null, .unset]) rfl ?_
    refine XS.iloadN X2.here hx rfl (hb hby d3_8) rfl ?_
    refine XS.ifNo X2.here hx rfl (hb hby d3_9) rfl (by decide) ?_
    refine XS.iloadN X2.here hx rfl (hb hby d3_12) rfl ?_
    refine XS.iconst X2.here hx rfl (hb hby d3_13) ?_
    refine XS.isub X2.here hx rfl (hb hby d3_14) rfl ?_
    exact k)
  obtain ⟨T8, h8, k8, X8, e8, E8, A8, st8⟩ := newP X2 hx hZ (wq hw 137 rfl) e2 (g := (mkF m 15 #[.val (.long q0), .second, .val (.int p1), .val (.int 2), .val (.int p3), .val (.int p4), .val (.ref b1), .val .null, .unset] [(.int 1)])) rfl (hb hby d3_15) rfl (by decide) (cap := 1) (by decide) (by decide) (by decide) (by decide)
  obtain ⟨b15, g8⟩ : ∃ z, z = h2.size := ⟨_, rfl⟩
  rw [← g8] at A8 st8
  have gg8 : n0 ≤ b15 := Nat.le_trans Z2 (Nat.le_of_eq g8.symm)
  have sz8 : h0.size ≤ b15 := Nat.le_trans K2.1 (Nat.le_of_eq g8.symm)
  have K8 : Keep h0 h8 [] := K2.ext E8
  have Z8 : n0 ≤ h8.size := Nat.le_trans Z2 E8.1
  have V8 : Arv Z h8 b15 k8 .char (1 : Int32) [(.int 0)] (.int 0) := (Arv.new A8 (by decide)).pad (pad_rep [] (.int 0) 1)
  have ne8_b1 : b1 ≠ b15 := Nat.ne_of_lt (Nat.lt_of_lt_of_le V2.lt (Nat.le_of_eq g8.symm))
  have x9 := x3.ext E8
  have x10 := x4.ext E8
  have x11 := x5.ext E8
  have x12 := V2.ext E8
  have pre13 := Go.thn pre7 st8
  have jl8 : jb ≤ h8.size := Nat.le_trans jl2 E8.1
  have kS8 : _ ≤ h8.size := Nat.le_trans kS2 E8.1
  have pre14 : Go p e below T8 _ (mkF m 29 #[.val (.long q0), .second, .val (.int p1), .val (.int 2), .val (.int p3), .val (.int p4), .val (.ref b1), .val .null, .val (.ref b15)] [(.int p3), (.int 0), (.ref b15)]) _ := fun t k => pre13 t (by
    refine XS.astore X8.here hx rfl (hb hby d3_17) rfl rfl (l' := #[.val (.long q0), .second, .val (.int p1), .val (.int 2), .val (.int p3), .val (.int p4), .val (.ref b1), .val .null, .val (.ref b15)]) rfl ?_
    refine XS.iloadN X8.here hx rfl (hb hby d3_19) rfl ?_
    refine XS.iconst X8.here hx rfl (hb hby d3_20) ?_
    refine XS.icmpNo X8.here hx rfl (hb hby d3_21) rfl (by decide) ?_
    refine XS.aload X8.here hx rfl (hb hby d3_24) rfl rfl ?_
    refine XS.iconst X8.here hx rfl (hb hby d3_26) ?_
    refine XS.iload X8.here hx rfl (hb hby d3_27) rfl ?_
    exact k)
  obtain ⟨cl15, Ar15, q15, Sz15, Mn15, Hs15, Gs15⟩ := id V8
  have hin15 : ¬ ((0 : Int32) < 0 ∨ cl15.slots.size ≤ ((0 : Int32)).toNatClampNeg) := inb_of Sz15 ⟨by decide, by decide⟩
  obtain ⟨T15, h15, X15, e15, W15, st15⟩ := stC X8 hx hZ e8 Ar15 (j := (0 : Int32)) hin15 (g := (mkF m 29 #[.val (.long q0), .second, .val (.int p1), .val (.int 2), .val (.int p3), .val (.int p4), .val (.ref b1), .val .null, .val (.ref b15)] [(.int p3), (.int 0), (.ref b15)])) rfl rfl (hb hby d3_29)
  have V15 : Arv Z h15 b15 k8 .char (1 : Int32) [(.int (nar .char p3))] (.int 0) := Arv.set Ar15 q15 Sz15 Mn15 Hs15 Gs15 (fits_nar_char _) W15 0 rfl (Nat.le_of_ble_eq_true rfl)
  have N15 := Fr.snoc X15 N0 gg8
  have K15 : Keep h0 h15 [] := K8.wr W15 (Or.inr sz8)
  have Z15 : n0 ≤ h15.size := Nat.le_trans Z8 (Keep.of_wr W15).1
  have x16 := x9.wr W15
  have x17 := x11.keep (Keep.of_wr W15) (allS (Nat.le_trans jl2 (Nat.le_of_eq g8.symm)) all0)
  have x18 := x12.other W15 ne8_b1
  have pre19 := Go.thn pre14 st15
  have jl15 : jb ≤ h15.size := Nat.le_trans jl8 (Keep.of_wr W15).1
  have kS15 : _ ≤ h15.size := Nat.le_trans kS8 (Keep.of_wr W15).1
  have pre20 : Go p e below T15 _ (mkF m 41 #[.val (.long q0), .second, .val (.int p1), .val (.int 2), .val (.int p3), .val (.int p4), .val (.ref b1), .val .null, .val (.ref b15)] []) _ := fun t k => pre19 t (by
    refine XS.iloadN X15.here hx rfl (hb hby d3_30) rfl ?_
    refine XS.iconst X15.here hx rfl (hb hby d3_31) ?_
    refine XS.icmpYes X15.here hx rfl (pc0 := 32) (pc' := 41) rfl (hb hby d3_32) rfl (by decide) (by decide) (by decide) ?_
    exact k)
  obtain ⟨T21, h21, X21, e21, E21, A21, D21, -, st21⟩ := newO X15 hx hZ hown (wq hw 138 rfl) (wq hw 19 rfl) (wq hw 18 rfl) e15 (g := (mkF m 41 #[.val (.long q0), .second, .val (.int p1), .val (.int 2), .val (.int p3), .val (.int p4), .val (.ref b1), .val .null, .val (.ref b15)] [])) rfl (hb hby d3_41) (by decide) (by decide)
  obtain ⟨b41, g21⟩ : ∃ z, z = h15.size := ⟨_, rfl⟩
  rw [← g21] at A21 D21 st21
  have gg21 : n0 ≤ b41 := Nat.le_trans Z15 (Nat.le_of_eq g21.symm)
  have sz21 : h0.size ≤ b41 := Nat.le_trans K15.1 (Nat.le_of_eq g21.symm)
  have K21 : Keep h0 h21 [] := K15.ext E21
  have Z21 : n0 ≤ h21.size := Nat.le_trans Z15 E21.1
  have ne21_b1 : b1 ≠ b41 := Nat.ne_of_lt (Nat.lt_of_lt_of_le x18.lt (Nat.le_of_eq g21.symm))
  have ne21_b15 : b15 ≠ b41 := Nat.ne_of_lt (Nat.lt_of_lt_of_le V15.lt (Nat.le_of_eq g21.symm))
  have x22 := x16.ext E21
  have x23 := x17.ext E21
  have x24 := x18.ext E21
  have x25 := V15.ext E21
  have Fn21_value : Fld Z h21 b41 "java/lang/String" "value" "[B" .null := D21 (Or.inr (wq hw 20 rfl)) (ty := (.array .byte)) (by decide)
  have Fn21_coder : Fld Z h21 b41 "java/lang/String" "coder" "B" (.int 0) := D21 (Or.inr (wq hw 21 rfl)) (ty := .byte) (by decide)
  have pre26 := Go.thn pre20 st21
  have jl21 : jb ≤ h21.size := Nat.le_trans jl15 E21.1
  have kS21 : _ ≤ h21.size := Nat.le_trans kS15 E21.1
  have pre27 : Go p e below T21 _ (mkF m 47 #[.val (.long q0), .second, .val (.int p1), .val (.int 2), .val (.int p3), .val (.int p4), .val (.ref b1), .val .null, .val (.ref b15)] [(.ref b15), (.ref b41), (.ref b41)]) _ := fun t k => pre26 t (by
    refine XS.dup X21.here hx rfl (hb hby d3_44) rfl rfl ?_
    refine XS.aload X21.here hx rfl (hb hby d3_45) rfl rfl ?_
    exact k)
  obtain ⟨_, _, ⟨T28, L28, k28, n28⟩, -, X28, ⟨Lc28, hQ28, l28, y28, z28⟩, st28⟩ := X21.specialBack hx (y := Nm_5) rfl hown (mvT hZ (wq hw 139 rfl)) (mvT hZ (wq hw 140 rfl)) (mvT hZ (wq hw 141 rfl)) (by decide) (backOf (W := 1) (rm21_1 l Z a0 hw [] b41 b15 wcs _ (nar .char p3) h21 n0 Z21 x22 A21 Fn21_value Fn21_coder x25 gg21 ne21_b15 hcs hl0) hZ (wq hw 141 rfl) (wq hw 18 rfl) (by decide) (by decide)) (g := (mkF m 47 #[.val (.long q0), .second, .val (.int p1), .val (.int 2), .val (.int p3), .val (.int p4), .val (.ref b1), .val .null, .val (.ref b15)] [(.ref b15), (.ref b41), (.ref b41)])) rfl (by rw [hml]; rfl) (Steps.refl _) (a := b41) (argsL := [(.ref b15)]) (rest := [(.ref b41)]) (lenOf pd___C_V rfl) rfl (w00 rfl) (hb hby d3_47) (fun _ _ => ⟨rfl, e21, (by decide : 3 + 1 ≤ _), (by decide : 12 + 1 ≤ _)⟩)
  dsimp only [Pt.U, Pt.locs, Pt.cells, Pt.slots] at X28 l28 y28 z28 st28 hQ28
  subst l28 y28 z28
  obtain ⟨b47_0, k_b6_0_28, rfl, Nq28, Kq28, gz28_b47_0, o28_0, o28_1, o28_2, o28_3⟩ := hQ28
  have N28 := Fr.app N15 Nq28
  have K28 : Keep h0 T28.heap [] := K21.trans Kq28 (allS (Or.inr sz21) all0)
  have Z28 : n0 ≤ T28.heap.size := Nat.le_trans Z21 Kq28.1
  have x29 := own_staK x22 Kq28 (allS (own_plE A21) all0)
  have x30 := x23.keep Kq28 (allS (Nat.le_trans jl15 (Nat.le_of_eq g21.symm)) all0)
  have x31 := x24.keep Kq28 (ninS ne21_b1 nin0)
  have x32 := x25.keep Kq28 (ninS ne21_b15 nin0)
  have x33 := A21.keep Kq28
  have gg28_b47_0 : n0 ≤ b47_0 := Nat.le_trans Z21 gz28_b47_0
  have sz28_b47_0 : h0.size ≤ b47_0 := Nat.le_trans K21.1 gz28_b47_0
  have ne28_b1_b47_0 : b1 ≠ b47_0 := Nat.ne_of_lt (Nat.lt_of_lt_of_le x24.lt gz28_b47_0)
  have ne28_b15_b47_0 : b15 ≠ b47_0 := Nat.ne_of_lt (Nat.lt_of_lt_of_le x25.lt gz28_b47_0)
  have ne28_b41_b47_0 : b41 ≠ b47_0 := Nat.ne_of_lt (Nat.lt_of_lt_of_le A21.lt gz28_b47_0)
  have pre34 := Go.trn pre27 st28
  have jl28 : jb ≤ T28.heap.size := Nat.le_trans jl21 Kq28.1
  have kS28 : _ ≤ T28.heap.size := Nat.le_trans kS21 Kq28.1
  have pre35 : Go p e below T28 _ (mkF m 52 #[.val (.long q0), .second, .val (.int p1), .val (.int 2), .val (.int p3), .val (.int p4), .val (.ref b1), .val (.ref b41), .val (.ref b15)] []) _ := fun t k => pre34 t (by
    refine XS.astore X28.here hx rfl (hb hby d3_50) rfl rfl (l' := #[.val (.long q0), .second, .val (.int p1), .val (.int 2), .val (.int p3), .val (.int p4), .val (.ref b1), .val (.ref b41), .val (.ref b15)]) rfl ?_
    exact k)
  obtain ⟨T36, h36, X36, e36, E36, A36, D36, -, st36⟩ := newO X28 hx hZ hown (wq hw 14 rfl) (wq hw 15 rfl) (wq hw 16 rfl) rfl (g := (mkF m 52 #[.val (.long q0), .second, .val (.int p1), .val (.int 2), .val (.int p3), .val (.int p4), .val (.ref b1), .val (.ref b41), .val (.ref b15)] [])) rfl (hb hby d3_52) (by decide) (by decide)
  obtain ⟨b52, g36⟩ : ∃ z, z = T28.heap.size := ⟨_, rfl⟩
  rw [← g36] at A36 D36 st36
  have gg36 : n0 ≤ b52 := Nat.le_trans Z28 (Nat.le_of_eq g36.symm)
  have sz36 : h0.size ≤ b52 := Nat.le_trans K28.1 (Nat.le_of_eq g36.symm)
  have K36 : Keep h0 h36 [] := K28.ext E36
  have Z36 : n0 ≤ h36.size := Nat.le_trans Z28 E36.1
  have ne36_b1 : b1 ≠ b52 := Nat.ne_of_lt (Nat.lt_of_lt_of_le x31.lt (Nat.le_of_eq g36.symm))
  have ne36_b15 : b15 ≠ b52 := Nat.ne_of_lt (Nat.lt_of_lt_of_le x32.lt (Nat.le_of_eq g36.symm))
  have ne36_b41 : b41 ≠ b52 := Nat.ne_of_lt (Nat.lt_of_lt_of_le o28_0.lt (Nat.le_of_eq g36.symm))
  have ne36_b47_0 : b47_0 ≠ b52 := Nat.ne_of_lt (Nat.lt_of_lt_of_le o28_3.lt (Nat.le_of_eq g36.symm))
  have x37 := x29.ext E36
  have x38 := x30.ext E36
  have x39 := x31.ext E36
  have x40 := x32.ext E36
  have x41 := o28_0.ext E36
  have x42 := o28_1.ext E36
  have x43 := o28_2.ext E36
  have x44 := o28_3.ext E36
  have Fn36_id : Fld Z h36 b52 "com/example/oncemark/oncemark/Message" "id" "J" (.long (0 : Int64)) := D36 (Or.inr (wq hw 36 rfl)) (ty := .long) (by decide)
  have Fn36_producer : Fld Z h36 b52 "com/example/oncemark/oncemark/Message" "producer" "Ljava/lang/String;" .null := D36 (Or.inr (wq hw 38 rfl)) (ty := (.object "java/lang/String")) (by decide)
  have Fn36_sequenceId : Fld Z h36 b52 "com/example/oncemark/oncemark/Message" "sequenceId" "J" (.long (0 : Int64)) := D36 (Or.inr (wq hw 40 rfl)) (ty := .long) (by decide)
  have Fn36_key : Fld Z h36 b52 "com/example/oncemark/oncemark/Message" "key" "Ljava/lang/String;" .null := D36 (Or.inr (wq hw 42 rfl)) (ty := (.object "java/lang/String")) (by decide)
  have Fn36_payload : Fld Z h36 b52 "com/example/oncemark/oncemark/Message" "payload" "[B" .null := D36 (Or.inr (wq hw 44 rfl)) (ty := (.array .byte)) (by decide)
  have pre45 := Go.thn pre35 st36
  have jl36 : jb ≤ h36.size := Nat.le_trans jl28 E36.1
  have kS36 : _ ≤ h36.size := Nat.le_trans kS28 E36.1
  have pre46 : Go p e below T36 _ (mkF m 57 #[.val (.long q0), .second, .val (.int p1), .val (.int 2), .val (.int p3), .val (.int p4), .val (.ref b1), .val (.ref b41), .val (.ref b15)] [(.long q0), (.ref b52), (.ref b52)]) _ := fun t k => pre45 t (by
    refine XS.dup X36.here hx rfl (hb hby d3_55) rfl rfl ?_
    refine XS.lloadN X36.here hx rfl (hb hby d3_56) rfl ?_
    exact k)
  obtain ⟨lt57, T47, h47, vm47, kk47, X47, e47, E47, hS47, kS47, hZ, hown, J47, st47⟩ := own_ldcP X36 hx hZ hown (wq hw 17 rfl) (own_wS hw) e36 hS0 kS36 (by rw [hh, ← hn0]; exact N28) (fun b cl q => by rw [hh]; exact OX.2 b cl q) x38 hh53 hcw (g := (mkF m 57 #[.val (.long q0), .second, .val (.int p1), .val (.int 2), .val (.int p3), .val (.int p4), .val (.ref b1), .val (.ref b41), .val (.ref b15)] [(.long q0), (.ref b52), (.ref b52)])) rfl (hb hby d3_57) (by decide) (by decide)
  have K47 : Keep h0 h47 [] := K36.ext E47
  have Z47 : n0 ≤ h47.size := Nat.le_trans Z36 E47.1
  have x48 := x37.ext E47
  have x49 := x39.ext E47
  have x50 := x40.ext E47
  have x51 := x41.ext E47
  have x52 := x42.ext E47
  have x53 := x43.ext E47
  have x54 := x44.ext E47
  have x55 := A36.ext E47
  have x56 := Fn36_id.ext E47
  have x57 := Fn36_producer.ext E47
  have x58 := Fn36_sequenceId.ext E47
  have x59 := Fn36_key.ext E47
  have x60 := Fn36_payload.ext E47
  have pre61 := Go.thn pre46 st47
  have jl47 : jb ≤ h47.size := Nat.le_trans jl36 E47.1
  have pre62 : Go p e below T47 _ (mkF m 64 #[.val (.long q0), .second, .val (.int p1), .val (.int 2), .val (.int p3), .val (.int p4), .val (.ref b1), .val (.ref b41), .val (.ref b15)] [(.ref b1), (.ref b41), (.long q0), (.ref lt57), (.long q0), (.ref b52), (.ref b52)]) _ := fun t k => pre61 t (by
    refine XS.lloadN X47.here hx rfl (hb hby d3_59) rfl ?_
    refine XS.aload X47.here hx rfl (hb hby d3_60) rfl rfl ?_
    refine XS.aload X47.here hx rfl (hb hby d3_62) rfl rfl ?_
    exact k)
  obtain ⟨_, _, ⟨T63, L63, k63, n63⟩, -, X63, ⟨Lc63, hQ63, l63, y63, z63⟩, st63⟩ := X47.specialBack hx (y := Nm_9) rfl hown (mvT hZ (wq hw 24 rfl)) (mvT hZ (wq hw 25 rfl)) (mvT hZ (wq hw 26 rfl)) (by decide) (backOf (W := 1) (rm4_k l Z a0 hw [] b52 q0 lt57 q0 b41 b1 h47 n0 Z47 x55 x56 x57 x58 x59 x60 gg36) hZ (wq hw 26 rfl) (wq hw 16 rfl) (by decide) (by decide)) (g := (mkF m 64 #[.val (.long q0), .second, .val (.int p1), .val (.int 2), .val (.int p3), .val (.int p4), .val (.ref b1), .val (.ref b41), .val (.ref b15)] [(.ref b1), (.ref b41), (.long q0), (.ref lt57), (.long q0), (.ref b52), (.ref b52)])) rfl (by rw [hml]; rfl) (Steps.refl _) (a := b52) (argsL := [(.long q0), (.ref lt57), (.long q0), (.ref b41), (.ref b1)]) (rest := [(.ref b52)]) (lenOf pd__JLjava_lang_String_JLjava_lang_String__B_V rfl) rfl (w00 rfl) (hb hby d3_64) (fun _ _ => ⟨rfl, e47, (by decide : 7 + 0 ≤ _), (by decide : 26 + 0 ≤ _)⟩)
  dsimp only [Pt.U, Pt.locs, Pt.cells, Pt.slots] at X63 l63 y63 z63 st63 hQ63
  subst l63 y63 z63
  obtain ⟨rfl, Nq63, Kq63, o63_0, o63_1, o63_2⟩ := hQ63
  have N63 := Fr.app N28 Nq63
  have K63 : Keep h0 T63.heap [] := K47.trans Kq63 (allS (Or.inr sz36) all0)
  have Z63 : n0 ≤ T63.heap.size := Nat.le_trans Z47 Kq63.1
  have x64 := own_staK x48 Kq63 (allS (own_plE x55) all0)
  have x65 := J47.keep Kq63 (allS (Nat.le_trans jl28 (Nat.le_of_eq g36.symm)) all0)
  have x66 := x49.keep Kq63 (ninS ne36_b1 nin0)
  have x67 := x50.keep Kq63 (ninS ne36_b15 nin0)
  have x68 := x51.keep Kq63
  have x69 := x52.keep Kq63 (ninS ne36_b41 nin0)
  have x70 := x53.keep Kq63 (ninS ne36_b41 nin0)
  have x71 := x54.keep Kq63 (ninS ne36_b47_0 nin0)
  have x72 := x55.keep Kq63
  have pre73 := Go.trn pre62 st63
  have jl63 : jb ≤ T63.heap.size := Nat.le_trans jl47 Kq63.1
  have kS63 : _ ≤ T63.heap.size := Nat.le_trans kS47 Kq63.1
  obtain ⟨fs, hr, hrun, hended, hE⟩ := X63.leaveW hS47 kS63 (v := some (.ref b52)) (fun h => by rw [Bd.returns] at h; cases h)
  refine ⟨_, _, ?_, hrun, hended, _, _, rfl, ?_, hE.1, hE.2.1, hE.2.2.1, hE.2.2.2.mono (by decide) (by decide)⟩
  · refine pre73 _ ?_
    jvm_step X63.here [X63.here.top, hx, (hb hby d3_67), X63.method', Bd.returns, Value.isRef, FieldType.isReference]
    first | (intro acts; rw [hr _ acts rfl rfl rfl]) | rw [hr _ _ rfl rfl rfl]
    exact Steps.refl _
  · refine ⟨?_, ?_⟩
    · show Q3_2 Z q0 p1 p3 p4 wcs jb h0 n0 _ T63.heap _
      skip
      exact ⟨b1, b52, b41, b47_0, _, _, rfl, N63, K63, sz2, sz36, sz21, sz28_b47_0, o63_0, o63_1, o63_2, x66, x68, x69, x70, x71⟩
    · show own_J "com/example/oncemark/oncemark/ReceiveQueueNeedsRefillPinLaw" Z T63.vm T63.heap T63.heap.size
      skip
      exact (x65.warm (s := s) X63.warmed).grow jl63
theorem d3_35 : decode method_4_code 35 = .ok (.aload 8, 2) := by decide +kernel
theorem d3_37 : decode method_4_code 37 = .ok (.iconst 1, 1) := by decide +kernel
theorem d3_38 : decode method_4_code 38 = .ok (.iload 5, 2) := by decide +kernel
theorem d3_40 : decode method_4_code 40 = .ok (.castore, 1) := by decide +kernel
theorem ef_3_3 (m : MethodId) (x0 : Int64) (x1 : Int32) (x3 : Int32) (x4 : Int32) : entryFrame m #[(.long x0), (.int x1), (.int 3), (.int x3), (.int x4)] 9 = mkF m 0 #[.val (.long x0), .second, .val (.int x1), .val (.int 3), .val (.int x3), .val (.int x4), .unset, .unset, .unset] [] := by first | (simp [entryFrame, mkF, argsToLocals, Value.category]; done) | rfl
def Q3_3 (Z : State) (q0 : Int64) (p1 : Int32) (p3 : Int32) (p4 : Int32) (wcs : Int32) (jb : Nat) (h0 : Heap) (n0 : Nat) (v : Option Value) (h : Heap) (L : List Loc) : Prop := ∃ (b1 : Addr) (b52 : Addr) (b41 : Addr) (b47_0 : Addr) (k_b1 : ClassId) (k_b47_0 : ClassId), v = (some (.ref b52)) ∧ Fr n0 L ∧ Keep h0 h [] ∧ h0.size ≤ b1 ∧ h0.size ≤ b52 ∧ h0.size ≤ b41 ∧ h0.size ≤ b47_0 ∧ Exa Z h b52 "com/example/oncemark/oncemark/Message" ∧ Fld Z h b52 "com/example/oncemark/oncemark/Message" "key" "Ljava/lang/String;" (.ref b41) ∧ Fld Z h b52 "com/example/oncemark/oncemark/Message" "payload" "[B" (.ref b1) ∧ Arh Z h b1 k_b1 .byte p1 [] [] (.int 0) ∧ Exa Z h b41 "java/lang/String" ∧ Fld Z h b41 "java/lang/String" "value" "[B" (.ref b47_0) ∧ Fld Z h b41 "java/lang/String" "coder" "B" (.int 0) ∧ Arv Z h b47_0 k_b47_0 .byte (2 : Int32) [(.int (((nar .char p3).toInt8.toInt32).toInt8.toInt32)), (.int (((nar .char p4).toInt8.toInt32).toInt8.toInt32))] (.int 0)
set_option maxRecDepth 65536 in
set_option maxHeartbeats 40000000 in
theorem rm3_3 (l : Launch) (Z : State) (a0 : Array Value) (hw : ∀ d ∈ tables_1, d.before a0 Z = true) (ws : List Jvm.Cond) (q0 : Int64) (p1 : Int32) (p3 : Int32) (p4 : Int32) (wcs : Int32) (jb : Nat) (h0 : Heap) (n0 : Nat) (Z0 : n0 ≤ h0.size) (I0 : Sta Z h0 "java/lang/String" "COMPACT_STRINGS" "Z" (.int wcs)) (OX : own_X Z h0) (hjs : jb ≤ h0.size) (hn0 : n0 = h0.size) (hln : (¬ (p1 < (0 : Int32))) ∧ p1.toNatClampNeg ≤ 7) (hcw : Jvm.Lit.compactW.before a0 Z = true) (hh53 : Jvm.Lit.constHeld Z "com/example/oncemark/oncemark/ReceiveQueueNeedsRefillPinLaw" 53) (hcs : ¬ (wcs = (0 : Int32))) (hl0 : ¬ ((255 : Int32) < (nar .char p3))) (hl1 : ¬ ((255 : Int32) < (nar .char p4))) :
    MetFree l Nm_10 (head1 (Jvm.Cond.code Nm_10 method_4_code 9 (some (.object "com/example/oncemark/oncemark/Message")) :: ws) (rom 4 8 28 66)) (fun a U => a = #[(.long q0), (.int p1), (.int 3), (.int p3), (.int p4)] ∧ Z.Warmed39 U.vm ∧ U.heap = h0 ∧ own_J "com/example/oncemark/oncemark/ReceiveQueueNeedsRefillPinLaw" Z U.vm h0 jb) (fun _ _ _ _ _ => True) (fun _ U o U' => ∃ v L, o = .returned v ∧ (Q3_3 Z q0 p1 p3 p4 wcs jb h0 n0 v U'.heap L ∧ own_J "com/example/oncemark/oncemark/ReceiveQueueNeedsRefillPinLaw" Z U'.vm U'.heap U'.heap.size) ∧ ReturnedEndW U o U' L (rom 4 8 28 66).cells (rom 4 8 28 66).slots) := by
  refine MetFree.of_bodySF (plainFor_of_name pn_3) hisR ?_
  intro p e s m args below meth c s₁ Bd hml0 hP hK
  obtain ⟨rfl, hZ, hh, J0⟩ := hP
  have hx := Bd.exec
  have hby := Bd.bytes
  have hml : c.maxLocals = 9 := hml0
  have hown : s.vm.findClass "com/example/oncemark/oncemark/ReceiveQueueNeedsRefillPinLaw" = some m.cls := findClass_of_methodNamed Bd.named
  have X0 : Stand p l e (rom 4 8 28 66) (s.setVm s.vm) m #[(.long q0), (.int p1), (.int 3), (.int p3), (.int p4)] below meth c s₁ [] 0 0 := by rw [State.setVm_self]; exact Stand.of_body Bd
  have hS0 : s.Since s.vm h0.size := (State.WarmedH.refl s).since _
  have kS0 : h0.size ≤ h0.size := Nat.le_refl _
  have hZ : Z.Warmed39 (s.setVm s.vm).vm := hZ
  have hown : (s.setVm s.vm).vm.findClass "com/example/oncemark/oncemark/ReceiveQueueNeedsRefillPinLaw" = some m.cls := hown
  have e0 : s₁.heap = h0 := by rw [← hh, Bd.state]; rfl
  have N0 := Fr.nil n0
  have K0 : Keep h0 h0 [] := Keep.refl _ _
  have pre0 : Go p e below s₁ _ (mkF m 0 #[.val (.long q0), .second, .val (.int p1), .val (.int 3), .val (.int p3), .val (.int p4), .unset, .unset, .unset] []) _ := fun t k => castTop (ef_3_3 m q0 p1 p3 p4) k
  have pre1 : Go p e below s₁ _ (mkF m 1 #[.val (.long q0), .second, .val (.int p1), .val (.int 3), .val (.int p3), .val (.int p4), .unset, .unset, .unset] [(.int p1)]) _ := fun t k => pre0 t (by
    refine XS.iloadN X0.here hx rfl (hb hby d3_0) rfl ?_
    exact k)
  obtain ⟨T2, h2, k2, X2, e2, E2, A2, st2⟩ := newP X0 hx hZ (wq hw 13 rfl) e0 (g := (mkF m 1 #[.val (.long q0), .second, .val (.int p1), .val (.int 3), .val (.int p3), .val (.int p4), .unset, .unset, .unset] [(.int p1)])) rfl (hb hby d3_1) rfl hln.1 (cap := 7) hln.2 (by decide) (by decide) (by decide)
  obtain ⟨b1, g2⟩ : ∃ z, z = h0.size := ⟨_, rfl⟩
  rw [← g2] at A2 st2
  have gg2 : n0 ≤ b1 := Nat.le_trans Z0 (Nat.le_of_eq g2.symm)
  have sz2 : h0.size ≤ b1 := Nat.le_trans K0.1 (Nat.le_of_eq g2.symm)
  have K2 : Keep h0 h2 [] := K0.ext E2
  have Z2 : n0 ≤ h2.size := Nat.le_trans Z0 E2.1
  have V2 : Arh Z h2 b1 k2 .byte p1 [] [] (.int 0) := (Arv.new A2 hln.1).arh
  have x3 := I0.ext E2
  have x4 := OX.ext E2
  have x5 := J0.ext E2
  have pre6 := Go.thn pre1 st2
  have jl2 : jb ≤ h2.size := Nat.le_trans hjs E2.1
  have kS2 : _ ≤ h2.size := Nat.le_trans kS0 E2.1
  have pre7 : Go p e below T2 _ (mkF m 15 #[.val (.long q0), .second, .val (.int p1), .val (.int 3), .val (.int p3), .val (.int p4), .val (.ref b1), .val .null, .unset] [(.int 2)]) _ := fun t k => pre6 t (by
    refine XS.astore X2.here hx rfl (hb hby d3_3) rfl rfl (l' := #[.val (.long q0), .second, .val (.int p1), .val (.int 3), .val (.int p3), .val (.int p4), .val (.ref b1), .unset, .unset]) rfl ?_
    refine XS.aconstNull X2.here hx rfl (hb hby d3_5) ?_
    refine XS.astore X2.here hx rfl (hb hby d3_6) rfl rfl (l' := #[.val (.long q0), .second, .val (.int p1), .val (.int 3), .val (.int p3), .val (.int p4), .val (.ref b1), .val .null, .unset]) rfl ?_
    refine XS.iloadN X2.here hx rfl (hb hby d3_8) rfl ?_
    refine XS.ifNo X2.here hx rfl (hb hby d3_9) rfl (by decide) ?_
    refine XS.iloadN X2.here hx rfl (hb hby d3_12) rfl ?_
    refine XS.iconst X2.here hx rfl (hb hby d3_13) ?_
    refine XS.isub X2.here hx rfl (hb hby d3_14) rfl ?_
    exact k)
  obtain ⟨T8, h8, k8, X8, e8, E8, A8, st8⟩ := newP X2 hx hZ (wq hw 137 rfl) e2 (g := (mkF m 15 #[.val (.long q0), .second, .val (.int p1), .val (.int 3), .val (.int p3), .val (.int p4), .val (.ref b1), .val .null, .unset] [(.int 2)])) rfl (hb hby d3_15) rfl (by decide) (cap := 2) (by decide) (by decide) (by decide) (by decide)
  obtain ⟨b15, g8⟩ : ∃ z, z = h2.size := ⟨_, rfl⟩
  rw [← g8] at A8 st8
  have gg8 : n0 ≤ b15 := Nat.le_trans Z2 (Nat.le_of_eq g8.symm)
  have sz8 : h0.size ≤ b15 := Nat.le_trans K2.1 (Nat.le_of_eq g8.symm)
  have K8 : Keep h0 h8 [] := K2.ext E8
  have Z8 : n0 ≤ h8.size := Nat.le_trans Z2 E8.1
  have V8 : Arv Z h8 b15 k8 .char (2 : Int32) [(.int 0), (.int 0)] (.int 0) := (Arv.new A8 (by decide)).pad (pad_rep [] (.int 0) 2)
  have ne8_b1 : b1 ≠ b15 := Nat.ne_of_lt (Nat.lt_of_lt_of_le V2.lt (Nat.le_of_eq g8.symm))
  have x9 := x3.ext E8
  have x10 := x4.ext E8
  have x11 := x5.ext E8
  have x12 := V2.ext E8
  have pre13 := Go.thn pre7 st8
  have jl8 : jb ≤ h8.size := Nat.le_trans jl2 E8.1
  have kS8 : _ ≤ h8.size := Nat.le_trans kS2 E8.1
  have pre14 : Go p e below T8 _ (mkF m 29 #[.val (.long q0), .second, .val (.int p1), .val (.int 3), .val (.int p3), .val (.int p4), .val (.ref b1), .val .null, .val (.ref b15)] [(.int p3), (.int 0), (.ref b15)]) _ := fun t k => pre13 t (by
    refine XS.astore X8.here hx rfl (hb hby d3_17) rfl rfl (l' := #[.val (.long q0), .second, .val (.int p1), .val (.int 3), .val (.int p3), .val (.int p4), .val (.ref b1), .val .null, .val (.ref b15)]) rfl ?_
    refine XS.iloadN X8.here hx rfl (hb hby d3_19) rfl ?_
    refine XS.iconst X8.here hx rfl (hb hby d3_20) ?_
    refine XS.icmpNo X8.here hx rfl (hb hby d3_21) rfl (by decide) ?_
    refine XS.aload X8.here hx rfl (hb hby d3_24) rfl rfl ?_
    refine XS.iconst X8.here hx rfl (hb hby d3_26) ?_
    refine XS.iload X8.here hx rfl (hb hby d3_27) rfl ?_
    exact k)
  obtain ⟨cl15, Ar15, q15, Sz15, Mn15, Hs15, Gs15⟩ := id V8
  have hin15 : ¬ ((0 : Int32) < 0 ∨ cl15.slots.size ≤ ((0 : Int32)).toNatClampNeg) := inb_of Sz15 ⟨by decide, by decide⟩
  obtain ⟨T15, h15, X15, e15, W15, st15⟩ := stC X8 hx hZ e8 Ar15 (j := (0 : Int32)) hin15 (g := (mkF m 29 #[.val (.long q0), .second, .val (.int p1), .val (.int 3), .val (.int p3), .val (.int p4), .val (.ref b1), .val .null, .val (.ref b15)] [(.int p3), (.int 0), (.ref b15)])) rfl rfl (hb hby d3_29)
  have V15 : Arv Z h15 b15 k8 .char (2 : Int32) [(.int (nar .char p3)), (.int 0)] (.int 0) := Arv.set Ar15 q15 Sz15 Mn15 Hs15 Gs15 (fits_nar_char _) W15 0 rfl (Nat.le_of_ble_eq_true rfl)
  have N15 := Fr.snoc X15 N0 gg8
  have K15 : Keep h0 h15 [] := K8.wr W15 (Or.inr sz8)
  have Z15 : n0 ≤ h15.size := Nat.le_trans Z8 (Keep.of_wr W15).1
  have x16 := x9.wr W15
  have x17 := x11.keep (Keep.of_wr W15) (allS (Nat.le_trans jl2 (Nat.le_of_eq g8.symm)) all0)
  have x18 := x12.other W15 ne8_b1
  have pre19 := Go.thn pre14 st15
  have jl15 : jb ≤ h15.size := Nat.le_trans jl8 (Keep.of_wr W15).1
  have kS15 : _ ≤ h15.size := Nat.le_trans kS8 (Keep.of_wr W15).1
  have pre20 : Go p e below T15 _ (mkF m 40 #[.val (.long q0), .second, .val (.int p1), .val (.int 3), .val (.int p3), .val (.int p4), .val (.ref b1), .val .null, .val (.ref b15)] [(.int p4), (.int 1), (.ref b15)]) _ := fun t k => pre19 t (by
    refine XS.iloadN X15.here hx rfl (hb hby d3_30) rfl ?_
    refine XS.iconst X15.here hx rfl (hb hby d3_31) ?_
    refine XS.icmpNo X15.here hx rfl (hb hby d3_32) rfl (by decide) ?_
    refine XS.aload X15.here hx rfl (hb hby d3_35) rfl rfl ?_
    refine XS.iconst X15.here hx rfl (hb hby d3_37) ?_
    refine XS.iload X15.here hx rfl (hb hby d3_38) rfl ?_
    exact k)
  obtain ⟨cl21, Ar21, q21, Sz21, Mn21, Hs21, Gs21⟩ := id V15
  have hin21 : ¬ ((1 : Int32) < 0 ∨ cl21.slots.size ≤ ((1 : Int32)).toNatClampNeg) := inb_of Sz21 ⟨by decide, by decide⟩
  obtain ⟨T21, h21, X21, e21, W21, st21⟩ := stC X15 hx hZ e15 Ar21 (j := (1 : Int32)) hin21 (g := (mkF m 40 #[.val (.long q0), .second, .val (.int p1), .val (.int 3), .val (.int p3), .val (.int p4), .val (.ref b1), .val .null, .val (.ref b15)] [(.int p4), (.int 1), (.ref b15)])) rfl rfl (hb hby d3_40)
  have V21 : Arv Z h21 b15 k8 .char (2 : Int32) [(.int (nar .char p3)), (.int (nar .char p4))] (.int 0) := Arv.set Ar21 q21 Sz21 Mn21 Hs21 Gs21 (fits_nar_char _) W21 1 rfl (Nat.le_of_ble_eq_true rfl)
  have N21 := Fr.snoc X21 N15 gg8
  have K21 : Keep h0 h21 [] := K15.wr W21 (Or.inr sz8)
  have Z21 : n0 ≤ h21.size := Nat.le_trans Z15 (Keep.of_wr W21).1
  have x22 := x16.wr W21
  have x23 := x17.keep (Keep.of_wr W21) (allS (Nat.le_trans jl2 (Nat.le_of_eq g8.symm)) all0)
  have x24 := x18.other W21 ne8_b1
  have pre25 := Go.thn pre20 st21
  have jl21 : jb ≤ h21.size := Nat.le_trans jl15 (Keep.of_wr W21).1
  have kS21 : _ ≤ h21.size := Nat.le_trans kS15 (Keep.of_wr W21).1
  obtain ⟨T26, h26, X26, e26, E26, A26, D26, -, st26⟩ := newO X21 hx hZ hown (wq hw 138 rfl) (wq hw 19 rfl) (wq hw 18 rfl) e21 (g := (mkF m 41 #[.val (.long q0), .second, .val (.int p1), .val (.int 3), .val (.int p3), .val (.int p4), .val (.ref b1), .val .null, .val (.ref b15)] [])) rfl (hb hby d3_41) (by decide) (by decide)
  obtain ⟨b41, g26⟩ : ∃ z, z = h21.size := ⟨_, rfl⟩
  rw [← g26] at A26 D26 st26
  have gg26 : n0 ≤ b41 := Nat.le_trans Z21 (Nat.le_of_eq g26.symm)
  have sz26 : h0.size ≤ b41 := Nat.le_trans K21.1 (Nat.le_of_eq g26.symm)
  have K26 : Keep h0 h26 [] := K21.ext E26
  have Z26 : n0 ≤ h26.size := Nat.le_trans Z21 E26.1
  have ne26_b1 : b1 ≠ b41 := Nat.ne_of_lt (Nat.lt_of_lt_of_le x24.lt (Nat.le_of_eq g26.symm))
  have ne26_b15 : b15 ≠ b41 := Nat.ne_of_lt (Nat.lt_of_lt_of_le V21.lt (Nat.le_of_eq g26.symm))
  have x27 := x22.ext E26
  have x28 := x23.ext E26
  have x29 := x24.ext E26
  have x30 := V21.ext E26
  have Fn26_value : Fld Z h26 b41 "java/lang/String" "value" "[B" .null := D26 (Or.inr (wq hw 20 rfl)) (ty := (.array .byte)) (by decide)
  have Fn26_coder : Fld Z h26 b41 "java/lang/String" "coder" "B" (.int 0) := D26 (Or.inr (wq hw 21 rfl)) (ty := .byte) (by decide)
  have pre31 := Go.thn pre25 st26
  have jl26 : jb ≤ h26.size := Nat.le_trans jl21 E26.1
  have kS26 : _ ≤ h26.size := Nat.le_trans kS21 E26.1
  have pre32 : Go p e below T26 _ (mkF m 47 #[.val (.long q0), .second, .val (.int p1), .val (.int 3), .val (.int p3), .val (.int p4), .val (.ref b1), .val .null, .val (.ref b15)] [(.ref b15), (.ref b41), (.ref b41)]) _ := fun t k => pre31 t (by
    refine XS.dup X26.here hx rfl (hb hby d3_44) rfl rfl ?_
    refine XS.aload X26.here hx rfl (hb hby d3_45) rfl rfl ?_
    exact k)
  obtain ⟨_, _, ⟨T33, L33, k33, n33⟩, -, X33, ⟨Lc33, hQ33, l33, y33, z33⟩, st33⟩ := X26.specialBack hx (y := Nm_5) rfl hown (mvT hZ (wq hw 139 rfl)) (mvT hZ (wq hw 140 rfl)) (mvT hZ (wq hw 141 rfl)) (by decide) (backOf (W := 1) (rm21_2 l Z a0 hw [] b41 b15 wcs _ (nar .char p3) (nar .char p4) h26 n0 Z26 x27 A26 Fn26_value Fn26_coder x30 gg26 ne26_b15 hcs hl0 hl1) hZ (wq hw 141 rfl) (wq hw 18 rfl) (by decide) (by decide)) (g := (mkF m 47 #[.val (.long q0), .second, .val (.int p1), .val (.int 3), .val (.int p3), .val (.int p4), .val (.ref b1), .val .null, .val (.ref b15)] [(.ref b15), (.ref b41), (.ref b41)])) rfl (by rw [hml]; rfl) (Steps.refl _) (a := b41) (argsL := [(.ref b15)]) (rest := [(.ref b41)]) (lenOf pd___C_V rfl) rfl (w00 rfl) (hb hby d3_47) (fun _ _ => ⟨rfl, e26, (by decide : 3 + 1 ≤ _), (by decide : 13 + 2 ≤ _)⟩)
  dsimp only [Pt.U, Pt.locs, Pt.cells, Pt.slots] at X33 l33 y33 z33 st33 hQ33
  subst l33 y33 z33
  obtain ⟨b47_0, k_b6_0_33, rfl, Nq33, Kq33, gz33_b47_0, o33_0, o33_1, o33_2, o33_3⟩ := hQ33
  have N33 := Fr.app N21 Nq33
  have K33 : Keep h0 T33.heap [] := K26.trans Kq33 (allS (Or.inr sz26) all0)
  have Z33 : n0 ≤ T33.heap.size := Nat.le_trans Z26 Kq33.1
  have x34 := own_staK x27 Kq33 (allS (own_plE A26) all0)
  have x35 := x28.keep Kq33 (allS (Nat.le_trans jl21 (Nat.le_of_eq g26.symm)) all0)
  have x36 := x29.keep Kq33 (ninS ne26_b1 nin0)
  have x37 := x30.keep Kq33 (ninS ne26_b15 nin0)
  have x38 := A26.keep Kq33
  have gg33_b47_0 : n0 ≤ b47_0 := Nat.le_trans Z26 gz33_b47_0
  have sz33_b47_0 : h0.size ≤ b47_0 := Nat.le_trans K26.1 gz33_b47_0
  have ne33_b1_b47_0 : b1 ≠ b47_0 := Nat.ne_of_lt (Nat.lt_of_lt_of_le x29.lt gz33_b47_0)
  have ne33_b15_b47_0 : b15 ≠ b47_0 := Nat.ne_of_lt (Nat.lt_of_lt_of_le x30.lt gz33_b47_0)
  have ne33_b41_b47_0 : b41 ≠ b47_0 := Nat.ne_of_lt (Nat.lt_of_lt_of_le A26.lt gz33_b47_0)
  have pre39 := Go.trn pre32 st33
  have jl33 : jb ≤ T33.heap.size := Nat.le_trans jl26 Kq33.1
  have kS33 : _ ≤ T33.heap.size := Nat.le_trans kS26 Kq33.1
  have pre40 : Go p e below T33 _ (mkF m 52 #[.val (.long q0), .second, .val (.int p1), .val (.int 3), .val (.int p3), .val (.int p4), .val (.ref b1), .val (.ref b41), .val (.ref b15)] []) _ := fun t k => pre39 t (by
    refine XS.astore X33.here hx rfl (hb hby d3_50) rfl rfl (l' := #[.val (.long q0), .second, .val (.int p1), .val (.int 3), .val (.int p3), .val (.int p4), .val (.ref b1), .val (.ref b41), .val (.ref b15)]) rfl ?_
    exact k)
  obtain ⟨T41, h41, X41, e41, E41, A41, D41, -, st41⟩ := newO X33 hx hZ hown (wq hw 14 rfl) (wq hw 15 rfl) (wq hw 16 rfl) rfl (g := (mkF m 52 #[.val (.long q0), .second, .val (.int p1), .val (.int 3), .val (.int p3), .val (.int p4), .val (.ref b1), .val (.ref b41), .val (.ref b15)] [])) rfl (hb hby d3_52) (by decide) (by decide)
  obtain ⟨b52, g41⟩ : ∃ z, z = T33.heap.size := ⟨_, rfl⟩
  rw [← g41] at A41 D41 st41
  have gg41 : n0 ≤ b52 := Nat.le_trans Z33 (Nat.le_of_eq g41.symm)
  have sz41 : h0.size ≤ b52 := Nat.le_trans K33.1 (Nat.le_of_eq g41.symm)
  have K41 : Keep h0 h41 [] := K33.ext E41
  have Z41 : n0 ≤ h41.size := Nat.le_trans Z33 E41.1
  have ne41_b1 : b1 ≠ b52 := Nat.ne_of_lt (Nat.lt_of_lt_of_le x36.lt (Nat.le_of_eq g41.symm))
  have ne41_b15 : b15 ≠ b52 := Nat.ne_of_lt (Nat.lt_of_lt_of_le x37.lt (Nat.le_of_eq g41.symm))
  have ne41_b41 : b41 ≠ b52 := Nat.ne_of_lt (Nat.lt_of_lt_of_le o33_0.lt (Nat.le_of_eq g41.symm))
  have ne41_b47_0 : b47_0 ≠ b52 := Nat.ne_of_lt (Nat.lt_of_lt_of_le o33_3.lt (Nat.le_of_eq g41.symm))
  have x42 := x34.ext E41
  have x43 := x35.ext E41
  have x44 := x36.ext E41
  have x45 := x37.ext E41
  have x46 := o33_0.ext E41
  have x47 := o33_1.ext E41
  have x48 := o33_2.ext E41
  have x49 := o33_3.ext E41
  have Fn41_id : Fld Z h41 b52 "com/example/oncemark/oncemark/Message" "id" "J" (.long (0 : Int64)) := D41 (Or.inr (wq hw 36 rfl)) (ty := .long) (by decide)
  have Fn41_producer : Fld Z h41 b52 "com/example/oncemark/oncemark/Message" "producer" "Ljava/lang/String;" .null := D41 (Or.inr (wq hw 38 rfl)) (ty := (.object "java/lang/String")) (by decide)
  have Fn41_sequenceId : Fld Z h41 b52 "com/example/oncemark/oncemark/Message" "sequenceId" "J" (.long (0 : Int64)) := D41 (Or.inr (wq hw 40 rfl)) (ty := .long) (by decide)
  have Fn41_key : Fld Z h41 b52 "com/example/oncemark/oncemark/Message" "key" "Ljava/lang/String;" .null := D41 (Or.inr (wq hw 42 rfl)) (ty := (.object "java/lang/String")) (by decide)
  have Fn41_payload : Fld Z h41 b52 "com/example/oncemark/oncemark/Message" "payload" "[B" .null := D41 (Or.inr (wq hw 44 rfl)) (ty := (.array .byte)) (by decide)
  have pre50 := Go.thn pre40 st41
  have jl41 : jb ≤ h41.size := Nat.le_trans jl33 E41.1
  have kS41 : _ ≤ h41.size := Nat.le_trans kS33 E41.1
  have pre51 : Go p e below T41 _ (mkF m 57 #[.val (.long q0), .second, .val (.int p1), .val (.int 3), .val (.int p3), .val (.int p4), .val (.ref b1), .val (.ref b41), .val (.ref b15)] [(.long q0), (.ref b52), (.ref b52)]) _ := fun t k => pre50 t (by
    refine XS.dup X41.here hx rfl (hb hby d3_55) rfl rfl ?_
    refine XS.lloadN X41.here hx rfl (hb hby d3_56) rfl ?_
    exact k)
  obtain ⟨lt57, T52, h52, vm52, kk52, X52, e52, E52, hS52, kS52, hZ, hown, J52, st52⟩ := own_ldcP X41 hx hZ hown (wq hw 17 rfl) (own_wS hw) e41 hS0 kS41 (by rw [hh, ← hn0]; exact N33) (fun b cl q => by rw [hh]; exact OX.2 b cl q) x43 hh53 hcw (g := (mkF m 57 #[.val (.long q0), .second, .val (.int p1), .val (.int 3), .val (.int p3), .val (.int p4), .val (.ref b1), .val (.ref b41), .val (.ref b15)] [(.long q0), (.ref b52), (.ref b52)])) rfl (hb hby d3_57) (by decide) (by decide)
  have K52 : Keep h0 h52 [] := K41.ext E52
  have Z52 : n0 ≤ h52.size := Nat.le_trans Z41 E52.1
  have x53 := x42.ext E52
  have x54 := x44.ext E52
  have x55 := x45.ext E52
  have x56 := x46.ext E52
  have x57 := x47.ext E52
  have x58 := x48.ext E52
  have x59 := x49.ext E52
  have x60 := A41.ext E52
  have x61 := Fn41_id.ext E52
  have x62 := Fn41_producer.ext E52
  have x63 := Fn41_sequenceId.ext E52
  have x64 := Fn41_key.ext E52
  have x65 := Fn41_payload.ext E52
  have pre66 := Go.thn pre51 st52
  have jl52 : jb ≤ h52.size := Nat.le_trans jl41 E52.1
  have pre67 : Go p e below T52 _ (mkF m 64 #[.val (.long q0), .second, .val (.int p1), .val (.int 3), .val (.int p3), .val (.int p4), .val (.ref b1), .val (.ref b41), .val (.ref b15)] [(.ref b1), (.ref b41), (.long q0), (.ref lt57), (.long q0), (.ref b52), (.ref b52)]) _ := fun t k => pre66 t (by
    refine XS.lloadN X52.here hx rfl (hb hby d3_59) rfl ?_
    refine XS.aload X52.here hx rfl (hb hby d3_60) rfl rfl ?_
    refine XS.aload X52.here hx rfl (hb hby d3_62) rfl rfl ?_
    exact k)
  obtain ⟨_, _, ⟨T68, L68, k68, n68⟩, -, X68, ⟨Lc68, hQ68, l68, y68, z68⟩, st68⟩ := X52.specialBack hx (y := Nm_9) rfl hown (mvT hZ (wq hw 24 rfl)) (mvT hZ (wq hw 25 rfl)) (mvT hZ (wq hw 26 rfl)) (by decide) (backOf (W := 1) (rm4_k l Z a0 hw [] b52 q0 lt57 q0 b41 b1 h52 n0 Z52 x60 x61 x62 x63 x64 x65 gg41) hZ (wq hw 26 rfl) (wq hw 16 rfl) (by decide) (by decide)) (g := (mkF m 64 #[.val (.long q0), .second, .val (.int p1), .val (.int 3), .val (.int p3), .val (.int p4), .val (.ref b1), .val (.ref b41), .val (.ref b15)] [(.ref b1), (.ref b41), (.long q0), (.ref lt57), (.long q0), (.ref b52), (.ref b52)])) rfl (by rw [hml]; rfl) (Steps.refl _) (a := b52) (argsL := [(.long q0), (.ref lt57), (.long q0), (.ref b41), (.ref b1)]) (rest := [(.ref b52)]) (lenOf pd__JLjava_lang_String_JLjava_lang_String__B_V rfl) rfl (w00 rfl) (hb hby d3_64) (fun _ _ => ⟨rfl, e52, (by decide : 7 + 0 ≤ _), (by decide : 28 + 0 ≤ _)⟩)
  dsimp only [Pt.U, Pt.locs, Pt.cells, Pt.slots] at X68 l68 y68 z68 st68 hQ68
  subst l68 y68 z68
  obtain ⟨rfl, Nq68, Kq68, o68_0, o68_1, o68_2⟩ := hQ68
  have N68 := Fr.app N33 Nq68
  have K68 : Keep h0 T68.heap [] := K52.trans Kq68 (allS (Or.inr sz41) all0)
  have Z68 : n0 ≤ T68.heap.size := Nat.le_trans Z52 Kq68.1
  have x69 := own_staK x53 Kq68 (allS (own_plE x60) all0)
  have x70 := J52.keep Kq68 (allS (Nat.le_trans jl33 (Nat.le_of_eq g41.symm)) all0)
  have x71 := x54.keep Kq68 (ninS ne41_b1 nin0)
  have x72 := x55.keep Kq68 (ninS ne41_b15 nin0)
  have x73 := x56.keep Kq68
  have x74 := x57.keep Kq68 (ninS ne41_b41 nin0)
  have x75 := x58.keep Kq68 (ninS ne41_b41 nin0)
  have x76 := x59.keep Kq68 (ninS ne41_b47_0 nin0)
  have x77 := x60.keep Kq68
  have pre78 := Go.trn pre67 st68
  have jl68 : jb ≤ T68.heap.size := Nat.le_trans jl52 Kq68.1
  have kS68 : _ ≤ T68.heap.size := Nat.le_trans kS52 Kq68.1
  obtain ⟨fs, hr, hrun, hended, hE⟩ := X68.leaveW hS52 kS68 (v := some (.ref b52)) (fun h => by rw [Bd.returns] at h; cases h)
  refine ⟨_, _, ?_, hrun, hended, _, _, rfl, ?_, hE.1, hE.2.1, hE.2.2.1, hE.2.2.2.mono (by decide) (by decide)⟩
  · refine pre78 _ ?_
    jvm_step X68.here [X68.here.top, hx, (hb hby d3_67), X68.method', Bd.returns, Value.isRef, FieldType.isReference]
    first | (intro acts; rw [hr _ acts rfl rfl rfl]) | rw [hr _ _ rfl rfl rfl]
    exact Steps.refl _
  · refine ⟨?_, ?_⟩
    · show Q3_3 Z q0 p1 p3 p4 wcs jb h0 n0 _ T68.heap _
      skip
      exact ⟨b1, b52, b41, b47_0, _, _, rfl, N68, K68, sz2, sz41, sz26, sz33_b47_0, o68_0, o68_1, o68_2, x71, x73, x74, x75, x76⟩
    · show own_J "com/example/oncemark/oncemark/ReceiveQueueNeedsRefillPinLaw" Z T68.vm T68.heap T68.heap.size
      skip
      exact (x70.warm (s := s) X68.warmed).grow jl68
theorem d24_0 : decode jdk_42_method_152_code 0 = .ok (.getstatic 38, 3) := by decide +kernel
theorem d24_3 : decode jdk_42_method_152_code 3 = .ok (.ifCond .eq 10, 3) := by decide +kernel
theorem d24_6 : decode jdk_42_method_152_code 6 = .ok (.aload_n 0, 1) := by decide +kernel
theorem d24_7 : decode jdk_42_method_152_code 7 = .ok (.getfield 15, 3) := by decide +kernel
theorem d24_10 : decode jdk_42_method_152_code 10 = .ok (.goto 4, 3) := by decide +kernel
theorem d24_14 : decode jdk_42_method_152_code 14 = .ok (.ireturn, 1) := by decide +kernel
theorem pn_24 : plainName "java/lang/String" = true := by first | (simp [plainName, overriddenIn]; done) | decide +kernel
theorem ef_24 (m : MethodId) (x0 : Addr) : entryFrame m #[(.ref x0)] 1 = mkF m 0 #[.val (.ref x0)] [] := by first | (simp [entryFrame, mkF, argsToLocals, Value.category]; done) | rfl
def f24 : Int32 := (0 : Int32)
set_option maxRecDepth 65536 in
set_option maxHeartbeats 40000000 in
theorem rm24 (l : Launch) (Z : State) (a0 : Array Value) (hw : ∀ d ∈ tables_1, d.before a0 Z = true) (ws : List Jvm.Cond) (o0 : Addr) (wcs : Int32) (h0 : Heap) (n0 : Nat) (Z0 : n0 ≤ h0.size) (I0 : Sta Z h0 "java/lang/String" "COMPACT_STRINGS" "Z" (.int wcs)) (I1 : Fld Z h0 o0 "java/lang/String" "coder" "B" (.int 0)) (hcs : ¬ (wcs = (0 : Int32))) :
    Met1 l Nm_11 (Jvm.Cond.code Nm_11 jdk_42_method_152_code 1 (some .byte)) ws (rom 0 0 0 0) #[(.ref o0)] Z h0 (QP (some (.int (f24))) h0 n0) := by
  refine MetFree.of_bodySF (plainFor_of_name pn_24) hisR ?_
  intro p e s m args below meth c s₁ Bd hml0 hP hK
  obtain ⟨rfl, hZ, hh⟩ := hP
  have hx := Bd.exec
  have hby := Bd.bytes
  have hml : c.maxLocals = 1 := hml0
  have hown : s.vm.findClass "java/lang/String" = some m.cls := findClass_of_methodNamed Bd.named
  have X0 : Stand p l e (rom 0 0 0 0) s m _ _ _ _ _ [] 0 0 := Stand.of_body Bd
  have e0 : s₁.heap = h0 := by rw [← hh, Bd.state]; rfl
  have N0 := Fr.nil n0
  have K0 : Keep h0 h0 [] := Keep.refl _ _
  have pre0 : Go p e below s₁ _ (mkF m 0 #[.val (.ref o0)] []) _ := fun t k => castTop (ef_24 m o0) k
  obtain ⟨T1, X1, e1, st1⟩ := getS2 X0 hx hZ hown (host := "") (Or.inl (wq hw 160 rfl)) Via.refl e0 I0 (g := (mkF m 0 #[.val (.ref o0)] [])) rfl (hb hby d24_0)
  have pre2 := Go.thn pre0 st1
  have pre3 : Go p e below T1 _ (mkF m 7 #[.val (.ref o0)] [(.ref o0)]) _ := fun t k => pre2 t (by
    refine XS.ifNo X1.here hx rfl (hb hby d24_3) rfl ((if0 _ _).trans (feq hcs).1) ?_
    refine XS.aloadN X1.here hx rfl (hb hby d24_6) rfl rfl ?_
    exact k)
  obtain ⟨T4, X4, e4, st4⟩ := getF X1 hx hZ hown (host := "") (Or.inl (wq hw 149 rfl)) Via.refl e1 I1 (g := (mkF m 7 #[.val (.ref o0)] [(.ref o0)])) rfl rfl (hb hby d24_7)
  have pre5 := Go.thn pre3 st4
  have pre6 : Go p e below T4 _ (mkF m 14 #[.val (.ref o0)] [(.int 0)]) _ := fun t k => pre5 t (by
    refine XS.goto X4.here hx rfl (pc0 := 10) (pc' := 14) rfl (hb hby d24_10) (by decide) (by decide) ?_
    exact k)
  obtain ⟨fs, hr, hrun, hended, hW, hsame⟩ := X4.leave (v := some (.int 0)) (fun h => by rw [Bd.returns] at h; cases h)
  refine ⟨_, _, ?_, hrun, hended, _, _, rfl, ?_, ⟨_, rfl⟩, hW, hsame.mono (by decide) (by decide)⟩
  · exact pre6 _ (retN X4 hx (t := .byte) Bd.returns (by simp) (hb hby d24_14) hr)
  · exact ⟨by simp only [f24], N0, e4⟩
theorem d23_0 : decode jdk_42_method_54_code 0 = .ok (.aload_n 0, 1) := by decide +kernel
theorem d23_1 : decode jdk_42_method_54_code 1 = .ok (.getfield 9, 3) := by decide +kernel
theorem d23_4 : decode jdk_42_method_54_code 4 = .ok (.arraylength, 1) := by decide +kernel
theorem d23_5 : decode jdk_42_method_54_code 5 = .ok (.aload_n 0, 1) := by decide +kernel
theorem d23_6 : decode jdk_42_method_54_code 6 = .ok (.invokevirtual 335, 3) := by decide +kernel
theorem d23_9 : decode jdk_42_method_54_code 9 = .ok (.ishr, 1) := by decide +kernel
theorem d23_10 : decode jdk_42_method_54_code 10 = .ok (.ireturn, 1) := by decide +kernel
theorem pn_23 : plainName "java/lang/String" = true := by first | (simp [plainName, overriddenIn]; done) | decide +kernel
theorem pd___B : parseMethodDescriptor "()B" = some ⟨[], some .byte⟩ := by decide +kernel
theorem ef_23 (m : MethodId) (x0 : Addr) : entryFrame m #[(.ref x0)] 1 = mkF m 0 #[.val (.ref x0)] [] := by first | (simp [entryFrame, mkF, argsToLocals, Value.category]; done) | rfl
def f23 (z : Int32) : Int32 := (z >>> ((f24) &&& 31))
set_option maxRecDepth 65536 in
set_option maxHeartbeats 40000000 in
theorem rm23 (l : Launch) (Z : State) (a0 : Array Value) (hw : ∀ d ∈ tables_1, d.before a0 Z = true) (ws : List Jvm.Cond) (o0 : Addr) (wcs : Int32) (ov : Addr) (kv : ClassId) (z : Int32) (Ls : List Int32) (h0 : Heap) (n0 : Nat) (Z0 : n0 ≤ h0.size) (I0 : Sta Z h0 "java/lang/String" "COMPACT_STRINGS" "Z" (.int wcs)) (I1 : Exa Z h0 o0 "java/lang/String") (I2 : Fld Z h0 o0 "java/lang/String" "value" "[B" (.ref ov)) (I3 : Fld Z h0 o0 "java/lang/String" "coder" "B" (.int 0)) (I4 : Arv Z h0 ov kv .byte z (Ls.map Value.int) (.int 0)) (hcs : ¬ (wcs = (0 : Int32))) :
    Met1 l Nm_12 (Jvm.Cond.code Nm_12 jdk_42_method_54_code 1 (some .int)) ws (rom 1 0 0 13) #[(.ref o0)] Z h0 (QP (some (.int (f23 z))) h0 n0) := by
  refine MetFree.of_bodySF (plainFor_of_name pn_23) hisR ?_
  intro p e s m args below meth c s₁ Bd hml0 hP hK
  obtain ⟨rfl, hZ, hh⟩ := hP
  have hx := Bd.exec
  have hby := Bd.bytes
  have hml : c.maxLocals = 1 := hml0
  have hown : s.vm.findClass "java/lang/String" = some m.cls := findClass_of_methodNamed Bd.named
  have X0 : Stand p l e (rom 1 0 0 13) s m _ _ _ _ _ [] 0 0 := Stand.of_body Bd
  have e0 : s₁.heap = h0 := by rw [← hh, Bd.state]; rfl
  have N0 := Fr.nil n0
  have K0 : Keep h0 h0 [] := Keep.refl _ _
  have pre0 : Go p e below s₁ _ (mkF m 0 #[.val (.ref o0)] []) _ := fun t k => castTop (ef_23 m o0) k
  have pre1 : Go p e below s₁ _ (mkF m 1 #[.val (.ref o0)] [(.ref o0)]) _ := fun t k => pre0 t (by
    refine XS.aloadN X0.here hx rfl (hb hby d23_0) rfl rfl ?_
    exact k)
  obtain ⟨T2, X2, e2, st2⟩ := getF X0 hx hZ hown (host := "") (Or.inl (wq hw 148 rfl)) Via.refl e0 I2 (g := (mkF m 1 #[.val (.ref o0)] [(.ref o0)])) rfl rfl (hb hby d23_1)
  have pre3 := Go.thn pre1 st2
  obtain ⟨cl4, Ar4, -, Sz4, Mn4, Hs4, -⟩ := id I4
  have pre5 : Go p e below T2 _ (mkF m 5 #[.val (.ref o0)] [(.int z)]) _ := fun t k => pre3 t (by
    show Steps p.tables e below (T2.setTop (mkF m 4 #[.val (.ref o0)] [(.ref ov)])) _
    refine X2.arraylength hx (by rw [e2]; exact Ar4.1) (State.isArrayOf_alike hZ.alike Ar4.2.1) (g := (mkF m 4 #[.val (.ref o0)] [(.ref ov)])) rfl rfl (hb hby d23_4) _ ?_
    rw [len_of Sz4 Mn4]
    exact k)
  have pre6 : Go p e below T2 _ (mkF m 6 #[.val (.ref o0)] [(.ref o0), (.int z)]) _ := fun t k => pre5 t (by
    refine XS.aloadN X2.here hx rfl (hb hby d23_5) rfl rfl ?_
    exact k)
  obtain ⟨cq7, kq7, q7a, q7b, q7c⟩ := isOf hZ e2 I1
  obtain ⟨_, _, ⟨T7, L7, k7, n7⟩, -, X7, ⟨Lc7, hQ7, l7, y7, z7⟩, st7⟩ := X2.virtualBack hx (y := Nm_11) (z := Nm_11) hown (mvT hZ (wq hw 155 rfl)) (mvT hZ (wq hw 156 rfl)) (notFace_of_selects (args := #[]) (mvT hZ (wq hw 158 rfl))) (mvT hZ (wq hw 158 rfl)) (mvT hZ (wq hw 157 rfl)) (by decide) (backOf (W := 1) (rm24 l Z a0 hw [] o0 wcs h0 n0 Z0 I0 I3 hcs) hZ (wq hw 159 rfl) (wq hw 18 rfl) (by decide) (by decide)) q7a q7c (g := (mkF m 6 #[.val (.ref o0)] [(.ref o0), (.int z)])) rfl (by rw [hml]; rfl) (Steps.refl _) (argsL := []) (rest := [(.int z)]) (lenOf pd___B rfl) rfl (w00 rfl) (hb hby d23_6) (fun _ _ => ⟨rfl, e2, (by decide : 0 + 0 ≤ _), (by decide : 0 + 0 ≤ _)⟩)
  dsimp only [Pt.U, Pt.locs, Pt.cells, Pt.slots] at X7 l7 y7 z7 st7 hQ7
  subst l7 y7 z7
  obtain ⟨rfl, Nq7, e7⟩ := hQ7
  have N7 := Fr.app N0 Nq7
  have pre8 := Go.trn pre6 st7
  have pre9 : Go p e below T7 _ (mkF m 10 #[.val (.ref o0)] [(.int (z >>> ((f24) &&& 31)))]) _ := fun t k => pre8 t (by
    refine XS.ishr X7.here hx rfl (hb hby d23_9) rfl ?_
    exact k)
  obtain ⟨fs, hr, hrun, hended, hW, hsame⟩ := X7.leave (v := some (.int (z >>> ((f24) &&& 31)))) (fun h => by rw [Bd.returns] at h; cases h)
  refine ⟨_, _, ?_, hrun, hended, _, _, rfl, ?_, ⟨_, rfl⟩, hW, hsame.mono (by decide) (by decide)⟩
  · exact pre9 _ (retI X7 hx Bd.returns (hb hby d23_10) hr)
  · exact ⟨by simp only [f23], N7, e7⟩
theorem d16_0 : decode prog_15_method_9_code 0 = .ok (.aload_n 0, 1) := by decide +kernel
theorem d16_1 : decode prog_15_method_9_code 1 = .ok (.getfield 23, 3) := by decide +kernel
theorem d16_4 : decode prog_15_method_9_code 4 = .ok (.areturn, 1) := by decide +kernel
theorem pn_16 : plainName "com/example/oncemark/oncemark/Message" = true := by first | (simp [plainName, overriddenIn]; done) | decide +kernel
theorem ef_16 (m : MethodId) (x0 : Addr) : entryFrame m #[(.ref x0)] 1 = mkF m 0 #[.val (.ref x0)] [] := by first | (simp [entryFrame, mkF, argsToLocals, Value.category]; done) | rfl
set_option maxRecDepth 65536 in
set_option maxHeartbeats 40000000 in
theorem rm16 (l : Launch) (Z : State) (a0 : Array Value) (hw : ∀ d ∈ tables_1, d.before a0 Z = true) (ws : List Jvm.Cond) (o0 : Addr) (op : Addr) (h0 : Heap) (n0 : Nat) (Z0 : n0 ≤ h0.size) (I0 : Fld Z h0 o0 "com/example/oncemark/oncemark/Message" "payload" "[B" (.ref op)) :
    Met1 l Nm_13 (Jvm.Cond.code Nm_13 prog_15_method_9_code 1 (some (.array .byte))) ws (rom 0 0 0 0) #[(.ref o0)] Z h0 (QP (some (.ref op)) h0 n0) := by
  refine MetFree.of_bodySF (plainFor_of_name pn_16) hisR ?_
  intro p e s m args below meth c s₁ Bd hml0 hP hK
  obtain ⟨rfl, hZ, hh⟩ := hP
  have hx := Bd.exec
  have hby := Bd.bytes
  have hml : c.maxLocals = 1 := hml0
  have hown : s.vm.findClass "com/example/oncemark/oncemark/Message" = some m.cls := findClass_of_methodNamed Bd.named
  have X0 : Stand p l e (rom 0 0 0 0) s m _ _ _ _ _ [] 0 0 := Stand.of_body Bd
  have e0 : s₁.heap = h0 := by rw [← hh, Bd.state]; rfl
  have N0 := Fr.nil n0
  have K0 : Keep h0 h0 [] := Keep.refl _ _
  have pre0 : Go p e below s₁ _ (mkF m 0 #[.val (.ref o0)] []) _ := fun t k => castTop (ef_16 m o0) k
  have pre1 : Go p e below s₁ _ (mkF m 1 #[.val (.ref o0)] [(.ref o0)]) _ := fun t k => pre0 t (by
    refine XS.aloadN X0.here hx rfl (hb hby d16_0) rfl rfl ?_
    exact k)
  obtain ⟨T2, X2, e2, st2⟩ := getF X0 hx hZ hown (host := "") (Or.inl (wq hw 43 rfl)) Via.refl e0 I0 (g := (mkF m 1 #[.val (.ref o0)] [(.ref o0)])) rfl rfl (hb hby d16_1)
  have pre3 := Go.thn pre1 st2
  obtain ⟨fs, hr, hrun, hended, hW, hsame⟩ := X2.leave (v := some (.ref op)) (fun h => by rw [Bd.returns] at h; cases h)
  refine ⟨_, _, ?_, hrun, hended, _, _, rfl, ?_, ⟨_, rfl⟩, hW, hsame.mono (by decide) (by decide)⟩
  · refine pre3 _ ?_
    jvm_step X2.here [X2.here.top, hx, (hb hby d16_4), X2.method', Bd.returns, Value.isRef, FieldType.isReference]
    first | (intro acts; rw [hr _ acts rfl rfl rfl]) | rw [hr _ _ rfl rfl rfl]
    exact Steps.refl _
  · exact ⟨rfl, N0, e2⟩
theorem d15_0 : decode prog_15_method_8_code 0 = .ok (.aload_n 0, 1) := by decide +kernel
theorem d15_1 : decode prog_15_method_8_code 1 = .ok (.getfield 20, 3) := by decide +kernel
theorem d15_4 : decode prog_15_method_8_code 4 = .ok (.areturn, 1) := by decide +kernel
theorem pn_15 : plainName "com/example/oncemark/oncemark/Message" = true := by first | (simp [plainName, overriddenIn]; done) | decide +kernel
theorem ef_15_n (m : MethodId) (x0 : Addr) : entryFrame m #[(.ref x0)] 1 = mkF m 0 #[.val (.ref x0)] [] := by first | (simp [entryFrame, mkF, argsToLocals, Value.category]; done) | rfl
set_option maxRecDepth 65536 in
set_option maxHeartbeats 40000000 in
theorem rm15_n (l : Launch) (Z : State) (a0 : Array Value) (hw : ∀ d ∈ tables_1, d.before a0 Z = true) (ws : List Jvm.Cond) (o0 : Addr) (h0 : Heap) (n0 : Nat) (Z0 : n0 ≤ h0.size) (I0 : Fld Z h0 o0 "com/example/oncemark/oncemark/Message" "key" "Ljava/lang/String;" .null) :
    Met1 l Nm_14 (Jvm.Cond.code Nm_14 prog_15_method_8_code 1 (some (.object "java/lang/String"))) ws (rom 0 0 0 0) #[(.ref o0)] Z h0 (QP (some .null) h0 n0) := by
  refine MetFree.of_bodySF (plainFor_of_name pn_15) hisR ?_
  intro p e s m args below meth c s₁ Bd hml0 hP hK
  obtain ⟨rfl, hZ, hh⟩ := hP
  have hx := Bd.exec
  have hby := Bd.bytes
  have hml : c.maxLocals = 1 := hml0
  have hown : s.vm.findClass "com/example/oncemark/oncemark/Message" = some m.cls := findClass_of_methodNamed Bd.named
  have X0 : Stand p l e (rom 0 0 0 0) s m _ _ _ _ _ [] 0 0 := Stand.of_body Bd
  have e0 : s₁.heap = h0 := by rw [← hh, Bd.state]; rfl
  have N0 := Fr.nil n0
  have K0 : Keep h0 h0 [] := Keep.refl _ _
  have pre0 : Go p e below s₁ _ (mkF m 0 #[.val (.ref o0)] []) _ := fun t k => castTop (ef_15_n m o0) k
  have pre1 : Go p e below s₁ _ (mkF m 1 #[.val (.ref o0)] [(.ref o0)]) _ := fun t k => pre0 t (by
    refine XS.aloadN X0.here hx rfl (hb hby d15_0) rfl rfl ?_
    exact k)
  obtain ⟨T2, X2, e2, st2⟩ := getF X0 hx hZ hown (host := "") (Or.inl (wq hw 41 rfl)) Via.refl e0 I0 (g := (mkF m 1 #[.val (.ref o0)] [(.ref o0)])) rfl rfl (hb hby d15_1)
  have pre3 := Go.thn pre1 st2
  obtain ⟨fs, hr, hrun, hended, hW, hsame⟩ := X2.leave (v := some .null) (fun h => by rw [Bd.returns] at h; cases h)
  refine ⟨_, _, ?_, hrun, hended, _, _, rfl, ?_, ⟨_, rfl⟩, hW, hsame.mono (by decide) (by decide)⟩
  · refine pre3 _ ?_
    jvm_step X2.here [X2.here.top, hx, (hb hby d15_4), X2.method', Bd.returns, Value.isRef, FieldType.isReference]
    first | (intro acts; rw [hr _ acts rfl rfl rfl]) | rw [hr _ _ rfl rfl rfl]
    exact Steps.refl _
  · exact ⟨rfl, N0, e2⟩
theorem d14_0 : decode prog_24_method_2_code 0 = .ok (.aload_n 0, 1) := by decide +kernel
theorem d14_1 : decode prog_24_method_2_code 1 = .ok (.invokevirtual 24, 3) := by decide +kernel
theorem d14_4 : decode prog_24_method_2_code 4 = .ok (.astore_n 1, 1) := by decide +kernel
theorem d14_5 : decode prog_24_method_2_code 5 = .ok (.aload_n 0, 1) := by decide +kernel
theorem d14_6 : decode prog_24_method_2_code 6 = .ok (.invokevirtual 30, 3) := by decide +kernel
theorem d14_9 : decode prog_24_method_2_code 9 = .ok (.arraylength, 1) := by decide +kernel
theorem d14_10 : decode prog_24_method_2_code 10 = .ok (.aload_n 1, 1) := by decide +kernel
theorem d14_11 : decode prog_24_method_2_code 11 = .ok (.ifnonnull 7, 3) := by decide +kernel
theorem d14_14 : decode prog_24_method_2_code 14 = .ok (.iconst 0, 1) := by decide +kernel
theorem d14_15 : decode prog_24_method_2_code 15 = .ok (.goto 7, 3) := by decide +kernel
theorem d14_22 : decode prog_24_method_2_code 22 = .ok (.iadd, 1) := by decide +kernel
theorem d14_23 : decode prog_24_method_2_code 23 = .ok (.i2l, 1) := by decide +kernel
theorem d14_24 : decode prog_24_method_2_code 24 = .ok (.lreturn, 1) := by decide +kernel
theorem pn_14 : plainName "com/example/oncemark/oncemark/ReceiveQueue" = true := by first | (simp [plainName, overriddenIn]; done) | decide +kernel
theorem pd___Ljava_lang_String_ : parseMethodDescriptor "()Ljava/lang/String;" = some ⟨[], some (.object "java/lang/String")⟩ := by decide +kernel
theorem pd____B : parseMethodDescriptor "()[B" = some ⟨[], some (.array .byte)⟩ := by decide +kernel
theorem ef_14_n (m : MethodId) (x0 : Addr) : entryFrame m #[(.ref x0)] 2 = mkF m 0 #[.val (.ref x0), .unset] [] := by first | (simp [entryFrame, mkF, argsToLocals, Value.category]; done) | rfl
def f14_n (n : Int32) : Int64 := ((n + (0 : Int32)).toInt64)
set_option maxRecDepth 65536 in
set_option maxHeartbeats 40000000 in
theorem rm14_n (l : Launch) (Z : State) (a0 : Array Value) (hw : ∀ d ∈ tables_1, d.before a0 Z = true) (ws : List Jvm.Cond) (o0 : Addr) (op : Addr) (kp : ClassId) (n : Int32) (h0 : Heap) (n0 : Nat) (Z0 : n0 ≤ h0.size) (I0 : Exa Z h0 o0 "com/example/oncemark/oncemark/Message") (I1 : Fld Z h0 o0 "com/example/oncemark/oncemark/Message" "key" "Ljava/lang/String;" .null) (I2 : Fld Z h0 o0 "com/example/oncemark/oncemark/Message" "payload" "[B" (.ref op)) (I3 : Arh Z h0 op kp .byte n [] [] (.int 0)) :
    Met1 l Nm_15 (Jvm.Cond.code Nm_15 prog_24_method_2_code 2 (some .long)) ws (rom 2 0 0 26) #[(.ref o0)] Z h0 (QP (some (.long (f14_n n))) h0 n0) := by
  refine MetFree.of_bodySF (plainFor_of_name pn_14) hisR ?_
  intro p e s m args below meth c s₁ Bd hml0 hP hK
  obtain ⟨rfl, hZ, hh⟩ := hP
  have hx := Bd.exec
  have hby := Bd.bytes
  have hml : c.maxLocals = 2 := hml0
  have hown : s.vm.findClass "com/example/oncemark/oncemark/ReceiveQueue" = some m.cls := findClass_of_methodNamed Bd.named
  have X0 : Stand p l e (rom 2 0 0 26) s m _ _ _ _ _ [] 0 0 := Stand.of_body Bd
  have e0 : s₁.heap = h0 := by rw [← hh, Bd.state]; rfl
  have N0 := Fr.nil n0
  have K0 : Keep h0 h0 [] := Keep.refl _ _
  have pre0 : Go p e below s₁ _ (mkF m 0 #[.val (.ref o0), .unset] []) _ := fun t k => castTop (ef_14_n m o0) k
  have pre1 : Go p e below s₁ _ (mkF m 1 #[.val (.ref o0), .unset] [(.ref o0)]) _ := fun t k => pre0 t (by
    refine XS.aloadN X0.here hx rfl (hb hby d14_0) rfl rfl ?_
    exact k)
  obtain ⟨cq2, kq2, q2a, q2b, q2c⟩ := isOf hZ e0 I0
  obtain ⟨_, _, ⟨T2, L2, k2, n2⟩, -, X2, ⟨Lc2, hQ2, l2, y2, z2⟩, st2⟩ := X0.virtualBack hx (y := Nm_14) (z := Nm_14) hown (mvT hZ (wq hw 108 rfl)) (mvT hZ (wq hw 109 rfl)) (notFace_of_selects (args := #[]) (mvT hZ (wq hw 111 rfl))) (mvT hZ (wq hw 111 rfl)) (mvT hZ (wq hw 110 rfl)) (by decide) (backOf (W := 0) (rm15_n l Z a0 hw [] o0 h0 n0 Z0 I1) hZ (wq hw 112 rfl) (wq hw 16 rfl) (by decide) (by decide)) q2a q2c (g := (mkF m 1 #[.val (.ref o0), .unset] [(.ref o0)])) rfl (by rw [hml]; rfl) (Steps.refl _) (argsL := []) (rest := []) (lenOf pd___Ljava_lang_String_ rfl) rfl (w00 rfl) (hb hby d14_1) (fun _ _ => ⟨rfl, e0, (by decide : 0 + 0 ≤ _), (by decide : 0 + 0 ≤ _)⟩)
  dsimp only [Pt.U, Pt.locs, Pt.cells, Pt.slots] at X2 l2 y2 z2 st2 hQ2
  subst l2 y2 z2
  obtain ⟨rfl, Nq2, e2⟩ := hQ2
  have N2 := Fr.app N0 Nq2
  have pre3 := Go.trn pre1 st2
  have pre4 : Go p e below T2 _ (mkF m 6 #[.val (.ref o0), .val .null] [(.ref o0)]) _ := fun t k => pre3 t (by
    refine XS.astoreN X2.here hx rfl (hb hby d14_4) rfl rfl (l' := #[.val (.ref o0), .val .null]) rfl ?_
    refine XS.aloadN X2.here hx rfl (hb hby d14_5) rfl rfl ?_
    exact k)
  obtain ⟨cq5, kq5, q5a, q5b, q5c⟩ := isOf hZ e2 I0
  obtain ⟨_, _, ⟨T5, L5, k5, n5⟩, -, X5, ⟨Lc5, hQ5, l5, y5, z5⟩, st5⟩ := X2.virtualBack hx (y := Nm_13) (z := Nm_13) hown (mvT hZ (wq hw 113 rfl)) (mvT hZ (wq hw 114 rfl)) (notFace_of_selects (args := #[]) (mvT hZ (wq hw 116 rfl))) (mvT hZ (wq hw 116 rfl)) (mvT hZ (wq hw 115 rfl)) (by decide) (backOf (W := 0) (rm16 l Z a0 hw [] o0 op h0 n0 Z0 I2) hZ (wq hw 117 rfl) (wq hw 16 rfl) (by decide) (by decide)) q5a q5c (g := (mkF m 6 #[.val (.ref o0), .val .null] [(.ref o0)])) rfl (by rw [hml]; rfl) (Steps.refl _) (argsL := []) (rest := []) (lenOf pd____B rfl) rfl (w00 rfl) (hb hby d14_6) (fun _ _ => ⟨rfl, e2, (by decide : 0 + 0 ≤ _), (by decide : 0 + 0 ≤ _)⟩)
  dsimp only [Pt.U, Pt.locs, Pt.cells, Pt.slots] at X5 l5 y5 z5 st5 hQ5
  subst l5 y5 z5
  obtain ⟨rfl, Nq5, e5⟩ := hQ5
  have N5 := Fr.app N2 Nq5
  have pre6 := Go.trn pre4 st5
  obtain ⟨cl7, Ar7, -, Sz7, Mn7, Hs7, -⟩ := id I3
  have pre8 : Go p e below T5 _ (mkF m 10 #[.val (.ref o0), .val .null] [(.int n)]) _ := fun t k => pre6 t (by
    show Steps p.tables e below (T5.setTop (mkF m 9 #[.val (.ref o0), .val .null] [(.ref op)])) _
    refine X5.arraylength hx (by rw [e5]; exact Ar7.1) (State.isArrayOf_alike hZ.alike Ar7.2.1) (g := (mkF m 9 #[.val (.ref o0), .val .null] [(.ref op)])) rfl rfl (hb hby d14_9) _ ?_
    rw [len_of Sz7 Mn7]
    exact k)
  have pre9 : Go p e below T5 _ (mkF m 24 #[.val (.ref o0), .val .null] [(.long ((n + (0 : Int32)).toInt64))]) _ := fun t k => pre8 t (by
    refine XS.aloadN X5.here hx rfl (hb hby d14_10) rfl rfl ?_
    refine XS.ifnonnullNo X5.here hx rfl (hb hby d14_11) rfl ?_
    refine XS.iconst X5.here hx rfl (hb hby d14_14) ?_
    refine XS.goto X5.here hx rfl (pc0 := 15) (pc' := 22) rfl (hb hby d14_15) (by decide) (by decide) ?_
    refine XS.iadd X5.here hx rfl (hb hby d14_22) rfl ?_
    refine XS.i2l X5.here hx rfl (hb hby d14_23) rfl ?_
    exact k)
  obtain ⟨fs, hr, hrun, hended, hW, hsame⟩ := X5.leave (v := some (.long ((n + (0 : Int32)).toInt64))) (fun h => by rw [Bd.returns] at h; cases h)
  refine ⟨_, _, ?_, hrun, hended, _, _, rfl, ?_, ⟨_, rfl⟩, hW, hsame.mono (by decide) (by decide)⟩
  · exact pre9 _ (X5.lreturnOut hx Bd.returns (hb hby d14_24) hr)
  · exact ⟨by simp only [f14_n], N5, e5⟩
set_option maxRecDepth 65536 in
set_option maxHeartbeats 40000000 in
theorem rm15_k (l : Launch) (Z : State) (a0 : Array Value) (hw : ∀ d ∈ tables_1, d.before a0 Z = true) (ws : List Jvm.Cond) (o0 : Addr) (ok : Addr) (h0 : Heap) (n0 : Nat) (Z0 : n0 ≤ h0.size) (I0 : Fld Z h0 o0 "com/example/oncemark/oncemark/Message" "key" "Ljava/lang/String;" (.ref ok)) :
    Met1 l Nm_14 (Jvm.Cond.code Nm_14 prog_15_method_8_code 1 (some (.object "java/lang/String"))) ws (rom 0 0 0 0) #[(.ref o0)] Z h0 (QP (some (.ref ok)) h0 n0) := by
  refine MetFree.of_bodySF (plainFor_of_name pn_15) hisR ?_
  intro p e s m args below meth c s₁ Bd hml0 hP hK
  obtain ⟨rfl, hZ, hh⟩ := hP
  have hx := Bd.exec
  have hby := Bd.bytes
  have hml : c.maxLocals = 1 := hml0
  have hown : s.vm.findClass "com/example/oncemark/oncemark/Message" = some m.cls := findClass_of_methodNamed Bd.named
  have X0 : Stand p l e (rom 0 0 0 0) s m _ _ _ _ _ [] 0 0 := Stand.of_body Bd
  have e0 : s₁.heap = h0 := by rw [← hh, Bd.state]; rfl
  have N0 := Fr.nil n0
  have K0 : Keep h0 h0 [] := Keep.refl _ _
  have pre0 : Go p e below s₁ _ (mkF m 0 #[.val (.ref o0)] []) _ := fun t k => castTop (ef_15_n m o0) k
  have pre1 : Go p e below s₁ _ (mkF m 1 #[.val (.ref o0)] [(.ref o0)]) _ := fun t k => pre0 t (by
    refine XS.aloadN X0.here hx rfl (hb hby d15_0) rfl rfl ?_
    exact k)
  obtain ⟨T2, X2, e2, st2⟩ := getF X0 hx hZ hown (host := "") (Or.inl (wq hw 41 rfl)) Via.refl e0 I0 (g := (mkF m 1 #[.val (.ref o0)] [(.ref o0)])) rfl rfl (hb hby d15_1)
  have pre3 := Go.thn pre1 st2
  obtain ⟨fs, hr, hrun, hended, hW, hsame⟩ := X2.leave (v := some (.ref ok)) (fun h => by rw [Bd.returns] at h; cases h)
  refine ⟨_, _, ?_, hrun, hended, _, _, rfl, ?_, ⟨_, rfl⟩, hW, hsame.mono (by decide) (by decide)⟩
  · refine pre3 _ ?_
    jvm_step X2.here [X2.here.top, hx, (hb hby d15_4), X2.method', Bd.returns, Value.isRef, FieldType.isReference]
    first | (intro acts; rw [hr _ acts rfl rfl rfl]) | rw [hr _ _ rfl rfl rfl]
    exact Steps.refl _
  · exact ⟨rfl, N0, e2⟩
theorem d14_18 : decode prog_24_method_2_code 18 = .ok (.aload_n 1, 1) := by decide +kernel
theorem d14_19 : decode prog_24_method_2_code 19 = .ok (.invokevirtual 34, 3) := by decide +kernel
theorem pd___I : parseMethodDescriptor "()I" = some ⟨[], some .int⟩ := by decide +kernel
def f14_k (n : Int32) (z : Int32) : Int64 := ((n + (f23 z)).toInt64)
set_option maxRecDepth 65536 in
set_option maxHeartbeats 40000000 in
theorem rm14_k (l : Launch) (Z : State) (a0 : Array Value) (hw : ∀ d ∈ tables_1, d.before a0 Z = true) (ws : List Jvm.Cond) (o0 : Addr) (ok : Addr) (op : Addr) (kp : ClassId) (n : Int32) (wcs : Int32) (ov : Addr) (kv : ClassId) (z : Int32) (Ls : List Int32) (h0 : Heap) (n0 : Nat) (Z0 : n0 ≤ h0.size) (I0 : Exa Z h0 o0 "com/example/oncemark/oncemark/Message") (I1 : Fld Z h0 o0 "com/example/oncemark/oncemark/Message" "key" "Ljava/lang/String;" (.ref ok)) (I2 : Fld Z h0 o0 "com/example/oncemark/oncemark/Message" "payload" "[B" (.ref op)) (I3 : Arh Z h0 op kp .byte n [] [] (.int 0)) (I4 : Sta Z h0 "java/lang/String" "COMPACT_STRINGS" "Z" (.int wcs)) (I5 : Exa Z h0 ok "java/lang/String") (I6 : Fld Z h0 ok "java/lang/String" "value" "[B" (.ref ov)) (I7 : Fld Z h0 ok "java/lang/String" "coder" "B" (.int 0)) (I8 : Arv Z h0 ov kv .byte z (Ls.map Value.int) (.int 0)) (hcs : ¬ (wcs = (0 : Int32))) :
    Met1 l Nm_15 (Jvm.Cond.code Nm_15 prog_24_method_2_code 2 (some .long)) ws (rom 2 0 0 26) #[(.ref o0)] Z h0 (QP (some (.long (f14_k n z))) h0 n0) := by
  refine MetFree.of_bodySF (plainFor_of_name pn_14) hisR ?_
  intro p e s m args below meth c s₁ Bd hml0 hP hK
  obtain ⟨rfl, hZ, hh⟩ := hP
  have hx := Bd.exec
  have hby := Bd.bytes
  have hml : c.maxLocals = 2 := hml0
  have hown : s.vm.findClass "com/example/oncemark/oncemark/ReceiveQueue" = some m.cls := findClass_of_methodNamed Bd.named
  have X0 : Stand p l e (rom 2 0 0 26) s m _ _ _ _ _ [] 0 0 := Stand.of_body Bd
  have e0 : s₁.heap = h0 := by rw [← hh, Bd.state]; rfl
  have N0 := Fr.nil n0
  have K0 : Keep h0 h0 [] := Keep.refl _ _
  have pre0 : Go p e below s₁ _ (mkF m 0 #[.val (.ref o0), .unset] []) _ := fun t k => castTop (ef_14_n m o0) k
  have pre1 : Go p e below s₁ _ (mkF m 1 #[.val (.ref o0), .unset] [(.ref o0)]) _ := fun t k => pre0 t (by
    refine XS.aloadN X0.here hx rfl (hb hby d14_0) rfl rfl ?_
    exact k)
  obtain ⟨cq2, kq2, q2a, q2b, q2c⟩ := isOf hZ e0 I0
  obtain ⟨_, _, ⟨T2, L2, k2, n2⟩, -, X2, ⟨Lc2, hQ2, l2, y2, z2⟩, st2⟩ := X0.virtualBack hx (y := Nm_14) (z := Nm_14) hown (mvT hZ (wq hw 108 rfl)) (mvT hZ (wq hw 109 rfl)) (notFace_of_selects (args := #[]) (mvT hZ (wq hw 111 rfl))) (mvT hZ (wq hw 111 rfl)) (mvT hZ (wq hw 110 rfl)) (by decide) (backOf (W := 0) (rm15_k l Z a0 hw [] o0 ok h0 n0 Z0 I1) hZ (wq hw 112 rfl) (wq hw 16 rfl) (by decide) (by decide)) q2a q2c (g := (mkF m 1 #[.val (.ref o0), .unset] [(.ref o0)])) rfl (by rw [hml]; rfl) (Steps.refl _) (argsL := []) (rest := []) (lenOf pd___Ljava_lang_String_ rfl) rfl (w00 rfl) (hb hby d14_1) (fun _ _ => ⟨rfl, e0, (by decide : 0 + 0 ≤ _), (by decide : 0 + 0 ≤ _)⟩)
  dsimp only [Pt.U, Pt.locs, Pt.cells, Pt.slots] at X2 l2 y2 z2 st2 hQ2
  subst l2 y2 z2
  obtain ⟨rfl, Nq2, e2⟩ := hQ2
  have N2 := Fr.app N0 Nq2
  have pre3 := Go.trn pre1 st2
  have pre4 : Go p e below T2 _ (mkF m 6 #[.val (.ref o0), .val (.ref ok)] [(.ref o0)]) _ := fun t k => pre3 t (by
    refine XS.astoreN X2.here hx rfl (hb hby d14_4) rfl rfl (l' := #[.val (.ref o0), .val (.ref ok)]) rfl ?_
    refine XS.aloadN X2.here hx rfl (hb hby d14_5) rfl rfl ?_
    exact k)
  obtain ⟨cq5, kq5, q5a, q5b, q5c⟩ := isOf hZ e2 I0
  obtain ⟨_, _, ⟨T5, L5, k5, n5⟩, -, X5, ⟨Lc5, hQ5, l5, y5, z5⟩, st5⟩ := X2.virtualBack hx (y := Nm_13) (z := Nm_13) hown (mvT hZ (wq hw 113 rfl)) (mvT hZ (wq hw 114 rfl)) (notFace_of_selects (args := #[]) (mvT hZ (wq hw 116 rfl))) (mvT hZ (wq hw 116 rfl)) (mvT hZ (wq hw 115 rfl)) (by decide) (backOf (W := 0) (rm16 l Z a0 hw [] o0 op h0 n0 Z0 I2) hZ (wq hw 117 rfl) (wq hw 16 rfl) (by decide) (by decide)) q5a q5c (g := (mkF m 6 #[.val (.ref o0), .val (.ref ok)] [(.ref o0)])) rfl (by rw [hml]; rfl) (Steps.refl _) (argsL := []) (rest := []) (lenOf pd____B rfl) rfl (w00 rfl) (hb hby d14_6) (fun _ _ => ⟨rfl, e2, (by decide : 0 + 0 ≤ _), (by decide : 0 + 0 ≤ _)⟩)
  dsimp only [Pt.U, Pt.locs, Pt.cells, Pt.slots] at X5 l5 y5 z5 st5 hQ5
  subst l5 y5 z5
  obtain ⟨rfl, Nq5, e5⟩ := hQ5
  have N5 := Fr.app N2 Nq5
  have pre6 := Go.trn pre4 st5
  obtain ⟨cl7, Ar7, -, Sz7, Mn7, Hs7, -⟩ := id I3
  have pre8 : Go p e below T5 _ (mkF m 10 #[.val (.ref o0), .val (.ref ok)] [(.int n)]) _ := fun t k => pre6 t (by
    show Steps p.tables e below (T5.setTop (mkF m 9 #[.val (.ref o0), .val (.ref ok)] [(.ref op)])) _
    refine X5.arraylength hx (by rw [e5]; exact Ar7.1) (State.isArrayOf_alike hZ.alike Ar7.2.1) (g := (mkF m 9 #[.val (.ref o0), .val (.ref ok)] [(.ref op)])) rfl rfl (hb hby d14_9) _ ?_
    rw [len_of Sz7 Mn7]
    exact k)
  have pre9 : Go p e below T5 _ (mkF m 19 #[.val (.ref o0), .val (.ref ok)] [(.ref ok), (.int n)]) _ := fun t k => pre8 t (by
    refine XS.aloadN X5.here hx rfl (hb hby d14_10) rfl rfl ?_
    refine XS.ifnonnullYes X5.here hx rfl (pc0 := 11) (pc' := 18) rfl (hb hby d14_11) rfl (by decide) (by decide) ?_
    refine XS.aloadN X5.here hx rfl (hb hby d14_18) rfl rfl ?_
    exact k)
  obtain ⟨cq10, kq10, q10a, q10b, q10c⟩ := isOf hZ e5 I5
  obtain ⟨_, _, ⟨T10, L10, k10, n10⟩, -, X10, ⟨Lc10, hQ10, l10, y10, z10⟩, st10⟩ := X5.virtualBack hx (y := Nm_12) (z := Nm_12) hown (mvT hZ (wq hw 150 rfl)) (mvT hZ (wq hw 151 rfl)) (notFace_of_selects (args := #[]) (mvT hZ (wq hw 153 rfl))) (mvT hZ (wq hw 153 rfl)) (mvT hZ (wq hw 152 rfl)) (by decide) (backOf (W := 1) (rm23 l Z a0 hw [] ok wcs ov _ z Ls h0 n0 Z0 I4 I5 I6 I7 I8 hcs) hZ (wq hw 154 rfl) (wq hw 18 rfl) (by decide) (by decide)) q10a q10c (g := (mkF m 19 #[.val (.ref o0), .val (.ref ok)] [(.ref ok), (.int n)])) rfl (by rw [hml]; rfl) (Steps.refl _) (argsL := []) (rest := [(.int n)]) (lenOf pd___I rfl) rfl (w00 rfl) (hb hby d14_19) (fun _ _ => ⟨rfl, e5, (by decide : 0 + 0 ≤ _), (by decide : 0 + 0 ≤ _)⟩)
  dsimp only [Pt.U, Pt.locs, Pt.cells, Pt.slots] at X10 l10 y10 z10 st10 hQ10
  subst l10 y10 z10
  obtain ⟨rfl, Nq10, e10⟩ := hQ10
  have N10 := Fr.app N5 Nq10
  have pre11 := Go.trn pre9 st10
  have pre12 : Go p e below T10 _ (mkF m 24 #[.val (.ref o0), .val (.ref ok)] [(.long ((n + (f23 z)).toInt64))]) _ := fun t k => pre11 t (by
    refine XS.iadd X10.here hx rfl (hb hby d14_22) rfl ?_
    refine XS.i2l X10.here hx rfl (hb hby d14_23) rfl ?_
    exact k)
  obtain ⟨fs, hr, hrun, hended, hW, hsame⟩ := X10.leave (v := some (.long ((n + (f23 z)).toInt64))) (fun h => by rw [Bd.returns] at h; cases h)
  refine ⟨_, _, ?_, hrun, hended, _, _, rfl, ?_, ⟨_, rfl⟩, hW, hsame.mono (by decide) (by decide)⟩
  · exact pre12 _ (X10.lreturnOut hx Bd.returns (hb hby d14_24) hr)
  · exact ⟨by simp only [f14_k], N10, e10⟩
def own_M (Z : State) (h : Heap) (a : Addr) (N : Nat) (b : Int64) : Prop := a < N ∧ Exa Z h a "com/example/oncemark/oncemark/Message" ∧ ∃ (pl : Addr) (kp : ClassId) (n : Int32), pl < N ∧ Fld Z h a "com/example/oncemark/oncemark/Message" "payload" "[B" (.ref pl) ∧ Arh Z h pl kp .byte n [] [] (.int 0) ∧ ((Fld Z h a "com/example/oncemark/oncemark/Message" "key" "Ljava/lang/String;" .null ∧ b = f14_n n) ∨ ∃ (ks kv : Addr) (kk : ClassId) (z : Int32) (Ls : List Int32), ks < N ∧ kv < N ∧ Fld Z h a "com/example/oncemark/oncemark/Message" "key" "Ljava/lang/String;" (.ref ks) ∧ Exa Z h ks "java/lang/String" ∧ Fld Z h ks "java/lang/String" "value" "[B" (.ref kv) ∧ Fld Z h ks "java/lang/String" "coder" "B" (.int 0) ∧ Arv Z h kv kk .byte z (Ls.map Value.int) (.int 0) ∧ b = f14_k n z)
theorem own_M.ext {Z : State} {h h' : Heap} {a : Addr} {N : Nat} {b : Int64} (M : own_M Z h a N b) (E : Ext h h') : own_M Z h' a N b := by
  obtain ⟨l, e, pl, kp, n, l1, f1, f2, (⟨f3, r⟩ | ⟨ks, kv, kk, z, Ls, l2, l3, f3, f4, f5, f6, f7, r⟩)⟩ := M
  · exact ⟨l, e.ext E, pl, kp, n, l1, f1.ext E, f2.ext E, Or.inl ⟨f3.ext E, r⟩⟩
  · exact ⟨l, e.ext E, pl, kp, n, l1, f1.ext E, f2.ext E, Or.inr ⟨ks, kv, kk, z, Ls, l2, l3, f3.ext E, f4.ext E, f5.ext E, f6.ext E, f7.ext E, r⟩⟩
theorem own_M.grow {Z : State} {h : Heap} {a : Addr} {N N' : Nat} {b : Int64} (M : own_M Z h a N b) (g : N ≤ N') : own_M Z h a N' b := by
  obtain ⟨l, e, pl, kp, n, l1, f1, f2, (⟨f3, r⟩ | ⟨ks, kv, kk, z, Ls, l2, l3, f3, f4, f5, f6, f7, r⟩)⟩ := M
  · exact ⟨Nat.lt_of_lt_of_le l g, e, pl, kp, n, Nat.lt_of_lt_of_le l1 g, f1, f2, Or.inl ⟨f3, r⟩⟩
  · exact ⟨Nat.lt_of_lt_of_le l g, e, pl, kp, n, Nat.lt_of_lt_of_le l1 g, f1, f2, Or.inr ⟨ks, kv, kk, z, Ls, Nat.lt_of_lt_of_le l2 g, Nat.lt_of_lt_of_le l3 g, f3, f4, f5, f6, f7, r⟩⟩
theorem own_nin {x : Addr} {N : Nat} {ws : List Addr} (q : ∀ y ∈ ws, N ≤ y) (l : x < N) : x ∉ ws := fun z => absurd (q x z) (Nat.not_le.mpr l)
theorem own_M.keep {Z : State} {h h' : Heap} {a : Addr} {N : Nat} {b : Int64} {ws : List Addr} (M : own_M Z h a N b) (K : Keep h h' ws) (q : ∀ x ∈ ws, N ≤ x) : own_M Z h' a N b := by
  obtain ⟨l, e, pl, kp, n, l1, f1, f2, (⟨f3, r⟩ | ⟨ks, kv, kk, z, Ls, l2, l3, f3, f4, f5, f6, f7, r⟩)⟩ := M
  · exact ⟨l, e.keep K, pl, kp, n, l1, f1.keep K (own_nin q l), f2.keep K (own_nin q l1), Or.inl ⟨f3.keep K (own_nin q l), r⟩⟩
  · exact ⟨l, e.keep K, pl, kp, n, l1, f1.keep K (own_nin q l), f2.keep K (own_nin q l1), Or.inr ⟨ks, kv, kk, z, Ls, l2, l3, f3.keep K (own_nin q l), f4.keep K, f5.keep K (own_nin q l2), f6.keep K (own_nin q l2), f7.keep K (own_nin q l3), r⟩⟩
theorem rm14 (l : Launch) (Z : State) (a0 : Array Value) (hw : ∀ d ∈ tables_1, d.before a0 Z = true) (ws : List Jvm.Cond) (o0 : Addr) (wcs : Int32) (vb : Int64) (jb : Nat) (h0 : Heap) (n0 : Nat) (Z0 : n0 ≤ h0.size) (I0 : Sta Z h0 "java/lang/String" "COMPACT_STRINGS" "Z" (.int wcs)) (I1 : own_M Z h0 o0 jb vb) (hjs : jb ≤ h0.size) (hcs : ¬ (wcs = (0 : Int32))) :
    Met1 l Nm_15 (Jvm.Cond.code Nm_15 prog_24_method_2_code 2 (some .long)) ws (rom 2 0 0 26) #[(.ref o0)] Z h0 (QP (some (.long vb)) h0 n0) := by
  obtain ⟨l1, e, pl, kp, n, -, f1, f2, (⟨f3, rfl⟩ | ⟨ks, kv, kk, z, Ls, -, -, f3, f4, f5, f6, f7, rfl⟩)⟩ := I1
  · exact rm14_n l Z a0 hw ws o0 pl kp n h0 n0 Z0 e f3 f1 f2
  · exact rm14_k l Z a0 hw ws o0 ks pl kp n wcs kv kk z Ls h0 n0 Z0 e f3 f1 f2 I0 f4 f5 f6 f7 hcs
def Q3 (Z : State) (p1 p2 : Int32) (h0 : Heap) (n0 : Nat) (v : Option Value) (h : Heap) (L : List Loc) : Prop := ∃ b52 : Addr, v = some (.ref b52) ∧ Fr n0 L ∧ Keep h0 h [] ∧ h0.size ≤ b52 ∧ Exa Z h b52 "com/example/oncemark/oncemark/Message" ∧ own_M Z h b52 h.size (f17 p1 p2)
theorem own_imp {l : Launch} {y : MethodName} {sp : Spec} {P : Array Value → State → Prop} {G : State → Prop} {Q Q' : Option Value → Heap → List Loc → Prop} {k n : Nat} (q : MetFree l y sp P (fun _ _ _ _ _ => True) (fun _ U o U' => ∃ v L, o = .returned v ∧ (Q v U'.heap L ∧ G U') ∧ ReturnedEndW U o U' L k n)) (i : ∀ v h L, Q v h L → Q' v h L) : MetFree l y sp P (fun _ _ _ _ _ => True) (fun _ U o U' => ∃ v L, o = .returned v ∧ (Q' v U'.heap L ∧ G U') ∧ ReturnedEndW U o U' L k n) := by
  intro p e ha hc hk s m a below hf hA hP hG
  obtain ⟨n, o, h1, h2, h3, v, L, r1, r2, r3⟩ := q p e ha hc hk s m a below hf hA hP hG
  exact ⟨n, o, h1, h2, h3, v, L, r1, ⟨i _ _ _ r2.1, r2.2⟩, r3⟩
theorem own_frm {a b : Nat} {L : List Loc} (N : Fr a L) (g : b ≤ a) : Fr b L := fun y hy => Nat.le_trans g (N y hy)
theorem own_n7 {p : Int32} (h : (¬ (p < (0 : Int32))) ∧ p.toNatClampNeg ≤ 7) : 0 ≤ p.toInt ∧ p.toInt ≤ 7 := by
  obtain ⟨h1, h2⟩ := h
  rw [Int32.lt_iff_toInt_lt, show (0 : Int32).toInt = 0 from rfl] at h1
  rw [Int32.toNatClampNeg] at h2
  omega
theorem own_ck {p k : Int32} (h : (¬ (p < (0 : Int32))) ∧ p.toNatClampNeg ≤ 7) (h1 : 0 ≤ k.toInt) (h2 : k.toInt ≤ 2) : (p + k).toInt64 = p.toInt64 + k.toInt64 := by
  obtain ⟨a, b⟩ := own_n7 h
  apply Int64.toInt_inj.mp
  rw [Int32.toInt_toInt64, Int64.toInt_add, Int32.toInt_toInt64, Int32.toInt_toInt64, Int32.toInt_add]
  rw [Int.bmod_eq_of_le (by omega) (by omega), Int.bmod_eq_of_le (by omega) (by omega)]
theorem rm3 (l : Launch) (Z : State) (a0 : Array Value) (hw : ∀ d ∈ tables_1, d.before a0 Z = true) (ws : List Jvm.Cond) (q0 : Int64) (p1 : Int32) (p2 : Int32) (p3 : Int32) (p4 : Int32) (wcs : Int32) (jb : Nat) (h0 : Heap) (n0 : Nat) (Z0 : n0 ≤ h0.size) (I0 : Sta Z h0 "java/lang/String" "COMPACT_STRINGS" "Z" (.int wcs)) (OX : own_X Z h0) (hjs : jb ≤ h0.size) (hln : (¬ (p1 < (0 : Int32))) ∧ p1.toNatClampNeg ≤ 7) (hcw : Jvm.Lit.compactW.before a0 Z = true) (hh53 : Jvm.Lit.constHeld Z "com/example/oncemark/oncemark/ReceiveQueueNeedsRefillPinLaw" 53) (hh7 : Jvm.Lit.constHeld Z "java/lang/String" 7) (hcs : ¬ (wcs = (0 : Int32))) (hk : p2 = 0 ∨ p2 = 1 ∨ p2 = 2 ∨ p2 = 3) (hl0 : ¬ ((255 : Int32) < (nar .char p3))) (hl1 : ¬ ((255 : Int32) < (nar .char p4))) :
    MetFree l Nm_10 (head1 (Jvm.Cond.code Nm_10 method_4_code 9 (some (.object "com/example/oncemark/oncemark/Message")) :: ws) (rom 4 8 28 66)) (fun a U => a = #[(.long q0), (.int p1), (.int p2), (.int p3), (.int p4)] ∧ Z.Warmed39 U.vm ∧ U.heap = h0 ∧ own_J "com/example/oncemark/oncemark/ReceiveQueueNeedsRefillPinLaw" Z U.vm h0 jb) (fun _ _ _ _ _ => True) (fun _ U o U' => ∃ v L, o = .returned v ∧ (Q3 Z p1 p2 h0 n0 v U'.heap L ∧ own_J "com/example/oncemark/oncemark/ReceiveQueueNeedsRefillPinLaw" Z U'.vm U'.heap U'.heap.size) ∧ ReturnedEndW U o U' L (rom 4 8 28 66).cells (rom 4 8 28 66).slots) := by
  rcases hk with rfl | rfl | rfl | rfl
  · refine own_imp (rm3_0 l Z a0 hw ws q0 p1 p3 p4 jb h0 h0.size (Nat.le_refl _) OX hjs rfl hln hcw hh53) (fun v h L q => ?_)
    obtain ⟨b1, b52, k1, e, N, K, g1, g2, f1, f2, f3, f4⟩ := q
    exact ⟨b52, e, own_frm N Z0, K, g2, f1, f1.lt, f1, b1, k1, p1, f4.lt, f3, f4, Or.inl ⟨f2, by show p1.toInt64 = (p1 + 0).toInt64; rw [own_ck hln (by decide) (by decide)]; exact (Int64.add_zero _).symm⟩⟩
  · refine own_imp (rm3_1 l Z a0 hw ws q0 p1 p3 p4 jb h0 h0.size (Nat.le_refl _) OX hjs rfl hln hcw hh53 hh7) (fun v h L q => ?_)
    obtain ⟨b1, b52, b41, x, k1, k2, e, N, K, g1, g2, g3, f1, f2, f3, f4, f5, f6, f7, f8⟩ := q
    exact ⟨b52, e, own_frm N Z0, K, g2, f1, f1.lt, f1, b1, k1, p1, f4.lt, f3, f4, Or.inr ⟨b41, x, k2, 0, [], f5.lt, f8.lt, f2, f5, f6, f7, f8, by show p1.toInt64 + (0 : Int32).toInt64 = (p1 + 0).toInt64; rw [own_ck hln (by decide) (by decide)]⟩⟩
  · refine own_imp (rm3_2 l Z a0 hw ws q0 p1 p3 p4 wcs jb h0 h0.size (Nat.le_refl _) I0 OX hjs rfl hln hcw hh53 hcs hl0) (fun v h L q => ?_)
    obtain ⟨b1, b52, b41, x, k1, k2, e, N, K, g1, g2, g3, g4, f1, f2, f3, f4, f5, f6, f7, f8⟩ := q
    exact ⟨b52, e, own_frm N Z0, K, g2, f1, f1.lt, f1, b1, k1, p1, f4.lt, f3, f4, Or.inr ⟨b41, x, k2, 1, [_], f5.lt, f8.lt, f2, f5, f6, f7, f8, by show p1.toInt64 + (1 : Int32).toInt64 = (p1 + 1).toInt64; rw [own_ck hln (by decide) (by decide)]⟩⟩
  · refine own_imp (rm3_3 l Z a0 hw ws q0 p1 p3 p4 wcs jb h0 h0.size (Nat.le_refl _) I0 OX hjs rfl hln hcw hh53 hcs hl0 hl1) (fun v h L q => ?_)
    obtain ⟨b1, b52, b41, x, k1, k2, e, N, K, g1, g2, g3, g4, f1, f2, f3, f4, f5, f6, f7, f8⟩ := q
    exact ⟨b52, e, own_frm N Z0, K, g2, f1, f1.lt, f1, b1, k1, p1, f4.lt, f3, f4, Or.inr ⟨b41, x, k2, 2, [_, _], f5.lt, f8.lt, f2, f5, f6, f7, f8, by show p1.toInt64 + (2 : Int32).toInt64 = (p1 + 2).toInt64; rw [own_ck hln (by decide) (by decide)]⟩⟩
theorem d13_0 : decode jdk_21_method_6_code 0 = .ok (.iinc 0 1, 3) := by decide +kernel
theorem d13_3 : decode jdk_21_method_6_code 3 = .ok (.iload_n 0, 1) := by decide +kernel
theorem d13_4 : decode jdk_21_method_6_code 4 = .ok (.iload_n 1, 1) := by decide +kernel
theorem d13_5 : decode jdk_21_method_6_code 5 = .ok (.if_icmp .lt 5, 3) := by decide +kernel
theorem d13_8 : decode jdk_21_method_6_code 8 = .ok (.iconst 0, 1) := by decide +kernel
theorem d13_9 : decode jdk_21_method_6_code 9 = .ok (.istore_n 0, 1) := by decide +kernel
theorem d13_10 : decode jdk_21_method_6_code 10 = .ok (.iload_n 0, 1) := by decide +kernel
theorem d13_11 : decode jdk_21_method_6_code 11 = .ok (.ireturn, 1) := by decide +kernel
theorem pn_13 : plainName "java/util/ArrayDeque" = true := by first | (simp [plainName, overriddenIn]; done) | decide +kernel
theorem ef_13 (m : MethodId) (x0 : Int32) (x1 : Int32) : entryFrame m #[(.int x0), (.int x1)] 2 = mkF m 0 #[.val (.int x0), .val (.int x1)] [] := by first | (simp [entryFrame, mkF, argsToLocals, Value.category]; done) | rfl
def v13_10_l0 (p0 : Int32) (p1 : Int32) : Int32 := (if (p0 + (1 : Int32)) < p1 then (p0 + (1 : Int32)) else (0 : Int32))
def f13 (p0 : Int32) (p1 : Int32) : Int32 := (v13_10_l0 p0 p1)
set_option maxRecDepth 65536 in
set_option maxHeartbeats 40000000 in
theorem rm13 (l : Launch) (Z : State) (a0 : Array Value) (hw : ∀ d ∈ tables_1, d.before a0 Z = true) (ws : List Jvm.Cond) (p0 : Int32) (p1 : Int32) (h0 : Heap) (n0 : Nat) (Z0 : n0 ≤ h0.size) :
    Met1 l Nm_16 (Jvm.Cond.code Nm_16 jdk_21_method_6_code 2 (some .int)) ws (rom 0 0 0 0) #[(.int p0), (.int p1)] Z h0 (QP (some (.int (f13 p0 p1))) h0 n0) := by
  refine MetFree.of_bodySF (plainFor_of_name pn_13) hisR ?_
  intro p e s m args below meth c s₁ Bd hml0 hP hK
  obtain ⟨rfl, hZ, hh⟩ := hP
  have hx := Bd.exec
  have hby := Bd.bytes
  have hml : c.maxLocals = 2 := hml0
  have hown : s.vm.findClass "java/util/ArrayDeque" = some m.cls := findClass_of_methodNamed Bd.named
  have X0 : Stand p l e (rom 0 0 0 0) s m _ _ _ _ _ [] 0 0 := Stand.of_body Bd
  have e0 : s₁.heap = h0 := by rw [← hh, Bd.state]; rfl
  have N0 := Fr.nil n0
  have K0 : Keep h0 h0 [] := Keep.refl _ _
  have pre0 : Go p e below s₁ _ (mkF m 0 #[.val (.int p0), .val (.int p1)] []) _ := fun t k => castTop (ef_13 m p0 p1) k
  have pre2 : Go p e below s₁ _ (mkF m 5 #[.val (.int (p0 + (1 : Int32))), .val (.int p1)] [(.int p1), (.int (p0 + (1 : Int32)))]) _ := fun t k => pre0 t (by
    refine XS.iinc X0.here hx rfl (hb hby d13_0) rfl (l' := #[.val (.int (p0 + (1 : Int32))), .val (.int p1)]) rfl ?_
    refine XS.iloadN X0.here hx rfl (hb hby d13_3) rfl ?_
    refine XS.iloadN X0.here hx rfl (hb hby d13_4) rfl ?_
    exact k)
  obtain ⟨T3, L3, X3, e3, N3, pre3⟩ : ∃ (T' : State) (L' : List Loc), Stand p l e (rom 0 0 0 0) s m #[(.int p0), (.int p1)] below meth c T' L' 0 0 ∧ T'.heap = h0 ∧ Fr n0 L' ∧ ∀ t, Steps p.tables e below (T'.setTop (mkF m 10 #[.val (.int (v13_10_l0 p0 p1)), .val (.int p1)] [])) t → Steps p.tables e below (s₁.setTop (entryFrame m #[(.int p0), (.int p1)] 2)) t := by
    by_cases hc5_1 : (p0 + (1 : Int32)) < p1
    · have pre4 : Go p e below s₁ _ (mkF m 10 #[.val (.int (p0 + (1 : Int32))), .val (.int p1)] []) _ := fun t k => pre2 t (by
        refine XS.icmpYes X0.here hx rfl (pc0 := 5) (pc' := 10) rfl (hb hby d13_5) rfl (tlt hc5_1).1 (by decide) (by decide) ?_
        exact k)
      exact ⟨s₁, _, X0, e0, N0, fun t k => pre4 t (by simpa only [v13_10_l0, if_pos hc5_1] using k)⟩
    · have pre5 : Go p e below s₁ _ (mkF m 10 #[.val (.int 0), .val (.int p1)] []) _ := fun t k => pre2 t (by
        refine XS.icmpNo X0.here hx rfl (hb hby d13_5) rfl (flt hc5_1).1 ?_
        refine XS.iconst X0.here hx rfl (hb hby d13_8) ?_
        refine XS.istoreN X0.here hx rfl (hb hby d13_9) rfl (l' := #[.val (.int 0), .val (.int p1)]) rfl ?_
        exact k)
      exact ⟨s₁, _, X0, e0, N0, fun t k => pre5 t (by simpa only [v13_10_l0, if_neg hc5_1] using k)⟩
  have pre6 : Go p e below T3 _ (mkF m 11 #[.val (.int (v13_10_l0 p0 p1)), .val (.int p1)] [(.int (v13_10_l0 p0 p1))]) _ := fun t k => pre3 t (by
    refine XS.iloadN X3.here hx rfl (hb hby d13_10) rfl ?_
    exact k)
  obtain ⟨fs, hr, hrun, hended, hW, hsame⟩ := X3.leave (v := some (.int (v13_10_l0 p0 p1))) (fun h => by rw [Bd.returns] at h; cases h)
  refine ⟨_, _, ?_, hrun, hended, _, _, rfl, ?_, ⟨_, rfl⟩, hW, hsame.mono (by decide) (by decide)⟩
  · exact pre6 _ (retI X3 hx Bd.returns (hb hby d13_11) hr)
  · exact ⟨by simp only [f13], N3, e3⟩
theorem d20_0 : decode jdk_21_method_9_code 0 = .ok (.iload_n 0, 1) := by decide +kernel
theorem d20_1 : decode jdk_21_method_9_code 1 = .ok (.iload_n 1, 1) := by decide +kernel
theorem d20_2 : decode jdk_21_method_9_code 2 = .ok (.isub, 1) := by decide +kernel
theorem d20_3 : decode jdk_21_method_9_code 3 = .ok (.dup, 1) := by decide +kernel
theorem d20_4 : decode jdk_21_method_9_code 4 = .ok (.istore_n 0, 1) := by decide +kernel
theorem d20_5 : decode jdk_21_method_9_code 5 = .ok (.ifCond .ge 7, 3) := by decide +kernel
theorem d20_8 : decode jdk_21_method_9_code 8 = .ok (.iload_n 0, 1) := by decide +kernel
theorem d20_9 : decode jdk_21_method_9_code 9 = .ok (.iload_n 2, 1) := by decide +kernel
theorem d20_10 : decode jdk_21_method_9_code 10 = .ok (.iadd, 1) := by decide +kernel
theorem d20_11 : decode jdk_21_method_9_code 11 = .ok (.istore_n 0, 1) := by decide +kernel
theorem d20_12 : decode jdk_21_method_9_code 12 = .ok (.iload_n 0, 1) := by decide +kernel
theorem d20_13 : decode jdk_21_method_9_code 13 = .ok (.ireturn, 1) := by decide +kernel
theorem pn_20 : plainName "java/util/ArrayDeque" = true := by first | (simp [plainName, overriddenIn]; done) | decide +kernel
theorem ef_20 (m : MethodId) (x0 : Int32) (x1 : Int32) (x2 : Int32) : entryFrame m #[(.int x0), (.int x1), (.int x2)] 3 = mkF m 0 #[.val (.int x0), .val (.int x1), .val (.int x2)] [] := by first | (simp [entryFrame, mkF, argsToLocals, Value.category]; done) | rfl
def v20_12_l0 (p0 : Int32) (p1 : Int32) (p2 : Int32) : Int32 := (if (p0 - p1) < (0 : Int32) then ((p0 - p1) + p2) else (p0 - p1))
def f20 (p0 : Int32) (p1 : Int32) (p2 : Int32) : Int32 := (v20_12_l0 p0 p1 p2)
set_option maxRecDepth 65536 in
set_option maxHeartbeats 40000000 in
theorem rm20 (l : Launch) (Z : State) (a0 : Array Value) (hw : ∀ d ∈ tables_1, d.before a0 Z = true) (ws : List Jvm.Cond) (p0 : Int32) (p1 : Int32) (p2 : Int32) (h0 : Heap) (n0 : Nat) (Z0 : n0 ≤ h0.size) :
    Met1 l Nm_17 (Jvm.Cond.code Nm_17 jdk_21_method_9_code 3 (some .int)) ws (rom 0 0 0 0) #[(.int p0), (.int p1), (.int p2)] Z h0 (QP (some (.int (f20 p0 p1 p2))) h0 n0) := by
  refine MetFree.of_bodySF (plainFor_of_name pn_20) hisR ?_
  intro p e s m args below meth c s₁ Bd hml0 hP hK
  obtain ⟨rfl, hZ, hh⟩ := hP
  have hx := Bd.exec
  have hby := Bd.bytes
  have hml : c.maxLocals = 3 := hml0
  have hown : s.vm.findClass "java/util/ArrayDeque" = some m.cls := findClass_of_methodNamed Bd.named
  have X0 : Stand p l e (rom 0 0 0 0) s m _ _ _ _ _ [] 0 0 := Stand.of_body Bd
  have e0 : s₁.heap = h0 := by rw [← hh, Bd.state]; rfl
  have N0 := Fr.nil n0
  have K0 : Keep h0 h0 [] := Keep.refl _ _
  have pre0 : Go p e below s₁ _ (mkF m 0 #[.val (.int p0), .val (.int p1), .val (.int p2)] []) _ := fun t k => castTop (ef_20 m p0 p1 p2) k
  have pre2 : Go p e below s₁ _ (mkF m 5 #[.val (.int (p0 - p1)), .val (.int p1), .val (.int p2)] [(.int (p0 - p1))]) _ := fun t k => pre0 t (by
    refine XS.iloadN X0.here hx rfl (hb hby d20_0) rfl ?_
    refine XS.iloadN X0.here hx rfl (hb hby d20_1) rfl ?_
    refine XS.isub X0.here hx rfl (hb hby d20_2) rfl ?_
    refine XS.dup X0.here hx rfl (hb hby d20_3) rfl rfl ?_
    refine XS.istoreN X0.here hx rfl (hb hby d20_4) rfl (l' := #[.val (.int (p0 - p1)), .val (.int p1), .val (.int p2)]) rfl ?_
    exact k)
  obtain ⟨T3, L3, X3, e3, N3, pre3⟩ : ∃ (T' : State) (L' : List Loc), Stand p l e (rom 0 0 0 0) s m #[(.int p0), (.int p1), (.int p2)] below meth c T' L' 0 0 ∧ T'.heap = h0 ∧ Fr n0 L' ∧ ∀ t, Steps p.tables e below (T'.setTop (mkF m 12 #[.val (.int (v20_12_l0 p0 p1 p2)), .val (.int p1), .val (.int p2)] [])) t → Steps p.tables e below (s₁.setTop (entryFrame m #[(.int p0), (.int p1), (.int p2)] 3)) t := by
    by_cases hc5_1 : (p0 - p1) < (0 : Int32)
    · have pre4 : Go p e below s₁ _ (mkF m 12 #[.val (.int ((p0 - p1) + p2)), .val (.int p1), .val (.int p2)] []) _ := fun t k => pre2 t (by
        refine XS.ifNo X0.here hx rfl (hb hby d20_5) rfl ((if0 _ _).trans (tlt hc5_1).2.1) ?_
        refine XS.iloadN X0.here hx rfl (hb hby d20_8) rfl ?_
        refine XS.iloadN X0.here hx rfl (hb hby d20_9) rfl ?_
        refine XS.iadd X0.here hx rfl (hb hby d20_10) rfl ?_
        refine XS.istoreN X0.here hx rfl (hb hby d20_11) rfl (l' := #[.val (.int ((p0 - p1) + p2)), .val (.int p1), .val (.int p2)]) rfl ?_
        exact k)
      exact ⟨s₁, _, X0, e0, N0, fun t k => pre4 t (by simpa only [v20_12_l0, if_pos hc5_1] using k)⟩
    · have pre5 : Go p e below s₁ _ (mkF m 12 #[.val (.int (p0 - p1)), .val (.int p1), .val (.int p2)] []) _ := fun t k => pre2 t (by
        refine XS.ifYes X0.here hx rfl (pc0 := 5) (pc' := 12) rfl (hb hby d20_5) rfl ((if0 _ _).trans (flt hc5_1).2.1) (by decide) (by decide) ?_
        exact k)
      exact ⟨s₁, _, X0, e0, N0, fun t k => pre5 t (by simpa only [v20_12_l0, if_neg hc5_1] using k)⟩
  have pre6 : Go p e below T3 _ (mkF m 13 #[.val (.int (v20_12_l0 p0 p1 p2)), .val (.int p1), .val (.int p2)] [(.int (v20_12_l0 p0 p1 p2))]) _ := fun t k => pre3 t (by
    refine XS.iloadN X3.here hx rfl (hb hby d20_12) rfl ?_
    exact k)
  obtain ⟨fs, hr, hrun, hended, hW, hsame⟩ := X3.leave (v := some (.int (v20_12_l0 p0 p1 p2))) (fun h => by rw [Bd.returns] at h; cases h)
  refine ⟨_, _, ?_, hrun, hended, _, _, rfl, ?_, ⟨_, rfl⟩, hW, hsame.mono (by decide) (by decide)⟩
  · exact pre6 _ (retI X3 hx Bd.returns (hb hby d20_13) hr)
  · exact ⟨by simp only [f20], N3, e3⟩
theorem d9_0 : decode jdk_22_method_1_code 0 = .ok (.aload_n 0, 1) := by decide +kernel
theorem d9_1 : decode jdk_22_method_1_code 1 = .ok (.invokespecial 1, 3) := by decide +kernel
theorem d9_4 : decode jdk_22_method_1_code 4 = .ok (.return_, 1) := by decide +kernel
theorem pn_9 : plainName "java/util/AbstractCollection" = true := by first | (simp [plainName, overriddenIn]; done) | decide +kernel
theorem ef_9 (m : MethodId) (x0 : Addr) : entryFrame m #[(.ref x0)] 1 = mkF m 0 #[.val (.ref x0)] [] := by first | (simp [entryFrame, mkF, argsToLocals, Value.category]; done) | rfl
set_option maxRecDepth 65536 in
set_option maxHeartbeats 40000000 in
theorem rm9 (l : Launch) (Z : State) (a0 : Array Value) (hw : ∀ d ∈ tables_1, d.before a0 Z = true) (ws : List Jvm.Cond) (o0 : Addr) (h0 : Heap) (n0 : Nat) (Z0 : n0 ≤ h0.size) :
    Met1 l Nm_18 (Jvm.Cond.code Nm_18 jdk_22_method_1_code 1 none) ws (rom 1 0 0 12) #[(.ref o0)] Z h0 (QP none h0 n0) := by
  refine MetFree.of_bodySF (plainFor_of_name pn_9) hisR ?_
  intro p e s m args below meth c s₁ Bd hml0 hP hK
  obtain ⟨rfl, hZ, hh⟩ := hP
  have hx := Bd.exec
  have hby := Bd.bytes
  have hml : c.maxLocals = 1 := hml0
  have hown : s.vm.findClass "java/util/AbstractCollection" = some m.cls := findClass_of_methodNamed Bd.named
  have X0 : Stand p l e (rom 1 0 0 12) s m _ _ _ _ _ [] 0 0 := Stand.of_body Bd
  have e0 : s₁.heap = h0 := by rw [← hh, Bd.state]; rfl
  have N0 := Fr.nil n0
  have K0 : Keep h0 h0 [] := Keep.refl _ _
  have pre0 : Go p e below s₁ _ (mkF m 0 #[.val (.ref o0)] []) _ := fun t k => castTop (ef_9 m o0) k
  have pre1 : Go p e below s₁ _ (mkF m 1 #[.val (.ref o0)] [(.ref o0)]) _ := fun t k => pre0 t (by
    refine XS.aloadN X0.here hx rfl (hb hby d9_0) rfl rfl ?_
    exact k)
  obtain ⟨T2, X2, e2, st2⟩ := initO X0 hx hZ hown (wq hw 65 rfl) (wq hw 33 rfl) (wq hw 34 rfl) e0 (g := (mkF m 1 #[.val (.ref o0)] [(.ref o0)])) rfl (by rw [hml]; rfl) rfl (hb hby d9_1) (by decide) (W := 0) (w00 rfl) (by decide)
  have pre3 := Go.thn pre1 st2
  obtain ⟨fs, hr, hrun, hended, hW, hsame⟩ := X2.leave (v := none) (fun _ => rfl)
  refine ⟨_, _, ?_, hrun, hended, _, _, rfl, ?_, ⟨_, rfl⟩, hW, hsame.mono (by decide) (by decide)⟩
  · exact pre3 _ (X2.returnOut hx Bd.returns (hb hby d9_4) hr)
  · exact ⟨rfl, N0, e2⟩
theorem d8_0 : decode jdk_21_method_3_code 0 = .ok (.aload_n 0, 1) := by decide +kernel
theorem d8_1 : decode jdk_21_method_3_code 1 = .ok (.invokespecial 42, 3) := by decide +kernel
theorem d8_4 : decode jdk_21_method_3_code 4 = .ok (.aload_n 0, 1) := by decide +kernel
theorem d8_5 : decode jdk_21_method_3_code 5 = .ok (.bipush 17, 2) := by decide +kernel
theorem d8_7 : decode jdk_21_method_3_code 7 = .ok (.anewarray 47, 3) := by decide +kernel
theorem d8_10 : decode jdk_21_method_3_code 10 = .ok (.putfield 3, 3) := by decide +kernel
theorem d8_13 : decode jdk_21_method_3_code 13 = .ok (.return_, 1) := by decide +kernel
theorem pn_8 : plainName "java/util/ArrayDeque" = true := by first | (simp [plainName, overriddenIn]; done) | decide +kernel
theorem ef_8 (m : MethodId) (x0 : Addr) : entryFrame m #[(.ref x0)] 1 = mkF m 0 #[.val (.ref x0)] [] := by first | (simp [entryFrame, mkF, argsToLocals, Value.category]; done) | rfl
def Q8 (Z : State) (o0 : Addr) (h0 : Heap) (n0 : Nat) (v : Option Value) (h : Heap) (L : List Loc) : Prop := ∃ (b7 : Addr) (k_b7 : ClassId), v = none ∧ Fr n0 L ∧ Keep h0 h [o0] ∧ h0.size ≤ b7 ∧ Exa Z h o0 "java/util/ArrayDeque" ∧ Fld Z h o0 "java/util/ArrayDeque" "elements" "[Ljava/lang/Object;" (.ref b7) ∧ Fld Z h o0 "java/util/ArrayDeque" "head" "I" (.int 0) ∧ Fld Z h o0 "java/util/ArrayDeque" "tail" "I" (.int 0) ∧ Arh Z h b7 k_b7 (.object "java/lang/Object") (17 : Int32) [] [] .null ∧ Ovr Z k_b7 "java/lang/Object"
set_option maxRecDepth 65536 in
set_option maxHeartbeats 40000000 in
theorem rm8 (l : Launch) (Z : State) (a0 : Array Value) (hw : ∀ d ∈ tables_1, d.before a0 Z = true) (ws : List Jvm.Cond) (o0 : Addr) (h0 : Heap) (n0 : Nat) (Z0 : n0 ≤ h0.size) (I0 : Exa Z h0 o0 "java/util/ArrayDeque") (I1 : Fld Z h0 o0 "java/util/ArrayDeque" "elements" "[Ljava/lang/Object;" .null) (I2 : Fld Z h0 o0 "java/util/ArrayDeque" "head" "I" (.int 0)) (I3 : Fld Z h0 o0 "java/util/ArrayDeque" "tail" "I" (.int 0)) (gw_o0 : n0 ≤ o0) :
    Met1 l Nm_19 (Jvm.Cond.code Nm_19 jdk_21_method_3_code 1 none) ws (rom 2 1 17 24) #[(.ref o0)] Z h0 (Q8 Z o0 h0 n0) := by
  refine MetFree.of_bodySF (plainFor_of_name pn_8) hisR ?_
  intro p e s m args below meth c s₁ Bd hml0 hP hK
  obtain ⟨rfl, hZ, hh⟩ := hP
  have hx := Bd.exec
  have hby := Bd.bytes
  have hml : c.maxLocals = 1 := hml0
  have hown : s.vm.findClass "java/util/ArrayDeque" = some m.cls := findClass_of_methodNamed Bd.named
  have X0 : Stand p l e (rom 2 1 17 24) s m _ _ _ _ _ [] 0 0 := Stand.of_body Bd
  have e0 : s₁.heap = h0 := by rw [← hh, Bd.state]; rfl
  have N0 := Fr.nil n0
  have K0 : Keep h0 h0 [o0] := Keep.refl _ _
  have pre0 : Go p e below s₁ _ (mkF m 0 #[.val (.ref o0)] []) _ := fun t k => castTop (ef_8 m o0) k
  have pre1 : Go p e below s₁ _ (mkF m 1 #[.val (.ref o0)] [(.ref o0)]) _ := fun t k => pre0 t (by
    refine XS.aloadN X0.here hx rfl (hb hby d8_0) rfl rfl ?_
    exact k)
  obtain ⟨_, _, ⟨T2, L2, k2, n2⟩, -, X2, ⟨Lc2, hQ2, l2, y2, z2⟩, st2⟩ := X0.specialBack hx (y := Nm_18) rfl hown (mvT hZ (wq hw 59 rfl)) (mvT hZ (wq hw 60 rfl)) (mvT hZ (wq hw 64 rfl)) (by decide) (backOf (W := 0) (rm9 l Z a0 hw [] o0 h0 n0 Z0) hZ (wq hw 64 rfl) (wq hw 63 rfl) (by decide) (by decide)) (g := (mkF m 1 #[.val (.ref o0)] [(.ref o0)])) rfl (by rw [hml]; rfl) (Steps.refl _) (a := o0) (argsL := []) (rest := []) (lenOf pd___V rfl) rfl (w00 rfl) (hb hby d8_1) (fun _ _ => ⟨rfl, e0, (by decide : 0 + 0 ≤ _), (by decide : 0 + 0 ≤ _)⟩)
  dsimp only [Pt.U, Pt.locs, Pt.cells, Pt.slots] at X2 l2 y2 z2 st2 hQ2
  subst l2 y2 z2
  obtain ⟨rfl, Nq2, e2⟩ := hQ2
  have N2 := Fr.app N0 Nq2
  have pre3 := Go.trn pre1 st2
  have pre4 : Go p e below T2 _ (mkF m 7 #[.val (.ref o0)] [(.int 17), (.ref o0)]) _ := fun t k => pre3 t (by
    refine XS.aloadN X2.here hx rfl (hb hby d8_4) rfl rfl ?_
    refine XS.bipush X2.here hx rfl (hb hby d8_5) ?_
    exact k)
  obtain ⟨T5, h5, k5, X5, e5, E5, A5, O5, st5⟩ := newR X2 hx hZ hown (wq hw 66 rfl) (wq hw 67 rfl) e2 (g := (mkF m 7 #[.val (.ref o0)] [(.int 17), (.ref o0)])) rfl (hb hby d8_7) rfl (by decide) (cap := 17) (by decide) (by decide) (by decide) (by decide)
  obtain ⟨b7, g5⟩ : ∃ z, z = h0.size := ⟨_, rfl⟩
  rw [← g5] at A5 st5
  have gg5 : n0 ≤ b7 := Nat.le_trans Z0 (Nat.le_of_eq g5.symm)
  have sz5 : h0.size ≤ b7 := Nat.le_trans K0.1 (Nat.le_of_eq g5.symm)
  have K5 : Keep h0 h5 [o0] := K0.ext E5
  have Z5 : n0 ≤ h5.size := Nat.le_trans Z0 E5.1
  have V5 : Arh Z h5 b7 k5 (.object "java/lang/Object") (17 : Int32) [] [] .null := (Arv.new A5 (by decide)).arh
  have ne5_o0 : o0 ≠ b7 := Nat.ne_of_lt (Nat.lt_of_lt_of_le I0.lt (Nat.le_of_eq g5.symm))
  have x6 := I0.ext E5
  have x7 := I1.ext E5
  have x8 := I2.ext E5
  have x9 := I3.ext E5
  have pre10 := Go.thn pre4 st5
  obtain ⟨T11, h11, X11, e11, W11, st11⟩ := putF X5 hx hZ hown (host := "") (Or.inl (wq hw 68 rfl)) Via.refl e5 x7 x6 (Or.inl (wq hw 69 rfl)) (wq hw 54 rfl) (ty := (.array (.object "java/lang/Object"))) (by decide) rfl rfl (g := (mkF m 10 #[.val (.ref o0)] [(.ref b7), (.ref o0)])) rfl rfl (hb hby d8_10)
  have N11 := Fr.snoc X11 N2 gw_o0
  have K11 : Keep h0 h11 [o0] := K5.wr W11 (Or.inl (List.mem_of_getElem? (i := 0) rfl))
  have Z11 : n0 ≤ h11.size := Nat.le_trans Z5 (Keep.of_wr W11).1
  have x12 := x6.wr W11
  have x13 := x7.same W11
  have x14 := x8.other W11 (Or.inr (slot_ne (Or.inl (wq hw 99 rfl)) (Or.inl (wq hw 69 rfl)) (by decide) (t := .int) (t' := (.array (.object "java/lang/Object"))) (by decide) (by decide)))
  have x15 := x9.other W11 (Or.inr (slot_ne (Or.inl (wq hw 96 rfl)) (Or.inl (wq hw 69 rfl)) (by decide) (t := .int) (t' := (.array (.object "java/lang/Object"))) (by decide) (by decide)))
  have x16 := V5.other W11 (Ne.symm ne5_o0)
  have pre17 := Go.thn pre10 st11
  obtain ⟨fs, hr, hrun, hended, hW, hsame⟩ := X11.leave (v := none) (fun _ => rfl)
  refine ⟨_, _, ?_, hrun, hended, _, _, rfl, ?_, ⟨_, rfl⟩, hW, hsame.mono (by decide) (by decide)⟩
  · exact pre17 _ (X11.returnOut hx Bd.returns (hb hby d8_13) hr)
  · show Q8 Z o0 h0 n0 _ T11.heap _
    rw [e11]
    exact ⟨b7, _, rfl, N11, K11, sz5, x12, x13, x14, x15, x16, O5⟩
theorem d12_0 : decode jdk_21_method_13_code 0 = .ok (.aload_n 1, 1) := by decide +kernel
theorem d12_1 : decode jdk_21_method_13_code 1 = .ok (.ifnonnull 11, 3) := by decide +kernel
theorem d12_12 : decode jdk_21_method_13_code 12 = .ok (.aload_n 0, 1) := by decide +kernel
theorem d12_13 : decode jdk_21_method_13_code 13 = .ok (.getfield 3, 3) := by decide +kernel
theorem d12_16 : decode jdk_21_method_13_code 16 = .ok (.astore_n 2, 1) := by decide +kernel
theorem d12_17 : decode jdk_21_method_13_code 17 = .ok (.aload_n 2, 1) := by decide +kernel
theorem d12_18 : decode jdk_21_method_13_code 18 = .ok (.aload_n 0, 1) := by decide +kernel
theorem d12_19 : decode jdk_21_method_13_code 19 = .ok (.getfield 20, 3) := by decide +kernel
theorem d12_22 : decode jdk_21_method_13_code 22 = .ok (.aload_n 1, 1) := by decide +kernel
theorem d12_23 : decode jdk_21_method_13_code 23 = .ok (.aastore, 1) := by decide +kernel
theorem d12_24 : decode jdk_21_method_13_code 24 = .ok (.aload_n 0, 1) := by decide +kernel
theorem d12_25 : decode jdk_21_method_13_code 25 = .ok (.getfield 24, 3) := by decide +kernel
theorem d12_28 : decode jdk_21_method_13_code 28 = .ok (.aload_n 0, 1) := by decide +kernel
theorem d12_29 : decode jdk_21_method_13_code 29 = .ok (.aload_n 0, 1) := by decide +kernel
theorem d12_30 : decode jdk_21_method_13_code 30 = .ok (.getfield 20, 3) := by decide +kernel
theorem d12_33 : decode jdk_21_method_13_code 33 = .ok (.aload_n 2, 1) := by decide +kernel
theorem d12_34 : decode jdk_21_method_13_code 34 = .ok (.arraylength, 1) := by decide +kernel
theorem d12_35 : decode jdk_21_method_13_code 35 = .ok (.invokestatic 74, 3) := by decide +kernel
theorem d12_38 : decode jdk_21_method_13_code 38 = .ok (.dup_x1, 1) := by decide +kernel
theorem d12_39 : decode jdk_21_method_13_code 39 = .ok (.putfield 20, 3) := by decide +kernel
theorem d12_42 : decode jdk_21_method_13_code 42 = .ok (.if_icmp .ne 8, 3) := by decide +kernel
theorem d12_50 : decode jdk_21_method_13_code 50 = .ok (.return_, 1) := by decide +kernel
theorem pn_12 : plainName "java/util/ArrayDeque" = true := by first | (simp [plainName, overriddenIn]; done) | decide +kernel
theorem pd__II_I : parseMethodDescriptor "(II)I" = some ⟨[.int, .int], some .int⟩ := by decide +kernel
theorem ef_12_0 (m : MethodId) (x0 : Addr) (x1 : Addr) : entryFrame m #[(.ref x0), (.ref x1)] 3 = mkF m 0 #[.val (.ref x0), .val (.ref x1), .unset] [] := by first | (simp [entryFrame, mkF, argsToLocals, Value.category]; done) | rfl
def Q12_0 (Z : State) (o0 : Addr) (o1 : Addr) (oe : Addr) (ke : ClassId) (h0 : Heap) (n0 : Nat) (v : Option Value) (h : Heap) (L : List Loc) : Prop := v = none ∧ Fr n0 L ∧ Keep h0 h [o0, oe] ∧ Exa Z h o0 "java/util/ArrayDeque" ∧ Fld Z h o0 "java/util/ArrayDeque" "elements" "[Ljava/lang/Object;" (.ref oe) ∧ Fld Z h o0 "java/util/ArrayDeque" "tail" "I" (.int 1) ∧ Fld Z h o0 "java/util/ArrayDeque" "head" "I" (.int 0) ∧ Arh Z h oe ke (.object "java/lang/Object") (17 : Int32) [((0 : Int32), (.ref o1))] [] .null
set_option maxRecDepth 65536 in
set_option maxHeartbeats 40000000 in
theorem rm12_0 (l : Launch) (Z : State) (a0 : Array Value) (hw : ∀ d ∈ tables_1, d.before a0 Z = true) (ws : List Jvm.Cond) (o0 : Addr) (o1 : Addr) (oe : Addr) (ke : ClassId) (h0 : Heap) (n0 : Nat) (Z0 : n0 ≤ h0.size) (I0 : Exa Z h0 o0 "java/util/ArrayDeque") (I1 : Fld Z h0 o0 "java/util/ArrayDeque" "elements" "[Ljava/lang/Object;" (.ref oe)) (I2 : Fld Z h0 o0 "java/util/ArrayDeque" "tail" "I" (.int 0)) (I3 : Fld Z h0 o0 "java/util/ArrayDeque" "head" "I" (.int 0)) (I4 : Arh Z h0 oe ke (.object "java/lang/Object") (17 : Int32) [] [] .null) (I5 : Ovr Z ke "java/lang/Object") (I6 : Exa Z h0 o1 "com/example/oncemark/oncemark/Message") (gw_o0 : n0 ≤ o0) (gw_oe : n0 ≤ oe) (ne_o0_oe : o0 ≠ oe) :
    Met1 l Nm_20 (Jvm.Cond.code Nm_20 jdk_21_method_13_code 3 none) ws (rom 1 0 0 15) #[(.ref o0), (.ref o1)] Z h0 (Q12_0 Z o0 o1 oe ke h0 n0) := by
  refine MetFree.of_bodySF (plainFor_of_name pn_12) hisR ?_
  intro p e s m args below meth c s₁ Bd hml0 hP hK
  obtain ⟨rfl, hZ, hh⟩ := hP
  have hx := Bd.exec
  have hby := Bd.bytes
  have hml : c.maxLocals = 3 := hml0
  have hown : s.vm.findClass "java/util/ArrayDeque" = some m.cls := findClass_of_methodNamed Bd.named
  have X0 : Stand p l e (rom 1 0 0 15) s m _ _ _ _ _ [] 0 0 := Stand.of_body Bd
  have e0 : s₁.heap = h0 := by rw [← hh, Bd.state]; rfl
  have N0 := Fr.nil n0
  have K0 : Keep h0 h0 [o0, oe] := Keep.refl _ _
  have pre0 : Go p e below s₁ _ (mkF m 0 #[.val (.ref o0), .val (.ref o1), .unset] []) _ := fun t k => castTop (ef_12_0 m o0 o1) k
  have pre1 : Go p e below s₁ _ (mkF m 13 #[.val (.ref o0), .val (.ref o1), .unset] [(.ref o0)]) _ := fun t k => pre0 t (by
    refine XS.aloadN X0.here hx rfl (hb hby d12_0) rfl rfl ?_
    refine XS.ifnonnullYes X0.here hx rfl (pc0 := 1) (pc' := 12) rfl (hb hby d12_1) rfl (by decide) (by decide) ?_
    refine XS.aloadN X0.here hx rfl (hb hby d12_12) rfl rfl ?_
    exact k)
  obtain ⟨T2, X2, e2, st2⟩ := getF X0 hx hZ hown (host := "") (Or.inl (wq hw 68 rfl)) Via.refl e0 I1 (g := (mkF m 13 #[.val (.ref o0), .val (.ref o1), .unset] [(.ref o0)])) rfl rfl (hb hby d12_13)
  have pre3 := Go.thn pre1 st2
  have pre4 : Go p e below T2 _ (mkF m 19 #[.val (.ref o0), .val (.ref o1), .val (.ref oe)] [(.ref o0), (.ref oe)]) _ := fun t k => pre3 t (by
    refine XS.astoreN X2.here hx rfl (hb hby d12_16) rfl rfl (l' := #[.val (.ref o0), .val (.ref o1), .val (.ref oe)]) rfl ?_
    refine XS.aloadN X2.here hx rfl (hb hby d12_17) rfl rfl ?_
    refine XS.aloadN X2.here hx rfl (hb hby d12_18) rfl rfl ?_
    exact k)
  obtain ⟨T5, X5, e5, st5⟩ := getF X2 hx hZ hown (host := "") (Or.inl (wq hw 95 rfl)) Via.refl e2 I2 (g := (mkF m 19 #[.val (.ref o0), .val (.ref o1), .val (.ref oe)] [(.ref o0), (.ref oe)])) rfl rfl (hb hby d12_19)
  have pre6 := Go.thn pre4 st5
  have pre7 : Go p e below T5 _ (mkF m 23 #[.val (.ref o0), .val (.ref o1), .val (.ref oe)] [(.ref o1), (.int 0), (.ref oe)]) _ := fun t k => pre6 t (by
    refine XS.aloadN X5.here hx rfl (hb hby d12_22) rfl rfl ?_
    exact k)
  obtain ⟨cl8, Ar8, q8, Sz8, Mn8, Hs8, Gs8⟩ := id I4
  have hin8 : ¬ ((0 : Int32) < 0 ∨ cl8.slots.size ≤ ((0 : Int32)).toNatClampNeg) := inb_of Sz8 ⟨by decide, by decide⟩
  obtain ⟨T8, h8, X8, e8, W8, st8⟩ := stR X5 hx hZ e5 Ar8 (j := (0 : Int32)) hin8 rfl (Sto.ofV Ar8 q8 I5 (Ins.of_exa I6 (wq hw 97 rfl))) (g := (mkF m 23 #[.val (.ref o0), .val (.ref o1), .val (.ref oe)] [(.ref o1), (.int 0), (.ref oe)])) rfl rfl (hb hby d12_23)
  have V8 : Arh Z h8 oe ke (.object "java/lang/Object") (17 : Int32) [((0 : Int32), (.ref o1))] [] .null := Arh.push Ar8 q8 Sz8 Mn8 Hs8 Gs8 rfl W8 hin8
  have N8 := Fr.snoc X8 N0 gw_oe
  have K8 : Keep h0 h8 [o0, oe] := K0.wr W8 (Or.inl (List.mem_of_getElem? (i := 1) rfl))
  have Z8 : n0 ≤ h8.size := Nat.le_trans Z0 (Keep.of_wr W8).1
  have x9 := I0.wr W8
  have x10 := I1.other W8 (Or.inl ne_o0_oe)
  have x11 := I2.other W8 (Or.inl ne_o0_oe)
  have x12 := I3.other W8 (Or.inl ne_o0_oe)
  have x13 := I6.wr W8
  have pre14 := Go.thn pre7 st8
  have pre15 : Go p e below T8 _ (mkF m 25 #[.val (.ref o0), .val (.ref o1), .val (.ref oe)] [(.ref o0)]) _ := fun t k => pre14 t (by
    refine XS.aloadN X8.here hx rfl (hb hby d12_24) rfl rfl ?_
    exact k)
  obtain ⟨T16, X16, e16, st16⟩ := getF X8 hx hZ hown (host := "") (Or.inl (wq hw 98 rfl)) Via.refl e8 x12 (g := (mkF m 25 #[.val (.ref o0), .val (.ref o1), .val (.ref oe)] [(.ref o0)])) rfl rfl (hb hby d12_25)
  have pre17 := Go.thn pre15 st16
  have pre18 : Go p e below T16 _ (mkF m 30 #[.val (.ref o0), .val (.ref o1), .val (.ref oe)] [(.ref o0), (.ref o0), (.int 0)]) _ := fun t k => pre17 t (by
    refine XS.aloadN X16.here hx rfl (hb hby d12_28) rfl rfl ?_
    refine XS.aloadN X16.here hx rfl (hb hby d12_29) rfl rfl ?_
    exact k)
  obtain ⟨T19, X19, e19, st19⟩ := getF X16 hx hZ hown (host := "") (Or.inl (wq hw 95 rfl)) Via.refl e16 x11 (g := (mkF m 30 #[.val (.ref o0), .val (.ref o1), .val (.ref oe)] [(.ref o0), (.ref o0), (.int 0)])) rfl rfl (hb hby d12_30)
  have pre20 := Go.thn pre18 st19
  have pre21 : Go p e below T19 _ (mkF m 34 #[.val (.ref o0), .val (.ref o1), .val (.ref oe)] [(.ref oe), (.int 0), (.ref o0), (.int 0)]) _ := fun t k => pre20 t (by
    refine XS.aloadN X19.here hx rfl (hb hby d12_33) rfl rfl ?_
    exact k)
  obtain ⟨cl22, Ar22, -, Sz22, Mn22, Hs22, -⟩ := id V8
  have pre23 : Go p e below T19 _ (mkF m 35 #[.val (.ref o0), .val (.ref o1), .val (.ref oe)] [(.int 17), (.int 0), (.ref o0), (.int 0)]) _ := fun t k => pre21 t (by
    show Steps p.tables e below (T19.setTop (mkF m 34 #[.val (.ref o0), .val (.ref o1), .val (.ref oe)] [(.ref oe), (.int 0), (.ref o0), (.int 0)])) _
    refine X19.arraylength hx (by rw [e19]; exact Ar22.1) (State.isArrayOf_alike hZ.alike Ar22.2.1) (g := (mkF m 34 #[.val (.ref o0), .val (.ref o1), .val (.ref oe)] [(.ref oe), (.int 0), (.ref o0), (.int 0)])) rfl rfl (hb hby d12_34) _ ?_
    rw [len_of Sz22 Mn22]
    exact k)
  obtain ⟨_, _, ⟨T24, L24, k24, n24⟩, -, X24, ⟨Lc24, hQ24, l24, y24, z24⟩, st24⟩ := Jvm.LawKit.callS X19 hx (y := Nm_16) hown (mvT hZ (wq hw 100 rfl)) (mvT hZ (wq hw 101 rfl)) (mvT hZ (wq hw 55 rfl)) (mvT hZ (wq hw 102 rfl)) (by decide) (backOf (W := 2) (rm13 l Z a0 hw [] (0 : Int32) (17 : Int32) h8 n0 Z8) hZ (wq hw 102 rfl) (wq hw 55 rfl) (by decide) (by decide)) (g := (mkF m 35 #[.val (.ref o0), .val (.ref o1), .val (.ref oe)] [(.int 17), (.int 0), (.ref o0), (.int 0)])) rfl (by rw [hml]; rfl) (argsL := [(.int 0), (.int 17)]) (rest := [(.ref o0), (.int 0)]) (lenOf pd__II_I rfl) rfl (w00 rfl) (hb hby d12_35) (fun _ _ => ⟨rfl, e19, (by decide : 0 + 0 ≤ _), (by decide : 0 + 0 ≤ _)⟩)
  dsimp only [Pt.U, Pt.locs, Pt.cells, Pt.slots] at X24 l24 y24 z24 st24 hQ24
  subst l24 y24 z24
  obtain ⟨rfl, Nq24, e24⟩ := hQ24
  have N24 := Fr.app N8 Nq24
  have pre25 := Go.thn pre23 st24
  have pre26 : Go p e below T24 _ (mkF m 39 #[.val (.ref o0), .val (.ref o1), .val (.ref oe)] [(.int 1), (.ref o0), (.int 1), (.int 0)]) _ := fun t k => pre25 t (by
    show Steps p.tables e below (T24.setTop (mkF m 38 #[.val (.ref o0), .val (.ref o1), .val (.ref oe)] [(.int (f13 (0 : Int32) (17 : Int32))), (.ref o0), (.int 0)])) _
    rw [show f13 (0 : Int32) (17 : Int32) = (1 : Int32) from rfl]
    refine XT.dupX1 X24.here hx rfl (hb hby d12_38) rfl rfl rfl ?_
    exact k)
  obtain ⟨T27, h27, X27, e27, W27, st27⟩ := putF X24 hx hZ hown (host := "") (Or.inl (wq hw 95 rfl)) Via.refl e24 x11 x9 (Or.inl (wq hw 96 rfl)) (wq hw 54 rfl) (ty := .int) (by decide) rfl rfl (g := (mkF m 39 #[.val (.ref o0), .val (.ref o1), .val (.ref oe)] [(.int 1), (.ref o0), (.int 1), (.int 0)])) rfl rfl (hb hby d12_39)
  have N27 := Fr.snoc X27 N24 gw_o0
  have K27 : Keep h0 h27 [o0, oe] := K8.wr W27 (Or.inl (List.mem_of_getElem? (i := 0) rfl))
  have Z27 : n0 ≤ h27.size := Nat.le_trans Z8 (Keep.of_wr W27).1
  have x28 := x9.wr W27
  have x29 := x10.other W27 (Or.inr (slot_ne (Or.inl (wq hw 69 rfl)) (Or.inl (wq hw 96 rfl)) (by decide) (t := (.array (.object "java/lang/Object"))) (t' := .int) (by decide) (by decide)))
  have x30 := x11.same W27
  have x31 := x12.other W27 (Or.inr (slot_ne (Or.inl (wq hw 99 rfl)) (Or.inl (wq hw 96 rfl)) (by decide) (t := .int) (t' := .int) (by decide) (by decide)))
  have x32 := x13.wr W27
  have x33 := V8.other W27 (Ne.symm ne_o0_oe)
  have pre34 := Go.thn pre26 st27
  have pre35 : Go p e below T27 _ (mkF m 50 #[.val (.ref o0), .val (.ref o1), .val (.ref oe)] []) _ := fun t k => pre34 t (by
    refine XS.icmpYes X27.here hx rfl (pc0 := 42) (pc' := 50) rfl (hb hby d12_42) rfl (by decide) (by decide) (by decide) ?_
    exact k)
  obtain ⟨fs, hr, hrun, hended, hW, hsame⟩ := X27.leave (v := none) (fun _ => rfl)
  refine ⟨_, _, ?_, hrun, hended, _, _, rfl, ?_, ⟨_, rfl⟩, hW, hsame.mono (by decide) (by decide)⟩
  · exact pre35 _ (X27.returnOut hx Bd.returns (hb hby d12_50) hr)
  · show Q12_0 Z o0 o1 oe ke h0 n0 _ T27.heap _
    rw [e27]
    exact ⟨rfl, N27, K27, x28, x29, x30, x31, x33⟩
theorem d11_0 : decode jdk_21_method_28_code 0 = .ok (.aload_n 0, 1) := by decide +kernel
theorem d11_1 : decode jdk_21_method_28_code 1 = .ok (.aload_n 1, 1) := by decide +kernel
theorem d11_2 : decode jdk_21_method_28_code 2 = .ok (.invokevirtual 90, 3) := by decide +kernel
theorem d11_5 : decode jdk_21_method_28_code 5 = .ok (.iconst 1, 1) := by decide +kernel
theorem d11_6 : decode jdk_21_method_28_code 6 = .ok (.ireturn, 1) := by decide +kernel
theorem pn_11 : plainName "java/util/ArrayDeque" = true := by first | (simp [plainName, overriddenIn]; done) | decide +kernel
theorem pd__Ljava_lang_Object__V : parseMethodDescriptor "(Ljava/lang/Object;)V" = some ⟨[(.object "java/lang/Object")], none⟩ := by decide +kernel
theorem ef_11_0 (m : MethodId) (x0 : Addr) (x1 : Addr) : entryFrame m #[(.ref x0), (.ref x1)] 2 = mkF m 0 #[.val (.ref x0), .val (.ref x1)] [] := by first | (simp [entryFrame, mkF, argsToLocals, Value.category]; done) | rfl
def f11_0 : Int32 := (1 : Int32)
def Q11_0 (Z : State) (o0 : Addr) (o1 : Addr) (oe : Addr) (ke : ClassId) (h0 : Heap) (n0 : Nat) (v : Option Value) (h : Heap) (L : List Loc) : Prop := v = (some (.int (f11_0))) ∧ Fr n0 L ∧ Keep h0 h [o0, oe] ∧ Exa Z h o0 "java/util/ArrayDeque" ∧ Fld Z h o0 "java/util/ArrayDeque" "elements" "[Ljava/lang/Object;" (.ref oe) ∧ Fld Z h o0 "java/util/ArrayDeque" "tail" "I" (.int 1) ∧ Fld Z h o0 "java/util/ArrayDeque" "head" "I" (.int 0) ∧ Arh Z h oe ke (.object "java/lang/Object") (17 : Int32) [((0 : Int32), (.ref o1))] [] .null
set_option maxRecDepth 65536 in
set_option maxHeartbeats 40000000 in
theorem rm11_0 (l : Launch) (Z : State) (a0 : Array Value) (hw : ∀ d ∈ tables_1, d.before a0 Z = true) (ws : List Jvm.Cond) (o0 : Addr) (o1 : Addr) (oe : Addr) (ke : ClassId) (h0 : Heap) (n0 : Nat) (Z0 : n0 ≤ h0.size) (I0 : Exa Z h0 o0 "java/util/ArrayDeque") (I1 : Fld Z h0 o0 "java/util/ArrayDeque" "elements" "[Ljava/lang/Object;" (.ref oe)) (I2 : Fld Z h0 o0 "java/util/ArrayDeque" "tail" "I" (.int 0)) (I3 : Fld Z h0 o0 "java/util/ArrayDeque" "head" "I" (.int 0)) (I4 : Arh Z h0 oe ke (.object "java/lang/Object") (17 : Int32) [] [] .null) (I5 : Ovr Z ke "java/lang/Object") (I6 : Exa Z h0 o1 "com/example/oncemark/oncemark/Message") (gw_o0 : n0 ≤ o0) (gw_oe : n0 ≤ oe) (ne_o0_oe : o0 ≠ oe) :
    Met1 l Nm_21 (Jvm.Cond.code Nm_21 jdk_21_method_28_code 2 (some .boolean)) ws (rom 2 0 0 29) #[(.ref o0), (.ref o1)] Z h0 (Q11_0 Z o0 o1 oe ke h0 n0) := by
  refine MetFree.of_bodySF (plainFor_of_name pn_11) hisR ?_
  intro p e s m args below meth c s₁ Bd hml0 hP hK
  obtain ⟨rfl, hZ, hh⟩ := hP
  have hx := Bd.exec
  have hby := Bd.bytes
  have hml : c.maxLocals = 2 := hml0
  have hown : s.vm.findClass "java/util/ArrayDeque" = some m.cls := findClass_of_methodNamed Bd.named
  have X0 : Stand p l e (rom 2 0 0 29) s m _ _ _ _ _ [] 0 0 := Stand.of_body Bd
  have e0 : s₁.heap = h0 := by rw [← hh, Bd.state]; rfl
  have N0 := Fr.nil n0
  have K0 : Keep h0 h0 [o0, oe] := Keep.refl _ _
  have pre0 : Go p e below s₁ _ (mkF m 0 #[.val (.ref o0), .val (.ref o1)] []) _ := fun t k => castTop (ef_11_0 m o0 o1) k
  have pre1 : Go p e below s₁ _ (mkF m 2 #[.val (.ref o0), .val (.ref o1)] [(.ref o1), (.ref o0)]) _ := fun t k => pre0 t (by
    refine XS.aloadN X0.here hx rfl (hb hby d11_0) rfl rfl ?_
    refine XS.aloadN X0.here hx rfl (hb hby d11_1) rfl rfl ?_
    exact k)
  obtain ⟨cq2, kq2, q2a, q2b, q2c⟩ := isOf hZ e0 I0
  obtain ⟨_, _, ⟨T2, L2, k2, n2⟩, -, X2, ⟨Lc2, hQ2, l2, y2, z2⟩, st2⟩ := X0.virtualBack hx (y := Nm_20) (z := Nm_20) hown (mvT hZ (wq hw 90 rfl)) (mvT hZ (wq hw 91 rfl)) (notFace_of_selects (args := #[]) (mvT hZ (wq hw 93 rfl))) (mvT hZ (wq hw 93 rfl)) (mvT hZ (wq hw 92 rfl)) (by decide) (backOf (W := 0) (rm12_0 l Z a0 hw [] o0 o1 oe _ h0 n0 Z0 I0 I1 I2 I3 I4 I5 I6 gw_o0 gw_oe ne_o0_oe) hZ (wq hw 94 rfl) (wq hw 55 rfl) (by decide) (by decide)) q2a q2c (g := (mkF m 2 #[.val (.ref o0), .val (.ref o1)] [(.ref o1), (.ref o0)])) rfl (by rw [hml]; rfl) (Steps.refl _) (argsL := [(.ref o1)]) (rest := []) (lenOf pd__Ljava_lang_Object__V rfl) rfl (w00 rfl) (hb hby d11_2) (fun _ _ => ⟨rfl, e0, (by decide : 0 + 0 ≤ _), (by decide : 0 + 0 ≤ _)⟩)
  dsimp only [Pt.U, Pt.locs, Pt.cells, Pt.slots] at X2 l2 y2 z2 st2 hQ2
  subst l2 y2 z2
  obtain ⟨rfl, Nq2, Kq2, o2_0, o2_1, o2_2, o2_3, o2_4⟩ := hQ2
  have N2 := Fr.app N0 Nq2
  have K2 : Keep h0 T2.heap [o0, oe] := K0.trans Kq2 (allS (Or.inl (List.mem_of_getElem? (i := 0) rfl)) (allS (Or.inl (List.mem_of_getElem? (i := 1) rfl)) all0))
  have Z2 : n0 ≤ T2.heap.size := Nat.le_trans Z0 Kq2.1
  have x3 := I0.keep Kq2
  have x4 := I6.keep Kq2
  have pre5 := Go.trn pre1 st2
  have pre6 : Go p e below T2 _ (mkF m 6 #[.val (.ref o0), .val (.ref o1)] [(.int 1)]) _ := fun t k => pre5 t (by
    refine XS.iconst X2.here hx rfl (hb hby d11_5) ?_
    exact k)
  obtain ⟨fs, hr, hrun, hended, hW, hsame⟩ := X2.leave (v := some (.int 1)) (fun h => by rw [Bd.returns] at h; cases h)
  refine ⟨_, _, ?_, hrun, hended, _, _, rfl, ?_, ⟨_, rfl⟩, hW, hsame.mono (by decide) (by decide)⟩
  · exact pre6 _ (retN X2 hx (t := .boolean) Bd.returns (by simp) (hb hby d11_6) hr)
  · show Q11_0 Z o0 o1 oe ke h0 n0 _ T2.heap _
    skip
    exact ⟨by simp only [f11_0], N2, K2, o2_0, o2_1, o2_2, o2_3, o2_4⟩
theorem d10_0 : decode prog_24_method_7_code 0 = .ok (.aload_n 0, 1) := by decide +kernel
theorem d10_1 : decode prog_24_method_7_code 1 = .ok (.getfield 10, 3) := by decide +kernel
theorem d10_4 : decode prog_24_method_7_code 4 = .ok (.aload_n 1, 1) := by decide +kernel
theorem d10_5 : decode prog_24_method_7_code 5 = .ok (.invokeinterface 50 2, 5) := by decide +kernel
theorem d10_10 : decode prog_24_method_7_code 10 = .ok (.pop, 1) := by decide +kernel
theorem d10_11 : decode prog_24_method_7_code 11 = .ok (.aload_n 0, 1) := by decide +kernel
theorem d10_12 : decode prog_24_method_7_code 12 = .ok (.dup, 1) := by decide +kernel
theorem d10_13 : decode prog_24_method_7_code 13 = .ok (.getfield 45, 3) := by decide +kernel
theorem d10_16 : decode prog_24_method_7_code 16 = .ok (.aload_n 1, 1) := by decide +kernel
theorem d10_17 : decode prog_24_method_7_code 17 = .ok (.invokestatic 54, 3) := by decide +kernel
theorem d10_20 : decode prog_24_method_7_code 20 = .ok (.ladd, 1) := by decide +kernel
theorem d10_21 : decode prog_24_method_7_code 21 = .ok (.putfield 45, 3) := by decide +kernel
theorem d10_24 : decode prog_24_method_7_code 24 = .ok (.return_, 1) := by decide +kernel
theorem pn_10 : plainName "com/example/oncemark/oncemark/ReceiveQueue" = true := by first | (simp [plainName, overriddenIn]; done) | decide +kernel
theorem pd__Ljava_lang_Object__Z : parseMethodDescriptor "(Ljava/lang/Object;)Z" = some ⟨[(.object "java/lang/Object")], some .boolean⟩ := by decide +kernel
theorem pd__Lcom_example_oncemark_oncemark_Message__J : parseMethodDescriptor "(Lcom/example/oncemark/oncemark/Message;)J" = some ⟨[(.object "com/example/oncemark/oncemark/Message")], some .long⟩ := by decide +kernel
theorem ef_10_0 (m : MethodId) (x0 : Addr) (x1 : Addr) : entryFrame m #[(.ref x0), (.ref x1)] 2 = mkF m 0 #[.val (.ref x0), .val (.ref x1)] [] := by first | (simp [entryFrame, mkF, argsToLocals, Value.category]; done) | rfl
def Q10_0 (Z : State) (o0 : Addr) (o1 : Addr) (wcs : Int32) (od : Addr) (mm : Int32) (mx : Int64) (vs : Int64) (oe : Addr) (ke : ClassId) (vb : Int64) (jb : Nat) (h0 : Heap) (n0 : Nat) (v : Option Value) (h : Heap) (L : List Loc) : Prop := v = none ∧ Fr n0 L ∧ Keep h0 h [o0, od, oe] ∧ Exa Z h o0 "com/example/oncemark/oncemark/ReceiveQueue" ∧ Fld Z h o0 "com/example/oncemark/oncemark/ReceiveQueue" "messages" "Ljava/util/Deque;" (.ref od) ∧ Fld Z h o0 "com/example/oncemark/oncemark/ReceiveQueue" "maxMessages" "I" (.int mm) ∧ Fld Z h o0 "com/example/oncemark/oncemark/ReceiveQueue" "maxBytes" "J" (.long mx) ∧ Fld Z h o0 "com/example/oncemark/oncemark/ReceiveQueue" "bytes" "J" (.long (vs + vb)) ∧ Exa Z h od "java/util/ArrayDeque" ∧ Fld Z h od "java/util/ArrayDeque" "elements" "[Ljava/lang/Object;" (.ref oe) ∧ Fld Z h od "java/util/ArrayDeque" "tail" "I" (.int 1) ∧ Fld Z h od "java/util/ArrayDeque" "head" "I" (.int 0) ∧ Arh Z h oe ke (.object "java/lang/Object") (17 : Int32) [((0 : Int32), (.ref o1))] [] .null
set_option maxRecDepth 65536 in
set_option maxHeartbeats 40000000 in
theorem rm10_0 (l : Launch) (Z : State) (a0 : Array Value) (hw : ∀ d ∈ tables_1, d.before a0 Z = true) (ws : List Jvm.Cond) (o0 : Addr) (o1 : Addr) (wcs : Int32) (od : Addr) (mm : Int32) (mx : Int64) (vs : Int64) (oe : Addr) (ke : ClassId) (vb : Int64) (jb : Nat) (h0 : Heap) (n0 : Nat) (Z0 : n0 ≤ h0.size) (I0 : Sta Z h0 "java/lang/String" "COMPACT_STRINGS" "Z" (.int wcs)) (I1 : Exa Z h0 o0 "com/example/oncemark/oncemark/ReceiveQueue") (I2 : Fld Z h0 o0 "com/example/oncemark/oncemark/ReceiveQueue" "messages" "Ljava/util/Deque;" (.ref od)) (I3 : Fld Z h0 o0 "com/example/oncemark/oncemark/ReceiveQueue" "maxMessages" "I" (.int mm)) (I4 : Fld Z h0 o0 "com/example/oncemark/oncemark/ReceiveQueue" "maxBytes" "J" (.long mx)) (I5 : Fld Z h0 o0 "com/example/oncemark/oncemark/ReceiveQueue" "bytes" "J" (.long vs)) (I6 : Exa Z h0 od "java/util/ArrayDeque") (I7 : Fld Z h0 od "java/util/ArrayDeque" "elements" "[Ljava/lang/Object;" (.ref oe)) (I8 : Fld Z h0 od "java/util/ArrayDeque" "tail" "I" (.int 0)) (I9 : Fld Z h0 od "java/util/ArrayDeque" "head" "I" (.int 0)) (I10 : Arh Z h0 oe ke (.object "java/lang/Object") (17 : Int32) [] [] .null) (I11 : Ovr Z ke "java/lang/Object") (I12 : Exa Z h0 o1 "com/example/oncemark/oncemark/Message") (I13 : own_M Z h0 o1 jb vb) (hjs : jb ≤ h0.size) (hj_o0 : jb ≤ o0) (hj_od : jb ≤ od) (hj_oe : jb ≤ oe) (gw_o0 : n0 ≤ o0) (gw_od : n0 ≤ od) (gw_oe : n0 ≤ oe) (ne_o0_od : o0 ≠ od) (ne_o0_oe : o0 ≠ oe) (ne_od_oe : od ≠ oe) (hcs : ¬ (wcs = (0 : Int32))) :
    Met1 l Nm_22 (Jvm.Cond.code Nm_22 prog_24_method_7_code 2 none) ws (rom 3 0 0 42) #[(.ref o0), (.ref o1)] Z h0 (Q10_0 Z o0 o1 wcs od mm mx vs oe ke vb jb h0 n0) := by
  refine MetFree.of_bodySF (plainFor_of_name pn_10) hisR ?_
  intro p e s m args below meth c s₁ Bd hml0 hP hK
  obtain ⟨rfl, hZ, hh⟩ := hP
  have hx := Bd.exec
  have hby := Bd.bytes
  have hml : c.maxLocals = 2 := hml0
  have hown : s.vm.findClass "com/example/oncemark/oncemark/ReceiveQueue" = some m.cls := findClass_of_methodNamed Bd.named
  have X0 : Stand p l e (rom 3 0 0 42) s m _ _ _ _ _ [] 0 0 := Stand.of_body Bd
  have e0 : s₁.heap = h0 := by rw [← hh, Bd.state]; rfl
  have N0 := Fr.nil n0
  have K0 : Keep h0 h0 [o0, od, oe] := Keep.refl _ _
  have pre0 : Go p e below s₁ _ (mkF m 0 #[.val (.ref o0), .val (.ref o1)] []) _ := fun t k => castTop (ef_10_0 m o0 o1) k
  have pre1 : Go p e below s₁ _ (mkF m 1 #[.val (.ref o0), .val (.ref o1)] [(.ref o0)]) _ := fun t k => pre0 t (by
    refine XS.aloadN X0.here hx rfl (hb hby d10_0) rfl rfl ?_
    exact k)
  obtain ⟨T2, X2, e2, st2⟩ := getF X0 hx hZ hown (host := "") (Or.inl (wq hw 70 rfl)) Via.refl e0 I2 (g := (mkF m 1 #[.val (.ref o0), .val (.ref o1)] [(.ref o0)])) rfl rfl (hb hby d10_1)
  have pre3 := Go.thn pre1 st2
  have pre4 : Go p e below T2 _ (mkF m 5 #[.val (.ref o0), .val (.ref o1)] [(.ref o1), (.ref od)]) _ := fun t k => pre3 t (by
    refine XS.aloadN X2.here hx rfl (hb hby d10_4) rfl rfl ?_
    exact k)
  obtain ⟨cq5, kq5, q5a, q5b, q5c⟩ := isOf hZ e2 I6
  obtain ⟨_, _, ⟨T5, L5, k5, n5⟩, -, X5, ⟨Lc5, hQ5, l5, y5, z5⟩, st5⟩ := X2.interfaceBack hx (xi := Nm_23) (y := Nm_21) hown (mvT hZ (wq hw 81 rfl)) (mvT hZ (wq hw 82 rfl)) (mvT hZ (wq hw 83 rfl)) (mvT hZ (wq hw 84 rfl)) (mvT hZ (wq hw 85 rfl)) (mvT hZ (wq hw 86 rfl)) (mvT hZ (wq hw 87 rfl)) (mvT hZ (wq hw 88 rfl)) (by decide) (backOf (W := 0) (rm11_0 l Z a0 hw [] od o1 oe _ h0 n0 Z0 I6 I7 I8 I9 I10 I11 I12 gw_od gw_oe ne_od_oe) hZ (wq hw 89 rfl) (wq hw 55 rfl) (by decide) (by decide)) q5a q5b q5c (g := (mkF m 5 #[.val (.ref o0), .val (.ref o1)] [(.ref o1), (.ref od)])) rfl (by rw [hml]; rfl) (Steps.refl _) (argsL := [(.ref o1)]) (rest := []) (lenOf pd__Ljava_lang_Object__Z rfl) rfl (w00 rfl) (hb hby d10_5) (fun _ _ => ⟨rfl, e2, (by decide : 0 + 0 ≤ _), (by decide : 0 + 0 ≤ _)⟩)
  dsimp only [Pt.U, Pt.locs, Pt.cells, Pt.slots] at X5 l5 y5 z5 st5 hQ5
  subst l5 y5 z5
  obtain ⟨rfl, Nq5, Kq5, o5_0, o5_1, o5_2, o5_3, o5_4⟩ := hQ5
  have N5 := Fr.app N0 Nq5
  have K5 : Keep h0 T5.heap [o0, od, oe] := K0.trans Kq5 (allS (Or.inl (List.mem_of_getElem? (i := 1) rfl)) (allS (Or.inl (List.mem_of_getElem? (i := 2) rfl)) all0))
  have Z5 : n0 ≤ T5.heap.size := Nat.le_trans Z0 Kq5.1
  have x6 := own_staK I0 Kq5 (allS (own_plE I6) (allS (own_plH I10) all0))
  have x7 := I1.keep Kq5
  have x8 := I2.keep Kq5 (ninS ne_o0_od (ninS ne_o0_oe nin0))
  have x9 := I3.keep Kq5 (ninS ne_o0_od (ninS ne_o0_oe nin0))
  have x10 := I4.keep Kq5 (ninS ne_o0_od (ninS ne_o0_oe nin0))
  have x11 := I5.keep Kq5 (ninS ne_o0_od (ninS ne_o0_oe nin0))
  have x12 := I6.keep Kq5
  have x13 := I12.keep Kq5
  have x14 := I13.keep Kq5 (allS hj_od (allS hj_oe all0))
  have pre15 := Go.trn pre4 st5
  have jl5 : jb ≤ T5.heap.size := Nat.le_trans hjs Kq5.1
  have pre16 : Go p e below T5 _ (mkF m 13 #[.val (.ref o0), .val (.ref o1)] [(.ref o0), (.ref o0)]) _ := fun t k => pre15 t (by
    refine XS.pop X5.here hx rfl (hb hby d10_10) rfl rfl ?_
    refine XS.aloadN X5.here hx rfl (hb hby d10_11) rfl rfl ?_
    refine XS.dup X5.here hx rfl (hb hby d10_12) rfl rfl ?_
    exact k)
  obtain ⟨T17, X17, e17, st17⟩ := getF X5 hx hZ hown (host := "") (Or.inl (wq hw 103 rfl)) Via.refl rfl x11 (g := (mkF m 13 #[.val (.ref o0), .val (.ref o1)] [(.ref o0), (.ref o0)])) rfl rfl (hb hby d10_13)
  have pre18 := Go.thn pre16 st17
  have pre19 : Go p e below T17 _ (mkF m 17 #[.val (.ref o0), .val (.ref o1)] [(.ref o1), (.long vs), (.ref o0)]) _ := fun t k => pre18 t (by
    refine XS.aloadN X17.here hx rfl (hb hby d10_16) rfl rfl ?_
    exact k)
  obtain ⟨_, _, ⟨T20, L20, k20, n20⟩, -, X20, ⟨Lc20, hQ20, l20, y20, z20⟩, st20⟩ := Jvm.LawKit.callS X17 hx (y := Nm_15) hown (mvT hZ (wq hw 105 rfl)) (mvT hZ (wq hw 106 rfl)) (mvT hZ (wq hw 48 rfl)) (mvT hZ (wq hw 107 rfl)) (by decide) (backOf (W := 3) (rm14 l Z a0 hw [] o1 wcs vb jb T5.heap n0 Z5 x6 x14 jl5 hcs) hZ (wq hw 107 rfl) (wq hw 48 rfl) (by decide) (by decide)) (g := (mkF m 17 #[.val (.ref o0), .val (.ref o1)] [(.ref o1), (.long vs), (.ref o0)])) rfl (by rw [hml]; rfl) (argsL := [(.ref o1)]) (rest := [(.long vs), (.ref o0)]) (lenOf pd__Lcom_example_oncemark_oncemark_Message__J rfl) rfl (w00 rfl) (hb hby d10_17) (fun _ _ => ⟨rfl, e17, (by decide : 0 + 0 ≤ _), (by decide : 0 + 0 ≤ _)⟩)
  dsimp only [Pt.U, Pt.locs, Pt.cells, Pt.slots] at X20 l20 y20 z20 st20 hQ20
  subst l20 y20 z20
  obtain ⟨rfl, Nq20, e20⟩ := hQ20
  have N20 := Fr.app N5 Nq20
  have pre21 := Go.thn pre19 st20
  have pre22 : Go p e below T20 _ (mkF m 21 #[.val (.ref o0), .val (.ref o1)] [(.long (vs + vb)), (.ref o0)]) _ := fun t k => pre21 t (by
    refine XS.ladd X20.here hx rfl (hb hby d10_20) rfl ?_
    exact k)
  obtain ⟨T23, h23, X23, e23, W23, st23⟩ := putF X20 hx hZ hown (host := "") (Or.inl (wq hw 103 rfl)) Via.refl e20 x11 x7 (Or.inl (wq hw 104 rfl)) (wq hw 47 rfl) (ty := .long) (by decide) rfl rfl (g := (mkF m 21 #[.val (.ref o0), .val (.ref o1)] [(.long (vs + vb)), (.ref o0)])) rfl rfl (hb hby d10_21)
  have N23 := Fr.snoc X23 N20 gw_o0
  have K23 : Keep h0 h23 [o0, od, oe] := K5.wr W23 (Or.inl (List.mem_of_getElem? (i := 0) rfl))
  have Z23 : n0 ≤ h23.size := Nat.le_trans Z5 (Keep.of_wr W23).1
  have x24 := x6.wr W23
  have x25 := x7.wr W23
  have x26 := x8.other W23 (Or.inr (slot_ne (Or.inr (wq hw 71 rfl)) (Or.inl (wq hw 104 rfl)) (by decide) (t := (.object "java/util/Deque")) (t' := .long) (by decide) (by decide)))
  have x27 := x9.other W23 (Or.inr (slot_ne (Or.inr (wq hw 73 rfl)) (Or.inl (wq hw 104 rfl)) (by decide) (t := .int) (t' := .long) (by decide) (by decide)))
  have x28 := x10.other W23 (Or.inr (slot_ne (Or.inr (wq hw 75 rfl)) (Or.inl (wq hw 104 rfl)) (by decide) (t := .long) (t' := .long) (by decide) (by decide)))
  have x29 := x11.same W23
  have x30 := o5_0.wr W23
  have x31 := x13.wr W23
  have x32 := x14.keep (Keep.of_wr W23) (allS hj_o0 all0)
  have x33 := o5_1.other W23 (Or.inl (Ne.symm ne_o0_od))
  have x34 := o5_2.other W23 (Or.inl (Ne.symm ne_o0_od))
  have x35 := o5_3.other W23 (Or.inl (Ne.symm ne_o0_od))
  have x36 := o5_4.other W23 (Ne.symm ne_o0_oe)
  have pre37 := Go.thn pre22 st23
  have jl23 : jb ≤ h23.size := Nat.le_trans jl5 (Keep.of_wr W23).1
  obtain ⟨fs, hr, hrun, hended, hW, hsame⟩ := X23.leave (v := none) (fun _ => rfl)
  refine ⟨_, _, ?_, hrun, hended, _, _, rfl, ?_, ⟨_, rfl⟩, hW, hsame.mono (by decide) (by decide)⟩
  · exact pre37 _ (X23.returnOut hx Bd.returns (hb hby d10_24) hr)
  · show Q10_0 Z o0 o1 wcs od mm mx vs oe ke vb jb h0 n0 _ T23.heap _
    rw [e23]
    exact ⟨rfl, N23, K23, x25, x26, x27, x28, x29, x30, x33, x34, x35, x36⟩
def Q12_1 (Z : State) (o0 : Addr) (o1 : Addr) (oe : Addr) (ke : ClassId) (m0 : Addr) (h0 : Heap) (n0 : Nat) (v : Option Value) (h : Heap) (L : List Loc) : Prop := v = none ∧ Fr n0 L ∧ Keep h0 h [o0, oe] ∧ Exa Z h o0 "java/util/ArrayDeque" ∧ Fld Z h o0 "java/util/ArrayDeque" "elements" "[Ljava/lang/Object;" (.ref oe) ∧ Fld Z h o0 "java/util/ArrayDeque" "tail" "I" (.int 2) ∧ Fld Z h o0 "java/util/ArrayDeque" "head" "I" (.int 0) ∧ Arh Z h oe ke (.object "java/lang/Object") (17 : Int32) [((1 : Int32), (.ref o1)), ((0 : Int32), (.ref m0))] [] .null
set_option maxRecDepth 65536 in
set_option maxHeartbeats 40000000 in
theorem rm12_1 (l : Launch) (Z : State) (a0 : Array Value) (hw : ∀ d ∈ tables_1, d.before a0 Z = true) (ws : List Jvm.Cond) (o0 : Addr) (o1 : Addr) (oe : Addr) (ke : ClassId) (m0 : Addr) (h0 : Heap) (n0 : Nat) (Z0 : n0 ≤ h0.size) (I0 : Exa Z h0 o0 "java/util/ArrayDeque") (I1 : Fld Z h0 o0 "java/util/ArrayDeque" "elements" "[Ljava/lang/Object;" (.ref oe)) (I2 : Fld Z h0 o0 "java/util/ArrayDeque" "tail" "I" (.int 1)) (I3 : Fld Z h0 o0 "java/util/ArrayDeque" "head" "I" (.int 0)) (I4 : Arh Z h0 oe ke (.object "java/lang/Object") (17 : Int32) [((0 : Int32), (.ref m0))] [] .null) (I5 : Ovr Z ke "java/lang/Object") (I6 : Exa Z h0 o1 "com/example/oncemark/oncemark/Message") (gw_o0 : n0 ≤ o0) (gw_oe : n0 ≤ oe) (ne_o0_oe : o0 ≠ oe) :
    Met1 l Nm_20 (Jvm.Cond.code Nm_20 jdk_21_method_13_code 3 none) ws (rom 1 0 0 15) #[(.ref o0), (.ref o1)] Z h0 (Q12_1 Z o0 o1 oe ke m0 h0 n0) := by
  refine MetFree.of_bodySF (plainFor_of_name pn_12) hisR ?_
  intro p e s m args below meth c s₁ Bd hml0 hP hK
  obtain ⟨rfl, hZ, hh⟩ := hP
  have hx := Bd.exec
  have hby := Bd.bytes
  have hml : c.maxLocals = 3 := hml0
  have hown : s.vm.findClass "java/util/ArrayDeque" = some m.cls := findClass_of_methodNamed Bd.named
  have X0 : Stand p l e (rom 1 0 0 15) s m _ _ _ _ _ [] 0 0 := Stand.of_body Bd
  have e0 : s₁.heap = h0 := by rw [← hh, Bd.state]; rfl
  have N0 := Fr.nil n0
  have K0 : Keep h0 h0 [o0, oe] := Keep.refl _ _
  have pre0 : Go p e below s₁ _ (mkF m 0 #[.val (.ref o0), .val (.ref o1), .unset] []) _ := fun t k => castTop (ef_12_0 m o0 o1) k
  have pre1 : Go p e below s₁ _ (mkF m 13 #[.val (.ref o0), .val (.ref o1), .unset] [(.ref o0)]) _ := fun t k => pre0 t (by
    refine XS.aloadN X0.here hx rfl (hb hby d12_0) rfl rfl ?_
    refine XS.ifnonnullYes X0.here hx rfl (pc0 := 1) (pc' := 12) rfl (hb hby d12_1) rfl (by decide) (by decide) ?_
    refine XS.aloadN X0.here hx rfl (hb hby d12_12) rfl rfl ?_
    exact k)
  obtain ⟨T2, X2, e2, st2⟩ := getF X0 hx hZ hown (host := "") (Or.inl (wq hw 68 rfl)) Via.refl e0 I1 (g := (mkF m 13 #[.val (.ref o0), .val (.ref o1), .unset] [(.ref o0)])) rfl rfl (hb hby d12_13)
  have pre3 := Go.thn pre1 st2
  have pre4 : Go p e below T2 _ (mkF m 19 #[.val (.ref o0), .val (.ref o1), .val (.ref oe)] [(.ref o0), (.ref oe)]) _ := fun t k => pre3 t (by
    refine XS.astoreN X2.here hx rfl (hb hby d12_16) rfl rfl (l' := #[.val (.ref o0), .val (.ref o1), .val (.ref oe)]) rfl ?_
    refine XS.aloadN X2.here hx rfl (hb hby d12_17) rfl rfl ?_
    refine XS.aloadN X2.here hx rfl (hb hby d12_18) rfl rfl ?_
    exact k)
  obtain ⟨T5, X5, e5, st5⟩ := getF X2 hx hZ hown (host := "") (Or.inl (wq hw 95 rfl)) Via.refl e2 I2 (g := (mkF m 19 #[.val (.ref o0), .val (.ref o1), .val (.ref oe)] [(.ref o0), (.ref oe)])) rfl rfl (hb hby d12_19)
  have pre6 := Go.thn pre4 st5
  have pre7 : Go p e below T5 _ (mkF m 23 #[.val (.ref o0), .val (.ref o1), .val (.ref oe)] [(.ref o1), (.int 1), (.ref oe)]) _ := fun t k => pre6 t (by
    refine XS.aloadN X5.here hx rfl (hb hby d12_22) rfl rfl ?_
    exact k)
  obtain ⟨cl8, Ar8, q8, Sz8, Mn8, Hs8, Gs8⟩ := id I4
  have hin8 : ¬ ((1 : Int32) < 0 ∨ cl8.slots.size ≤ ((1 : Int32)).toNatClampNeg) := inb_of Sz8 ⟨by decide, by decide⟩
  obtain ⟨T8, h8, X8, e8, W8, st8⟩ := stR X5 hx hZ e5 Ar8 (j := (1 : Int32)) hin8 rfl (Sto.ofV Ar8 q8 I5 (Ins.of_exa I6 (wq hw 97 rfl))) (g := (mkF m 23 #[.val (.ref o0), .val (.ref o1), .val (.ref oe)] [(.ref o1), (.int 1), (.ref oe)])) rfl rfl (hb hby d12_23)
  have V8 : Arh Z h8 oe ke (.object "java/lang/Object") (17 : Int32) [((1 : Int32), (.ref o1)), ((0 : Int32), (.ref m0))] [] .null := Arh.push Ar8 q8 Sz8 Mn8 Hs8 Gs8 rfl W8 hin8
  have N8 := Fr.snoc X8 N0 gw_oe
  have K8 : Keep h0 h8 [o0, oe] := K0.wr W8 (Or.inl (List.mem_of_getElem? (i := 1) rfl))
  have Z8 : n0 ≤ h8.size := Nat.le_trans Z0 (Keep.of_wr W8).1
  have x9 := I0.wr W8
  have x10 := I1.other W8 (Or.inl ne_o0_oe)
  have x11 := I2.other W8 (Or.inl ne_o0_oe)
  have x12 := I3.other W8 (Or.inl ne_o0_oe)
  have x13 := I6.wr W8
  have pre14 := Go.thn pre7 st8
  have pre15 : Go p e below T8 _ (mkF m 25 #[.val (.ref o0), .val (.ref o1), .val (.ref oe)] [(.ref o0)]) _ := fun t k => pre14 t (by
    refine XS.aloadN X8.here hx rfl (hb hby d12_24) rfl rfl ?_
    exact k)
  obtain ⟨T16, X16, e16, st16⟩ := getF X8 hx hZ hown (host := "") (Or.inl (wq hw 98 rfl)) Via.refl e8 x12 (g := (mkF m 25 #[.val (.ref o0), .val (.ref o1), .val (.ref oe)] [(.ref o0)])) rfl rfl (hb hby d12_25)
  have pre17 := Go.thn pre15 st16
  have pre18 : Go p e below T16 _ (mkF m 30 #[.val (.ref o0), .val (.ref o1), .val (.ref oe)] [(.ref o0), (.ref o0), (.int 0)]) _ := fun t k => pre17 t (by
    refine XS.aloadN X16.here hx rfl (hb hby d12_28) rfl rfl ?_
    refine XS.aloadN X16.here hx rfl (hb hby d12_29) rfl rfl ?_
    exact k)
  obtain ⟨T19, X19, e19, st19⟩ := getF X16 hx hZ hown (host := "") (Or.inl (wq hw 95 rfl)) Via.refl e16 x11 (g := (mkF m 30 #[.val (.ref o0), .val (.ref o1), .val (.ref oe)] [(.ref o0), (.ref o0), (.int 0)])) rfl rfl (hb hby d12_30)
  have pre20 := Go.thn pre18 st19
  have pre21 : Go p e below T19 _ (mkF m 34 #[.val (.ref o0), .val (.ref o1), .val (.ref oe)] [(.ref oe), (.int 1), (.ref o0), (.int 0)]) _ := fun t k => pre20 t (by
    refine XS.aloadN X19.here hx rfl (hb hby d12_33) rfl rfl ?_
    exact k)
  obtain ⟨cl22, Ar22, -, Sz22, Mn22, Hs22, -⟩ := id V8
  have pre23 : Go p e below T19 _ (mkF m 35 #[.val (.ref o0), .val (.ref o1), .val (.ref oe)] [(.int 17), (.int 1), (.ref o0), (.int 0)]) _ := fun t k => pre21 t (by
    show Steps p.tables e below (T19.setTop (mkF m 34 #[.val (.ref o0), .val (.ref o1), .val (.ref oe)] [(.ref oe), (.int 1), (.ref o0), (.int 0)])) _
    refine X19.arraylength hx (by rw [e19]; exact Ar22.1) (State.isArrayOf_alike hZ.alike Ar22.2.1) (g := (mkF m 34 #[.val (.ref o0), .val (.ref o1), .val (.ref oe)] [(.ref oe), (.int 1), (.ref o0), (.int 0)])) rfl rfl (hb hby d12_34) _ ?_
    rw [len_of Sz22 Mn22]
    exact k)
  obtain ⟨_, _, ⟨T24, L24, k24, n24⟩, -, X24, ⟨Lc24, hQ24, l24, y24, z24⟩, st24⟩ := Jvm.LawKit.callS X19 hx (y := Nm_16) hown (mvT hZ (wq hw 100 rfl)) (mvT hZ (wq hw 101 rfl)) (mvT hZ (wq hw 55 rfl)) (mvT hZ (wq hw 102 rfl)) (by decide) (backOf (W := 2) (rm13 l Z a0 hw [] (1 : Int32) (17 : Int32) h8 n0 Z8) hZ (wq hw 102 rfl) (wq hw 55 rfl) (by decide) (by decide)) (g := (mkF m 35 #[.val (.ref o0), .val (.ref o1), .val (.ref oe)] [(.int 17), (.int 1), (.ref o0), (.int 0)])) rfl (by rw [hml]; rfl) (argsL := [(.int 1), (.int 17)]) (rest := [(.ref o0), (.int 0)]) (lenOf pd__II_I rfl) rfl (w00 rfl) (hb hby d12_35) (fun _ _ => ⟨rfl, e19, (by decide : 0 + 0 ≤ _), (by decide : 0 + 0 ≤ _)⟩)
  dsimp only [Pt.U, Pt.locs, Pt.cells, Pt.slots] at X24 l24 y24 z24 st24 hQ24
  subst l24 y24 z24
  obtain ⟨rfl, Nq24, e24⟩ := hQ24
  have N24 := Fr.app N8 Nq24
  have pre25 := Go.thn pre23 st24
  have pre26 : Go p e below T24 _ (mkF m 39 #[.val (.ref o0), .val (.ref o1), .val (.ref oe)] [(.int 2), (.ref o0), (.int 2), (.int 0)]) _ := fun t k => pre25 t (by
    show Steps p.tables e below (T24.setTop (mkF m 38 #[.val (.ref o0), .val (.ref o1), .val (.ref oe)] [(.int (f13 (1 : Int32) (17 : Int32))), (.ref o0), (.int 0)])) _
    rw [show f13 (1 : Int32) (17 : Int32) = (2 : Int32) from rfl]
    refine XT.dupX1 X24.here hx rfl (hb hby d12_38) rfl rfl rfl ?_
    exact k)
  obtain ⟨T27, h27, X27, e27, W27, st27⟩ := putF X24 hx hZ hown (host := "") (Or.inl (wq hw 95 rfl)) Via.refl e24 x11 x9 (Or.inl (wq hw 96 rfl)) (wq hw 54 rfl) (ty := .int) (by decide) rfl rfl (g := (mkF m 39 #[.val (.ref o0), .val (.ref o1), .val (.ref oe)] [(.int 2), (.ref o0), (.int 2), (.int 0)])) rfl rfl (hb hby d12_39)
  have N27 := Fr.snoc X27 N24 gw_o0
  have K27 : Keep h0 h27 [o0, oe] := K8.wr W27 (Or.inl (List.mem_of_getElem? (i := 0) rfl))
  have Z27 : n0 ≤ h27.size := Nat.le_trans Z8 (Keep.of_wr W27).1
  have x28 := x9.wr W27
  have x29 := x10.other W27 (Or.inr (slot_ne (Or.inl (wq hw 69 rfl)) (Or.inl (wq hw 96 rfl)) (by decide) (t := (.array (.object "java/lang/Object"))) (t' := .int) (by decide) (by decide)))
  have x30 := x11.same W27
  have x31 := x12.other W27 (Or.inr (slot_ne (Or.inl (wq hw 99 rfl)) (Or.inl (wq hw 96 rfl)) (by decide) (t := .int) (t' := .int) (by decide) (by decide)))
  have x32 := x13.wr W27
  have x33 := V8.other W27 (Ne.symm ne_o0_oe)
  have pre34 := Go.thn pre26 st27
  have pre35 : Go p e below T27 _ (mkF m 50 #[.val (.ref o0), .val (.ref o1), .val (.ref oe)] []) _ := fun t k => pre34 t (by
    refine XS.icmpYes X27.here hx rfl (pc0 := 42) (pc' := 50) rfl (hb hby d12_42) rfl (by decide) (by decide) (by decide) ?_
    exact k)
  obtain ⟨fs, hr, hrun, hended, hW, hsame⟩ := X27.leave (v := none) (fun _ => rfl)
  refine ⟨_, _, ?_, hrun, hended, _, _, rfl, ?_, ⟨_, rfl⟩, hW, hsame.mono (by decide) (by decide)⟩
  · exact pre35 _ (X27.returnOut hx Bd.returns (hb hby d12_50) hr)
  · show Q12_1 Z o0 o1 oe ke m0 h0 n0 _ T27.heap _
    rw [e27]
    exact ⟨rfl, N27, K27, x28, x29, x30, x31, x33⟩
def f11_1 : Int32 := (1 : Int32)
def Q11_1 (Z : State) (o0 : Addr) (o1 : Addr) (oe : Addr) (ke : ClassId) (m0 : Addr) (h0 : Heap) (n0 : Nat) (v : Option Value) (h : Heap) (L : List Loc) : Prop := v = (some (.int (f11_1))) ∧ Fr n0 L ∧ Keep h0 h [o0, oe] ∧ Exa Z h o0 "java/util/ArrayDeque" ∧ Fld Z h o0 "java/util/ArrayDeque" "elements" "[Ljava/lang/Object;" (.ref oe) ∧ Fld Z h o0 "java/util/ArrayDeque" "tail" "I" (.int 2) ∧ Fld Z h o0 "java/util/ArrayDeque" "head" "I" (.int 0) ∧ Arh Z h oe ke (.object "java/lang/Object") (17 : Int32) [((1 : Int32), (.ref o1)), ((0 : Int32), (.ref m0))] [] .null
set_option maxRecDepth 65536 in
set_option maxHeartbeats 40000000 in
theorem rm11_1 (l : Launch) (Z : State) (a0 : Array Value) (hw : ∀ d ∈ tables_1, d.before a0 Z = true) (ws : List Jvm.Cond) (o0 : Addr) (o1 : Addr) (oe : Addr) (ke : ClassId) (m0 : Addr) (h0 : Heap) (n0 : Nat) (Z0 : n0 ≤ h0.size) (I0 : Exa Z h0 o0 "java/util/ArrayDeque") (I1 : Fld Z h0 o0 "java/util/ArrayDeque" "elements" "[Ljava/lang/Object;" (.ref oe)) (I2 : Fld Z h0 o0 "java/util/ArrayDeque" "tail" "I" (.int 1)) (I3 : Fld Z h0 o0 "java/util/ArrayDeque" "head" "I" (.int 0)) (I4 : Arh Z h0 oe ke (.object "java/lang/Object") (17 : Int32) [((0 : Int32), (.ref m0))] [] .null) (I5 : Ovr Z ke "java/lang/Object") (I6 : Exa Z h0 o1 "com/example/oncemark/oncemark/Message") (gw_o0 : n0 ≤ o0) (gw_oe : n0 ≤ oe) (ne_o0_oe : o0 ≠ oe) :
    Met1 l Nm_21 (Jvm.Cond.code Nm_21 jdk_21_method_28_code 2 (some .boolean)) ws (rom 2 0 0 29) #[(.ref o0), (.ref o1)] Z h0 (Q11_1 Z o0 o1 oe ke m0 h0 n0) := by
  refine MetFree.of_bodySF (plainFor_of_name pn_11) hisR ?_
  intro p e s m args below meth c s₁ Bd hml0 hP hK
  obtain ⟨rfl, hZ, hh⟩ := hP
  have hx := Bd.exec
  have hby := Bd.bytes
  have hml : c.maxLocals = 2 := hml0
  have hown : s.vm.findClass "java/util/ArrayDeque" = some m.cls := findClass_of_methodNamed Bd.named
  have X0 : Stand p l e (rom 2 0 0 29) s m _ _ _ _ _ [] 0 0 := Stand.of_body Bd
  have e0 : s₁.heap = h0 := by rw [← hh, Bd.state]; rfl
  have N0 := Fr.nil n0
  have K0 : Keep h0 h0 [o0, oe] := Keep.refl _ _
  have pre0 : Go p e below s₁ _ (mkF m 0 #[.val (.ref o0), .val (.ref o1)] []) _ := fun t k => castTop (ef_11_0 m o0 o1) k
  have pre1 : Go p e below s₁ _ (mkF m 2 #[.val (.ref o0), .val (.ref o1)] [(.ref o1), (.ref o0)]) _ := fun t k => pre0 t (by
    refine XS.aloadN X0.here hx rfl (hb hby d11_0) rfl rfl ?_
    refine XS.aloadN X0.here hx rfl (hb hby d11_1) rfl rfl ?_
    exact k)
  obtain ⟨cq2, kq2, q2a, q2b, q2c⟩ := isOf hZ e0 I0
  obtain ⟨_, _, ⟨T2, L2, k2, n2⟩, -, X2, ⟨Lc2, hQ2, l2, y2, z2⟩, st2⟩ := X0.virtualBack hx (y := Nm_20) (z := Nm_20) hown (mvT hZ (wq hw 90 rfl)) (mvT hZ (wq hw 91 rfl)) (notFace_of_selects (args := #[]) (mvT hZ (wq hw 93 rfl))) (mvT hZ (wq hw 93 rfl)) (mvT hZ (wq hw 92 rfl)) (by decide) (backOf (W := 0) (rm12_1 l Z a0 hw [] o0 o1 oe _ m0 h0 n0 Z0 I0 I1 I2 I3 I4 I5 I6 gw_o0 gw_oe ne_o0_oe) hZ (wq hw 94 rfl) (wq hw 55 rfl) (by decide) (by decide)) q2a q2c (g := (mkF m 2 #[.val (.ref o0), .val (.ref o1)] [(.ref o1), (.ref o0)])) rfl (by rw [hml]; rfl) (Steps.refl _) (argsL := [(.ref o1)]) (rest := []) (lenOf pd__Ljava_lang_Object__V rfl) rfl (w00 rfl) (hb hby d11_2) (fun _ _ => ⟨rfl, e0, (by decide : 0 + 0 ≤ _), (by decide : 0 + 0 ≤ _)⟩)
  dsimp only [Pt.U, Pt.locs, Pt.cells, Pt.slots] at X2 l2 y2 z2 st2 hQ2
  subst l2 y2 z2
  obtain ⟨rfl, Nq2, Kq2, o2_0, o2_1, o2_2, o2_3, o2_4⟩ := hQ2
  have N2 := Fr.app N0 Nq2
  have K2 : Keep h0 T2.heap [o0, oe] := K0.trans Kq2 (allS (Or.inl (List.mem_of_getElem? (i := 0) rfl)) (allS (Or.inl (List.mem_of_getElem? (i := 1) rfl)) all0))
  have Z2 : n0 ≤ T2.heap.size := Nat.le_trans Z0 Kq2.1
  have x3 := I0.keep Kq2
  have x4 := I6.keep Kq2
  have pre5 := Go.trn pre1 st2
  have pre6 : Go p e below T2 _ (mkF m 6 #[.val (.ref o0), .val (.ref o1)] [(.int 1)]) _ := fun t k => pre5 t (by
    refine XS.iconst X2.here hx rfl (hb hby d11_5) ?_
    exact k)
  obtain ⟨fs, hr, hrun, hended, hW, hsame⟩ := X2.leave (v := some (.int 1)) (fun h => by rw [Bd.returns] at h; cases h)
  refine ⟨_, _, ?_, hrun, hended, _, _, rfl, ?_, ⟨_, rfl⟩, hW, hsame.mono (by decide) (by decide)⟩
  · exact pre6 _ (retN X2 hx (t := .boolean) Bd.returns (by simp) (hb hby d11_6) hr)
  · show Q11_1 Z o0 o1 oe ke m0 h0 n0 _ T2.heap _
    skip
    exact ⟨by simp only [f11_1], N2, K2, o2_0, o2_1, o2_2, o2_3, o2_4⟩
def Q10_1 (Z : State) (o0 : Addr) (o1 : Addr) (wcs : Int32) (od : Addr) (mm : Int32) (mx : Int64) (vs : Int64) (oe : Addr) (ke : ClassId) (m0 : Addr) (vb : Int64) (jb : Nat) (h0 : Heap) (n0 : Nat) (v : Option Value) (h : Heap) (L : List Loc) : Prop := v = none ∧ Fr n0 L ∧ Keep h0 h [o0, od, oe] ∧ Exa Z h o0 "com/example/oncemark/oncemark/ReceiveQueue" ∧ Fld Z h o0 "com/example/oncemark/oncemark/ReceiveQueue" "messages" "Ljava/util/Deque;" (.ref od) ∧ Fld Z h o0 "com/example/oncemark/oncemark/ReceiveQueue" "maxMessages" "I" (.int mm) ∧ Fld Z h o0 "com/example/oncemark/oncemark/ReceiveQueue" "maxBytes" "J" (.long mx) ∧ Fld Z h o0 "com/example/oncemark/oncemark/ReceiveQueue" "bytes" "J" (.long (vs + vb)) ∧ Exa Z h od "java/util/ArrayDeque" ∧ Fld Z h od "java/util/ArrayDeque" "elements" "[Ljava/lang/Object;" (.ref oe) ∧ Fld Z h od "java/util/ArrayDeque" "tail" "I" (.int 2) ∧ Fld Z h od "java/util/ArrayDeque" "head" "I" (.int 0) ∧ Arh Z h oe ke (.object "java/lang/Object") (17 : Int32) [((1 : Int32), (.ref o1)), ((0 : Int32), (.ref m0))] [] .null
set_option maxRecDepth 65536 in
set_option maxHeartbeats 40000000 in
theorem rm10_1 (l : Launch) (Z : State) (a0 : Array Value) (hw : ∀ d ∈ tables_1, d.before a0 Z = true) (ws : List Jvm.Cond) (o0 : Addr) (o1 : Addr) (wcs : Int32) (od : Addr) (mm : Int32) (mx : Int64) (vs : Int64) (oe : Addr) (ke : ClassId) (m0 : Addr) (vb : Int64) (jb : Nat) (h0 : Heap) (n0 : Nat) (Z0 : n0 ≤ h0.size) (I0 : Sta Z h0 "java/lang/String" "COMPACT_STRINGS" "Z" (.int wcs)) (I1 : Exa Z h0 o0 "com/example/oncemark/oncemark/ReceiveQueue") (I2 : Fld Z h0 o0 "com/example/oncemark/oncemark/ReceiveQueue" "messages" "Ljava/util/Deque;" (.ref od)) (I3 : Fld Z h0 o0 "com/example/oncemark/oncemark/ReceiveQueue" "maxMessages" "I" (.int mm)) (I4 : Fld Z h0 o0 "com/example/oncemark/oncemark/ReceiveQueue" "maxBytes" "J" (.long mx)) (I5 : Fld Z h0 o0 "com/example/oncemark/oncemark/ReceiveQueue" "bytes" "J" (.long vs)) (I6 : Exa Z h0 od "java/util/ArrayDeque") (I7 : Fld Z h0 od "java/util/ArrayDeque" "elements" "[Ljava/lang/Object;" (.ref oe)) (I8 : Fld Z h0 od "java/util/ArrayDeque" "tail" "I" (.int 1)) (I9 : Fld Z h0 od "java/util/ArrayDeque" "head" "I" (.int 0)) (I10 : Arh Z h0 oe ke (.object "java/lang/Object") (17 : Int32) [((0 : Int32), (.ref m0))] [] .null) (I11 : Ovr Z ke "java/lang/Object") (I12 : Exa Z h0 o1 "com/example/oncemark/oncemark/Message") (I13 : own_M Z h0 o1 jb vb) (hjs : jb ≤ h0.size) (hj_o0 : jb ≤ o0) (hj_od : jb ≤ od) (hj_oe : jb ≤ oe) (gw_o0 : n0 ≤ o0) (gw_od : n0 ≤ od) (gw_oe : n0 ≤ oe) (ne_o0_od : o0 ≠ od) (ne_o0_oe : o0 ≠ oe) (ne_od_oe : od ≠ oe) (hcs : ¬ (wcs = (0 : Int32))) :
    Met1 l Nm_22 (Jvm.Cond.code Nm_22 prog_24_method_7_code 2 none) ws (rom 3 0 0 42) #[(.ref o0), (.ref o1)] Z h0 (Q10_1 Z o0 o1 wcs od mm mx vs oe ke m0 vb jb h0 n0) := by
  refine MetFree.of_bodySF (plainFor_of_name pn_10) hisR ?_
  intro p e s m args below meth c s₁ Bd hml0 hP hK
  obtain ⟨rfl, hZ, hh⟩ := hP
  have hx := Bd.exec
  have hby := Bd.bytes
  have hml : c.maxLocals = 2 := hml0
  have hown : s.vm.findClass "com/example/oncemark/oncemark/ReceiveQueue" = some m.cls := findClass_of_methodNamed Bd.named
  have X0 : Stand p l e (rom 3 0 0 42) s m _ _ _ _ _ [] 0 0 := Stand.of_body Bd
  have e0 : s₁.heap = h0 := by rw [← hh, Bd.state]; rfl
  have N0 := Fr.nil n0
  have K0 : Keep h0 h0 [o0, od, oe] := Keep.refl _ _
  have pre0 : Go p e below s₁ _ (mkF m 0 #[.val (.ref o0), .val (.ref o1)] []) _ := fun t k => castTop (ef_10_0 m o0 o1) k
  have pre1 : Go p e below s₁ _ (mkF m 1 #[.val (.ref o0), .val (.ref o1)] [(.ref o0)]) _ := fun t k => pre0 t (by
    refine XS.aloadN X0.here hx rfl (hb hby d10_0) rfl rfl ?_
    exact k)
  obtain ⟨T2, X2, e2, st2⟩ := getF X0 hx hZ hown (host := "") (Or.inl (wq hw 70 rfl)) Via.refl e0 I2 (g := (mkF m 1 #[.val (.ref o0), .val (.ref o1)] [(.ref o0)])) rfl rfl (hb hby d10_1)
  have pre3 := Go.thn pre1 st2
  have pre4 : Go p e below T2 _ (mkF m 5 #[.val (.ref o0), .val (.ref o1)] [(.ref o1), (.ref od)]) _ := fun t k => pre3 t (by
    refine XS.aloadN X2.here hx rfl (hb hby d10_4) rfl rfl ?_
    exact k)
  obtain ⟨cq5, kq5, q5a, q5b, q5c⟩ := isOf hZ e2 I6
  obtain ⟨_, _, ⟨T5, L5, k5, n5⟩, -, X5, ⟨Lc5, hQ5, l5, y5, z5⟩, st5⟩ := X2.interfaceBack hx (xi := Nm_23) (y := Nm_21) hown (mvT hZ (wq hw 81 rfl)) (mvT hZ (wq hw 82 rfl)) (mvT hZ (wq hw 83 rfl)) (mvT hZ (wq hw 84 rfl)) (mvT hZ (wq hw 85 rfl)) (mvT hZ (wq hw 86 rfl)) (mvT hZ (wq hw 87 rfl)) (mvT hZ (wq hw 88 rfl)) (by decide) (backOf (W := 0) (rm11_1 l Z a0 hw [] od o1 oe _ m0 h0 n0 Z0 I6 I7 I8 I9 I10 I11 I12 gw_od gw_oe ne_od_oe) hZ (wq hw 89 rfl) (wq hw 55 rfl) (by decide) (by decide)) q5a q5b q5c (g := (mkF m 5 #[.val (.ref o0), .val (.ref o1)] [(.ref o1), (.ref od)])) rfl (by rw [hml]; rfl) (Steps.refl _) (argsL := [(.ref o1)]) (rest := []) (lenOf pd__Ljava_lang_Object__Z rfl) rfl (w00 rfl) (hb hby d10_5) (fun _ _ => ⟨rfl, e2, (by decide : 0 + 0 ≤ _), (by decide : 0 + 0 ≤ _)⟩)
  dsimp only [Pt.U, Pt.locs, Pt.cells, Pt.slots] at X5 l5 y5 z5 st5 hQ5
  subst l5 y5 z5
  obtain ⟨rfl, Nq5, Kq5, o5_0, o5_1, o5_2, o5_3, o5_4⟩ := hQ5
  have N5 := Fr.app N0 Nq5
  have K5 : Keep h0 T5.heap [o0, od, oe] := K0.trans Kq5 (allS (Or.inl (List.mem_of_getElem? (i := 1) rfl)) (allS (Or.inl (List.mem_of_getElem? (i := 2) rfl)) all0))
  have Z5 : n0 ≤ T5.heap.size := Nat.le_trans Z0 Kq5.1
  have x6 := own_staK I0 Kq5 (allS (own_plE I6) (allS (own_plH I10) all0))
  have x7 := I1.keep Kq5
  have x8 := I2.keep Kq5 (ninS ne_o0_od (ninS ne_o0_oe nin0))
  have x9 := I3.keep Kq5 (ninS ne_o0_od (ninS ne_o0_oe nin0))
  have x10 := I4.keep Kq5 (ninS ne_o0_od (ninS ne_o0_oe nin0))
  have x11 := I5.keep Kq5 (ninS ne_o0_od (ninS ne_o0_oe nin0))
  have x12 := I6.keep Kq5
  have x13 := I12.keep Kq5
  have x14 := I13.keep Kq5 (allS hj_od (allS hj_oe all0))
  have pre15 := Go.trn pre4 st5
  have jl5 : jb ≤ T5.heap.size := Nat.le_trans hjs Kq5.1
  have pre16 : Go p e below T5 _ (mkF m 13 #[.val (.ref o0), .val (.ref o1)] [(.ref o0), (.ref o0)]) _ := fun t k => pre15 t (by
    refine XS.pop X5.here hx rfl (hb hby d10_10) rfl rfl ?_
    refine XS.aloadN X5.here hx rfl (hb hby d10_11) rfl rfl ?_
    refine XS.dup X5.here hx rfl (hb hby d10_12) rfl rfl ?_
    exact k)
  obtain ⟨T17, X17, e17, st17⟩ := getF X5 hx hZ hown (host := "") (Or.inl (wq hw 103 rfl)) Via.refl rfl x11 (g := (mkF m 13 #[.val (.ref o0), .val (.ref o1)] [(.ref o0), (.ref o0)])) rfl rfl (hb hby d10_13)
  have pre18 := Go.thn pre16 st17
  have pre19 : Go p e below T17 _ (mkF m 17 #[.val (.ref o0), .val (.ref o1)] [(.ref o1), (.long vs), (.ref o0)]) _ := fun t k => pre18 t (by
    refine XS.aloadN X17.here hx rfl (hb hby d10_16) rfl rfl ?_
    exact k)
  obtain ⟨_, _, ⟨T20, L20, k20, n20⟩, -, X20, ⟨Lc20, hQ20, l20, y20, z20⟩, st20⟩ := Jvm.LawKit.callS X17 hx (y := Nm_15) hown (mvT hZ (wq hw 105 rfl)) (mvT hZ (wq hw 106 rfl)) (mvT hZ (wq hw 48 rfl)) (mvT hZ (wq hw 107 rfl)) (by decide) (backOf (W := 3) (rm14 l Z a0 hw [] o1 wcs vb jb T5.heap n0 Z5 x6 x14 jl5 hcs) hZ (wq hw 107 rfl) (wq hw 48 rfl) (by decide) (by decide)) (g := (mkF m 17 #[.val (.ref o0), .val (.ref o1)] [(.ref o1), (.long vs), (.ref o0)])) rfl (by rw [hml]; rfl) (argsL := [(.ref o1)]) (rest := [(.long vs), (.ref o0)]) (lenOf pd__Lcom_example_oncemark_oncemark_Message__J rfl) rfl (w00 rfl) (hb hby d10_17) (fun _ _ => ⟨rfl, e17, (by decide : 0 + 0 ≤ _), (by decide : 0 + 0 ≤ _)⟩)
  dsimp only [Pt.U, Pt.locs, Pt.cells, Pt.slots] at X20 l20 y20 z20 st20 hQ20
  subst l20 y20 z20
  obtain ⟨rfl, Nq20, e20⟩ := hQ20
  have N20 := Fr.app N5 Nq20
  have pre21 := Go.thn pre19 st20
  have pre22 : Go p e below T20 _ (mkF m 21 #[.val (.ref o0), .val (.ref o1)] [(.long (vs + vb)), (.ref o0)]) _ := fun t k => pre21 t (by
    refine XS.ladd X20.here hx rfl (hb hby d10_20) rfl ?_
    exact k)
  obtain ⟨T23, h23, X23, e23, W23, st23⟩ := putF X20 hx hZ hown (host := "") (Or.inl (wq hw 103 rfl)) Via.refl e20 x11 x7 (Or.inl (wq hw 104 rfl)) (wq hw 47 rfl) (ty := .long) (by decide) rfl rfl (g := (mkF m 21 #[.val (.ref o0), .val (.ref o1)] [(.long (vs + vb)), (.ref o0)])) rfl rfl (hb hby d10_21)
  have N23 := Fr.snoc X23 N20 gw_o0
  have K23 : Keep h0 h23 [o0, od, oe] := K5.wr W23 (Or.inl (List.mem_of_getElem? (i := 0) rfl))
  have Z23 : n0 ≤ h23.size := Nat.le_trans Z5 (Keep.of_wr W23).1
  have x24 := x6.wr W23
  have x25 := x7.wr W23
  have x26 := x8.other W23 (Or.inr (slot_ne (Or.inr (wq hw 71 rfl)) (Or.inl (wq hw 104 rfl)) (by decide) (t := (.object "java/util/Deque")) (t' := .long) (by decide) (by decide)))
  have x27 := x9.other W23 (Or.inr (slot_ne (Or.inr (wq hw 73 rfl)) (Or.inl (wq hw 104 rfl)) (by decide) (t := .int) (t' := .long) (by decide) (by decide)))
  have x28 := x10.other W23 (Or.inr (slot_ne (Or.inr (wq hw 75 rfl)) (Or.inl (wq hw 104 rfl)) (by decide) (t := .long) (t' := .long) (by decide) (by decide)))
  have x29 := x11.same W23
  have x30 := o5_0.wr W23
  have x31 := x13.wr W23
  have x32 := x14.keep (Keep.of_wr W23) (allS hj_o0 all0)
  have x33 := o5_1.other W23 (Or.inl (Ne.symm ne_o0_od))
  have x34 := o5_2.other W23 (Or.inl (Ne.symm ne_o0_od))
  have x35 := o5_3.other W23 (Or.inl (Ne.symm ne_o0_od))
  have x36 := o5_4.other W23 (Ne.symm ne_o0_oe)
  have pre37 := Go.thn pre22 st23
  have jl23 : jb ≤ h23.size := Nat.le_trans jl5 (Keep.of_wr W23).1
  obtain ⟨fs, hr, hrun, hended, hW, hsame⟩ := X23.leave (v := none) (fun _ => rfl)
  refine ⟨_, _, ?_, hrun, hended, _, _, rfl, ?_, ⟨_, rfl⟩, hW, hsame.mono (by decide) (by decide)⟩
  · exact pre37 _ (X23.returnOut hx Bd.returns (hb hby d10_24) hr)
  · show Q10_1 Z o0 o1 wcs od mm mx vs oe ke m0 vb jb h0 n0 _ T23.heap _
    rw [e23]
    exact ⟨rfl, N23, K23, x25, x26, x27, x28, x29, x30, x33, x34, x35, x36⟩
def Q12_2 (Z : State) (o0 : Addr) (o1 : Addr) (oe : Addr) (ke : ClassId) (m1 : Addr) (m0 : Addr) (h0 : Heap) (n0 : Nat) (v : Option Value) (h : Heap) (L : List Loc) : Prop := v = none ∧ Fr n0 L ∧ Keep h0 h [o0, oe] ∧ Exa Z h o0 "java/util/ArrayDeque" ∧ Fld Z h o0 "java/util/ArrayDeque" "elements" "[Ljava/lang/Object;" (.ref oe) ∧ Fld Z h o0 "java/util/ArrayDeque" "tail" "I" (.int 3) ∧ Fld Z h o0 "java/util/ArrayDeque" "head" "I" (.int 0) ∧ Arh Z h oe ke (.object "java/lang/Object") (17 : Int32) [((2 : Int32), (.ref o1)), ((1 : Int32), (.ref m1)), ((0 : Int32), (.ref m0))] [] .null
set_option maxRecDepth 65536 in
set_option maxHeartbeats 40000000 in
theorem rm12_2 (l : Launch) (Z : State) (a0 : Array Value) (hw : ∀ d ∈ tables_1, d.before a0 Z = true) (ws : List Jvm.Cond) (o0 : Addr) (o1 : Addr) (oe : Addr) (ke : ClassId) (m1 : Addr) (m0 : Addr) (h0 : Heap) (n0 : Nat) (Z0 : n0 ≤ h0.size) (I0 : Exa Z h0 o0 "java/util/ArrayDeque") (I1 : Fld Z h0 o0 "java/util/ArrayDeque" "elements" "[Ljava/lang/Object;" (.ref oe)) (I2 : Fld Z h0 o0 "java/util/ArrayDeque" "tail" "I" (.int 2)) (I3 : Fld Z h0 o0 "java/util/ArrayDeque" "head" "I" (.int 0)) (I4 : Arh Z h0 oe ke (.object "java/lang/Object") (17 : Int32) [((1 : Int32), (.ref m1)), ((0 : Int32), (.ref m0))] [] .null) (I5 : Ovr Z ke "java/lang/Object") (I6 : Exa Z h0 o1 "com/example/oncemark/oncemark/Message") (gw_o0 : n0 ≤ o0) (gw_oe : n0 ≤ oe) (ne_o0_oe : o0 ≠ oe) :
    Met1 l Nm_20 (Jvm.Cond.code Nm_20 jdk_21_method_13_code 3 none) ws (rom 1 0 0 15) #[(.ref o0), (.ref o1)] Z h0 (Q12_2 Z o0 o1 oe ke m1 m0 h0 n0) := by
  refine MetFree.of_bodySF (plainFor_of_name pn_12) hisR ?_
  intro p e s m args below meth c s₁ Bd hml0 hP hK
  obtain ⟨rfl, hZ, hh⟩ := hP
  have hx := Bd.exec
  have hby := Bd.bytes
  have hml : c.maxLocals = 3 := hml0
  have hown : s.vm.findClass "java/util/ArrayDeque" = some m.cls := findClass_of_methodNamed Bd.named
  have X0 : Stand p l e (rom 1 0 0 15) s m _ _ _ _ _ [] 0 0 := Stand.of_body Bd
  have e0 : s₁.heap = h0 := by rw [← hh, Bd.state]; rfl
  have N0 := Fr.nil n0
  have K0 : Keep h0 h0 [o0, oe] := Keep.refl _ _
  have pre0 : Go p e below s₁ _ (mkF m 0 #[.val (.ref o0), .val (.ref o1), .unset] []) _ := fun t k => castTop (ef_12_0 m o0 o1) k
  have pre1 : Go p e below s₁ _ (mkF m 13 #[.val (.ref o0), .val (.ref o1), .unset] [(.ref o0)]) _ := fun t k => pre0 t (by
    refine XS.aloadN X0.here hx rfl (hb hby d12_0) rfl rfl ?_
    refine XS.ifnonnullYes X0.here hx rfl (pc0 := 1) (pc' := 12) rfl (hb hby d12_1) rfl (by decide) (by decide) ?_
    refine XS.aloadN X0.here hx rfl (hb hby d12_12) rfl rfl ?_
    exact k)
  obtain ⟨T2, X2, e2, st2⟩ := getF X0 hx hZ hown (host := "") (Or.inl (wq hw 68 rfl)) Via.refl e0 I1 (g := (mkF m 13 #[.val (.ref o0), .val (.ref o1), .unset] [(.ref o0)])) rfl rfl (hb hby d12_13)
  have pre3 := Go.thn pre1 st2
  have pre4 : Go p e below T2 _ (mkF m 19 #[.val (.ref o0), .val (.ref o1), .val (.ref oe)] [(.ref o0), (.ref oe)]) _ := fun t k => pre3 t (by
    refine XS.astoreN X2.here hx rfl (hb hby d12_16) rfl rfl (l' := #[.val (.ref o0), .val (.ref o1), .val (.ref oe)]) rfl ?_
    refine XS.aloadN X2.here hx rfl (hb hby d12_17) rfl rfl ?_
    refine XS.aloadN X2.here hx rfl (hb hby d12_18) rfl rfl ?_
    exact k)
  obtain ⟨T5, X5, e5, st5⟩ := getF X2 hx hZ hown (host := "") (Or.inl (wq hw 95 rfl)) Via.refl e2 I2 (g := (mkF m 19 #[.val (.ref o0), .val (.ref o1), .val (.ref oe)] [(.ref o0), (.ref oe)])) rfl rfl (hb hby d12_19)
  have pre6 := Go.thn pre4 st5
  have pre7 : Go p e below T5 _ (mkF m 23 #[.val (.ref o0), .val (.ref o1), .val (.ref oe)] [(.ref o1), (.int 2), (.ref oe)]) _ := fun t k => pre6 t (by
    refine XS.aloadN X5.here hx rfl (hb hby d12_22) rfl rfl ?_
    exact k)
  obtain ⟨cl8, Ar8, q8, Sz8, Mn8, Hs8, Gs8⟩ := id I4
  have hin8 : ¬ ((2 : Int32) < 0 ∨ cl8.slots.size ≤ ((2 : Int32)).toNatClampNeg) := inb_of Sz8 ⟨by decide, by decide⟩
  obtain ⟨T8, h8, X8, e8, W8, st8⟩ := stR X5 hx hZ e5 Ar8 (j := (2 : Int32)) hin8 rfl (Sto.ofV Ar8 q8 I5 (Ins.of_exa I6 (wq hw 97 rfl))) (g := (mkF m 23 #[.val (.ref o0), .val (.ref o1), .val (.ref oe)] [(.ref o1), (.int 2), (.ref oe)])) rfl rfl (hb hby d12_23)
  have V8 : Arh Z h8 oe ke (.object "java/lang/Object") (17 : Int32) [((2 : Int32), (.ref o1)), ((1 : Int32), (.ref m1)), ((0 : Int32), (.ref m0))] [] .null := Arh.push Ar8 q8 Sz8 Mn8 Hs8 Gs8 rfl W8 hin8
  have N8 := Fr.snoc X8 N0 gw_oe
  have K8 : Keep h0 h8 [o0, oe] := K0.wr W8 (Or.inl (List.mem_of_getElem? (i := 1) rfl))
  have Z8 : n0 ≤ h8.size := Nat.le_trans Z0 (Keep.of_wr W8).1
  have x9 := I0.wr W8
  have x10 := I1.other W8 (Or.inl ne_o0_oe)
  have x11 := I2.other W8 (Or.inl ne_o0_oe)
  have x12 := I3.other W8 (Or.inl ne_o0_oe)
  have x13 := I6.wr W8
  have pre14 := Go.thn pre7 st8
  have pre15 : Go p e below T8 _ (mkF m 25 #[.val (.ref o0), .val (.ref o1), .val (.ref oe)] [(.ref o0)]) _ := fun t k => pre14 t (by
    refine XS.aloadN X8.here hx rfl (hb hby d12_24) rfl rfl ?_
    exact k)
  obtain ⟨T16, X16, e16, st16⟩ := getF X8 hx hZ hown (host := "") (Or.inl (wq hw 98 rfl)) Via.refl e8 x12 (g := (mkF m 25 #[.val (.ref o0), .val (.ref o1), .val (.ref oe)] [(.ref o0)])) rfl rfl (hb hby d12_25)
  have pre17 := Go.thn pre15 st16
  have pre18 : Go p e below T16 _ (mkF m 30 #[.val (.ref o0), .val (.ref o1), .val (.ref oe)] [(.ref o0), (.ref o0), (.int 0)]) _ := fun t k => pre17 t (by
    refine XS.aloadN X16.here hx rfl (hb hby d12_28) rfl rfl ?_
    refine XS.aloadN X16.here hx rfl (hb hby d12_29) rfl rfl ?_
    exact k)
  obtain ⟨T19, X19, e19, st19⟩ := getF X16 hx hZ hown (host := "") (Or.inl (wq hw 95 rfl)) Via.refl e16 x11 (g := (mkF m 30 #[.val (.ref o0), .val (.ref o1), .val (.ref oe)] [(.ref o0), (.ref o0), (.int 0)])) rfl rfl (hb hby d12_30)
  have pre20 := Go.thn pre18 st19
  have pre21 : Go p e below T19 _ (mkF m 34 #[.val (.ref o0), .val (.ref o1), .val (.ref oe)] [(.ref oe), (.int 2), (.ref o0), (.int 0)]) _ := fun t k => pre20 t (by
    refine XS.aloadN X19.here hx rfl (hb hby d12_33) rfl rfl ?_
    exact k)
  obtain ⟨cl22, Ar22, -, Sz22, Mn22, Hs22, -⟩ := id V8
  have pre23 : Go p e below T19 _ (mkF m 35 #[.val (.ref o0), .val (.ref o1), .val (.ref oe)] [(.int 17), (.int 2), (.ref o0), (.int 0)]) _ := fun t k => pre21 t (by
    show Steps p.tables e below (T19.setTop (mkF m 34 #[.val (.ref o0), .val (.ref o1), .val (.ref oe)] [(.ref oe), (.int 2), (.ref o0), (.int 0)])) _
    refine X19.arraylength hx (by rw [e19]; exact Ar22.1) (State.isArrayOf_alike hZ.alike Ar22.2.1) (g := (mkF m 34 #[.val (.ref o0), .val (.ref o1), .val (.ref oe)] [(.ref oe), (.int 2), (.ref o0), (.int 0)])) rfl rfl (hb hby d12_34) _ ?_
    rw [len_of Sz22 Mn22]
    exact k)
  obtain ⟨_, _, ⟨T24, L24, k24, n24⟩, -, X24, ⟨Lc24, hQ24, l24, y24, z24⟩, st24⟩ := Jvm.LawKit.callS X19 hx (y := Nm_16) hown (mvT hZ (wq hw 100 rfl)) (mvT hZ (wq hw 101 rfl)) (mvT hZ (wq hw 55 rfl)) (mvT hZ (wq hw 102 rfl)) (by decide) (backOf (W := 2) (rm13 l Z a0 hw [] (2 : Int32) (17 : Int32) h8 n0 Z8) hZ (wq hw 102 rfl) (wq hw 55 rfl) (by decide) (by decide)) (g := (mkF m 35 #[.val (.ref o0), .val (.ref o1), .val (.ref oe)] [(.int 17), (.int 2), (.ref o0), (.int 0)])) rfl (by rw [hml]; rfl) (argsL := [(.int 2), (.int 17)]) (rest := [(.ref o0), (.int 0)]) (lenOf pd__II_I rfl) rfl (w00 rfl) (hb hby d12_35) (fun _ _ => ⟨rfl, e19, (by decide : 0 + 0 ≤ _), (by decide : 0 + 0 ≤ _)⟩)
  dsimp only [Pt.U, Pt.locs, Pt.cells, Pt.slots] at X24 l24 y24 z24 st24 hQ24
  subst l24 y24 z24
  obtain ⟨rfl, Nq24, e24⟩ := hQ24
  have N24 := Fr.app N8 Nq24
  have pre25 := Go.thn pre23 st24
  have pre26 : Go p e below T24 _ (mkF m 39 #[.val (.ref o0), .val (.ref o1), .val (.ref oe)] [(.int 3), (.ref o0), (.int 3), (.int 0)]) _ := fun t k => pre25 t (by
    show Steps p.tables e below (T24.setTop (mkF m 38 #[.val (.ref o0), .val (.ref o1), .val (.ref oe)] [(.int (f13 (2 : Int32) (17 : Int32))), (.ref o0), (.int 0)])) _
    rw [show f13 (2 : Int32) (17 : Int32) = (3 : Int32) from rfl]
    refine XT.dupX1 X24.here hx rfl (hb hby d12_38) rfl rfl rfl ?_
    exact k)
  obtain ⟨T27, h27, X27, e27, W27, st27⟩ := putF X24 hx hZ hown (host := "") (Or.inl (wq hw 95 rfl)) Via.refl e24 x11 x9 (Or.inl (wq hw 96 rfl)) (wq hw 54 rfl) (ty := .int) (by decide) rfl rfl (g := (mkF m 39 #[.val (.ref o0), .val (.ref o1), .val (.ref oe)] [(.int 3), (.ref o0), (.int 3), (.int 0)])) rfl rfl (hb hby d12_39)
  have N27 := Fr.snoc X27 N24 gw_o0
  have K27 : Keep h0 h27 [o0, oe] := K8.wr W27 (Or.inl (List.mem_of_getElem? (i := 0) rfl))
  have Z27 : n0 ≤ h27.size := Nat.le_trans Z8 (Keep.of_wr W27).1
  have x28 := x9.wr W27
  have x29 := x10.other W27 (Or.inr (slot_ne (Or.inl (wq hw 69 rfl)) (Or.inl (wq hw 96 rfl)) (by decide) (t := (.array (.object "java/lang/Object"))) (t' := .int) (by decide) (by decide)))
  have x30 := x11.same W27
  have x31 := x12.other W27 (Or.inr (slot_ne (Or.inl (wq hw 99 rfl)) (Or.inl (wq hw 96 rfl)) (by decide) (t := .int) (t' := .int) (by decide) (by decide)))
  have x32 := x13.wr W27
  have x33 := V8.other W27 (Ne.symm ne_o0_oe)
  have pre34 := Go.thn pre26 st27
  have pre35 : Go p e below T27 _ (mkF m 50 #[.val (.ref o0), .val (.ref o1), .val (.ref oe)] []) _ := fun t k => pre34 t (by
    refine XS.icmpYes X27.here hx rfl (pc0 := 42) (pc' := 50) rfl (hb hby d12_42) rfl (by decide) (by decide) (by decide) ?_
    exact k)
  obtain ⟨fs, hr, hrun, hended, hW, hsame⟩ := X27.leave (v := none) (fun _ => rfl)
  refine ⟨_, _, ?_, hrun, hended, _, _, rfl, ?_, ⟨_, rfl⟩, hW, hsame.mono (by decide) (by decide)⟩
  · exact pre35 _ (X27.returnOut hx Bd.returns (hb hby d12_50) hr)
  · show Q12_2 Z o0 o1 oe ke m1 m0 h0 n0 _ T27.heap _
    rw [e27]
    exact ⟨rfl, N27, K27, x28, x29, x30, x31, x33⟩
def f11_2 : Int32 := (1 : Int32)
def Q11_2 (Z : State) (o0 : Addr) (o1 : Addr) (oe : Addr) (ke : ClassId) (m1 : Addr) (m0 : Addr) (h0 : Heap) (n0 : Nat) (v : Option Value) (h : Heap) (L : List Loc) : Prop := v = (some (.int (f11_2))) ∧ Fr n0 L ∧ Keep h0 h [o0, oe] ∧ Exa Z h o0 "java/util/ArrayDeque" ∧ Fld Z h o0 "java/util/ArrayDeque" "elements" "[Ljava/lang/Object;" (.ref oe) ∧ Fld Z h o0 "java/util/ArrayDeque" "tail" "I" (.int 3) ∧ Fld Z h o0 "java/util/ArrayDeque" "head" "I" (.int 0) ∧ Arh Z h oe ke (.object "java/lang/Object") (17 : Int32) [((2 : Int32), (.ref o1)), ((1 : Int32), (.ref m1)), ((0 : Int32), (.ref m0))] [] .null
set_option maxRecDepth 65536 in
set_option maxHeartbeats 40000000 in
theorem rm11_2 (l : Launch) (Z : State) (a0 : Array Value) (hw : ∀ d ∈ tables_1, d.before a0 Z = true) (ws : List Jvm.Cond) (o0 : Addr) (o1 : Addr) (oe : Addr) (ke : ClassId) (m1 : Addr) (m0 : Addr) (h0 : Heap) (n0 : Nat) (Z0 : n0 ≤ h0.size) (I0 : Exa Z h0 o0 "java/util/ArrayDeque") (I1 : Fld Z h0 o0 "java/util/ArrayDeque" "elements" "[Ljava/lang/Object;" (.ref oe)) (I2 : Fld Z h0 o0 "java/util/ArrayDeque" "tail" "I" (.int 2)) (I3 : Fld Z h0 o0 "java/util/ArrayDeque" "head" "I" (.int 0)) (I4 : Arh Z h0 oe ke (.object "java/lang/Object") (17 : Int32) [((1 : Int32), (.ref m1)), ((0 : Int32), (.ref m0))] [] .null) (I5 : Ovr Z ke "java/lang/Object") (I6 : Exa Z h0 o1 "com/example/oncemark/oncemark/Message") (gw_o0 : n0 ≤ o0) (gw_oe : n0 ≤ oe) (ne_o0_oe : o0 ≠ oe) :
    Met1 l Nm_21 (Jvm.Cond.code Nm_21 jdk_21_method_28_code 2 (some .boolean)) ws (rom 2 0 0 29) #[(.ref o0), (.ref o1)] Z h0 (Q11_2 Z o0 o1 oe ke m1 m0 h0 n0) := by
  refine MetFree.of_bodySF (plainFor_of_name pn_11) hisR ?_
  intro p e s m args below meth c s₁ Bd hml0 hP hK
  obtain ⟨rfl, hZ, hh⟩ := hP
  have hx := Bd.exec
  have hby := Bd.bytes
  have hml : c.maxLocals = 2 := hml0
  have hown : s.vm.findClass "java/util/ArrayDeque" = some m.cls := findClass_of_methodNamed Bd.named
  have X0 : Stand p l e (rom 2 0 0 29) s m _ _ _ _ _ [] 0 0 := Stand.of_body Bd
  have e0 : s₁.heap = h0 := by rw [← hh, Bd.state]; rfl
  have N0 := Fr.nil n0
  have K0 : Keep h0 h0 [o0, oe] := Keep.refl _ _
  have pre0 : Go p e below s₁ _ (mkF m 0 #[.val (.ref o0), .val (.ref o1)] []) _ := fun t k => castTop (ef_11_0 m o0 o1) k
  have pre1 : Go p e below s₁ _ (mkF m 2 #[.val (.ref o0), .val (.ref o1)] [(.ref o1), (.ref o0)]) _ := fun t k => pre0 t (by
    refine XS.aloadN X0.here hx rfl (hb hby d11_0) rfl rfl ?_
    refine XS.aloadN X0.here hx rfl (hb hby d11_1) rfl rfl ?_
    exact k)
  obtain ⟨cq2, kq2, q2a, q2b, q2c⟩ := isOf hZ e0 I0
  obtain ⟨_, _, ⟨T2, L2, k2, n2⟩, -, X2, ⟨Lc2, hQ2, l2, y2, z2⟩, st2⟩ := X0.virtualBack hx (y := Nm_20) (z := Nm_20) hown (mvT hZ (wq hw 90 rfl)) (mvT hZ (wq hw 91 rfl)) (notFace_of_selects (args := #[]) (mvT hZ (wq hw 93 rfl))) (mvT hZ (wq hw 93 rfl)) (mvT hZ (wq hw 92 rfl)) (by decide) (backOf (W := 0) (rm12_2 l Z a0 hw [] o0 o1 oe _ m1 m0 h0 n0 Z0 I0 I1 I2 I3 I4 I5 I6 gw_o0 gw_oe ne_o0_oe) hZ (wq hw 94 rfl) (wq hw 55 rfl) (by decide) (by decide)) q2a q2c (g := (mkF m 2 #[.val (.ref o0), .val (.ref o1)] [(.ref o1), (.ref o0)])) rfl (by rw [hml]; rfl) (Steps.refl _) (argsL := [(.ref o1)]) (rest := []) (lenOf pd__Ljava_lang_Object__V rfl) rfl (w00 rfl) (hb hby d11_2) (fun _ _ => ⟨rfl, e0, (by decide : 0 + 0 ≤ _), (by decide : 0 + 0 ≤ _)⟩)
  dsimp only [Pt.U, Pt.locs, Pt.cells, Pt.slots] at X2 l2 y2 z2 st2 hQ2
  subst l2 y2 z2
  obtain ⟨rfl, Nq2, Kq2, o2_0, o2_1, o2_2, o2_3, o2_4⟩ := hQ2
  have N2 := Fr.app N0 Nq2
  have K2 : Keep h0 T2.heap [o0, oe] := K0.trans Kq2 (allS (Or.inl (List.mem_of_getElem? (i := 0) rfl)) (allS (Or.inl (List.mem_of_getElem? (i := 1) rfl)) all0))
  have Z2 : n0 ≤ T2.heap.size := Nat.le_trans Z0 Kq2.1
  have x3 := I0.keep Kq2
  have x4 := I6.keep Kq2
  have pre5 := Go.trn pre1 st2
  have pre6 : Go p e below T2 _ (mkF m 6 #[.val (.ref o0), .val (.ref o1)] [(.int 1)]) _ := fun t k => pre5 t (by
    refine XS.iconst X2.here hx rfl (hb hby d11_5) ?_
    exact k)
  obtain ⟨fs, hr, hrun, hended, hW, hsame⟩ := X2.leave (v := some (.int 1)) (fun h => by rw [Bd.returns] at h; cases h)
  refine ⟨_, _, ?_, hrun, hended, _, _, rfl, ?_, ⟨_, rfl⟩, hW, hsame.mono (by decide) (by decide)⟩
  · exact pre6 _ (retN X2 hx (t := .boolean) Bd.returns (by simp) (hb hby d11_6) hr)
  · show Q11_2 Z o0 o1 oe ke m1 m0 h0 n0 _ T2.heap _
    skip
    exact ⟨by simp only [f11_2], N2, K2, o2_0, o2_1, o2_2, o2_3, o2_4⟩
def Q10_2 (Z : State) (o0 : Addr) (o1 : Addr) (wcs : Int32) (od : Addr) (mm : Int32) (mx : Int64) (vs : Int64) (oe : Addr) (ke : ClassId) (m1 : Addr) (m0 : Addr) (vb : Int64) (jb : Nat) (h0 : Heap) (n0 : Nat) (v : Option Value) (h : Heap) (L : List Loc) : Prop := v = none ∧ Fr n0 L ∧ Keep h0 h [o0, od, oe] ∧ Exa Z h o0 "com/example/oncemark/oncemark/ReceiveQueue" ∧ Fld Z h o0 "com/example/oncemark/oncemark/ReceiveQueue" "messages" "Ljava/util/Deque;" (.ref od) ∧ Fld Z h o0 "com/example/oncemark/oncemark/ReceiveQueue" "maxMessages" "I" (.int mm) ∧ Fld Z h o0 "com/example/oncemark/oncemark/ReceiveQueue" "maxBytes" "J" (.long mx) ∧ Fld Z h o0 "com/example/oncemark/oncemark/ReceiveQueue" "bytes" "J" (.long (vs + vb)) ∧ Exa Z h od "java/util/ArrayDeque" ∧ Fld Z h od "java/util/ArrayDeque" "elements" "[Ljava/lang/Object;" (.ref oe) ∧ Fld Z h od "java/util/ArrayDeque" "tail" "I" (.int 3) ∧ Fld Z h od "java/util/ArrayDeque" "head" "I" (.int 0) ∧ Arh Z h oe ke (.object "java/lang/Object") (17 : Int32) [((2 : Int32), (.ref o1)), ((1 : Int32), (.ref m1)), ((0 : Int32), (.ref m0))] [] .null
set_option maxRecDepth 65536 in
set_option maxHeartbeats 40000000 in
theorem rm10_2 (l : Launch) (Z : State) (a0 : Array Value) (hw : ∀ d ∈ tables_1, d.before a0 Z = true) (ws : List Jvm.Cond) (o0 : Addr) (o1 : Addr) (wcs : Int32) (od : Addr) (mm : Int32) (mx : Int64) (vs : Int64) (oe : Addr) (ke : ClassId) (m1 : Addr) (m0 : Addr) (vb : Int64) (jb : Nat) (h0 : Heap) (n0 : Nat) (Z0 : n0 ≤ h0.size) (I0 : Sta Z h0 "java/lang/String" "COMPACT_STRINGS" "Z" (.int wcs)) (I1 : Exa Z h0 o0 "com/example/oncemark/oncemark/ReceiveQueue") (I2 : Fld Z h0 o0 "com/example/oncemark/oncemark/ReceiveQueue" "messages" "Ljava/util/Deque;" (.ref od)) (I3 : Fld Z h0 o0 "com/example/oncemark/oncemark/ReceiveQueue" "maxMessages" "I" (.int mm)) (I4 : Fld Z h0 o0 "com/example/oncemark/oncemark/ReceiveQueue" "maxBytes" "J" (.long mx)) (I5 : Fld Z h0 o0 "com/example/oncemark/oncemark/ReceiveQueue" "bytes" "J" (.long vs)) (I6 : Exa Z h0 od "java/util/ArrayDeque") (I7 : Fld Z h0 od "java/util/ArrayDeque" "elements" "[Ljava/lang/Object;" (.ref oe)) (I8 : Fld Z h0 od "java/util/ArrayDeque" "tail" "I" (.int 2)) (I9 : Fld Z h0 od "java/util/ArrayDeque" "head" "I" (.int 0)) (I10 : Arh Z h0 oe ke (.object "java/lang/Object") (17 : Int32) [((1 : Int32), (.ref m1)), ((0 : Int32), (.ref m0))] [] .null) (I11 : Ovr Z ke "java/lang/Object") (I12 : Exa Z h0 o1 "com/example/oncemark/oncemark/Message") (I13 : own_M Z h0 o1 jb vb) (hjs : jb ≤ h0.size) (hj_o0 : jb ≤ o0) (hj_od : jb ≤ od) (hj_oe : jb ≤ oe) (gw_o0 : n0 ≤ o0) (gw_od : n0 ≤ od) (gw_oe : n0 ≤ oe) (ne_o0_od : o0 ≠ od) (ne_o0_oe : o0 ≠ oe) (ne_od_oe : od ≠ oe) (hcs : ¬ (wcs = (0 : Int32))) :
    Met1 l Nm_22 (Jvm.Cond.code Nm_22 prog_24_method_7_code 2 none) ws (rom 3 0 0 42) #[(.ref o0), (.ref o1)] Z h0 (Q10_2 Z o0 o1 wcs od mm mx vs oe ke m1 m0 vb jb h0 n0) := by
  refine MetFree.of_bodySF (plainFor_of_name pn_10) hisR ?_
  intro p e s m args below meth c s₁ Bd hml0 hP hK
  obtain ⟨rfl, hZ, hh⟩ := hP
  have hx := Bd.exec
  have hby := Bd.bytes
  have hml : c.maxLocals = 2 := hml0
  have hown : s.vm.findClass "com/example/oncemark/oncemark/ReceiveQueue" = some m.cls := findClass_of_methodNamed Bd.named
  have X0 : Stand p l e (rom 3 0 0 42) s m _ _ _ _ _ [] 0 0 := Stand.of_body Bd
  have e0 : s₁.heap = h0 := by rw [← hh, Bd.state]; rfl
  have N0 := Fr.nil n0
  have K0 : Keep h0 h0 [o0, od, oe] := Keep.refl _ _
  have pre0 : Go p e below s₁ _ (mkF m 0 #[.val (.ref o0), .val (.ref o1)] []) _ := fun t k => castTop (ef_10_0 m o0 o1) k
  have pre1 : Go p e below s₁ _ (mkF m 1 #[.val (.ref o0), .val (.ref o1)] [(.ref o0)]) _ := fun t k => pre0 t (by
    refine XS.aloadN X0.here hx rfl (hb hby d10_0) rfl rfl ?_
    exact k)
  obtain ⟨T2, X2, e2, st2⟩ := getF X0 hx hZ hown (host := "") (Or.inl (wq hw 70 rfl)) Via.refl e0 I2 (g := (mkF m 1 #[.val (.ref o0), .val (.ref o1)] [(.ref o0)])) rfl rfl (hb hby d10_1)
  have pre3 := Go.thn pre1 st2
  have pre4 : Go p e below T2 _ (mkF m 5 #[.val (.ref o0), .val (.ref o1)] [(.ref o1), (.ref od)]) _ := fun t k => pre3 t (by
    refine XS.aloadN X2.here hx rfl (hb hby d10_4) rfl rfl ?_
    exact k)
  obtain ⟨cq5, kq5, q5a, q5b, q5c⟩ := isOf hZ e2 I6
  obtain ⟨_, _, ⟨T5, L5, k5, n5⟩, -, X5, ⟨Lc5, hQ5, l5, y5, z5⟩, st5⟩ := X2.interfaceBack hx (xi := Nm_23) (y := Nm_21) hown (mvT hZ (wq hw 81 rfl)) (mvT hZ (wq hw 82 rfl)) (mvT hZ (wq hw 83 rfl)) (mvT hZ (wq hw 84 rfl)) (mvT hZ (wq hw 85 rfl)) (mvT hZ (wq hw 86 rfl)) (mvT hZ (wq hw 87 rfl)) (mvT hZ (wq hw 88 rfl)) (by decide) (backOf (W := 0) (rm11_2 l Z a0 hw [] od o1 oe _ m1 m0 h0 n0 Z0 I6 I7 I8 I9 I10 I11 I12 gw_od gw_oe ne_od_oe) hZ (wq hw 89 rfl) (wq hw 55 rfl) (by decide) (by decide)) q5a q5b q5c (g := (mkF m 5 #[.val (.ref o0), .val (.ref o1)] [(.ref o1), (.ref od)])) rfl (by rw [hml]; rfl) (Steps.refl _) (argsL := [(.ref o1)]) (rest := []) (lenOf pd__Ljava_lang_Object__Z rfl) rfl (w00 rfl) (hb hby d10_5) (fun _ _ => ⟨rfl, e2, (by decide : 0 + 0 ≤ _), (by decide : 0 + 0 ≤ _)⟩)
  dsimp only [Pt.U, Pt.locs, Pt.cells, Pt.slots] at X5 l5 y5 z5 st5 hQ5
  subst l5 y5 z5
  obtain ⟨rfl, Nq5, Kq5, o5_0, o5_1, o5_2, o5_3, o5_4⟩ := hQ5
  have N5 := Fr.app N0 Nq5
  have K5 : Keep h0 T5.heap [o0, od, oe] := K0.trans Kq5 (allS (Or.inl (List.mem_of_getElem? (i := 1) rfl)) (allS (Or.inl (List.mem_of_getElem? (i := 2) rfl)) all0))
  have Z5 : n0 ≤ T5.heap.size := Nat.le_trans Z0 Kq5.1
  have x6 := own_staK I0 Kq5 (allS (own_plE I6) (allS (own_plH I10) all0))
  have x7 := I1.keep Kq5
  have x8 := I2.keep Kq5 (ninS ne_o0_od (ninS ne_o0_oe nin0))
  have x9 := I3.keep Kq5 (ninS ne_o0_od (ninS ne_o0_oe nin0))
  have x10 := I4.keep Kq5 (ninS ne_o0_od (ninS ne_o0_oe nin0))
  have x11 := I5.keep Kq5 (ninS ne_o0_od (ninS ne_o0_oe nin0))
  have x12 := I6.keep Kq5
  have x13 := I12.keep Kq5
  have x14 := I13.keep Kq5 (allS hj_od (allS hj_oe all0))
  have pre15 := Go.trn pre4 st5
  have jl5 : jb ≤ T5.heap.size := Nat.le_trans hjs Kq5.1
  have pre16 : Go p e below T5 _ (mkF m 13 #[.val (.ref o0), .val (.ref o1)] [(.ref o0), (.ref o0)]) _ := fun t k => pre15 t (by
    refine XS.pop X5.here hx rfl (hb hby d10_10) rfl rfl ?_
    refine XS.aloadN X5.here hx rfl (hb hby d10_11) rfl rfl ?_
    refine XS.dup X5.here hx rfl (hb hby d10_12) rfl rfl ?_
    exact k)
  obtain ⟨T17, X17, e17, st17⟩ := getF X5 hx hZ hown (host := "") (Or.inl (wq hw 103 rfl)) Via.refl rfl x11 (g := (mkF m 13 #[.val (.ref o0), .val (.ref o1)] [(.ref o0), (.ref o0)])) rfl rfl (hb hby d10_13)
  have pre18 := Go.thn pre16 st17
  have pre19 : Go p e below T17 _ (mkF m 17 #[.val (.ref o0), .val (.ref o1)] [(.ref o1), (.long vs), (.ref o0)]) _ := fun t k => pre18 t (by
    refine XS.aloadN X17.here hx rfl (hb hby d10_16) rfl rfl ?_
    exact k)
  obtain ⟨_, _, ⟨T20, L20, k20, n20⟩, -, X20, ⟨Lc20, hQ20, l20, y20, z20⟩, st20⟩ := Jvm.LawKit.callS X17 hx (y := Nm_15) hown (mvT hZ (wq hw 105 rfl)) (mvT hZ (wq hw 106 rfl)) (mvT hZ (wq hw 48 rfl)) (mvT hZ (wq hw 107 rfl)) (by decide) (backOf (W := 3) (rm14 l Z a0 hw [] o1 wcs vb jb T5.heap n0 Z5 x6 x14 jl5 hcs) hZ (wq hw 107 rfl) (wq hw 48 rfl) (by decide) (by decide)) (g := (mkF m 17 #[.val (.ref o0), .val (.ref o1)] [(.ref o1), (.long vs), (.ref o0)])) rfl (by rw [hml]; rfl) (argsL := [(.ref o1)]) (rest := [(.long vs), (.ref o0)]) (lenOf pd__Lcom_example_oncemark_oncemark_Message__J rfl) rfl (w00 rfl) (hb hby d10_17) (fun _ _ => ⟨rfl, e17, (by decide : 0 + 0 ≤ _), (by decide : 0 + 0 ≤ _)⟩)
  dsimp only [Pt.U, Pt.locs, Pt.cells, Pt.slots] at X20 l20 y20 z20 st20 hQ20
  subst l20 y20 z20
  obtain ⟨rfl, Nq20, e20⟩ := hQ20
  have N20 := Fr.app N5 Nq20
  have pre21 := Go.thn pre19 st20
  have pre22 : Go p e below T20 _ (mkF m 21 #[.val (.ref o0), .val (.ref o1)] [(.long (vs + vb)), (.ref o0)]) _ := fun t k => pre21 t (by
    refine XS.ladd X20.here hx rfl (hb hby d10_20) rfl ?_
    exact k)
  obtain ⟨T23, h23, X23, e23, W23, st23⟩ := putF X20 hx hZ hown (host := "") (Or.inl (wq hw 103 rfl)) Via.refl e20 x11 x7 (Or.inl (wq hw 104 rfl)) (wq hw 47 rfl) (ty := .long) (by decide) rfl rfl (g := (mkF m 21 #[.val (.ref o0), .val (.ref o1)] [(.long (vs + vb)), (.ref o0)])) rfl rfl (hb hby d10_21)
  have N23 := Fr.snoc X23 N20 gw_o0
  have K23 : Keep h0 h23 [o0, od, oe] := K5.wr W23 (Or.inl (List.mem_of_getElem? (i := 0) rfl))
  have Z23 : n0 ≤ h23.size := Nat.le_trans Z5 (Keep.of_wr W23).1
  have x24 := x6.wr W23
  have x25 := x7.wr W23
  have x26 := x8.other W23 (Or.inr (slot_ne (Or.inr (wq hw 71 rfl)) (Or.inl (wq hw 104 rfl)) (by decide) (t := (.object "java/util/Deque")) (t' := .long) (by decide) (by decide)))
  have x27 := x9.other W23 (Or.inr (slot_ne (Or.inr (wq hw 73 rfl)) (Or.inl (wq hw 104 rfl)) (by decide) (t := .int) (t' := .long) (by decide) (by decide)))
  have x28 := x10.other W23 (Or.inr (slot_ne (Or.inr (wq hw 75 rfl)) (Or.inl (wq hw 104 rfl)) (by decide) (t := .long) (t' := .long) (by decide) (by decide)))
  have x29 := x11.same W23
  have x30 := o5_0.wr W23
  have x31 := x13.wr W23
  have x32 := x14.keep (Keep.of_wr W23) (allS hj_o0 all0)
  have x33 := o5_1.other W23 (Or.inl (Ne.symm ne_o0_od))
  have x34 := o5_2.other W23 (Or.inl (Ne.symm ne_o0_od))
  have x35 := o5_3.other W23 (Or.inl (Ne.symm ne_o0_od))
  have x36 := o5_4.other W23 (Ne.symm ne_o0_oe)
  have pre37 := Go.thn pre22 st23
  have jl23 : jb ≤ h23.size := Nat.le_trans jl5 (Keep.of_wr W23).1
  obtain ⟨fs, hr, hrun, hended, hW, hsame⟩ := X23.leave (v := none) (fun _ => rfl)
  refine ⟨_, _, ?_, hrun, hended, _, _, rfl, ?_, ⟨_, rfl⟩, hW, hsame.mono (by decide) (by decide)⟩
  · exact pre37 _ (X23.returnOut hx Bd.returns (hb hby d10_24) hr)
  · show Q10_2 Z o0 o1 wcs od mm mx vs oe ke m1 m0 vb jb h0 n0 _ T23.heap _
    rw [e23]
    exact ⟨rfl, N23, K23, x25, x26, x27, x28, x29, x30, x33, x34, x35, x36⟩
theorem d19_0 : decode jdk_21_method_37_code 0 = .ok (.aload_n 0, 1) := by decide +kernel
theorem d19_1 : decode jdk_21_method_37_code 1 = .ok (.getfield 20, 3) := by decide +kernel
theorem d19_4 : decode jdk_21_method_37_code 4 = .ok (.aload_n 0, 1) := by decide +kernel
theorem d19_5 : decode jdk_21_method_37_code 5 = .ok (.getfield 24, 3) := by decide +kernel
theorem d19_8 : decode jdk_21_method_37_code 8 = .ok (.aload_n 0, 1) := by decide +kernel
theorem d19_9 : decode jdk_21_method_37_code 9 = .ok (.getfield 3, 3) := by decide +kernel
theorem d19_12 : decode jdk_21_method_37_code 12 = .ok (.arraylength, 1) := by decide +kernel
theorem d19_13 : decode jdk_21_method_37_code 13 = .ok (.invokestatic 127, 3) := by decide +kernel
theorem d19_16 : decode jdk_21_method_37_code 16 = .ok (.ireturn, 1) := by decide +kernel
theorem pn_19 : plainName "java/util/ArrayDeque" = true := by first | (simp [plainName, overriddenIn]; done) | decide +kernel
theorem pd__III_I : parseMethodDescriptor "(III)I" = some ⟨[.int, .int, .int], some .int⟩ := by decide +kernel
theorem ef_19_0 (m : MethodId) (x0 : Addr) : entryFrame m #[(.ref x0)] 1 = mkF m 0 #[.val (.ref x0)] [] := by first | (simp [entryFrame, mkF, argsToLocals, Value.category]; done) | rfl
def f19_0 : Int32 := (f20 (0 : Int32) (0 : Int32) (17 : Int32))
set_option maxRecDepth 65536 in
set_option maxHeartbeats 40000000 in
theorem rm19_0 (l : Launch) (Z : State) (a0 : Array Value) (hw : ∀ d ∈ tables_1, d.before a0 Z = true) (ws : List Jvm.Cond) (o0 : Addr) (oe : Addr) (ke : ClassId) (h0 : Heap) (n0 : Nat) (Z0 : n0 ≤ h0.size) (I0 : Exa Z h0 o0 "java/util/ArrayDeque") (I1 : Fld Z h0 o0 "java/util/ArrayDeque" "elements" "[Ljava/lang/Object;" (.ref oe)) (I2 : Fld Z h0 o0 "java/util/ArrayDeque" "tail" "I" (.int 0)) (I3 : Fld Z h0 o0 "java/util/ArrayDeque" "head" "I" (.int 0)) (I4 : Arh Z h0 oe ke (.object "java/lang/Object") (17 : Int32) [] [] .null) (I5 : Ovr Z ke "java/lang/Object") :
    Met1 l Nm_24 (Jvm.Cond.code Nm_24 jdk_21_method_37_code 1 (some .int)) ws (rom 1 0 0 14) #[(.ref o0)] Z h0 (QP (some (.int (f19_0))) h0 n0) := by
  refine MetFree.of_bodySF (plainFor_of_name pn_19) hisR ?_
  intro p e s m args below meth c s₁ Bd hml0 hP hK
  obtain ⟨rfl, hZ, hh⟩ := hP
  have hx := Bd.exec
  have hby := Bd.bytes
  have hml : c.maxLocals = 1 := hml0
  have hown : s.vm.findClass "java/util/ArrayDeque" = some m.cls := findClass_of_methodNamed Bd.named
  have X0 : Stand p l e (rom 1 0 0 14) s m _ _ _ _ _ [] 0 0 := Stand.of_body Bd
  have e0 : s₁.heap = h0 := by rw [← hh, Bd.state]; rfl
  have N0 := Fr.nil n0
  have K0 : Keep h0 h0 [] := Keep.refl _ _
  have pre0 : Go p e below s₁ _ (mkF m 0 #[.val (.ref o0)] []) _ := fun t k => castTop (ef_19_0 m o0) k
  have pre1 : Go p e below s₁ _ (mkF m 1 #[.val (.ref o0)] [(.ref o0)]) _ := fun t k => pre0 t (by
    refine XS.aloadN X0.here hx rfl (hb hby d19_0) rfl rfl ?_
    exact k)
  obtain ⟨T2, X2, e2, st2⟩ := getF X0 hx hZ hown (host := "") (Or.inl (wq hw 95 rfl)) Via.refl e0 I2 (g := (mkF m 1 #[.val (.ref o0)] [(.ref o0)])) rfl rfl (hb hby d19_1)
  have pre3 := Go.thn pre1 st2
  have pre4 : Go p e below T2 _ (mkF m 5 #[.val (.ref o0)] [(.ref o0), (.int 0)]) _ := fun t k => pre3 t (by
    refine XS.aloadN X2.here hx rfl (hb hby d19_4) rfl rfl ?_
    exact k)
  obtain ⟨T5, X5, e5, st5⟩ := getF X2 hx hZ hown (host := "") (Or.inl (wq hw 98 rfl)) Via.refl e2 I3 (g := (mkF m 5 #[.val (.ref o0)] [(.ref o0), (.int 0)])) rfl rfl (hb hby d19_5)
  have pre6 := Go.thn pre4 st5
  have pre7 : Go p e below T5 _ (mkF m 9 #[.val (.ref o0)] [(.ref o0), (.int 0), (.int 0)]) _ := fun t k => pre6 t (by
    refine XS.aloadN X5.here hx rfl (hb hby d19_8) rfl rfl ?_
    exact k)
  obtain ⟨T8, X8, e8, st8⟩ := getF X5 hx hZ hown (host := "") (Or.inl (wq hw 68 rfl)) Via.refl e5 I1 (g := (mkF m 9 #[.val (.ref o0)] [(.ref o0), (.int 0), (.int 0)])) rfl rfl (hb hby d19_9)
  have pre9 := Go.thn pre7 st8
  obtain ⟨cl10, Ar10, -, Sz10, Mn10, Hs10, -⟩ := id I4
  have pre11 : Go p e below T8 _ (mkF m 13 #[.val (.ref o0)] [(.int 17), (.int 0), (.int 0)]) _ := fun t k => pre9 t (by
    show Steps p.tables e below (T8.setTop (mkF m 12 #[.val (.ref o0)] [(.ref oe), (.int 0), (.int 0)])) _
    refine X8.arraylength hx (by rw [e8]; exact Ar10.1) (State.isArrayOf_alike hZ.alike Ar10.2.1) (g := (mkF m 12 #[.val (.ref o0)] [(.ref oe), (.int 0), (.int 0)])) rfl rfl (hb hby d19_12) _ ?_
    rw [len_of Sz10 Mn10]
    exact k)
  obtain ⟨_, _, ⟨T12, L12, k12, n12⟩, -, X12, ⟨Lc12, hQ12, l12, y12, z12⟩, st12⟩ := Jvm.LawKit.callS X8 hx (y := Nm_17) hown (mvT hZ (wq hw 134 rfl)) (mvT hZ (wq hw 135 rfl)) (mvT hZ (wq hw 55 rfl)) (mvT hZ (wq hw 136 rfl)) (by decide) (backOf (W := 0) (rm20 l Z a0 hw [] (0 : Int32) (0 : Int32) (17 : Int32) h0 n0 Z0) hZ (wq hw 136 rfl) (wq hw 55 rfl) (by decide) (by decide)) (g := (mkF m 13 #[.val (.ref o0)] [(.int 17), (.int 0), (.int 0)])) rfl (by rw [hml]; rfl) (argsL := [(.int 0), (.int 0), (.int 17)]) (rest := []) (lenOf pd__III_I rfl) rfl (w00 rfl) (hb hby d19_13) (fun _ _ => ⟨rfl, e8, (by decide : 0 + 0 ≤ _), (by decide : 0 + 0 ≤ _)⟩)
  dsimp only [Pt.U, Pt.locs, Pt.cells, Pt.slots] at X12 l12 y12 z12 st12 hQ12
  subst l12 y12 z12
  obtain ⟨rfl, Nq12, e12⟩ := hQ12
  have N12 := Fr.app N0 Nq12
  have pre13 := Go.thn pre11 st12
  obtain ⟨fs, hr, hrun, hended, hW, hsame⟩ := X12.leave (v := some (.int (f20 (0 : Int32) (0 : Int32) (17 : Int32)))) (fun h => by rw [Bd.returns] at h; cases h)
  refine ⟨_, _, ?_, hrun, hended, _, _, rfl, ?_, ⟨_, rfl⟩, hW, hsame.mono (by decide) (by decide)⟩
  · exact pre13 _ (retI X12 hx Bd.returns (hb hby d19_16) hr)
  · exact ⟨by simp only [f19_0], N12, e12⟩
theorem d18_0 : decode prog_24_method_4_code 0 = .ok (.aload_n 0, 1) := by decide +kernel
theorem d18_1 : decode prog_24_method_4_code 1 = .ok (.getfield 10, 3) := by decide +kernel
theorem d18_4 : decode prog_24_method_4_code 4 = .ok (.invokeinterface 40 1, 5) := by decide +kernel
theorem d18_9 : decode prog_24_method_4_code 9 = .ok (.aload_n 0, 1) := by decide +kernel
theorem d18_10 : decode prog_24_method_4_code 10 = .ok (.getfield 16, 3) := by decide +kernel
theorem d18_13 : decode prog_24_method_4_code 13 = .ok (.iconst 2, 1) := by decide +kernel
theorem d18_14 : decode prog_24_method_4_code 14 = .ok (.idiv, 1) := by decide +kernel
theorem d18_15 : decode prog_24_method_4_code 15 = .ok (.if_icmp .gt 23, 3) := by decide +kernel
theorem d18_18 : decode prog_24_method_4_code 18 = .ok (.aload_n 0, 1) := by decide +kernel
theorem d18_19 : decode prog_24_method_4_code 19 = .ok (.getfield 45, 3) := by decide +kernel
theorem d18_22 : decode prog_24_method_4_code 22 = .ok (.aload_n 0, 1) := by decide +kernel
theorem d18_23 : decode prog_24_method_4_code 23 = .ok (.getfield 20, 3) := by decide +kernel
theorem d18_26 : decode prog_24_method_4_code 26 = .ok (.ldc2_w 48, 3) := by decide +kernel
theorem d18_29 : decode prog_24_method_4_code 29 = .ok (.ldiv, 1) := by decide +kernel
theorem d18_30 : decode prog_24_method_4_code 30 = .ok (.lcmp, 1) := by decide +kernel
theorem d18_31 : decode prog_24_method_4_code 31 = .ok (.ifCond .gt 7, 3) := by decide +kernel
theorem d18_34 : decode prog_24_method_4_code 34 = .ok (.iconst 1, 1) := by decide +kernel
theorem d18_35 : decode prog_24_method_4_code 35 = .ok (.goto 4, 3) := by decide +kernel
theorem d18_38 : decode prog_24_method_4_code 38 = .ok (.iconst 0, 1) := by decide +kernel
theorem d18_39 : decode prog_24_method_4_code 39 = .ok (.ireturn, 1) := by decide +kernel
theorem pn_18 : plainName "com/example/oncemark/oncemark/ReceiveQueue" = true := by first | (simp [plainName, overriddenIn]; done) | decide +kernel
theorem ef_18_0 (m : MethodId) (x0 : Addr) : entryFrame m #[(.ref x0)] 1 = mkF m 0 #[.val (.ref x0)] [] := by first | (simp [entryFrame, mkF, argsToLocals, Value.category]; done) | rfl
def f18_0 (mm : Int32) (mx : Int64) (vs : Int64) : Int32 := (if (mm / (2 : Int32)) < (f19_0) then (0 : Int32) else (if (mx / (2 : Int64)) < vs then (0 : Int32) else (1 : Int32)))
set_option maxRecDepth 65536 in
set_option maxHeartbeats 40000000 in
theorem rm18_0 (l : Launch) (Z : State) (a0 : Array Value) (hw : ∀ d ∈ tables_1, d.before a0 Z = true) (ws : List Jvm.Cond) (o0 : Addr) (od : Addr) (mm : Int32) (mx : Int64) (vs : Int64) (oe : Addr) (ke : ClassId) (h0 : Heap) (n0 : Nat) (Z0 : n0 ≤ h0.size) (I0 : Fld Z h0 o0 "com/example/oncemark/oncemark/ReceiveQueue" "messages" "Ljava/util/Deque;" (.ref od)) (I1 : Fld Z h0 o0 "com/example/oncemark/oncemark/ReceiveQueue" "maxMessages" "I" (.int mm)) (I2 : Fld Z h0 o0 "com/example/oncemark/oncemark/ReceiveQueue" "maxBytes" "J" (.long mx)) (I3 : Fld Z h0 o0 "com/example/oncemark/oncemark/ReceiveQueue" "bytes" "J" (.long vs)) (I4 : Exa Z h0 od "java/util/ArrayDeque") (I5 : Fld Z h0 od "java/util/ArrayDeque" "elements" "[Ljava/lang/Object;" (.ref oe)) (I6 : Fld Z h0 od "java/util/ArrayDeque" "tail" "I" (.int 0)) (I7 : Fld Z h0 od "java/util/ArrayDeque" "head" "I" (.int 0)) (I8 : Arh Z h0 oe ke (.object "java/lang/Object") (17 : Int32) [] [] .null) (I9 : Ovr Z ke "java/lang/Object") :
    Met1 l Nm_25 (Jvm.Cond.code Nm_25 prog_24_method_4_code 1 (some .boolean)) ws (rom 2 0 0 26) #[(.ref o0)] Z h0 (QP (some (.int (f18_0 mm mx vs))) h0 n0) := by
  refine MetFree.of_bodySF (plainFor_of_name pn_18) hisR ?_
  intro p e s m args below meth c s₁ Bd hml0 hP hK
  obtain ⟨rfl, hZ, hh⟩ := hP
  have hx := Bd.exec
  have hby := Bd.bytes
  have hml : c.maxLocals = 1 := hml0
  have hown : s.vm.findClass "com/example/oncemark/oncemark/ReceiveQueue" = some m.cls := findClass_of_methodNamed Bd.named
  have X0 : Stand p l e (rom 2 0 0 26) s m _ _ _ _ _ [] 0 0 := Stand.of_body Bd
  have e0 : s₁.heap = h0 := by rw [← hh, Bd.state]; rfl
  have N0 := Fr.nil n0
  have K0 : Keep h0 h0 [] := Keep.refl _ _
  have pre0 : Go p e below s₁ _ (mkF m 0 #[.val (.ref o0)] []) _ := fun t k => castTop (ef_18_0 m o0) k
  have pre3 : Go p e below s₁ _ (mkF m 1 #[.val (.ref o0)] [(.ref o0)]) _ := fun t k => pre0 t (by
    refine XS.aloadN X0.here hx rfl (hb hby d18_0) rfl rfl ?_
    exact k)
  obtain ⟨T4, X4, e4, st4⟩ := getF X0 hx hZ hown (host := "") (Or.inl (wq hw 70 rfl)) Via.refl e0 I0 (g := (mkF m 1 #[.val (.ref o0)] [(.ref o0)])) rfl rfl (hb hby d18_1)
  have pre5 := Go.thn pre3 st4
  obtain ⟨cq6, kq6, q6a, q6b, q6c⟩ := isOf hZ e4 I4
  obtain ⟨_, _, ⟨T6, L6, k6, n6⟩, -, X6, ⟨Lc6, hQ6, l6, y6, z6⟩, st6⟩ := X4.interfaceBack hx (xi := Nm_26) (y := Nm_24) hown (mvT hZ (wq hw 126 rfl)) (mvT hZ (wq hw 127 rfl)) (mvT hZ (wq hw 128 rfl)) (mvT hZ (wq hw 129 rfl)) (mvT hZ (wq hw 130 rfl)) (mvT hZ (wq hw 131 rfl)) (mvT hZ (wq hw 132 rfl)) (mvT hZ (wq hw 88 rfl)) (by decide) (backOf (W := 0) (rm19_0 l Z a0 hw [] od oe _ h0 n0 Z0 I4 I5 I6 I7 I8 I9) hZ (wq hw 133 rfl) (wq hw 55 rfl) (by decide) (by decide)) q6a q6b q6c (g := (mkF m 4 #[.val (.ref o0)] [(.ref od)])) rfl (by rw [hml]; rfl) (Steps.refl _) (argsL := []) (rest := []) (lenOf pd___I rfl) rfl (w00 rfl) (hb hby d18_4) (fun _ _ => ⟨rfl, e4, (by decide : 0 + 0 ≤ _), (by decide : 0 + 0 ≤ _)⟩)
  dsimp only [Pt.U, Pt.locs, Pt.cells, Pt.slots] at X6 l6 y6 z6 st6 hQ6
  subst l6 y6 z6
  obtain ⟨rfl, Nq6, e6⟩ := hQ6
  have N6 := Fr.app N0 Nq6
  have pre7 := Go.trn pre5 st6
  have pre8 : Go p e below T6 _ (mkF m 10 #[.val (.ref o0)] [(.ref o0), (.int (f19_0))]) _ := fun t k => pre7 t (by
    refine XS.aloadN X6.here hx rfl (hb hby d18_9) rfl rfl ?_
    exact k)
  obtain ⟨T9, X9, e9, st9⟩ := getF X6 hx hZ hown (host := "") (Or.inl (wq hw 72 rfl)) Via.refl e6 I1 (g := (mkF m 10 #[.val (.ref o0)] [(.ref o0), (.int (f19_0))])) rfl rfl (hb hby d18_10)
  have pre10 := Go.thn pre8 st9
  have pre11 : Go p e below T9 _ (mkF m 15 #[.val (.ref o0)] [(.int (mm / (2 : Int32))), (.int (f19_0))]) _ := fun t k => pre10 t (by
    refine XS.iconst X9.here hx rfl (hb hby d18_13) ?_
    refine XS.idiv X9.here hx rfl (hb hby d18_14) rfl (by decide) ?_
    exact k)
  by_cases hc15_1 : (mm / (2 : Int32)) < (f19_0)
  · have pre12 : Go p e below T9 _ (mkF m 39 #[.val (.ref o0)] [(.int 0)]) _ := fun t k => pre11 t (by
      refine XS.icmpYes X9.here hx rfl (pc0 := 15) (pc' := 38) rfl (hb hby d18_15) rfl (tlt hc15_1).2.2.1 (by decide) (by decide) ?_
      refine XS.iconst X9.here hx rfl (hb hby d18_38) ?_
      exact k)
    obtain ⟨fs, hr, hrun, hended, hW, hsame⟩ := X9.leave (v := some (.int 0)) (fun h => by rw [Bd.returns] at h; cases h)
    refine ⟨_, _, ?_, hrun, hended, _, _, rfl, ?_, ⟨_, rfl⟩, hW, hsame.mono (by decide) (by decide)⟩
    · exact pre12 _ (retN X9 hx (t := .boolean) Bd.returns (by simp) (hb hby d18_39) hr)
    · exact ⟨by simp only [f18_0, if_pos hc15_1], N6, e9⟩
  · have pre13 : Go p e below T9 _ (mkF m 19 #[.val (.ref o0)] [(.ref o0)]) _ := fun t k => pre11 t (by
      refine XS.icmpNo X9.here hx rfl (hb hby d18_15) rfl (flt hc15_1).2.2.1 ?_
      refine XS.aloadN X9.here hx rfl (hb hby d18_18) rfl rfl ?_
      exact k)
    obtain ⟨T14, X14, e14, st14⟩ := getF X9 hx hZ hown (host := "") (Or.inl (wq hw 103 rfl)) Via.refl e9 I3 (g := (mkF m 19 #[.val (.ref o0)] [(.ref o0)])) rfl rfl (hb hby d18_19)
    have pre15 := Go.thn pre13 st14
    have pre16 : Go p e below T14 _ (mkF m 23 #[.val (.ref o0)] [(.ref o0), (.long vs)]) _ := fun t k => pre15 t (by
      refine XS.aloadN X14.here hx rfl (hb hby d18_22) rfl rfl ?_
      exact k)
    obtain ⟨T17, X17, e17, st17⟩ := getF X14 hx hZ hown (host := "") (Or.inl (wq hw 74 rfl)) Via.refl e14 I2 (g := (mkF m 23 #[.val (.ref o0)] [(.ref o0), (.long vs)])) rfl rfl (hb hby d18_23)
    have pre18 := Go.thn pre16 st17
    have pre19 : Go p e below T17 _ (mkF m 31 #[.val (.ref o0)] [(.int (lcmpW vs (mx / (2 : Int64))))]) _ := fun t k => pre18 t (by
      refine X17.ldc2Long hx hown (mvT hZ (wq hw 161 rfl)) (g := (mkF m 26 #[.val (.ref o0)] [(.long mx), (.long vs)])) rfl (hb hby d18_26) _ ?_
      refine XS.ldiv X17.here hx rfl (hb hby d18_29) rfl (by decide) ?_
      refine XS.lcmp X17.here hx rfl (hb hby d18_30) rfl ?_
      exact k)
    by_cases hc31_2 : (mx / (2 : Int64)) < vs
    · have pre20 : Go p e below T17 _ (mkF m 39 #[.val (.ref o0)] [(.int 0)]) _ := fun t k => pre19 t (by
        refine XS.ifYes X17.here hx rfl (pc0 := 31) (pc' := 38) rfl (hb hby d18_31) rfl ((if0 _ _).trans (tlt ((lw_gt _ _).mpr hc31_2)).2.2.1) (by decide) (by decide) ?_
        refine XS.iconst X17.here hx rfl (hb hby d18_38) ?_
        exact k)
      obtain ⟨fs, hr, hrun, hended, hW, hsame⟩ := X17.leave (v := some (.int 0)) (fun h => by rw [Bd.returns] at h; cases h)
      refine ⟨_, _, ?_, hrun, hended, _, _, rfl, ?_, ⟨_, rfl⟩, hW, hsame.mono (by decide) (by decide)⟩
      · exact pre20 _ (retN X17 hx (t := .boolean) Bd.returns (by simp) (hb hby d18_39) hr)
      · exact ⟨by simp only [f18_0, if_neg hc15_1, if_pos hc31_2], N6, e17⟩
    · have pre21 : Go p e below T17 _ (mkF m 39 #[.val (.ref o0)] [(.int 1)]) _ := fun t k => pre19 t (by
        refine XS.ifNo X17.here hx rfl (hb hby d18_31) rfl ((if0 _ _).trans (flt (fun q => hc31_2 ((lw_gt _ _).mp q))).2.2.1) ?_
        refine XS.iconst X17.here hx rfl (hb hby d18_34) ?_
        refine XS.goto X17.here hx rfl (pc0 := 35) (pc' := 39) rfl (hb hby d18_35) (by decide) (by decide) ?_
        exact k)
      obtain ⟨fs, hr, hrun, hended, hW, hsame⟩ := X17.leave (v := some (.int 1)) (fun h => by rw [Bd.returns] at h; cases h)
      refine ⟨_, _, ?_, hrun, hended, _, _, rfl, ?_, ⟨_, rfl⟩, hW, hsame.mono (by decide) (by decide)⟩
      · exact pre21 _ (retN X17 hx (t := .boolean) Bd.returns (by simp) (hb hby d18_39) hr)
      · exact ⟨by simp only [f18_0, if_neg hc15_1, if_neg hc31_2], N6, e17⟩
def f19_1 : Int32 := (f20 (1 : Int32) (0 : Int32) (17 : Int32))
set_option maxRecDepth 65536 in
set_option maxHeartbeats 40000000 in
theorem rm19_1 (l : Launch) (Z : State) (a0 : Array Value) (hw : ∀ d ∈ tables_1, d.before a0 Z = true) (ws : List Jvm.Cond) (o0 : Addr) (oe : Addr) (ke : ClassId) (m0 : Addr) (h0 : Heap) (n0 : Nat) (Z0 : n0 ≤ h0.size) (I0 : Exa Z h0 o0 "java/util/ArrayDeque") (I1 : Fld Z h0 o0 "java/util/ArrayDeque" "elements" "[Ljava/lang/Object;" (.ref oe)) (I2 : Fld Z h0 o0 "java/util/ArrayDeque" "tail" "I" (.int 1)) (I3 : Fld Z h0 o0 "java/util/ArrayDeque" "head" "I" (.int 0)) (I4 : Arh Z h0 oe ke (.object "java/lang/Object") (17 : Int32) [((0 : Int32), (.ref m0))] [] .null) (I5 : Ovr Z ke "java/lang/Object") :
    Met1 l Nm_24 (Jvm.Cond.code Nm_24 jdk_21_method_37_code 1 (some .int)) ws (rom 1 0 0 14) #[(.ref o0)] Z h0 (QP (some (.int (f19_1))) h0 n0) := by
  refine MetFree.of_bodySF (plainFor_of_name pn_19) hisR ?_
  intro p e s m args below meth c s₁ Bd hml0 hP hK
  obtain ⟨rfl, hZ, hh⟩ := hP
  have hx := Bd.exec
  have hby := Bd.bytes
  have hml : c.maxLocals = 1 := hml0
  have hown : s.vm.findClass "java/util/ArrayDeque" = some m.cls := findClass_of_methodNamed Bd.named
  have X0 : Stand p l e (rom 1 0 0 14) s m _ _ _ _ _ [] 0 0 := Stand.of_body Bd
  have e0 : s₁.heap = h0 := by rw [← hh, Bd.state]; rfl
  have N0 := Fr.nil n0
  have K0 : Keep h0 h0 [] := Keep.refl _ _
  have pre0 : Go p e below s₁ _ (mkF m 0 #[.val (.ref o0)] []) _ := fun t k => castTop (ef_19_0 m o0) k
  have pre1 : Go p e below s₁ _ (mkF m 1 #[.val (.ref o0)] [(.ref o0)]) _ := fun t k => pre0 t (by
    refine XS.aloadN X0.here hx rfl (hb hby d19_0) rfl rfl ?_
    exact k)
  obtain ⟨T2, X2, e2, st2⟩ := getF X0 hx hZ hown (host := "") (Or.inl (wq hw 95 rfl)) Via.refl e0 I2 (g := (mkF m 1 #[.val (.ref o0)] [(.ref o0)])) rfl rfl (hb hby d19_1)
  have pre3 := Go.thn pre1 st2
  have pre4 : Go p e below T2 _ (mkF m 5 #[.val (.ref o0)] [(.ref o0), (.int 1)]) _ := fun t k => pre3 t (by
    refine XS.aloadN X2.here hx rfl (hb hby d19_4) rfl rfl ?_
    exact k)
  obtain ⟨T5, X5, e5, st5⟩ := getF X2 hx hZ hown (host := "") (Or.inl (wq hw 98 rfl)) Via.refl e2 I3 (g := (mkF m 5 #[.val (.ref o0)] [(.ref o0), (.int 1)])) rfl rfl (hb hby d19_5)
  have pre6 := Go.thn pre4 st5
  have pre7 : Go p e below T5 _ (mkF m 9 #[.val (.ref o0)] [(.ref o0), (.int 0), (.int 1)]) _ := fun t k => pre6 t (by
    refine XS.aloadN X5.here hx rfl (hb hby d19_8) rfl rfl ?_
    exact k)
  obtain ⟨T8, X8, e8, st8⟩ := getF X5 hx hZ hown (host := "") (Or.inl (wq hw 68 rfl)) Via.refl e5 I1 (g := (mkF m 9 #[.val (.ref o0)] [(.ref o0), (.int 0), (.int 1)])) rfl rfl (hb hby d19_9)
  have pre9 := Go.thn pre7 st8
  obtain ⟨cl10, Ar10, -, Sz10, Mn10, Hs10, -⟩ := id I4
  have pre11 : Go p e below T8 _ (mkF m 13 #[.val (.ref o0)] [(.int 17), (.int 0), (.int 1)]) _ := fun t k => pre9 t (by
    show Steps p.tables e below (T8.setTop (mkF m 12 #[.val (.ref o0)] [(.ref oe), (.int 0), (.int 1)])) _
    refine X8.arraylength hx (by rw [e8]; exact Ar10.1) (State.isArrayOf_alike hZ.alike Ar10.2.1) (g := (mkF m 12 #[.val (.ref o0)] [(.ref oe), (.int 0), (.int 1)])) rfl rfl (hb hby d19_12) _ ?_
    rw [len_of Sz10 Mn10]
    exact k)
  obtain ⟨_, _, ⟨T12, L12, k12, n12⟩, -, X12, ⟨Lc12, hQ12, l12, y12, z12⟩, st12⟩ := Jvm.LawKit.callS X8 hx (y := Nm_17) hown (mvT hZ (wq hw 134 rfl)) (mvT hZ (wq hw 135 rfl)) (mvT hZ (wq hw 55 rfl)) (mvT hZ (wq hw 136 rfl)) (by decide) (backOf (W := 0) (rm20 l Z a0 hw [] (1 : Int32) (0 : Int32) (17 : Int32) h0 n0 Z0) hZ (wq hw 136 rfl) (wq hw 55 rfl) (by decide) (by decide)) (g := (mkF m 13 #[.val (.ref o0)] [(.int 17), (.int 0), (.int 1)])) rfl (by rw [hml]; rfl) (argsL := [(.int 1), (.int 0), (.int 17)]) (rest := []) (lenOf pd__III_I rfl) rfl (w00 rfl) (hb hby d19_13) (fun _ _ => ⟨rfl, e8, (by decide : 0 + 0 ≤ _), (by decide : 0 + 0 ≤ _)⟩)
  dsimp only [Pt.U, Pt.locs, Pt.cells, Pt.slots] at X12 l12 y12 z12 st12 hQ12
  subst l12 y12 z12
  obtain ⟨rfl, Nq12, e12⟩ := hQ12
  have N12 := Fr.app N0 Nq12
  have pre13 := Go.thn pre11 st12
  obtain ⟨fs, hr, hrun, hended, hW, hsame⟩ := X12.leave (v := some (.int (f20 (1 : Int32) (0 : Int32) (17 : Int32)))) (fun h => by rw [Bd.returns] at h; cases h)
  refine ⟨_, _, ?_, hrun, hended, _, _, rfl, ?_, ⟨_, rfl⟩, hW, hsame.mono (by decide) (by decide)⟩
  · exact pre13 _ (retI X12 hx Bd.returns (hb hby d19_16) hr)
  · exact ⟨by simp only [f19_1], N12, e12⟩
def f18_1 (mm : Int32) (mx : Int64) (vs : Int64) : Int32 := (if (mm / (2 : Int32)) < (f19_1) then (0 : Int32) else (if (mx / (2 : Int64)) < vs then (0 : Int32) else (1 : Int32)))
set_option maxRecDepth 65536 in
set_option maxHeartbeats 40000000 in
theorem rm18_1 (l : Launch) (Z : State) (a0 : Array Value) (hw : ∀ d ∈ tables_1, d.before a0 Z = true) (ws : List Jvm.Cond) (o0 : Addr) (od : Addr) (mm : Int32) (mx : Int64) (vs : Int64) (oe : Addr) (ke : ClassId) (m0 : Addr) (h0 : Heap) (n0 : Nat) (Z0 : n0 ≤ h0.size) (I0 : Fld Z h0 o0 "com/example/oncemark/oncemark/ReceiveQueue" "messages" "Ljava/util/Deque;" (.ref od)) (I1 : Fld Z h0 o0 "com/example/oncemark/oncemark/ReceiveQueue" "maxMessages" "I" (.int mm)) (I2 : Fld Z h0 o0 "com/example/oncemark/oncemark/ReceiveQueue" "maxBytes" "J" (.long mx)) (I3 : Fld Z h0 o0 "com/example/oncemark/oncemark/ReceiveQueue" "bytes" "J" (.long vs)) (I4 : Exa Z h0 od "java/util/ArrayDeque") (I5 : Fld Z h0 od "java/util/ArrayDeque" "elements" "[Ljava/lang/Object;" (.ref oe)) (I6 : Fld Z h0 od "java/util/ArrayDeque" "tail" "I" (.int 1)) (I7 : Fld Z h0 od "java/util/ArrayDeque" "head" "I" (.int 0)) (I8 : Arh Z h0 oe ke (.object "java/lang/Object") (17 : Int32) [((0 : Int32), (.ref m0))] [] .null) (I9 : Ovr Z ke "java/lang/Object") :
    Met1 l Nm_25 (Jvm.Cond.code Nm_25 prog_24_method_4_code 1 (some .boolean)) ws (rom 2 0 0 26) #[(.ref o0)] Z h0 (QP (some (.int (f18_1 mm mx vs))) h0 n0) := by
  refine MetFree.of_bodySF (plainFor_of_name pn_18) hisR ?_
  intro p e s m args below meth c s₁ Bd hml0 hP hK
  obtain ⟨rfl, hZ, hh⟩ := hP
  have hx := Bd.exec
  have hby := Bd.bytes
  have hml : c.maxLocals = 1 := hml0
  have hown : s.vm.findClass "com/example/oncemark/oncemark/ReceiveQueue" = some m.cls := findClass_of_methodNamed Bd.named
  have X0 : Stand p l e (rom 2 0 0 26) s m _ _ _ _ _ [] 0 0 := Stand.of_body Bd
  have e0 : s₁.heap = h0 := by rw [← hh, Bd.state]; rfl
  have N0 := Fr.nil n0
  have K0 : Keep h0 h0 [] := Keep.refl _ _
  have pre0 : Go p e below s₁ _ (mkF m 0 #[.val (.ref o0)] []) _ := fun t k => castTop (ef_18_0 m o0) k
  have pre3 : Go p e below s₁ _ (mkF m 1 #[.val (.ref o0)] [(.ref o0)]) _ := fun t k => pre0 t (by
    refine XS.aloadN X0.here hx rfl (hb hby d18_0) rfl rfl ?_
    exact k)
  obtain ⟨T4, X4, e4, st4⟩ := getF X0 hx hZ hown (host := "") (Or.inl (wq hw 70 rfl)) Via.refl e0 I0 (g := (mkF m 1 #[.val (.ref o0)] [(.ref o0)])) rfl rfl (hb hby d18_1)
  have pre5 := Go.thn pre3 st4
  obtain ⟨cq6, kq6, q6a, q6b, q6c⟩ := isOf hZ e4 I4
  obtain ⟨_, _, ⟨T6, L6, k6, n6⟩, -, X6, ⟨Lc6, hQ6, l6, y6, z6⟩, st6⟩ := X4.interfaceBack hx (xi := Nm_26) (y := Nm_24) hown (mvT hZ (wq hw 126 rfl)) (mvT hZ (wq hw 127 rfl)) (mvT hZ (wq hw 128 rfl)) (mvT hZ (wq hw 129 rfl)) (mvT hZ (wq hw 130 rfl)) (mvT hZ (wq hw 131 rfl)) (mvT hZ (wq hw 132 rfl)) (mvT hZ (wq hw 88 rfl)) (by decide) (backOf (W := 0) (rm19_1 l Z a0 hw [] od oe _ m0 h0 n0 Z0 I4 I5 I6 I7 I8 I9) hZ (wq hw 133 rfl) (wq hw 55 rfl) (by decide) (by decide)) q6a q6b q6c (g := (mkF m 4 #[.val (.ref o0)] [(.ref od)])) rfl (by rw [hml]; rfl) (Steps.refl _) (argsL := []) (rest := []) (lenOf pd___I rfl) rfl (w00 rfl) (hb hby d18_4) (fun _ _ => ⟨rfl, e4, (by decide : 0 + 0 ≤ _), (by decide : 0 + 0 ≤ _)⟩)
  dsimp only [Pt.U, Pt.locs, Pt.cells, Pt.slots] at X6 l6 y6 z6 st6 hQ6
  subst l6 y6 z6
  obtain ⟨rfl, Nq6, e6⟩ := hQ6
  have N6 := Fr.app N0 Nq6
  have pre7 := Go.trn pre5 st6
  have pre8 : Go p e below T6 _ (mkF m 10 #[.val (.ref o0)] [(.ref o0), (.int (f19_1))]) _ := fun t k => pre7 t (by
    refine XS.aloadN X6.here hx rfl (hb hby d18_9) rfl rfl ?_
    exact k)
  obtain ⟨T9, X9, e9, st9⟩ := getF X6 hx hZ hown (host := "") (Or.inl (wq hw 72 rfl)) Via.refl e6 I1 (g := (mkF m 10 #[.val (.ref o0)] [(.ref o0), (.int (f19_1))])) rfl rfl (hb hby d18_10)
  have pre10 := Go.thn pre8 st9
  have pre11 : Go p e below T9 _ (mkF m 15 #[.val (.ref o0)] [(.int (mm / (2 : Int32))), (.int (f19_1))]) _ := fun t k => pre10 t (by
    refine XS.iconst X9.here hx rfl (hb hby d18_13) ?_
    refine XS.idiv X9.here hx rfl (hb hby d18_14) rfl (by decide) ?_
    exact k)
  by_cases hc15_1 : (mm / (2 : Int32)) < (f19_1)
  · have pre12 : Go p e below T9 _ (mkF m 39 #[.val (.ref o0)] [(.int 0)]) _ := fun t k => pre11 t (by
      refine XS.icmpYes X9.here hx rfl (pc0 := 15) (pc' := 38) rfl (hb hby d18_15) rfl (tlt hc15_1).2.2.1 (by decide) (by decide) ?_
      refine XS.iconst X9.here hx rfl (hb hby d18_38) ?_
      exact k)
    obtain ⟨fs, hr, hrun, hended, hW, hsame⟩ := X9.leave (v := some (.int 0)) (fun h => by rw [Bd.returns] at h; cases h)
    refine ⟨_, _, ?_, hrun, hended, _, _, rfl, ?_, ⟨_, rfl⟩, hW, hsame.mono (by decide) (by decide)⟩
    · exact pre12 _ (retN X9 hx (t := .boolean) Bd.returns (by simp) (hb hby d18_39) hr)
    · exact ⟨by simp only [f18_1, if_pos hc15_1], N6, e9⟩
  · have pre13 : Go p e below T9 _ (mkF m 19 #[.val (.ref o0)] [(.ref o0)]) _ := fun t k => pre11 t (by
      refine XS.icmpNo X9.here hx rfl (hb hby d18_15) rfl (flt hc15_1).2.2.1 ?_
      refine XS.aloadN X9.here hx rfl (hb hby d18_18) rfl rfl ?_
      exact k)
    obtain ⟨T14, X14, e14, st14⟩ := getF X9 hx hZ hown (host := "") (Or.inl (wq hw 103 rfl)) Via.refl e9 I3 (g := (mkF m 19 #[.val (.ref o0)] [(.ref o0)])) rfl rfl (hb hby d18_19)
    have pre15 := Go.thn pre13 st14
    have pre16 : Go p e below T14 _ (mkF m 23 #[.val (.ref o0)] [(.ref o0), (.long vs)]) _ := fun t k => pre15 t (by
      refine XS.aloadN X14.here hx rfl (hb hby d18_22) rfl rfl ?_
      exact k)
    obtain ⟨T17, X17, e17, st17⟩ := getF X14 hx hZ hown (host := "") (Or.inl (wq hw 74 rfl)) Via.refl e14 I2 (g := (mkF m 23 #[.val (.ref o0)] [(.ref o0), (.long vs)])) rfl rfl (hb hby d18_23)
    have pre18 := Go.thn pre16 st17
    have pre19 : Go p e below T17 _ (mkF m 31 #[.val (.ref o0)] [(.int (lcmpW vs (mx / (2 : Int64))))]) _ := fun t k => pre18 t (by
      refine X17.ldc2Long hx hown (mvT hZ (wq hw 161 rfl)) (g := (mkF m 26 #[.val (.ref o0)] [(.long mx), (.long vs)])) rfl (hb hby d18_26) _ ?_
      refine XS.ldiv X17.here hx rfl (hb hby d18_29) rfl (by decide) ?_
      refine XS.lcmp X17.here hx rfl (hb hby d18_30) rfl ?_
      exact k)
    by_cases hc31_2 : (mx / (2 : Int64)) < vs
    · have pre20 : Go p e below T17 _ (mkF m 39 #[.val (.ref o0)] [(.int 0)]) _ := fun t k => pre19 t (by
        refine XS.ifYes X17.here hx rfl (pc0 := 31) (pc' := 38) rfl (hb hby d18_31) rfl ((if0 _ _).trans (tlt ((lw_gt _ _).mpr hc31_2)).2.2.1) (by decide) (by decide) ?_
        refine XS.iconst X17.here hx rfl (hb hby d18_38) ?_
        exact k)
      obtain ⟨fs, hr, hrun, hended, hW, hsame⟩ := X17.leave (v := some (.int 0)) (fun h => by rw [Bd.returns] at h; cases h)
      refine ⟨_, _, ?_, hrun, hended, _, _, rfl, ?_, ⟨_, rfl⟩, hW, hsame.mono (by decide) (by decide)⟩
      · exact pre20 _ (retN X17 hx (t := .boolean) Bd.returns (by simp) (hb hby d18_39) hr)
      · exact ⟨by simp only [f18_1, if_neg hc15_1, if_pos hc31_2], N6, e17⟩
    · have pre21 : Go p e below T17 _ (mkF m 39 #[.val (.ref o0)] [(.int 1)]) _ := fun t k => pre19 t (by
        refine XS.ifNo X17.here hx rfl (hb hby d18_31) rfl ((if0 _ _).trans (flt (fun q => hc31_2 ((lw_gt _ _).mp q))).2.2.1) ?_
        refine XS.iconst X17.here hx rfl (hb hby d18_34) ?_
        refine XS.goto X17.here hx rfl (pc0 := 35) (pc' := 39) rfl (hb hby d18_35) (by decide) (by decide) ?_
        exact k)
      obtain ⟨fs, hr, hrun, hended, hW, hsame⟩ := X17.leave (v := some (.int 1)) (fun h => by rw [Bd.returns] at h; cases h)
      refine ⟨_, _, ?_, hrun, hended, _, _, rfl, ?_, ⟨_, rfl⟩, hW, hsame.mono (by decide) (by decide)⟩
      · exact pre21 _ (retN X17 hx (t := .boolean) Bd.returns (by simp) (hb hby d18_39) hr)
      · exact ⟨by simp only [f18_1, if_neg hc15_1, if_neg hc31_2], N6, e17⟩
def f19_2 : Int32 := (f20 (2 : Int32) (0 : Int32) (17 : Int32))
set_option maxRecDepth 65536 in
set_option maxHeartbeats 40000000 in
theorem rm19_2 (l : Launch) (Z : State) (a0 : Array Value) (hw : ∀ d ∈ tables_1, d.before a0 Z = true) (ws : List Jvm.Cond) (o0 : Addr) (oe : Addr) (ke : ClassId) (m1 : Addr) (m0 : Addr) (h0 : Heap) (n0 : Nat) (Z0 : n0 ≤ h0.size) (I0 : Exa Z h0 o0 "java/util/ArrayDeque") (I1 : Fld Z h0 o0 "java/util/ArrayDeque" "elements" "[Ljava/lang/Object;" (.ref oe)) (I2 : Fld Z h0 o0 "java/util/ArrayDeque" "tail" "I" (.int 2)) (I3 : Fld Z h0 o0 "java/util/ArrayDeque" "head" "I" (.int 0)) (I4 : Arh Z h0 oe ke (.object "java/lang/Object") (17 : Int32) [((1 : Int32), (.ref m1)), ((0 : Int32), (.ref m0))] [] .null) (I5 : Ovr Z ke "java/lang/Object") :
    Met1 l Nm_24 (Jvm.Cond.code Nm_24 jdk_21_method_37_code 1 (some .int)) ws (rom 1 0 0 14) #[(.ref o0)] Z h0 (QP (some (.int (f19_2))) h0 n0) := by
  refine MetFree.of_bodySF (plainFor_of_name pn_19) hisR ?_
  intro p e s m args below meth c s₁ Bd hml0 hP hK
  obtain ⟨rfl, hZ, hh⟩ := hP
  have hx := Bd.exec
  have hby := Bd.bytes
  have hml : c.maxLocals = 1 := hml0
  have hown : s.vm.findClass "java/util/ArrayDeque" = some m.cls := findClass_of_methodNamed Bd.named
  have X0 : Stand p l e (rom 1 0 0 14) s m _ _ _ _ _ [] 0 0 := Stand.of_body Bd
  have e0 : s₁.heap = h0 := by rw [← hh, Bd.state]; rfl
  have N0 := Fr.nil n0
  have K0 : Keep h0 h0 [] := Keep.refl _ _
  have pre0 : Go p e below s₁ _ (mkF m 0 #[.val (.ref o0)] []) _ := fun t k => castTop (ef_19_0 m o0) k
  have pre1 : Go p e below s₁ _ (mkF m 1 #[.val (.ref o0)] [(.ref o0)]) _ := fun t k => pre0 t (by
    refine XS.aloadN X0.here hx rfl (hb hby d19_0) rfl rfl ?_
    exact k)
  obtain ⟨T2, X2, e2, st2⟩ := getF X0 hx hZ hown (host := "") (Or.inl (wq hw 95 rfl)) Via.refl e0 I2 (g := (mkF m 1 #[.val (.ref o0)] [(.ref o0)])) rfl rfl (hb hby d19_1)
  have pre3 := Go.thn pre1 st2
  have pre4 : Go p e below T2 _ (mkF m 5 #[.val (.ref o0)] [(.ref o0), (.int 2)]) _ := fun t k => pre3 t (by
    refine XS.aloadN X2.here hx rfl (hb hby d19_4) rfl rfl ?_
    exact k)
  obtain ⟨T5, X5, e5, st5⟩ := getF X2 hx hZ hown (host := "") (Or.inl (wq hw 98 rfl)) Via.refl e2 I3 (g := (mkF m 5 #[.val (.ref o0)] [(.ref o0), (.int 2)])) rfl rfl (hb hby d19_5)
  have pre6 := Go.thn pre4 st5
  have pre7 : Go p e below T5 _ (mkF m 9 #[.val (.ref o0)] [(.ref o0), (.int 0), (.int 2)]) _ := fun t k => pre6 t (by
    refine XS.aloadN X5.here hx rfl (hb hby d19_8) rfl rfl ?_
    exact k)
  obtain ⟨T8, X8, e8, st8⟩ := getF X5 hx hZ hown (host := "") (Or.inl (wq hw 68 rfl)) Via.refl e5 I1 (g := (mkF m 9 #[.val (.ref o0)] [(.ref o0), (.int 0), (.int 2)])) rfl rfl (hb hby d19_9)
  have pre9 := Go.thn pre7 st8
  obtain ⟨cl10, Ar10, -, Sz10, Mn10, Hs10, -⟩ := id I4
  have pre11 : Go p e below T8 _ (mkF m 13 #[.val (.ref o0)] [(.int 17), (.int 0), (.int 2)]) _ := fun t k => pre9 t (by
    show Steps p.tables e below (T8.setTop (mkF m 12 #[.val (.ref o0)] [(.ref oe), (.int 0), (.int 2)])) _
    refine X8.arraylength hx (by rw [e8]; exact Ar10.1) (State.isArrayOf_alike hZ.alike Ar10.2.1) (g := (mkF m 12 #[.val (.ref o0)] [(.ref oe), (.int 0), (.int 2)])) rfl rfl (hb hby d19_12) _ ?_
    rw [len_of Sz10 Mn10]
    exact k)
  obtain ⟨_, _, ⟨T12, L12, k12, n12⟩, -, X12, ⟨Lc12, hQ12, l12, y12, z12⟩, st12⟩ := Jvm.LawKit.callS X8 hx (y := Nm_17) hown (mvT hZ (wq hw 134 rfl)) (mvT hZ (wq hw 135 rfl)) (mvT hZ (wq hw 55 rfl)) (mvT hZ (wq hw 136 rfl)) (by decide) (backOf (W := 0) (rm20 l Z a0 hw [] (2 : Int32) (0 : Int32) (17 : Int32) h0 n0 Z0) hZ (wq hw 136 rfl) (wq hw 55 rfl) (by decide) (by decide)) (g := (mkF m 13 #[.val (.ref o0)] [(.int 17), (.int 0), (.int 2)])) rfl (by rw [hml]; rfl) (argsL := [(.int 2), (.int 0), (.int 17)]) (rest := []) (lenOf pd__III_I rfl) rfl (w00 rfl) (hb hby d19_13) (fun _ _ => ⟨rfl, e8, (by decide : 0 + 0 ≤ _), (by decide : 0 + 0 ≤ _)⟩)
  dsimp only [Pt.U, Pt.locs, Pt.cells, Pt.slots] at X12 l12 y12 z12 st12 hQ12
  subst l12 y12 z12
  obtain ⟨rfl, Nq12, e12⟩ := hQ12
  have N12 := Fr.app N0 Nq12
  have pre13 := Go.thn pre11 st12
  obtain ⟨fs, hr, hrun, hended, hW, hsame⟩ := X12.leave (v := some (.int (f20 (2 : Int32) (0 : Int32) (17 : Int32)))) (fun h => by rw [Bd.returns] at h; cases h)
  refine ⟨_, _, ?_, hrun, hended, _, _, rfl, ?_, ⟨_, rfl⟩, hW, hsame.mono (by decide) (by decide)⟩
  · exact pre13 _ (retI X12 hx Bd.returns (hb hby d19_16) hr)
  · exact ⟨by simp only [f19_2], N12, e12⟩
def f18_2 (mm : Int32) (mx : Int64) (vs : Int64) : Int32 := (if (mm / (2 : Int32)) < (f19_2) then (0 : Int32) else (if (mx / (2 : Int64)) < vs then (0 : Int32) else (1 : Int32)))
set_option maxRecDepth 65536 in
set_option maxHeartbeats 40000000 in
theorem rm18_2 (l : Launch) (Z : State) (a0 : Array Value) (hw : ∀ d ∈ tables_1, d.before a0 Z = true) (ws : List Jvm.Cond) (o0 : Addr) (od : Addr) (mm : Int32) (mx : Int64) (vs : Int64) (oe : Addr) (ke : ClassId) (m1 : Addr) (m0 : Addr) (h0 : Heap) (n0 : Nat) (Z0 : n0 ≤ h0.size) (I0 : Fld Z h0 o0 "com/example/oncemark/oncemark/ReceiveQueue" "messages" "Ljava/util/Deque;" (.ref od)) (I1 : Fld Z h0 o0 "com/example/oncemark/oncemark/ReceiveQueue" "maxMessages" "I" (.int mm)) (I2 : Fld Z h0 o0 "com/example/oncemark/oncemark/ReceiveQueue" "maxBytes" "J" (.long mx)) (I3 : Fld Z h0 o0 "com/example/oncemark/oncemark/ReceiveQueue" "bytes" "J" (.long vs)) (I4 : Exa Z h0 od "java/util/ArrayDeque") (I5 : Fld Z h0 od "java/util/ArrayDeque" "elements" "[Ljava/lang/Object;" (.ref oe)) (I6 : Fld Z h0 od "java/util/ArrayDeque" "tail" "I" (.int 2)) (I7 : Fld Z h0 od "java/util/ArrayDeque" "head" "I" (.int 0)) (I8 : Arh Z h0 oe ke (.object "java/lang/Object") (17 : Int32) [((1 : Int32), (.ref m1)), ((0 : Int32), (.ref m0))] [] .null) (I9 : Ovr Z ke "java/lang/Object") :
    Met1 l Nm_25 (Jvm.Cond.code Nm_25 prog_24_method_4_code 1 (some .boolean)) ws (rom 2 0 0 26) #[(.ref o0)] Z h0 (QP (some (.int (f18_2 mm mx vs))) h0 n0) := by
  refine MetFree.of_bodySF (plainFor_of_name pn_18) hisR ?_
  intro p e s m args below meth c s₁ Bd hml0 hP hK
  obtain ⟨rfl, hZ, hh⟩ := hP
  have hx := Bd.exec
  have hby := Bd.bytes
  have hml : c.maxLocals = 1 := hml0
  have hown : s.vm.findClass "com/example/oncemark/oncemark/ReceiveQueue" = some m.cls := findClass_of_methodNamed Bd.named
  have X0 : Stand p l e (rom 2 0 0 26) s m _ _ _ _ _ [] 0 0 := Stand.of_body Bd
  have e0 : s₁.heap = h0 := by rw [← hh, Bd.state]; rfl
  have N0 := Fr.nil n0
  have K0 : Keep h0 h0 [] := Keep.refl _ _
  have pre0 : Go p e below s₁ _ (mkF m 0 #[.val (.ref o0)] []) _ := fun t k => castTop (ef_18_0 m o0) k
  have pre3 : Go p e below s₁ _ (mkF m 1 #[.val (.ref o0)] [(.ref o0)]) _ := fun t k => pre0 t (by
    refine XS.aloadN X0.here hx rfl (hb hby d18_0) rfl rfl ?_
    exact k)
  obtain ⟨T4, X4, e4, st4⟩ := getF X0 hx hZ hown (host := "") (Or.inl (wq hw 70 rfl)) Via.refl e0 I0 (g := (mkF m 1 #[.val (.ref o0)] [(.ref o0)])) rfl rfl (hb hby d18_1)
  have pre5 := Go.thn pre3 st4
  obtain ⟨cq6, kq6, q6a, q6b, q6c⟩ := isOf hZ e4 I4
  obtain ⟨_, _, ⟨T6, L6, k6, n6⟩, -, X6, ⟨Lc6, hQ6, l6, y6, z6⟩, st6⟩ := X4.interfaceBack hx (xi := Nm_26) (y := Nm_24) hown (mvT hZ (wq hw 126 rfl)) (mvT hZ (wq hw 127 rfl)) (mvT hZ (wq hw 128 rfl)) (mvT hZ (wq hw 129 rfl)) (mvT hZ (wq hw 130 rfl)) (mvT hZ (wq hw 131 rfl)) (mvT hZ (wq hw 132 rfl)) (mvT hZ (wq hw 88 rfl)) (by decide) (backOf (W := 0) (rm19_2 l Z a0 hw [] od oe _ m1 m0 h0 n0 Z0 I4 I5 I6 I7 I8 I9) hZ (wq hw 133 rfl) (wq hw 55 rfl) (by decide) (by decide)) q6a q6b q6c (g := (mkF m 4 #[.val (.ref o0)] [(.ref od)])) rfl (by rw [hml]; rfl) (Steps.refl _) (argsL := []) (rest := []) (lenOf pd___I rfl) rfl (w00 rfl) (hb hby d18_4) (fun _ _ => ⟨rfl, e4, (by decide : 0 + 0 ≤ _), (by decide : 0 + 0 ≤ _)⟩)
  dsimp only [Pt.U, Pt.locs, Pt.cells, Pt.slots] at X6 l6 y6 z6 st6 hQ6
  subst l6 y6 z6
  obtain ⟨rfl, Nq6, e6⟩ := hQ6
  have N6 := Fr.app N0 Nq6
  have pre7 := Go.trn pre5 st6
  have pre8 : Go p e below T6 _ (mkF m 10 #[.val (.ref o0)] [(.ref o0), (.int (f19_2))]) _ := fun t k => pre7 t (by
    refine XS.aloadN X6.here hx rfl (hb hby d18_9) rfl rfl ?_
    exact k)
  obtain ⟨T9, X9, e9, st9⟩ := getF X6 hx hZ hown (host := "") (Or.inl (wq hw 72 rfl)) Via.refl e6 I1 (g := (mkF m 10 #[.val (.ref o0)] [(.ref o0), (.int (f19_2))])) rfl rfl (hb hby d18_10)
  have pre10 := Go.thn pre8 st9
  have pre11 : Go p e below T9 _ (mkF m 15 #[.val (.ref o0)] [(.int (mm / (2 : Int32))), (.int (f19_2))]) _ := fun t k => pre10 t (by
    refine XS.iconst X9.here hx rfl (hb hby d18_13) ?_
    refine XS.idiv X9.here hx rfl (hb hby d18_14) rfl (by decide) ?_
    exact k)
  by_cases hc15_1 : (mm / (2 : Int32)) < (f19_2)
  · have pre12 : Go p e below T9 _ (mkF m 39 #[.val (.ref o0)] [(.int 0)]) _ := fun t k => pre11 t (by
      refine XS.icmpYes X9.here hx rfl (pc0 := 15) (pc' := 38) rfl (hb hby d18_15) rfl (tlt hc15_1).2.2.1 (by decide) (by decide) ?_
      refine XS.iconst X9.here hx rfl (hb hby d18_38) ?_
      exact k)
    obtain ⟨fs, hr, hrun, hended, hW, hsame⟩ := X9.leave (v := some (.int 0)) (fun h => by rw [Bd.returns] at h; cases h)
    refine ⟨_, _, ?_, hrun, hended, _, _, rfl, ?_, ⟨_, rfl⟩, hW, hsame.mono (by decide) (by decide)⟩
    · exact pre12 _ (retN X9 hx (t := .boolean) Bd.returns (by simp) (hb hby d18_39) hr)
    · exact ⟨by simp only [f18_2, if_pos hc15_1], N6, e9⟩
  · have pre13 : Go p e below T9 _ (mkF m 19 #[.val (.ref o0)] [(.ref o0)]) _ := fun t k => pre11 t (by
      refine XS.icmpNo X9.here hx rfl (hb hby d18_15) rfl (flt hc15_1).2.2.1 ?_
      refine XS.aloadN X9.here hx rfl (hb hby d18_18) rfl rfl ?_
      exact k)
    obtain ⟨T14, X14, e14, st14⟩ := getF X9 hx hZ hown (host := "") (Or.inl (wq hw 103 rfl)) Via.refl e9 I3 (g := (mkF m 19 #[.val (.ref o0)] [(.ref o0)])) rfl rfl (hb hby d18_19)
    have pre15 := Go.thn pre13 st14
    have pre16 : Go p e below T14 _ (mkF m 23 #[.val (.ref o0)] [(.ref o0), (.long vs)]) _ := fun t k => pre15 t (by
      refine XS.aloadN X14.here hx rfl (hb hby d18_22) rfl rfl ?_
      exact k)
    obtain ⟨T17, X17, e17, st17⟩ := getF X14 hx hZ hown (host := "") (Or.inl (wq hw 74 rfl)) Via.refl e14 I2 (g := (mkF m 23 #[.val (.ref o0)] [(.ref o0), (.long vs)])) rfl rfl (hb hby d18_23)
    have pre18 := Go.thn pre16 st17
    have pre19 : Go p e below T17 _ (mkF m 31 #[.val (.ref o0)] [(.int (lcmpW vs (mx / (2 : Int64))))]) _ := fun t k => pre18 t (by
      refine X17.ldc2Long hx hown (mvT hZ (wq hw 161 rfl)) (g := (mkF m 26 #[.val (.ref o0)] [(.long mx), (.long vs)])) rfl (hb hby d18_26) _ ?_
      refine XS.ldiv X17.here hx rfl (hb hby d18_29) rfl (by decide) ?_
      refine XS.lcmp X17.here hx rfl (hb hby d18_30) rfl ?_
      exact k)
    by_cases hc31_2 : (mx / (2 : Int64)) < vs
    · have pre20 : Go p e below T17 _ (mkF m 39 #[.val (.ref o0)] [(.int 0)]) _ := fun t k => pre19 t (by
        refine XS.ifYes X17.here hx rfl (pc0 := 31) (pc' := 38) rfl (hb hby d18_31) rfl ((if0 _ _).trans (tlt ((lw_gt _ _).mpr hc31_2)).2.2.1) (by decide) (by decide) ?_
        refine XS.iconst X17.here hx rfl (hb hby d18_38) ?_
        exact k)
      obtain ⟨fs, hr, hrun, hended, hW, hsame⟩ := X17.leave (v := some (.int 0)) (fun h => by rw [Bd.returns] at h; cases h)
      refine ⟨_, _, ?_, hrun, hended, _, _, rfl, ?_, ⟨_, rfl⟩, hW, hsame.mono (by decide) (by decide)⟩
      · exact pre20 _ (retN X17 hx (t := .boolean) Bd.returns (by simp) (hb hby d18_39) hr)
      · exact ⟨by simp only [f18_2, if_neg hc15_1, if_pos hc31_2], N6, e17⟩
    · have pre21 : Go p e below T17 _ (mkF m 39 #[.val (.ref o0)] [(.int 1)]) _ := fun t k => pre19 t (by
        refine XS.ifNo X17.here hx rfl (hb hby d18_31) rfl ((if0 _ _).trans (flt (fun q => hc31_2 ((lw_gt _ _).mp q))).2.2.1) ?_
        refine XS.iconst X17.here hx rfl (hb hby d18_34) ?_
        refine XS.goto X17.here hx rfl (pc0 := 35) (pc' := 39) rfl (hb hby d18_35) (by decide) (by decide) ?_
        exact k)
      obtain ⟨fs, hr, hrun, hended, hW, hsame⟩ := X17.leave (v := some (.int 1)) (fun h => by rw [Bd.returns] at h; cases h)
      refine ⟨_, _, ?_, hrun, hended, _, _, rfl, ?_, ⟨_, rfl⟩, hW, hsame.mono (by decide) (by decide)⟩
      · exact pre21 _ (retN X17 hx (t := .boolean) Bd.returns (by simp) (hb hby d18_39) hr)
      · exact ⟨by simp only [f18_2, if_neg hc15_1, if_neg hc31_2], N6, e17⟩
def f19_3 : Int32 := (f20 (3 : Int32) (0 : Int32) (17 : Int32))
set_option maxRecDepth 65536 in
set_option maxHeartbeats 40000000 in
theorem rm19_3 (l : Launch) (Z : State) (a0 : Array Value) (hw : ∀ d ∈ tables_1, d.before a0 Z = true) (ws : List Jvm.Cond) (o0 : Addr) (oe : Addr) (ke : ClassId) (m2 : Addr) (m1 : Addr) (m0 : Addr) (h0 : Heap) (n0 : Nat) (Z0 : n0 ≤ h0.size) (I0 : Exa Z h0 o0 "java/util/ArrayDeque") (I1 : Fld Z h0 o0 "java/util/ArrayDeque" "elements" "[Ljava/lang/Object;" (.ref oe)) (I2 : Fld Z h0 o0 "java/util/ArrayDeque" "tail" "I" (.int 3)) (I3 : Fld Z h0 o0 "java/util/ArrayDeque" "head" "I" (.int 0)) (I4 : Arh Z h0 oe ke (.object "java/lang/Object") (17 : Int32) [((2 : Int32), (.ref m2)), ((1 : Int32), (.ref m1)), ((0 : Int32), (.ref m0))] [] .null) (I5 : Ovr Z ke "java/lang/Object") :
    Met1 l Nm_24 (Jvm.Cond.code Nm_24 jdk_21_method_37_code 1 (some .int)) ws (rom 1 0 0 14) #[(.ref o0)] Z h0 (QP (some (.int (f19_3))) h0 n0) := by
  refine MetFree.of_bodySF (plainFor_of_name pn_19) hisR ?_
  intro p e s m args below meth c s₁ Bd hml0 hP hK
  obtain ⟨rfl, hZ, hh⟩ := hP
  have hx := Bd.exec
  have hby := Bd.bytes
  have hml : c.maxLocals = 1 := hml0
  have hown : s.vm.findClass "java/util/ArrayDeque" = some m.cls := findClass_of_methodNamed Bd.named
  have X0 : Stand p l e (rom 1 0 0 14) s m _ _ _ _ _ [] 0 0 := Stand.of_body Bd
  have e0 : s₁.heap = h0 := by rw [← hh, Bd.state]; rfl
  have N0 := Fr.nil n0
  have K0 : Keep h0 h0 [] := Keep.refl _ _
  have pre0 : Go p e below s₁ _ (mkF m 0 #[.val (.ref o0)] []) _ := fun t k => castTop (ef_19_0 m o0) k
  have pre1 : Go p e below s₁ _ (mkF m 1 #[.val (.ref o0)] [(.ref o0)]) _ := fun t k => pre0 t (by
    refine XS.aloadN X0.here hx rfl (hb hby d19_0) rfl rfl ?_
    exact k)
  obtain ⟨T2, X2, e2, st2⟩ := getF X0 hx hZ hown (host := "") (Or.inl (wq hw 95 rfl)) Via.refl e0 I2 (g := (mkF m 1 #[.val (.ref o0)] [(.ref o0)])) rfl rfl (hb hby d19_1)
  have pre3 := Go.thn pre1 st2
  have pre4 : Go p e below T2 _ (mkF m 5 #[.val (.ref o0)] [(.ref o0), (.int 3)]) _ := fun t k => pre3 t (by
    refine XS.aloadN X2.here hx rfl (hb hby d19_4) rfl rfl ?_
    exact k)
  obtain ⟨T5, X5, e5, st5⟩ := getF X2 hx hZ hown (host := "") (Or.inl (wq hw 98 rfl)) Via.refl e2 I3 (g := (mkF m 5 #[.val (.ref o0)] [(.ref o0), (.int 3)])) rfl rfl (hb hby d19_5)
  have pre6 := Go.thn pre4 st5
  have pre7 : Go p e below T5 _ (mkF m 9 #[.val (.ref o0)] [(.ref o0), (.int 0), (.int 3)]) _ := fun t k => pre6 t (by
    refine XS.aloadN X5.here hx rfl (hb hby d19_8) rfl rfl ?_
    exact k)
  obtain ⟨T8, X8, e8, st8⟩ := getF X5 hx hZ hown (host := "") (Or.inl (wq hw 68 rfl)) Via.refl e5 I1 (g := (mkF m 9 #[.val (.ref o0)] [(.ref o0), (.int 0), (.int 3)])) rfl rfl (hb hby d19_9)
  have pre9 := Go.thn pre7 st8
  obtain ⟨cl10, Ar10, -, Sz10, Mn10, Hs10, -⟩ := id I4
  have pre11 : Go p e below T8 _ (mkF m 13 #[.val (.ref o0)] [(.int 17), (.int 0), (.int 3)]) _ := fun t k => pre9 t (by
    show Steps p.tables e below (T8.setTop (mkF m 12 #[.val (.ref o0)] [(.ref oe), (.int 0), (.int 3)])) _
    refine X8.arraylength hx (by rw [e8]; exact Ar10.1) (State.isArrayOf_alike hZ.alike Ar10.2.1) (g := (mkF m 12 #[.val (.ref o0)] [(.ref oe), (.int 0), (.int 3)])) rfl rfl (hb hby d19_12) _ ?_
    rw [len_of Sz10 Mn10]
    exact k)
  obtain ⟨_, _, ⟨T12, L12, k12, n12⟩, -, X12, ⟨Lc12, hQ12, l12, y12, z12⟩, st12⟩ := Jvm.LawKit.callS X8 hx (y := Nm_17) hown (mvT hZ (wq hw 134 rfl)) (mvT hZ (wq hw 135 rfl)) (mvT hZ (wq hw 55 rfl)) (mvT hZ (wq hw 136 rfl)) (by decide) (backOf (W := 0) (rm20 l Z a0 hw [] (3 : Int32) (0 : Int32) (17 : Int32) h0 n0 Z0) hZ (wq hw 136 rfl) (wq hw 55 rfl) (by decide) (by decide)) (g := (mkF m 13 #[.val (.ref o0)] [(.int 17), (.int 0), (.int 3)])) rfl (by rw [hml]; rfl) (argsL := [(.int 3), (.int 0), (.int 17)]) (rest := []) (lenOf pd__III_I rfl) rfl (w00 rfl) (hb hby d19_13) (fun _ _ => ⟨rfl, e8, (by decide : 0 + 0 ≤ _), (by decide : 0 + 0 ≤ _)⟩)
  dsimp only [Pt.U, Pt.locs, Pt.cells, Pt.slots] at X12 l12 y12 z12 st12 hQ12
  subst l12 y12 z12
  obtain ⟨rfl, Nq12, e12⟩ := hQ12
  have N12 := Fr.app N0 Nq12
  have pre13 := Go.thn pre11 st12
  obtain ⟨fs, hr, hrun, hended, hW, hsame⟩ := X12.leave (v := some (.int (f20 (3 : Int32) (0 : Int32) (17 : Int32)))) (fun h => by rw [Bd.returns] at h; cases h)
  refine ⟨_, _, ?_, hrun, hended, _, _, rfl, ?_, ⟨_, rfl⟩, hW, hsame.mono (by decide) (by decide)⟩
  · exact pre13 _ (retI X12 hx Bd.returns (hb hby d19_16) hr)
  · exact ⟨by simp only [f19_3], N12, e12⟩
def f18_3 (mm : Int32) (mx : Int64) (vs : Int64) : Int32 := (if (mm / (2 : Int32)) < (f19_3) then (0 : Int32) else (if (mx / (2 : Int64)) < vs then (0 : Int32) else (1 : Int32)))
set_option maxRecDepth 65536 in
set_option maxHeartbeats 40000000 in
theorem rm18_3 (l : Launch) (Z : State) (a0 : Array Value) (hw : ∀ d ∈ tables_1, d.before a0 Z = true) (ws : List Jvm.Cond) (o0 : Addr) (od : Addr) (mm : Int32) (mx : Int64) (vs : Int64) (oe : Addr) (ke : ClassId) (m2 : Addr) (m1 : Addr) (m0 : Addr) (h0 : Heap) (n0 : Nat) (Z0 : n0 ≤ h0.size) (I0 : Fld Z h0 o0 "com/example/oncemark/oncemark/ReceiveQueue" "messages" "Ljava/util/Deque;" (.ref od)) (I1 : Fld Z h0 o0 "com/example/oncemark/oncemark/ReceiveQueue" "maxMessages" "I" (.int mm)) (I2 : Fld Z h0 o0 "com/example/oncemark/oncemark/ReceiveQueue" "maxBytes" "J" (.long mx)) (I3 : Fld Z h0 o0 "com/example/oncemark/oncemark/ReceiveQueue" "bytes" "J" (.long vs)) (I4 : Exa Z h0 od "java/util/ArrayDeque") (I5 : Fld Z h0 od "java/util/ArrayDeque" "elements" "[Ljava/lang/Object;" (.ref oe)) (I6 : Fld Z h0 od "java/util/ArrayDeque" "tail" "I" (.int 3)) (I7 : Fld Z h0 od "java/util/ArrayDeque" "head" "I" (.int 0)) (I8 : Arh Z h0 oe ke (.object "java/lang/Object") (17 : Int32) [((2 : Int32), (.ref m2)), ((1 : Int32), (.ref m1)), ((0 : Int32), (.ref m0))] [] .null) (I9 : Ovr Z ke "java/lang/Object") :
    Met1 l Nm_25 (Jvm.Cond.code Nm_25 prog_24_method_4_code 1 (some .boolean)) ws (rom 2 0 0 26) #[(.ref o0)] Z h0 (QP (some (.int (f18_3 mm mx vs))) h0 n0) := by
  refine MetFree.of_bodySF (plainFor_of_name pn_18) hisR ?_
  intro p e s m args below meth c s₁ Bd hml0 hP hK
  obtain ⟨rfl, hZ, hh⟩ := hP
  have hx := Bd.exec
  have hby := Bd.bytes
  have hml : c.maxLocals = 1 := hml0
  have hown : s.vm.findClass "com/example/oncemark/oncemark/ReceiveQueue" = some m.cls := findClass_of_methodNamed Bd.named
  have X0 : Stand p l e (rom 2 0 0 26) s m _ _ _ _ _ [] 0 0 := Stand.of_body Bd
  have e0 : s₁.heap = h0 := by rw [← hh, Bd.state]; rfl
  have N0 := Fr.nil n0
  have K0 : Keep h0 h0 [] := Keep.refl _ _
  have pre0 : Go p e below s₁ _ (mkF m 0 #[.val (.ref o0)] []) _ := fun t k => castTop (ef_18_0 m o0) k
  have pre3 : Go p e below s₁ _ (mkF m 1 #[.val (.ref o0)] [(.ref o0)]) _ := fun t k => pre0 t (by
    refine XS.aloadN X0.here hx rfl (hb hby d18_0) rfl rfl ?_
    exact k)
  obtain ⟨T4, X4, e4, st4⟩ := getF X0 hx hZ hown (host := "") (Or.inl (wq hw 70 rfl)) Via.refl e0 I0 (g := (mkF m 1 #[.val (.ref o0)] [(.ref o0)])) rfl rfl (hb hby d18_1)
  have pre5 := Go.thn pre3 st4
  obtain ⟨cq6, kq6, q6a, q6b, q6c⟩ := isOf hZ e4 I4
  obtain ⟨_, _, ⟨T6, L6, k6, n6⟩, -, X6, ⟨Lc6, hQ6, l6, y6, z6⟩, st6⟩ := X4.interfaceBack hx (xi := Nm_26) (y := Nm_24) hown (mvT hZ (wq hw 126 rfl)) (mvT hZ (wq hw 127 rfl)) (mvT hZ (wq hw 128 rfl)) (mvT hZ (wq hw 129 rfl)) (mvT hZ (wq hw 130 rfl)) (mvT hZ (wq hw 131 rfl)) (mvT hZ (wq hw 132 rfl)) (mvT hZ (wq hw 88 rfl)) (by decide) (backOf (W := 0) (rm19_3 l Z a0 hw [] od oe _ m2 m1 m0 h0 n0 Z0 I4 I5 I6 I7 I8 I9) hZ (wq hw 133 rfl) (wq hw 55 rfl) (by decide) (by decide)) q6a q6b q6c (g := (mkF m 4 #[.val (.ref o0)] [(.ref od)])) rfl (by rw [hml]; rfl) (Steps.refl _) (argsL := []) (rest := []) (lenOf pd___I rfl) rfl (w00 rfl) (hb hby d18_4) (fun _ _ => ⟨rfl, e4, (by decide : 0 + 0 ≤ _), (by decide : 0 + 0 ≤ _)⟩)
  dsimp only [Pt.U, Pt.locs, Pt.cells, Pt.slots] at X6 l6 y6 z6 st6 hQ6
  subst l6 y6 z6
  obtain ⟨rfl, Nq6, e6⟩ := hQ6
  have N6 := Fr.app N0 Nq6
  have pre7 := Go.trn pre5 st6
  have pre8 : Go p e below T6 _ (mkF m 10 #[.val (.ref o0)] [(.ref o0), (.int (f19_3))]) _ := fun t k => pre7 t (by
    refine XS.aloadN X6.here hx rfl (hb hby d18_9) rfl rfl ?_
    exact k)
  obtain ⟨T9, X9, e9, st9⟩ := getF X6 hx hZ hown (host := "") (Or.inl (wq hw 72 rfl)) Via.refl e6 I1 (g := (mkF m 10 #[.val (.ref o0)] [(.ref o0), (.int (f19_3))])) rfl rfl (hb hby d18_10)
  have pre10 := Go.thn pre8 st9
  have pre11 : Go p e below T9 _ (mkF m 15 #[.val (.ref o0)] [(.int (mm / (2 : Int32))), (.int (f19_3))]) _ := fun t k => pre10 t (by
    refine XS.iconst X9.here hx rfl (hb hby d18_13) ?_
    refine XS.idiv X9.here hx rfl (hb hby d18_14) rfl (by decide) ?_
    exact k)
  by_cases hc15_1 : (mm / (2 : Int32)) < (f19_3)
  · have pre12 : Go p e below T9 _ (mkF m 39 #[.val (.ref o0)] [(.int 0)]) _ := fun t k => pre11 t (by
      refine XS.icmpYes X9.here hx rfl (pc0 := 15) (pc' := 38) rfl (hb hby d18_15) rfl (tlt hc15_1).2.2.1 (by decide) (by decide) ?_
      refine XS.iconst X9.here hx rfl (hb hby d18_38) ?_
      exact k)
    obtain ⟨fs, hr, hrun, hended, hW, hsame⟩ := X9.leave (v := some (.int 0)) (fun h => by rw [Bd.returns] at h; cases h)
    refine ⟨_, _, ?_, hrun, hended, _, _, rfl, ?_, ⟨_, rfl⟩, hW, hsame.mono (by decide) (by decide)⟩
    · exact pre12 _ (retN X9 hx (t := .boolean) Bd.returns (by simp) (hb hby d18_39) hr)
    · exact ⟨by simp only [f18_3, if_pos hc15_1], N6, e9⟩
  · have pre13 : Go p e below T9 _ (mkF m 19 #[.val (.ref o0)] [(.ref o0)]) _ := fun t k => pre11 t (by
      refine XS.icmpNo X9.here hx rfl (hb hby d18_15) rfl (flt hc15_1).2.2.1 ?_
      refine XS.aloadN X9.here hx rfl (hb hby d18_18) rfl rfl ?_
      exact k)
    obtain ⟨T14, X14, e14, st14⟩ := getF X9 hx hZ hown (host := "") (Or.inl (wq hw 103 rfl)) Via.refl e9 I3 (g := (mkF m 19 #[.val (.ref o0)] [(.ref o0)])) rfl rfl (hb hby d18_19)
    have pre15 := Go.thn pre13 st14
    have pre16 : Go p e below T14 _ (mkF m 23 #[.val (.ref o0)] [(.ref o0), (.long vs)]) _ := fun t k => pre15 t (by
      refine XS.aloadN X14.here hx rfl (hb hby d18_22) rfl rfl ?_
      exact k)
    obtain ⟨T17, X17, e17, st17⟩ := getF X14 hx hZ hown (host := "") (Or.inl (wq hw 74 rfl)) Via.refl e14 I2 (g := (mkF m 23 #[.val (.ref o0)] [(.ref o0), (.long vs)])) rfl rfl (hb hby d18_23)
    have pre18 := Go.thn pre16 st17
    have pre19 : Go p e below T17 _ (mkF m 31 #[.val (.ref o0)] [(.int (lcmpW vs (mx / (2 : Int64))))]) _ := fun t k => pre18 t (by
      refine X17.ldc2Long hx hown (mvT hZ (wq hw 161 rfl)) (g := (mkF m 26 #[.val (.ref o0)] [(.long mx), (.long vs)])) rfl (hb hby d18_26) _ ?_
      refine XS.ldiv X17.here hx rfl (hb hby d18_29) rfl (by decide) ?_
      refine XS.lcmp X17.here hx rfl (hb hby d18_30) rfl ?_
      exact k)
    by_cases hc31_2 : (mx / (2 : Int64)) < vs
    · have pre20 : Go p e below T17 _ (mkF m 39 #[.val (.ref o0)] [(.int 0)]) _ := fun t k => pre19 t (by
        refine XS.ifYes X17.here hx rfl (pc0 := 31) (pc' := 38) rfl (hb hby d18_31) rfl ((if0 _ _).trans (tlt ((lw_gt _ _).mpr hc31_2)).2.2.1) (by decide) (by decide) ?_
        refine XS.iconst X17.here hx rfl (hb hby d18_38) ?_
        exact k)
      obtain ⟨fs, hr, hrun, hended, hW, hsame⟩ := X17.leave (v := some (.int 0)) (fun h => by rw [Bd.returns] at h; cases h)
      refine ⟨_, _, ?_, hrun, hended, _, _, rfl, ?_, ⟨_, rfl⟩, hW, hsame.mono (by decide) (by decide)⟩
      · exact pre20 _ (retN X17 hx (t := .boolean) Bd.returns (by simp) (hb hby d18_39) hr)
      · exact ⟨by simp only [f18_3, if_neg hc15_1, if_pos hc31_2], N6, e17⟩
    · have pre21 : Go p e below T17 _ (mkF m 39 #[.val (.ref o0)] [(.int 1)]) _ := fun t k => pre19 t (by
        refine XS.ifNo X17.here hx rfl (hb hby d18_31) rfl ((if0 _ _).trans (flt (fun q => hc31_2 ((lw_gt _ _).mp q))).2.2.1) ?_
        refine XS.iconst X17.here hx rfl (hb hby d18_34) ?_
        refine XS.goto X17.here hx rfl (pc0 := 35) (pc' := 39) rfl (hb hby d18_35) (by decide) (by decide) ?_
        exact k)
      obtain ⟨fs, hr, hrun, hended, hW, hsame⟩ := X17.leave (v := some (.int 1)) (fun h => by rw [Bd.returns] at h; cases h)
      refine ⟨_, _, ?_, hrun, hended, _, _, rfl, ?_, ⟨_, rfl⟩, hW, hsame.mono (by decide) (by decide)⟩
      · exact pre21 _ (retN X17 hx (t := .boolean) Bd.returns (by simp) (hb hby d18_39) hr)
      · exact ⟨by simp only [f18_3, if_neg hc15_1, if_neg hc31_2], N6, e17⟩
theorem d7_0 : decode prog_24_method_1_code 0 = .ok (.aload_n 0, 1) := by decide +kernel
theorem d7_1 : decode prog_24_method_1_code 1 = .ok (.invokespecial 1, 3) := by decide +kernel
theorem d7_4 : decode prog_24_method_1_code 4 = .ok (.aload_n 0, 1) := by decide +kernel
theorem d7_5 : decode prog_24_method_1_code 5 = .ok (.new 7, 3) := by decide +kernel
theorem d7_8 : decode prog_24_method_1_code 8 = .ok (.dup, 1) := by decide +kernel
theorem d7_9 : decode prog_24_method_1_code 9 = .ok (.invokespecial 9, 3) := by decide +kernel
theorem d7_12 : decode prog_24_method_1_code 12 = .ok (.putfield 10, 3) := by decide +kernel
theorem d7_15 : decode prog_24_method_1_code 15 = .ok (.aload_n 0, 1) := by decide +kernel
theorem d7_16 : decode prog_24_method_1_code 16 = .ok (.iload_n 1, 1) := by decide +kernel
theorem d7_17 : decode prog_24_method_1_code 17 = .ok (.putfield 16, 3) := by decide +kernel
theorem d7_20 : decode prog_24_method_1_code 20 = .ok (.aload_n 0, 1) := by decide +kernel
theorem d7_21 : decode prog_24_method_1_code 21 = .ok (.lload_n 2, 1) := by decide +kernel
theorem d7_22 : decode prog_24_method_1_code 22 = .ok (.putfield 20, 3) := by decide +kernel
theorem d7_25 : decode prog_24_method_1_code 25 = .ok (.return_, 1) := by decide +kernel
theorem pn_7 : plainName "com/example/oncemark/oncemark/ReceiveQueue" = true := by first | (simp [plainName, overriddenIn]; done) | decide +kernel
theorem ef_7 (m : MethodId) (x0 : Addr) (x1 : Int32) (x2 : Int64) : entryFrame m #[(.ref x0), (.int x1), (.long x2)] 4 = mkF m 0 #[.val (.ref x0), .val (.int x1), .val (.long x2), .second] [] := by first | (simp [entryFrame, mkF, argsToLocals, Value.category]; done) | rfl
def Q7 (Z : State) (o0 : Addr) (p1 : Int32) (q2 : Int64) (h0 : Heap) (n0 : Nat) (v : Option Value) (h : Heap) (L : List Loc) : Prop := ∃ (b5 : Addr) (b9_0 : Addr) (k_b9_0 : ClassId), v = none ∧ Fr n0 L ∧ Keep h0 h [o0] ∧ h0.size ≤ b5 ∧ h0.size ≤ b9_0 ∧ Exa Z h o0 "com/example/oncemark/oncemark/ReceiveQueue" ∧ Fld Z h o0 "com/example/oncemark/oncemark/ReceiveQueue" "messages" "Ljava/util/Deque;" (.ref b5) ∧ Fld Z h o0 "com/example/oncemark/oncemark/ReceiveQueue" "maxMessages" "I" (.int p1) ∧ Fld Z h o0 "com/example/oncemark/oncemark/ReceiveQueue" "maxBytes" "J" (.long q2) ∧ Fld Z h o0 "com/example/oncemark/oncemark/ReceiveQueue" "bytes" "J" (.long (0 : Int64)) ∧ Exa Z h b5 "java/util/ArrayDeque" ∧ Fld Z h b5 "java/util/ArrayDeque" "elements" "[Ljava/lang/Object;" (.ref b9_0) ∧ Fld Z h b5 "java/util/ArrayDeque" "tail" "I" (.int 0) ∧ Fld Z h b5 "java/util/ArrayDeque" "head" "I" (.int 0) ∧ Arh Z h b9_0 k_b9_0 (.object "java/lang/Object") (17 : Int32) [] [] .null ∧ Ovr Z k_b9_0 "java/lang/Object"
set_option maxRecDepth 65536 in
set_option maxHeartbeats 40000000 in
theorem rm7 (l : Launch) (Z : State) (a0 : Array Value) (hw : ∀ d ∈ tables_1, d.before a0 Z = true) (ws : List Jvm.Cond) (o0 : Addr) (p1 : Int32) (q2 : Int64) (h0 : Heap) (n0 : Nat) (Z0 : n0 ≤ h0.size) (I0 : Exa Z h0 o0 "com/example/oncemark/oncemark/ReceiveQueue") (I1 : Fld Z h0 o0 "com/example/oncemark/oncemark/ReceiveQueue" "messages" "Ljava/util/Deque;" .null) (I2 : Fld Z h0 o0 "com/example/oncemark/oncemark/ReceiveQueue" "maxMessages" "I" (.int 0)) (I3 : Fld Z h0 o0 "com/example/oncemark/oncemark/ReceiveQueue" "maxBytes" "J" (.long (0 : Int64))) (I4 : Fld Z h0 o0 "com/example/oncemark/oncemark/ReceiveQueue" "bytes" "J" (.long (0 : Int64))) (gw_o0 : n0 ≤ o0) :
    Met1 l Nm_27 (Jvm.Cond.code Nm_27 prog_24_method_1_code 4 none) ws (rom 3 2 20 38) #[(.ref o0), (.int p1), (.long q2)] Z h0 (Q7 Z o0 p1 q2 h0 n0) := by
  refine MetFree.of_bodySF (plainFor_of_name pn_7) hisR ?_
  intro p e s m args below meth c s₁ Bd hml0 hP hK
  obtain ⟨rfl, hZ, hh⟩ := hP
  have hx := Bd.exec
  have hby := Bd.bytes
  have hml : c.maxLocals = 4 := hml0
  have hown : s.vm.findClass "com/example/oncemark/oncemark/ReceiveQueue" = some m.cls := findClass_of_methodNamed Bd.named
  have hnm := (name_of_methodNamed Bd.named Bd.method).1
  have X0 : Stand p l e (rom 3 2 20 38) s m _ _ _ _ _ [] 0 0 := Stand.of_body Bd
  have e0 : s₁.heap = h0 := by rw [← hh, Bd.state]; rfl
  have N0 := Fr.nil n0
  have K0 : Keep h0 h0 [o0] := Keep.refl _ _
  have pre0 : Go p e below s₁ _ (mkF m 0 #[.val (.ref o0), .val (.int p1), .val (.long q2), .second] []) _ := fun t k => castTop (ef_7 m o0 p1 q2) k
  have pre1 : Go p e below s₁ _ (mkF m 1 #[.val (.ref o0), .val (.int p1), .val (.long q2), .second] [(.ref o0)]) _ := fun t k => pre0 t (by
    refine XS.aloadN X0.here hx rfl (hb hby d7_0) rfl rfl ?_
    exact k)
  obtain ⟨T2, X2, e2, st2⟩ := initO X0 hx hZ hown (wq hw 52 rfl) (wq hw 33 rfl) (wq hw 34 rfl) e0 (g := (mkF m 1 #[.val (.ref o0), .val (.int p1), .val (.long q2), .second] [(.ref o0)])) rfl (by rw [hml]; rfl) rfl (hb hby d7_1) (by decide) (W := 0) (w00 rfl) (by decide)
  have pre3 := Go.thn pre1 st2
  have pre4 : Go p e below T2 _ (mkF m 5 #[.val (.ref o0), .val (.int p1), .val (.long q2), .second] [(.ref o0)]) _ := fun t k => pre3 t (by
    refine XS.aloadN X2.here hx rfl (hb hby d7_4) rfl rfl ?_
    exact k)
  obtain ⟨T5, h5, X5, e5, E5, A5, D5, -, st5⟩ := newO X2 hx hZ hown (wq hw 53 rfl) (wq hw 54 rfl) (wq hw 55 rfl) e2 (g := (mkF m 5 #[.val (.ref o0), .val (.int p1), .val (.long q2), .second] [(.ref o0)])) rfl (hb hby d7_5) (by decide) (by decide)
  obtain ⟨b5, g5⟩ : ∃ z, z = h0.size := ⟨_, rfl⟩
  rw [← g5] at A5 D5 st5
  have gg5 : n0 ≤ b5 := Nat.le_trans Z0 (Nat.le_of_eq g5.symm)
  have sz5 : h0.size ≤ b5 := Nat.le_trans K0.1 (Nat.le_of_eq g5.symm)
  have K5 : Keep h0 h5 [o0] := K0.ext E5
  have Z5 : n0 ≤ h5.size := Nat.le_trans Z0 E5.1
  have ne5_o0 : o0 ≠ b5 := Nat.ne_of_lt (Nat.lt_of_lt_of_le I0.lt (Nat.le_of_eq g5.symm))
  have x6 := I0.ext E5
  have x7 := I1.ext E5
  have x8 := I2.ext E5
  have x9 := I3.ext E5
  have x10 := I4.ext E5
  have Fn5_elements : Fld Z h5 b5 "java/util/ArrayDeque" "elements" "[Ljava/lang/Object;" .null := D5 (Or.inl (wq hw 69 rfl)) (ty := (.array (.object "java/lang/Object"))) (by decide)
  have Fn5_tail : Fld Z h5 b5 "java/util/ArrayDeque" "tail" "I" (.int 0) := D5 (Or.inl (wq hw 96 rfl)) (ty := .int) (by decide)
  have Fn5_head : Fld Z h5 b5 "java/util/ArrayDeque" "head" "I" (.int 0) := D5 (Or.inl (wq hw 99 rfl)) (ty := .int) (by decide)
  have pre11 := Go.thn pre4 st5
  have pre12 : Go p e below T5 _ (mkF m 9 #[.val (.ref o0), .val (.int p1), .val (.long q2), .second] [(.ref b5), (.ref b5), (.ref o0)]) _ := fun t k => pre11 t (by
    refine XS.dup X5.here hx rfl (hb hby d7_8) rfl rfl ?_
    exact k)
  obtain ⟨_, _, ⟨T13, L13, k13, n13⟩, -, X13, ⟨Lc13, hQ13, l13, y13, z13⟩, st13⟩ := X5.specialBack hx (y := Nm_19) rfl hown (mvT hZ (wq hw 56 rfl)) (mvT hZ (wq hw 57 rfl)) (mvT hZ (wq hw 58 rfl)) (by decide) (backOf (W := 2) (rm8 l Z a0 hw [] b5 h5 n0 Z5 A5 Fn5_elements Fn5_head Fn5_tail gg5) hZ (wq hw 58 rfl) (wq hw 55 rfl) (by decide) (by decide)) (g := (mkF m 9 #[.val (.ref o0), .val (.int p1), .val (.long q2), .second] [(.ref b5), (.ref b5), (.ref o0)])) rfl (by rw [hml]; rfl) (Steps.refl _) (a := b5) (argsL := []) (rest := [(.ref b5), (.ref o0)]) (lenOf pd___V rfl) rfl (w00 rfl) (hb hby d7_9) (fun _ _ => ⟨rfl, e5, (by decide : 1 + 1 ≤ _), (by decide : 3 + 17 ≤ _)⟩)
  dsimp only [Pt.U, Pt.locs, Pt.cells, Pt.slots] at X13 l13 y13 z13 st13 hQ13
  subst l13 y13 z13
  obtain ⟨b9_0, k_b7_13, rfl, Nq13, Kq13, gz13_b9_0, o13_0, o13_1, o13_2, o13_3, o13_4, o13_5⟩ := hQ13
  have N13 := Fr.app N0 Nq13
  have K13 : Keep h0 T13.heap [o0] := K5.trans Kq13 (allS (Or.inr sz5) all0)
  have Z13 : n0 ≤ T13.heap.size := Nat.le_trans Z5 Kq13.1
  have x14 := x6.keep Kq13
  have x15 := x7.keep Kq13 (ninS ne5_o0 nin0)
  have x16 := x8.keep Kq13 (ninS ne5_o0 nin0)
  have x17 := x9.keep Kq13 (ninS ne5_o0 nin0)
  have x18 := x10.keep Kq13 (ninS ne5_o0 nin0)
  have x19 := A5.keep Kq13
  have gg13_b9_0 : n0 ≤ b9_0 := Nat.le_trans Z5 gz13_b9_0
  have sz13_b9_0 : h0.size ≤ b9_0 := Nat.le_trans K5.1 gz13_b9_0
  have ne13_o0_b9_0 : o0 ≠ b9_0 := Nat.ne_of_lt (Nat.lt_of_lt_of_le x6.lt gz13_b9_0)
  have ne13_b5_b9_0 : b5 ≠ b9_0 := Nat.ne_of_lt (Nat.lt_of_lt_of_le A5.lt gz13_b9_0)
  have pre20 := Go.trn pre12 st13
  obtain ⟨T21, h21, X21, e21, W21, st21⟩ := putF X13 hx hZ hown (host := "") (Or.inl (wq hw 70 rfl)) Via.refl rfl x15 x14 (Or.inr ⟨(wq hw 71 rfl), rfl, hnm⟩) (wq hw 47 rfl) (ty := (.object "java/util/Deque")) (by decide) rfl rfl (g := (mkF m 12 #[.val (.ref o0), .val (.int p1), .val (.long q2), .second] [(.ref b5), (.ref o0)])) rfl rfl (hb hby d7_12)
  have N21 := Fr.snoc X21 N13 gw_o0
  have K21 : Keep h0 h21 [o0] := K13.wr W21 (Or.inl (List.mem_of_getElem? (i := 0) rfl))
  have Z21 : n0 ≤ h21.size := Nat.le_trans Z13 (Keep.of_wr W21).1
  have x22 := x14.wr W21
  have x23 := x15.same W21
  have x24 := x16.other W21 (Or.inr (slot_ne (Or.inr (wq hw 73 rfl)) (Or.inr (wq hw 71 rfl)) (by decide) (t := .int) (t' := (.object "java/util/Deque")) (by decide) (by decide)))
  have x25 := x17.other W21 (Or.inr (slot_ne (Or.inr (wq hw 75 rfl)) (Or.inr (wq hw 71 rfl)) (by decide) (t := .long) (t' := (.object "java/util/Deque")) (by decide) (by decide)))
  have x26 := x18.other W21 (Or.inr (slot_ne (Or.inl (wq hw 104 rfl)) (Or.inr (wq hw 71 rfl)) (by decide) (t := .long) (t' := (.object "java/util/Deque")) (by decide) (by decide)))
  have x27 := o13_0.wr W21
  have x28 := o13_1.other W21 (Or.inl (Ne.symm ne5_o0))
  have x29 := o13_2.other W21 (Or.inl (Ne.symm ne5_o0))
  have x30 := o13_3.other W21 (Or.inl (Ne.symm ne5_o0))
  have x31 := o13_4.other W21 (Ne.symm ne13_o0_b9_0)
  have pre32 := Go.thn pre20 st21
  have pre33 : Go p e below T21 _ (mkF m 17 #[.val (.ref o0), .val (.int p1), .val (.long q2), .second] [(.int p1), (.ref o0)]) _ := fun t k => pre32 t (by
    refine XS.aloadN X21.here hx rfl (hb hby d7_15) rfl rfl ?_
    refine XS.iloadN X21.here hx rfl (hb hby d7_16) rfl ?_
    exact k)
  obtain ⟨T34, h34, X34, e34, W34, st34⟩ := putF X21 hx hZ hown (host := "") (Or.inl (wq hw 72 rfl)) Via.refl e21 x24 x22 (Or.inr ⟨(wq hw 73 rfl), rfl, hnm⟩) (wq hw 47 rfl) (ty := .int) (by decide) rfl rfl (g := (mkF m 17 #[.val (.ref o0), .val (.int p1), .val (.long q2), .second] [(.int p1), (.ref o0)])) rfl rfl (hb hby d7_17)
  have N34 := Fr.snoc X34 N21 gw_o0
  have K34 : Keep h0 h34 [o0] := K21.wr W34 (Or.inl (List.mem_of_getElem? (i := 0) rfl))
  have Z34 : n0 ≤ h34.size := Nat.le_trans Z21 (Keep.of_wr W34).1
  have x35 := x22.wr W34
  have x36 := x23.other W34 (Or.inr (slot_ne (Or.inr (wq hw 71 rfl)) (Or.inr (wq hw 73 rfl)) (by decide) (t := (.object "java/util/Deque")) (t' := .int) (by decide) (by decide)))
  have x37 := x24.same W34
  have x38 := x25.other W34 (Or.inr (slot_ne (Or.inr (wq hw 75 rfl)) (Or.inr (wq hw 73 rfl)) (by decide) (t := .long) (t' := .int) (by decide) (by decide)))
  have x39 := x26.other W34 (Or.inr (slot_ne (Or.inl (wq hw 104 rfl)) (Or.inr (wq hw 73 rfl)) (by decide) (t := .long) (t' := .int) (by decide) (by decide)))
  have x40 := x27.wr W34
  have x41 := x28.other W34 (Or.inl (Ne.symm ne5_o0))
  have x42 := x29.other W34 (Or.inl (Ne.symm ne5_o0))
  have x43 := x30.other W34 (Or.inl (Ne.symm ne5_o0))
  have x44 := x31.other W34 (Ne.symm ne13_o0_b9_0)
  have pre45 := Go.thn pre33 st34
  have pre46 : Go p e below T34 _ (mkF m 22 #[.val (.ref o0), .val (.int p1), .val (.long q2), .second] [(.long q2), (.ref o0)]) _ := fun t k => pre45 t (by
    refine XS.aloadN X34.here hx rfl (hb hby d7_20) rfl rfl ?_
    refine XS.lloadN X34.here hx rfl (hb hby d7_21) rfl ?_
    exact k)
  obtain ⟨T47, h47, X47, e47, W47, st47⟩ := putF X34 hx hZ hown (host := "") (Or.inl (wq hw 74 rfl)) Via.refl e34 x38 x35 (Or.inr ⟨(wq hw 75 rfl), rfl, hnm⟩) (wq hw 47 rfl) (ty := .long) (by decide) rfl rfl (g := (mkF m 22 #[.val (.ref o0), .val (.int p1), .val (.long q2), .second] [(.long q2), (.ref o0)])) rfl rfl (hb hby d7_22)
  have N47 := Fr.snoc X47 N34 gw_o0
  have K47 : Keep h0 h47 [o0] := K34.wr W47 (Or.inl (List.mem_of_getElem? (i := 0) rfl))
  have Z47 : n0 ≤ h47.size := Nat.le_trans Z34 (Keep.of_wr W47).1
  have x48 := x35.wr W47
  have x49 := x36.other W47 (Or.inr (slot_ne (Or.inr (wq hw 71 rfl)) (Or.inr (wq hw 75 rfl)) (by decide) (t := (.object "java/util/Deque")) (t' := .long) (by decide) (by decide)))
  have x50 := x37.other W47 (Or.inr (slot_ne (Or.inr (wq hw 73 rfl)) (Or.inr (wq hw 75 rfl)) (by decide) (t := .int) (t' := .long) (by decide) (by decide)))
  have x51 := x38.same W47
  have x52 := x39.other W47 (Or.inr (slot_ne (Or.inl (wq hw 104 rfl)) (Or.inr (wq hw 75 rfl)) (by decide) (t := .long) (t' := .long) (by decide) (by decide)))
  have x53 := x40.wr W47
  have x54 := x41.other W47 (Or.inl (Ne.symm ne5_o0))
  have x55 := x42.other W47 (Or.inl (Ne.symm ne5_o0))
  have x56 := x43.other W47 (Or.inl (Ne.symm ne5_o0))
  have x57 := x44.other W47 (Ne.symm ne13_o0_b9_0)
  have pre58 := Go.thn pre46 st47
  obtain ⟨fs, hr, hrun, hended, hW, hsame⟩ := X47.leave (v := none) (fun _ => rfl)
  refine ⟨_, _, ?_, hrun, hended, _, _, rfl, ?_, ⟨_, rfl⟩, hW, hsame.mono (by decide) (by decide)⟩
  · exact pre58 _ (X47.returnOut hx Bd.returns (hb hby d7_25) hr)
  · show Q7 Z o0 p1 q2 h0 n0 _ T47.heap _
    rw [e47]
    exact ⟨b5, b9_0, _, rfl, N47, K47, sz5, sz13_b9_0, x48, x49, x50, x51, x52, x53, x54, x56, x55, x57, o13_5⟩
theorem own_m7 (y : Int32) : (¬ ((y &&& (7 : Int32)) < (0 : Int32))) ∧ (y &&& (7 : Int32)).toNatClampNeg ≤ 7 := by
  have h : (y &&& (7 : Int32)).toInt = y.toInt % 8 := c_mask y 7 3 (by decide) (by decide)
  refine ⟨?_, ?_⟩
  · rw [Int32.lt_iff_toInt_lt, h, show (0 : Int32).toInt = 0 from rfl]; omega
  · simp only [Int32.toNatClampNeg, h]; omega
theorem own_m3 (y : Int32) : (y &&& (3 : Int32)) = 0 ∨ (y &&& (3 : Int32)) = 1 ∨ (y &&& (3 : Int32)) = 2 ∨ (y &&& (3 : Int32)) = 3 := by
  have h : (y &&& (3 : Int32)).toInt = y.toInt % 4 := c_mask y 3 2 (by decide) (by decide)
  rcases (show (y &&& (3 : Int32)).toInt = 0 ∨ (y &&& (3 : Int32)).toInt = 1 ∨ (y &&& (3 : Int32)).toInt = 2 ∨ (y &&& (3 : Int32)).toInt = 3 by omega) with q | q | q | q
  · exact Or.inl (Int32.toInt_inj.mp q)
  · exact Or.inr (Or.inl (Int32.toInt_inj.mp q))
  · exact Or.inr (Or.inr (Or.inl (Int32.toInt_inj.mp q)))
  · exact Or.inr (Or.inr (Or.inr (Int32.toInt_inj.mp q)))
theorem own_c8 (y : Int32) : ¬ ((255 : Int32) < (nar .char ((y &&& (255 : Int32)).toUInt32.toUInt16.toUInt32.toInt32))) := by
  have h : (y &&& (255 : Int32)).toInt = y.toInt % 256 := c_mask y 255 8 (by decide) (by decide)
  have a := c_i2c (y &&& (255 : Int32))
  have b := c_i2c ((y &&& (255 : Int32)).toUInt32.toUInt16.toUInt32.toInt32)
  rw [Int32.lt_iff_toInt_lt]
  show ¬ (255 < ((y &&& (255 : Int32)).toUInt32.toUInt16.toUInt32.toInt32.toUInt32.toUInt16.toUInt32.toInt32).toInt)
  omega
theorem own_ltt {x a b : Int32} (h : x < a) (q : a ≤ b) : x < b := by
  rw [Int32.lt_iff_toInt_lt] at *; rw [Int32.le_iff_toInt_le] at q; omega
theorem pn_0 : plainName "com/example/oncemark/oncemark/ReceiveQueueNeedsRefillPinLaw" = true := by first | (simp [plainName, overriddenIn]; done) | decide +kernel
theorem pd__JJ_J : parseMethodDescriptor "(JJ)J" = some ⟨[.long, .long], some .long⟩ := by decide +kernel
theorem pd__JIICC_Lcom_example_oncemark_oncemark_Message_ : parseMethodDescriptor "(JIICC)Lcom/example/oncemark/oncemark/Message;" = some ⟨[.long, .int, .int, .char, .char], some (.object "com/example/oncemark/oncemark/Message")⟩ := by decide +kernel
theorem pd__IJ_V : parseMethodDescriptor "(IJ)V" = some ⟨[.int, .long], none⟩ := by decide +kernel
theorem pd__Lcom_example_oncemark_oncemark_Message__V : parseMethodDescriptor "(Lcom/example/oncemark/oncemark/Message;)V" = some ⟨[(.object "com/example/oncemark/oncemark/Message")], none⟩ := by decide +kernel
theorem pd__II_J : parseMethodDescriptor "(II)J" = some ⟨[.int, .int], some .long⟩ := by decide +kernel
theorem pd___Z : parseMethodDescriptor "()Z" = some ⟨[], some .boolean⟩ := by decide +kernel
theorem ef_0 (m : MethodId) (x0 : Int32) (x1 : Int64) (x2 : Int32) (x3 : Int32) : entryFrame m #[(.int x0), (.long x1), (.int x2), (.int x3)] maxLocals = mkF m 0 #[.val (.int x0), .val (.long x1), .second, .val (.int x2), .val (.int x3), .unset, .unset, .unset, .unset, .unset, .unset, .unset, .unset, .unset, .unset, .unset, .unset, .unset, .unset, .unset, .unset, .unset, .unset, .unset] [] := by first | (simp [entryFrame, mkF, argsToLocals, Value.category, maxLocals]; done) | rfl
def v0_262_s0 (p0 : Int32) (q1 : Int64) (p2 : Int32) : Int32 := (if ((f1 (1 : Int32) (p0 &&& (2147483647 : Int32))).toInt64) < ((2 : Int64) * ((p2 &&& (3 : Int32)).toInt64)) then (0 : Int32) else (if (f2 (1 : Int64) (q1 &&& (9223372036854775807 : Int64))) < (0 : Int64) then (0 : Int32) else (1 : Int32)))
def v0_262_s0_1 (p0 : Int32) (q1 : Int64) (p2 : Int32) : Int32 := (if ((f1 (1 : Int32) (p0 &&& (2147483647 : Int32))).toInt64) < ((2 : Int64) * ((p2 &&& (3 : Int32)).toInt64)) then (0 : Int32) else (if (f2 (1 : Int64) (q1 &&& (9223372036854775807 : Int64))) < ((2 : Int64) * ((0 : Int64) + (f17 (((p2.toUInt32 >>> ((2 : Int32) &&& 31).toUInt32).toInt32) &&& (7 : Int32)) (((p2.toUInt32 >>> ((5 : Int32) &&& 31).toUInt32).toInt32) &&& (3 : Int32))))) then (0 : Int32) else (1 : Int32)))
def v0_262_s0_2 (p0 : Int32) (q1 : Int64) (p2 : Int32) : Int32 := (if ((f1 (1 : Int32) (p0 &&& (2147483647 : Int32))).toInt64) < ((2 : Int64) * ((p2 &&& (3 : Int32)).toInt64)) then (0 : Int32) else (if (f2 (1 : Int64) (q1 &&& (9223372036854775807 : Int64))) < ((2 : Int64) * (((0 : Int64) + (f17 (((p2.toUInt32 >>> ((2 : Int32) &&& 31).toUInt32).toInt32) &&& (7 : Int32)) (((p2.toUInt32 >>> ((5 : Int32) &&& 31).toUInt32).toInt32) &&& (3 : Int32)))) + (f17 (((p2.toUInt32 >>> ((7 : Int32) &&& 31).toUInt32).toInt32) &&& (7 : Int32)) (((p2.toUInt32 >>> ((10 : Int32) &&& 31).toUInt32).toInt32) &&& (3 : Int32))))) then (0 : Int32) else (1 : Int32)))
def v0_262_s0_3 (p0 : Int32) (q1 : Int64) (p2 : Int32) : Int32 := (if ((f1 (1 : Int32) (p0 &&& (2147483647 : Int32))).toInt64) < ((2 : Int64) * ((p2 &&& (3 : Int32)).toInt64)) then (0 : Int32) else (if (f2 (1 : Int64) (q1 &&& (9223372036854775807 : Int64))) < ((2 : Int64) * ((((0 : Int64) + (f17 (((p2.toUInt32 >>> ((2 : Int32) &&& 31).toUInt32).toInt32) &&& (7 : Int32)) (((p2.toUInt32 >>> ((5 : Int32) &&& 31).toUInt32).toInt32) &&& (3 : Int32)))) + (f17 (((p2.toUInt32 >>> ((7 : Int32) &&& 31).toUInt32).toInt32) &&& (7 : Int32)) (((p2.toUInt32 >>> ((10 : Int32) &&& 31).toUInt32).toInt32) &&& (3 : Int32)))) + (f17 (((p2.toUInt32 >>> ((12 : Int32) &&& 31).toUInt32).toInt32) &&& (7 : Int32)) (((p2.toUInt32 >>> ((15 : Int32) &&& 31).toUInt32).toInt32) &&& (3 : Int32))))) then (0 : Int32) else (1 : Int32)))
def f0 (p0 : Int32) (q1 : Int64) (p2 : Int32) : Int32 := (if (p2 &&& (3 : Int32)) < (1 : Int32) then (if (f18_0 (f1 (1 : Int32) (p0 &&& (2147483647 : Int32))) (f2 (1 : Int64) (q1 &&& (9223372036854775807 : Int64))) (0 : Int64)) = (v0_262_s0 p0 q1 p2) then (1 : Int32) else (0 : Int32)) else (if (p2 &&& (3 : Int32)) < (2 : Int32) then (if (f18_1 (f1 (1 : Int32) (p0 &&& (2147483647 : Int32))) (f2 (1 : Int64) (q1 &&& (9223372036854775807 : Int64))) ((0 : Int64) + (f17 (((p2.toUInt32 >>> ((2 : Int32) &&& 31).toUInt32).toInt32) &&& (7 : Int32)) (((p2.toUInt32 >>> ((5 : Int32) &&& 31).toUInt32).toInt32) &&& (3 : Int32))))) = (v0_262_s0_1 p0 q1 p2) then (1 : Int32) else (0 : Int32)) else (if (p2 &&& (3 : Int32)) < (3 : Int32) then (if (f18_2 (f1 (1 : Int32) (p0 &&& (2147483647 : Int32))) (f2 (1 : Int64) (q1 &&& (9223372036854775807 : Int64))) (((0 : Int64) + (f17 (((p2.toUInt32 >>> ((2 : Int32) &&& 31).toUInt32).toInt32) &&& (7 : Int32)) (((p2.toUInt32 >>> ((5 : Int32) &&& 31).toUInt32).toInt32) &&& (3 : Int32)))) + (f17 (((p2.toUInt32 >>> ((7 : Int32) &&& 31).toUInt32).toInt32) &&& (7 : Int32)) (((p2.toUInt32 >>> ((10 : Int32) &&& 31).toUInt32).toInt32) &&& (3 : Int32))))) = (v0_262_s0_2 p0 q1 p2) then (1 : Int32) else (0 : Int32)) else (if (f18_3 (f1 (1 : Int32) (p0 &&& (2147483647 : Int32))) (f2 (1 : Int64) (q1 &&& (9223372036854775807 : Int64))) ((((0 : Int64) + (f17 (((p2.toUInt32 >>> ((2 : Int32) &&& 31).toUInt32).toInt32) &&& (7 : Int32)) (((p2.toUInt32 >>> ((5 : Int32) &&& 31).toUInt32).toInt32) &&& (3 : Int32)))) + (f17 (((p2.toUInt32 >>> ((7 : Int32) &&& 31).toUInt32).toInt32) &&& (7 : Int32)) (((p2.toUInt32 >>> ((10 : Int32) &&& 31).toUInt32).toInt32) &&& (3 : Int32)))) + (f17 (((p2.toUInt32 >>> ((12 : Int32) &&& 31).toUInt32).toInt32) &&& (7 : Int32)) (((p2.toUInt32 >>> ((15 : Int32) &&& 31).toUInt32).toInt32) &&& (3 : Int32))))) = (v0_262_s0_3 p0 q1 p2) then (1 : Int32) else (0 : Int32)))))
set_option maxRecDepth 65536 in
set_option maxHeartbeats 40000000 in
theorem rm0 (l : Launch) (Z : State) (a0 : Array Value) (hw : ∀ d ∈ tables_1, d.before a0 Z = true) (ws : List Jvm.Cond) (p0 : Int32) (q1 : Int64) (p2 : Int32) (p3 : Int32) (wcs : Int32) (jb : Nat) (h0 : Heap) (n0 : Nat) (Z0 : n0 ≤ h0.size) (I0 : Sta Z h0 "java/lang/String" "COMPACT_STRINGS" "Z" (.int wcs)) (OX : own_X Z h0) (hjs : jb ≤ h0.size) (hcw : Jvm.Lit.compactW.before a0 Z = true) (hh53 : Jvm.Lit.constHeld Z "com/example/oncemark/oncemark/ReceiveQueueNeedsRefillPinLaw" 53) (hh7 : Jvm.Lit.constHeld Z "java/lang/String" 7) (hcs : ¬ (wcs = (0 : Int32))) :
    MetFree l x (head1 (Jvm.Cond.code x code maxLocals ret :: ws) room_1) (fun a U => a = #[(.int p0), (.long q1), (.int p2), (.int p3)] ∧ Z.Warmed39 U.vm ∧ U.heap = h0 ∧ own_J "com/example/oncemark/oncemark/ReceiveQueueNeedsRefillPinLaw" Z U.vm h0 jb) (fun _ _ _ _ _ => True) (fun _ U o U' => ∃ v L, o = .returned v ∧ QL (some (.int (f0 p0 q1 p2))) n0 v U'.heap L ∧ ReturnedEndW U o U' L room_1.cells room_1.slots) := by
  refine MetFree.of_bodySF (plainFor_of_name pn_0) hisR ?_
  intro p e s m args below meth c s₁ Bd hml0 hP hK
  obtain ⟨rfl, hZ, hh, J0⟩ := hP
  have hx := Bd.exec
  have hby := Bd.bytes
  have hml : c.maxLocals = 24 := hml0
  have hown : s.vm.findClass "com/example/oncemark/oncemark/ReceiveQueueNeedsRefillPinLaw" = some m.cls := findClass_of_methodNamed Bd.named
  have X0 : Stand p l e room_1 (s.setVm s.vm) m #[(.int p0), (.long q1), (.int p2), (.int p3)] below meth c s₁ [] 0 0 := by rw [State.setVm_self]; exact Stand.of_body Bd
  have hS0 : s.Since s.vm h0.size := (State.WarmedH.refl s).since _
  have kS0 : h0.size ≤ h0.size := Nat.le_refl _
  have hZ : Z.Warmed39 (s.setVm s.vm).vm := hZ
  have hown : (s.setVm s.vm).vm.findClass "com/example/oncemark/oncemark/ReceiveQueueNeedsRefillPinLaw" = some m.cls := hown
  have e0 : s₁.heap = h0 := by rw [← hh, Bd.state]; rfl
  have N0 := Fr.nil n0
  have K0 : Keep h0 h0 [] := Keep.refl _ _
  have pre0 : Go p e below s₁ _ (mkF m 0 #[.val (.int p0), .val (.long q1), .second, .val (.int p2), .val (.int p3), .unset, .unset, .unset, .unset, .unset, .unset, .unset, .unset, .unset, .unset, .unset, .unset, .unset, .unset, .unset, .unset, .unset, .unset, .unset] []) _ := fun t k => castTop (ef_0 m p0 q1 p2 p3) k
  have pre16 : Go p e below s₁ _ (mkF m 5 #[.val (.int p0), .val (.long q1), .second, .val (.int p2), .val (.int p3), .unset, .unset, .unset, .unset, .unset, .unset, .unset, .unset, .unset, .unset, .unset, .unset, .unset, .unset, .unset, .unset, .unset, .unset, .unset] [(.int (p0 &&& (2147483647 : Int32))), (.int 1)]) _ := fun t k => pre0 t (by
    refine XS.iconst X0.here hx rfl (hb hby at_0) ?_
    refine XS.iloadN X0.here hx rfl (hb hby at_1) rfl ?_
    refine X0.ldcInt hx hown (mvT hZ (wq hw 0 rfl)) (g := (mkF m 2 #[.val (.int p0), .val (.long q1), .second, .val (.int p2), .val (.int p3), .unset, .unset, .unset, .unset, .unset, .unset, .unset, .unset, .unset, .unset, .unset, .unset, .unset, .unset, .unset, .unset, .unset, .unset, .unset] [(.int p0), (.int 1)])) rfl (hb hby at_2) _ ?_
    refine XS.iand X0.here hx rfl (hb hby at_4) rfl ?_
    exact k)
  obtain ⟨_, _, ⟨T17, L17, k17, n17⟩, -, X17, ⟨Lc17, hQ17, l17, y17, z17⟩, st17⟩ := Jvm.LawKit.callS X0 hx (y := Nm_0) hown (mvT hZ (wq hw 1 rfl)) (mvT hZ (wq hw 2 rfl)) (mvT hZ (wq hw 3 rfl)) (mvT hZ (wq hw 4 rfl)) (by decide) (backOf (W := 0) (rm1 l Z a0 hw [] (1 : Int32) (p0 &&& (2147483647 : Int32)) h0 n0 Z0) hZ (wq hw 4 rfl) (wq hw 3 rfl) (by decide) (by decide)) (g := (mkF m 5 #[.val (.int p0), .val (.long q1), .second, .val (.int p2), .val (.int p3), .unset, .unset, .unset, .unset, .unset, .unset, .unset, .unset, .unset, .unset, .unset, .unset, .unset, .unset, .unset, .unset, .unset, .unset, .unset] [(.int (p0 &&& (2147483647 : Int32))), (.int 1)])) rfl (by rw [hml]; rfl) (argsL := [(.int 1), (.int (p0 &&& (2147483647 : Int32)))]) (rest := []) (lenOf pd__II_I rfl) rfl (w00 rfl) (hb hby at_5) (fun _ _ => ⟨rfl, e0, (by decide : 0 + 0 ≤ _), (by decide : 0 + 0 ≤ _)⟩)
  dsimp only [Pt.U, Pt.locs, Pt.cells, Pt.slots] at X17 l17 y17 z17 st17 hQ17
  subst l17 y17 z17
  obtain ⟨rfl, Nq17, e17⟩ := hQ17
  have N17 := Fr.app N0 Nq17
  have pre18 := Go.thn pre16 st17
  have pre19 : Go p e below T17 _ (mkF m 16 #[.val (.int p0), .val (.long q1), .second, .val (.int p2), .val (.int p3), .val (.int (f1 (1 : Int32) (p0 &&& (2147483647 : Int32)))), .unset, .unset, .unset, .unset, .unset, .unset, .unset, .unset, .unset, .unset, .unset, .unset, .unset, .unset, .unset, .unset, .unset, .unset] [(.long (q1 &&& (9223372036854775807 : Int64))), (.long (1 : Int64))]) _ := fun t k => pre18 t (by
    refine XS.istore X17.here hx rfl (hb hby at_8) rfl (l' := #[.val (.int p0), .val (.long q1), .second, .val (.int p2), .val (.int p3), .val (.int (f1 (1 : Int32) (p0 &&& (2147483647 : Int32)))), .unset, .unset, .unset, .unset, .unset, .unset, .unset, .unset, .unset, .unset, .unset, .unset, .unset, .unset, .unset, .unset, .unset, .unset]) rfl ?_
    refine XS.lconst X17.here hx rfl (hb hby at_10) ?_
    refine XS.lloadN X17.here hx rfl (hb hby at_11) rfl ?_
    refine X17.ldc2Long hx hown (mvT hZ (wq hw 5 rfl)) (g := (mkF m 12 #[.val (.int p0), .val (.long q1), .second, .val (.int p2), .val (.int p3), .val (.int (f1 (1 : Int32) (p0 &&& (2147483647 : Int32)))), .unset, .unset, .unset, .unset, .unset, .unset, .unset, .unset, .unset, .unset, .unset, .unset, .unset, .unset, .unset, .unset, .unset, .unset] [(.long q1), (.long (1 : Int64))])) rfl (hb hby at_12) _ ?_
    refine XS.land X17.here hx rfl (hb hby at_15) rfl ?_
    exact k)
  obtain ⟨_, _, ⟨T20, L20, k20, n20⟩, -, X20, ⟨Lc20, hQ20, l20, y20, z20⟩, st20⟩ := Jvm.LawKit.callS X17 hx (y := Nm_1) hown (mvT hZ (wq hw 6 rfl)) (mvT hZ (wq hw 7 rfl)) (mvT hZ (wq hw 3 rfl)) (mvT hZ (wq hw 8 rfl)) (by decide) (backOf (W := 0) (rm2 l Z a0 hw [] (1 : Int64) (q1 &&& (9223372036854775807 : Int64)) h0 n0 Z0) hZ (wq hw 8 rfl) (wq hw 3 rfl) (by decide) (by decide)) (g := (mkF m 16 #[.val (.int p0), .val (.long q1), .second, .val (.int p2), .val (.int p3), .val (.int (f1 (1 : Int32) (p0 &&& (2147483647 : Int32)))), .unset, .unset, .unset, .unset, .unset, .unset, .unset, .unset, .unset, .unset, .unset, .unset, .unset, .unset, .unset, .unset, .unset, .unset] [(.long (q1 &&& (9223372036854775807 : Int64))), (.long (1 : Int64))])) rfl (by rw [hml]; rfl) (argsL := [(.long (1 : Int64)), (.long (q1 &&& (9223372036854775807 : Int64)))]) (rest := []) (lenOf pd__JJ_J rfl) rfl (w00 rfl) (hb hby at_16) (fun _ _ => ⟨rfl, e17, (by decide : 0 + 0 ≤ _), (by decide : 0 + 0 ≤ _)⟩)
  dsimp only [Pt.U, Pt.locs, Pt.cells, Pt.slots] at X20 l20 y20 z20 st20 hQ20
  subst l20 y20 z20
  obtain ⟨rfl, Nq20, e20⟩ := hQ20
  have N20 := Fr.app N17 Nq20
  have pre21 := Go.thn pre19 st20
  have pre22 : Go p e below T20 _ (mkF m 105 #[.val (.int p0), .val (.long q1), .second, .val (.int p2), .val (.int p3), .val (.int (f1 (1 : Int32) (p0 &&& (2147483647 : Int32)))), .val (.long (f2 (1 : Int64) (q1 &&& (9223372036854775807 : Int64)))), .second, .val (.int (p2 &&& (3 : Int32))), .val (.int (((p2.toUInt32 >>> ((2 : Int32) &&& 31).toUInt32).toInt32) &&& (7 : Int32))), .val (.int (((p2.toUInt32 >>> ((5 : Int32) &&& 31).toUInt32).toInt32) &&& (3 : Int32))), .val (.int (((p2.toUInt32 >>> ((7 : Int32) &&& 31).toUInt32).toInt32) &&& (7 : Int32))), .val (.int (((p2.toUInt32 >>> ((10 : Int32) &&& 31).toUInt32).toInt32) &&& (3 : Int32))), .val (.int (((p2.toUInt32 >>> ((12 : Int32) &&& 31).toUInt32).toInt32) &&& (7 : Int32))), .val (.int (((p2.toUInt32 >>> ((15 : Int32) &&& 31).toUInt32).toInt32) &&& (3 : Int32))), .val (.int ((p3 &&& (255 : Int32)).toUInt32.toUInt16.toUInt32.toInt32)), .val (.int ((((p3.toUInt32 >>> ((8 : Int32) &&& 31).toUInt32).toInt32) &&& (255 : Int32)).toUInt32.toUInt16.toUInt32.toInt32)), .unset, .unset, .unset, .unset, .unset, .unset, .unset] [(.int ((((p3.toUInt32 >>> ((8 : Int32) &&& 31).toUInt32).toInt32) &&& (255 : Int32)).toUInt32.toUInt16.toUInt32.toInt32)), (.int ((p3 &&& (255 : Int32)).toUInt32.toUInt16.toUInt32.toInt32)), (.int (((p2.toUInt32 >>> ((5 : Int32) &&& 31).toUInt32).toInt32) &&& (3 : Int32))), (.int (((p2.toUInt32 >>> ((2 : Int32) &&& 31).toUInt32).toInt32) &&& (7 : Int32))), (.long (0 : Int64))]) _ := fun t k => pre21 t (by
    refine XS.lstore X20.here hx rfl (hb hby at_19) rfl (l' := #[.val (.int p0), .val (.long q1), .second, .val (.int p2), .val (.int p3), .val (.int (f1 (1 : Int32) (p0 &&& (2147483647 : Int32)))), .val (.long (f2 (1 : Int64) (q1 &&& (9223372036854775807 : Int64)))), .second, .unset, .unset, .unset, .unset, .unset, .unset, .unset, .unset, .unset, .unset, .unset, .unset, .unset, .unset, .unset, .unset]) rfl ?_
    refine XS.iloadN X20.here hx rfl (hb hby at_21) rfl ?_
    refine XS.iconst X20.here hx rfl (hb hby at_22) ?_
    refine XS.iand X20.here hx rfl (hb hby at_23) rfl ?_
    refine XS.istore X20.here hx rfl (hb hby at_24) rfl (l' := #[.val (.int p0), .val (.long q1), .second, .val (.int p2), .val (.int p3), .val (.int (f1 (1 : Int32) (p0 &&& (2147483647 : Int32)))), .val (.long (f2 (1 : Int64) (q1 &&& (9223372036854775807 : Int64)))), .second, .val (.int (p2 &&& (3 : Int32))), .unset, .unset, .unset, .unset, .unset, .unset, .unset, .unset, .unset, .unset, .unset, .unset, .unset, .unset, .unset]) rfl ?_
    refine XS.iloadN X20.here hx rfl (hb hby at_26) rfl ?_
    refine XS.iconst X20.here hx rfl (hb hby at_27) ?_
    refine XS.iushr X20.here hx rfl (hb hby at_28) rfl ?_
    refine XS.bipush X20.here hx rfl (hb hby at_29) ?_
    refine XS.iand X20.here hx rfl (hb hby at_31) rfl ?_
    refine XS.istore X20.here hx rfl (hb hby at_32) rfl (l' := #[.val (.int p0), .val (.long q1), .second, .val (.int p2), .val (.int p3), .val (.int (f1 (1 : Int32) (p0 &&& (2147483647 : Int32)))), .val (.long (f2 (1 : Int64) (q1 &&& (9223372036854775807 : Int64)))), .second, .val (.int (p2 &&& (3 : Int32))), .val (.int (((p2.toUInt32 >>> ((2 : Int32) &&& 31).toUInt32).toInt32) &&& (7 : Int32))), .unset, .unset, .unset, .unset, .unset, .unset, .unset, .unset, .unset, .unset, .unset, .unset, .unset, .unset]) rfl ?_
    refine XS.iloadN X20.here hx rfl (hb hby at_34) rfl ?_
    refine XS.iconst X20.here hx rfl (hb hby at_35) ?_
    refine XS.iushr X20.here hx rfl (hb hby at_36) rfl ?_
    refine XS.iconst X20.here hx rfl (hb hby at_37) ?_
    refine XS.iand X20.here hx rfl (hb hby at_38) rfl ?_
    refine XS.istore X20.here hx rfl (hb hby at_39) rfl (l' := #[.val (.int p0), .val (.long q1), .second, .val (.int p2), .val (.int p3), .val (.int (f1 (1 : Int32) (p0 &&& (2147483647 : Int32)))), .val (.long (f2 (1 : Int64) (q1 &&& (9223372036854775807 : Int64)))), .second, .val (.int (p2 &&& (3 : Int32))), .val (.int (((p2.toUInt32 >>> ((2 : Int32) &&& 31).toUInt32).toInt32) &&& (7 : Int32))), .val (.int (((p2.toUInt32 >>> ((5 : Int32) &&& 31).toUInt32).toInt32) &&& (3 : Int32))), .unset, .unset, .unset, .unset, .unset, .unset, .unset, .unset, .unset, .unset, .unset, .unset, .unset]) rfl ?_
    refine XS.iloadN X20.here hx rfl (hb hby at_41) rfl ?_
    refine XS.bipush X20.here hx rfl (hb hby at_42) ?_
    refine XS.iushr X20.here hx rfl (hb hby at_44) rfl ?_
    refine XS.bipush X20.here hx rfl (hb hby at_45) ?_
    refine XS.iand X20.here hx rfl (hb hby at_47) rfl ?_
    refine XS.istore X20.here hx rfl (hb hby at_48) rfl (l' := #[.val (.int p0), .val (.long q1), .second, .val (.int p2), .val (.int p3), .val (.int (f1 (1 : Int32) (p0 &&& (2147483647 : Int32)))), .val (.long (f2 (1 : Int64) (q1 &&& (9223372036854775807 : Int64)))), .second, .val (.int (p2 &&& (3 : Int32))), .val (.int (((p2.toUInt32 >>> ((2 : Int32) &&& 31).toUInt32).toInt32) &&& (7 : Int32))), .val (.int (((p2.toUInt32 >>> ((5 : Int32) &&& 31).toUInt32).toInt32) &&& (3 : Int32))), .val (.int (((p2.toUInt32 >>> ((7 : Int32) &&& 31).toUInt32).toInt32) &&& (7 : Int32))), .unset, .unset, .unset, .unset, .unset, .unset, .unset, .unset, .unset, .unset, .unset, .unset]) rfl ?_
    refine XS.iloadN X20.here hx rfl (hb hby at_50) rfl ?_
    refine XS.bipush X20.here hx rfl (hb hby at_51) ?_
    refine XS.iushr X20.here hx rfl (hb hby at_53) rfl ?_
    refine XS.iconst X20.here hx rfl (hb hby at_54) ?_
    refine XS.iand X20.here hx rfl (hb hby at_55) rfl ?_
    refine XS.istore X20.here hx rfl (hb hby at_56) rfl (l' := #[.val (.int p0), .val (.long q1), .second, .val (.int p2), .val (.int p3), .val (.int (f1 (1 : Int32) (p0 &&& (2147483647 : Int32)))), .val (.long (f2 (1 : Int64) (q1 &&& (9223372036854775807 : Int64)))), .second, .val (.int (p2 &&& (3 : Int32))), .val (.int (((p2.toUInt32 >>> ((2 : Int32) &&& 31).toUInt32).toInt32) &&& (7 : Int32))), .val (.int (((p2.toUInt32 >>> ((5 : Int32) &&& 31).toUInt32).toInt32) &&& (3 : Int32))), .val (.int (((p2.toUInt32 >>> ((7 : Int32) &&& 31).toUInt32).toInt32) &&& (7 : Int32))), .val (.int (((p2.toUInt32 >>> ((10 : Int32) &&& 31).toUInt32).toInt32) &&& (3 : Int32))), .unset, .unset, .unset, .unset, .unset, .unset, .unset, .unset, .unset, .unset, .unset]) rfl ?_
    refine XS.iloadN X20.here hx rfl (hb hby at_58) rfl ?_
    refine XS.bipush X20.here hx rfl (hb hby at_59) ?_
    refine XS.iushr X20.here hx rfl (hb hby at_61) rfl ?_
    refine XS.bipush X20.here hx rfl (hb hby at_62) ?_
    refine XS.iand X20.here hx rfl (hb hby at_64) rfl ?_
    refine XS.istore X20.here hx rfl (hb hby at_65) rfl (l' := #[.val (.int p0), .val (.long q1), .second, .val (.int p2), .val (.int p3), .val (.int (f1 (1 : Int32) (p0 &&& (2147483647 : Int32)))), .val (.long (f2 (1 : Int64) (q1 &&& (9223372036854775807 : Int64)))), .second, .val (.int (p2 &&& (3 : Int32))), .val (.int (((p2.toUInt32 >>> ((2 : Int32) &&& 31).toUInt32).toInt32) &&& (7 : Int32))), .val (.int (((p2.toUInt32 >>> ((5 : Int32) &&& 31).toUInt32).toInt32) &&& (3 : Int32))), .val (.int (((p2.toUInt32 >>> ((7 : Int32) &&& 31).toUInt32).toInt32) &&& (7 : Int32))), .val (.int (((p2.toUInt32 >>> ((10 : Int32) &&& 31).toUInt32).toInt32) &&& (3 : Int32))), .val (.int (((p2.toUInt32 >>> ((12 : Int32) &&& 31).toUInt32).toInt32) &&& (7 : Int32))), .unset, .unset, .unset, .unset, .unset, .unset, .unset, .unset, .unset, .unset]) rfl ?_
    refine XS.iloadN X20.here hx rfl (hb hby at_67) rfl ?_
    refine XS.bipush X20.here hx rfl (hb hby at_68) ?_
    refine XS.iushr X20.here hx rfl (hb hby at_70) rfl ?_
    refine XS.iconst X20.here hx rfl (hb hby at_71) ?_
    refine XS.iand X20.here hx rfl (hb hby at_72) rfl ?_
    refine XS.istore X20.here hx rfl (hb hby at_73) rfl (l' := #[.val (.int p0), .val (.long q1), .second, .val (.int p2), .val (.int p3), .val (.int (f1 (1 : Int32) (p0 &&& (2147483647 : Int32)))), .val (.long (f2 (1 : Int64) (q1 &&& (9223372036854775807 : Int64)))), .second, .val (.int (p2 &&& (3 : Int32))), .val (.int (((p2.toUInt32 >>> ((2 : Int32) &&& 31).toUInt32).toInt32) &&& (7 : Int32))), .val (.int (((p2.toUInt32 >>> ((5 : Int32) &&& 31).toUInt32).toInt32) &&& (3 : Int32))), .val (.int (((p2.toUInt32 >>> ((7 : Int32) &&& 31).toUInt32).toInt32) &&& (7 : Int32))), .val (.int (((p2.toUInt32 >>> ((10 : Int32) &&& 31).toUInt32).toInt32) &&& (3 : Int32))), .val (.int (((p2.toUInt32 >>> ((12 : Int32) &&& 31).toUInt32).toInt32) &&& (7 : Int32))), .val (.int (((p2.toUInt32 >>> ((15 : Int32) &&& 31).toUInt32).toInt32) &&& (3 : Int32))), .unset, .unset, .unset, .unset, .unset, .unset, .unset, .unset, .unset]) rfl ?_
    refine XS.iload X20.here hx rfl (hb hby at_75) rfl ?_
    refine XS.sipush X20.here hx rfl (hb hby at_77) ?_
    refine XS.iand X20.here hx rfl (hb hby at_80) rfl ?_
    refine XS.i2c X20.here hx rfl (hb hby at_81) rfl ?_
    refine XS.istore X20.here hx rfl (hb hby at_82) rfl (l' := #[.val (.int p0), .val (.long q1), .second, .val (.int p2), .val (.int p3), .val (.int (f1 (1 : Int32) (p0 &&& (2147483647 : Int32)))), .val (.long (f2 (1 : Int64) (q1 &&& (9223372036854775807 : Int64)))), .second, .val (.int (p2 &&& (3 : Int32))), .val (.int (((p2.toUInt32 >>> ((2 : Int32) &&& 31).toUInt32).toInt32) &&& (7 : Int32))), .val (.int (((p2.toUInt32 >>> ((5 : Int32) &&& 31).toUInt32).toInt32) &&& (3 : Int32))), .val (.int (((p2.toUInt32 >>> ((7 : Int32) &&& 31).toUInt32).toInt32) &&& (7 : Int32))), .val (.int (((p2.toUInt32 >>> ((10 : Int32) &&& 31).toUInt32).toInt32) &&& (3 : Int32))), .val (.int (((p2.toUInt32 >>> ((12 : Int32) &&& 31).toUInt32).toInt32) &&& (7 : Int32))), .val (.int (((p2.toUInt32 >>> ((15 : Int32) &&& 31).toUInt32).toInt32) &&& (3 : Int32))), .val (.int ((p3 &&& (255 : Int32)).toUInt32.toUInt16.toUInt32.toInt32)), .unset, .unset, .unset, .unset, .unset, .unset, .unset, .unset]) rfl ?_
    refine XS.iload X20.here hx rfl (hb hby at_84) rfl ?_
    refine XS.bipush X20.here hx rfl (hb hby at_86) ?_
    refine XS.iushr X20.here hx rfl (hb hby at_88) rfl ?_
    refine XS.sipush X20.here hx rfl (hb hby at_89) ?_
    refine XS.iand X20.here hx rfl (hb hby at_92) rfl ?_
    refine XS.i2c X20.here hx rfl (hb hby at_93) rfl ?_
    refine XS.istore X20.here hx rfl (hb hby at_94) rfl (l' := #[.val (.int p0), .val (.long q1), .second, .val (.int p2), .val (.int p3), .val (.int (f1 (1 : Int32) (p0 &&& (2147483647 : Int32)))), .val (.long (f2 (1 : Int64) (q1 &&& (9223372036854775807 : Int64)))), .second, .val (.int (p2 &&& (3 : Int32))), .val (.int (((p2.toUInt32 >>> ((2 : Int32) &&& 31).toUInt32).toInt32) &&& (7 : Int32))), .val (.int (((p2.toUInt32 >>> ((5 : Int32) &&& 31).toUInt32).toInt32) &&& (3 : Int32))), .val (.int (((p2.toUInt32 >>> ((7 : Int32) &&& 31).toUInt32).toInt32) &&& (7 : Int32))), .val (.int (((p2.toUInt32 >>> ((10 : Int32) &&& 31).toUInt32).toInt32) &&& (3 : Int32))), .val (.int (((p2.toUInt32 >>> ((12 : Int32) &&& 31).toUInt32).toInt32) &&& (7 : Int32))), .val (.int (((p2.toUInt32 >>> ((15 : Int32) &&& 31).toUInt32).toInt32) &&& (3 : Int32))), .val (.int ((p3 &&& (255 : Int32)).toUInt32.toUInt16.toUInt32.toInt32)), .val (.int ((((p3.toUInt32 >>> ((8 : Int32) &&& 31).toUInt32).toInt32) &&& (255 : Int32)).toUInt32.toUInt16.toUInt32.toInt32)), .unset, .unset, .unset, .unset, .unset, .unset, .unset]) rfl ?_
    refine XS.lconst X20.here hx rfl (hb hby at_96) ?_
    refine XS.iload X20.here hx rfl (hb hby at_97) rfl ?_
    refine XS.iload X20.here hx rfl (hb hby at_99) rfl ?_
    refine XS.iload X20.here hx rfl (hb hby at_101) rfl ?_
    refine XS.iload X20.here hx rfl (hb hby at_103) rfl ?_
    exact k)
  obtain ⟨_, _, ⟨T23, L23, k23, n23⟩, -, X23, hSn23, hgn23, ⟨Lc23, hQ23, l23, y23, z23⟩, st23⟩ := callSS X20 hx (y := Nm_10) hown (mvT hZ (wq hw 9 rfl)) (mvT hZ (wq hw 10 rfl)) (mvT hZ (wq hw 11 rfl)) (mvT hZ (wq hw 12 rfl)) (by decide) (own_backJ J0 (Wd := 0) (rm3 l Z a0 hw [] (0 : Int64) (((p2.toUInt32 >>> ((2 : Int32) &&& 31).toUInt32).toInt32) &&& (7 : Int32)) (((p2.toUInt32 >>> ((5 : Int32) &&& 31).toUInt32).toInt32) &&& (3 : Int32)) ((p3 &&& (255 : Int32)).toUInt32.toUInt16.toUInt32.toInt32) ((((p3.toUInt32 >>> ((8 : Int32) &&& 31).toUInt32).toInt32) &&& (255 : Int32)).toUInt32.toUInt16.toUInt32.toInt32) wcs jb h0 n0 Z0 I0 OX hjs (own_m7 _) hcw hh53 hh7 hcs (own_m3 _) (own_c8 _) (own_c8 _)) hZ (wq hw 12 rfl) (wq hw 11 rfl) (by decide) (by decide)) (g := (mkF m 105 #[.val (.int p0), .val (.long q1), .second, .val (.int p2), .val (.int p3), .val (.int (f1 (1 : Int32) (p0 &&& (2147483647 : Int32)))), .val (.long (f2 (1 : Int64) (q1 &&& (9223372036854775807 : Int64)))), .second, .val (.int (p2 &&& (3 : Int32))), .val (.int (((p2.toUInt32 >>> ((2 : Int32) &&& 31).toUInt32).toInt32) &&& (7 : Int32))), .val (.int (((p2.toUInt32 >>> ((5 : Int32) &&& 31).toUInt32).toInt32) &&& (3 : Int32))), .val (.int (((p2.toUInt32 >>> ((7 : Int32) &&& 31).toUInt32).toInt32) &&& (7 : Int32))), .val (.int (((p2.toUInt32 >>> ((10 : Int32) &&& 31).toUInt32).toInt32) &&& (3 : Int32))), .val (.int (((p2.toUInt32 >>> ((12 : Int32) &&& 31).toUInt32).toInt32) &&& (7 : Int32))), .val (.int (((p2.toUInt32 >>> ((15 : Int32) &&& 31).toUInt32).toInt32) &&& (3 : Int32))), .val (.int ((p3 &&& (255 : Int32)).toUInt32.toUInt16.toUInt32.toInt32)), .val (.int ((((p3.toUInt32 >>> ((8 : Int32) &&& 31).toUInt32).toInt32) &&& (255 : Int32)).toUInt32.toUInt16.toUInt32.toInt32)), .unset, .unset, .unset, .unset, .unset, .unset, .unset] [(.int ((((p3.toUInt32 >>> ((8 : Int32) &&& 31).toUInt32).toInt32) &&& (255 : Int32)).toUInt32.toUInt16.toUInt32.toInt32)), (.int ((p3 &&& (255 : Int32)).toUInt32.toUInt16.toUInt32.toInt32)), (.int (((p2.toUInt32 >>> ((5 : Int32) &&& 31).toUInt32).toInt32) &&& (3 : Int32))), (.int (((p2.toUInt32 >>> ((2 : Int32) &&& 31).toUInt32).toInt32) &&& (7 : Int32))), (.long (0 : Int64))])) rfl (by rw [hml]; rfl) (argsL := [(.long (0 : Int64)), (.int (((p2.toUInt32 >>> ((2 : Int32) &&& 31).toUInt32).toInt32) &&& (7 : Int32))), (.int (((p2.toUInt32 >>> ((5 : Int32) &&& 31).toUInt32).toInt32) &&& (3 : Int32))), (.int ((p3 &&& (255 : Int32)).toUInt32.toUInt16.toUInt32.toInt32)), (.int ((((p3.toUInt32 >>> ((8 : Int32) &&& 31).toUInt32).toInt32) &&& (255 : Int32)).toUInt32.toUInt16.toUInt32.toInt32))]) (rest := []) (lenOf pd__JIICC_Lcom_example_oncemark_oncemark_Message_ rfl) rfl (w00 rfl) (hb hby at_105) (fun _ _ => ⟨rfl, e20, (by decide : 0 + 8 ≤ _), (by decide : 0 + 28 ≤ _)⟩)
  dsimp only [Pt.U, Pt.locs, Pt.cells, Pt.slots] at X23 l23 y23 z23 st23 hQ23 hSn23 hgn23
  subst l23 y23 z23
  obtain ⟨X23, hS23, hZ, hown⟩ := rebS hS0 (by rw [e20]; exact kS0) X23 hSn23 hgn23 hZ hown
  obtain ⟨hQ23, Jq23⟩ := hQ23
  obtain ⟨b105_0, rfl, Nq23, Kq23, gz23_b105_0, o23_0, o23_1⟩ := hQ23
  have N23 := Fr.app N20 Nq23
  have K23 : Keep h0 T23.heap [] := K0.trans Kq23 all0
  have Z23 : n0 ≤ T23.heap.size := Nat.le_trans Z0 Kq23.1
  have x24 := own_staK I0 Kq23 all0
  have x25 := OX.keep Kq23
  have gg23_b105_0 : n0 ≤ b105_0 := Nat.le_trans Z0 gz23_b105_0
  have sz23_b105_0 : h0.size ≤ b105_0 := Nat.le_trans K0.1 gz23_b105_0
  have pre26 := Go.trn pre22 st23
  have pre27 : Go p e below T23 _ (mkF m 119 #[.val (.int p0), .val (.long q1), .second, .val (.int p2), .val (.int p3), .val (.int (f1 (1 : Int32) (p0 &&& (2147483647 : Int32)))), .val (.long (f2 (1 : Int64) (q1 &&& (9223372036854775807 : Int64)))), .second, .val (.int (p2 &&& (3 : Int32))), .val (.int (((p2.toUInt32 >>> ((2 : Int32) &&& 31).toUInt32).toInt32) &&& (7 : Int32))), .val (.int (((p2.toUInt32 >>> ((5 : Int32) &&& 31).toUInt32).toInt32) &&& (3 : Int32))), .val (.int (((p2.toUInt32 >>> ((7 : Int32) &&& 31).toUInt32).toInt32) &&& (7 : Int32))), .val (.int (((p2.toUInt32 >>> ((10 : Int32) &&& 31).toUInt32).toInt32) &&& (3 : Int32))), .val (.int (((p2.toUInt32 >>> ((12 : Int32) &&& 31).toUInt32).toInt32) &&& (7 : Int32))), .val (.int (((p2.toUInt32 >>> ((15 : Int32) &&& 31).toUInt32).toInt32) &&& (3 : Int32))), .val (.int ((p3 &&& (255 : Int32)).toUInt32.toUInt16.toUInt32.toInt32)), .val (.int ((((p3.toUInt32 >>> ((8 : Int32) &&& 31).toUInt32).toInt32) &&& (255 : Int32)).toUInt32.toUInt16.toUInt32.toInt32)), .val (.ref b105_0), .unset, .unset, .unset, .unset, .unset, .unset] [(.int ((p3 &&& (255 : Int32)).toUInt32.toUInt16.toUInt32.toInt32)), (.int ((((p3.toUInt32 >>> ((8 : Int32) &&& 31).toUInt32).toInt32) &&& (255 : Int32)).toUInt32.toUInt16.toUInt32.toInt32)), (.int (((p2.toUInt32 >>> ((10 : Int32) &&& 31).toUInt32).toInt32) &&& (3 : Int32))), (.int (((p2.toUInt32 >>> ((7 : Int32) &&& 31).toUInt32).toInt32) &&& (7 : Int32))), (.long (1 : Int64))]) _ := fun t k => pre26 t (by
    refine XS.astore X23.here hx rfl (hb hby at_108) rfl rfl (l' := #[.val (.int p0), .val (.long q1), .second, .val (.int p2), .val (.int p3), .val (.int (f1 (1 : Int32) (p0 &&& (2147483647 : Int32)))), .val (.long (f2 (1 : Int64) (q1 &&& (9223372036854775807 : Int64)))), .second, .val (.int (p2 &&& (3 : Int32))), .val (.int (((p2.toUInt32 >>> ((2 : Int32) &&& 31).toUInt32).toInt32) &&& (7 : Int32))), .val (.int (((p2.toUInt32 >>> ((5 : Int32) &&& 31).toUInt32).toInt32) &&& (3 : Int32))), .val (.int (((p2.toUInt32 >>> ((7 : Int32) &&& 31).toUInt32).toInt32) &&& (7 : Int32))), .val (.int (((p2.toUInt32 >>> ((10 : Int32) &&& 31).toUInt32).toInt32) &&& (3 : Int32))), .val (.int (((p2.toUInt32 >>> ((12 : Int32) &&& 31).toUInt32).toInt32) &&& (7 : Int32))), .val (.int (((p2.toUInt32 >>> ((15 : Int32) &&& 31).toUInt32).toInt32) &&& (3 : Int32))), .val (.int ((p3 &&& (255 : Int32)).toUInt32.toUInt16.toUInt32.toInt32)), .val (.int ((((p3.toUInt32 >>> ((8 : Int32) &&& 31).toUInt32).toInt32) &&& (255 : Int32)).toUInt32.toUInt16.toUInt32.toInt32)), .val (.ref b105_0), .unset, .unset, .unset, .unset, .unset, .unset]) rfl ?_
    refine XS.lconst X23.here hx rfl (hb hby at_110) ?_
    refine XS.iload X23.here hx rfl (hb hby at_111) rfl ?_
    refine XS.iload X23.here hx rfl (hb hby at_113) rfl ?_
    refine XS.iload X23.here hx rfl (hb hby at_115) rfl ?_
    refine XS.iload X23.here hx rfl (hb hby at_117) rfl ?_
    exact k)
  obtain ⟨_, _, ⟨T28, L28, k28, n28⟩, -, X28, hSn28, hgn28, ⟨Lc28, hQ28, l28, y28, z28⟩, st28⟩ := callSS X23 hx (y := Nm_10) hown (mvT hZ (wq hw 9 rfl)) (mvT hZ (wq hw 10 rfl)) (mvT hZ (wq hw 11 rfl)) (mvT hZ (wq hw 12 rfl)) (by decide) (own_backJ Jq23 (Wd := 0) (rm3 l Z a0 hw [] (1 : Int64) (((p2.toUInt32 >>> ((7 : Int32) &&& 31).toUInt32).toInt32) &&& (7 : Int32)) (((p2.toUInt32 >>> ((10 : Int32) &&& 31).toUInt32).toInt32) &&& (3 : Int32)) ((((p3.toUInt32 >>> ((8 : Int32) &&& 31).toUInt32).toInt32) &&& (255 : Int32)).toUInt32.toUInt16.toUInt32.toInt32) ((p3 &&& (255 : Int32)).toUInt32.toUInt16.toUInt32.toInt32) wcs T23.heap.size T23.heap n0 Z23 x24 x25 (Nat.le_refl _) (own_m7 _) hcw hh53 hh7 hcs (own_m3 _) (own_c8 _) (own_c8 _)) hZ (wq hw 12 rfl) (wq hw 11 rfl) (by decide) (by decide)) (g := (mkF m 119 #[.val (.int p0), .val (.long q1), .second, .val (.int p2), .val (.int p3), .val (.int (f1 (1 : Int32) (p0 &&& (2147483647 : Int32)))), .val (.long (f2 (1 : Int64) (q1 &&& (9223372036854775807 : Int64)))), .second, .val (.int (p2 &&& (3 : Int32))), .val (.int (((p2.toUInt32 >>> ((2 : Int32) &&& 31).toUInt32).toInt32) &&& (7 : Int32))), .val (.int (((p2.toUInt32 >>> ((5 : Int32) &&& 31).toUInt32).toInt32) &&& (3 : Int32))), .val (.int (((p2.toUInt32 >>> ((7 : Int32) &&& 31).toUInt32).toInt32) &&& (7 : Int32))), .val (.int (((p2.toUInt32 >>> ((10 : Int32) &&& 31).toUInt32).toInt32) &&& (3 : Int32))), .val (.int (((p2.toUInt32 >>> ((12 : Int32) &&& 31).toUInt32).toInt32) &&& (7 : Int32))), .val (.int (((p2.toUInt32 >>> ((15 : Int32) &&& 31).toUInt32).toInt32) &&& (3 : Int32))), .val (.int ((p3 &&& (255 : Int32)).toUInt32.toUInt16.toUInt32.toInt32)), .val (.int ((((p3.toUInt32 >>> ((8 : Int32) &&& 31).toUInt32).toInt32) &&& (255 : Int32)).toUInt32.toUInt16.toUInt32.toInt32)), .val (.ref b105_0), .unset, .unset, .unset, .unset, .unset, .unset] [(.int ((p3 &&& (255 : Int32)).toUInt32.toUInt16.toUInt32.toInt32)), (.int ((((p3.toUInt32 >>> ((8 : Int32) &&& 31).toUInt32).toInt32) &&& (255 : Int32)).toUInt32.toUInt16.toUInt32.toInt32)), (.int (((p2.toUInt32 >>> ((10 : Int32) &&& 31).toUInt32).toInt32) &&& (3 : Int32))), (.int (((p2.toUInt32 >>> ((7 : Int32) &&& 31).toUInt32).toInt32) &&& (7 : Int32))), (.long (1 : Int64))])) rfl (by rw [hml]; rfl) (argsL := [(.long (1 : Int64)), (.int (((p2.toUInt32 >>> ((7 : Int32) &&& 31).toUInt32).toInt32) &&& (7 : Int32))), (.int (((p2.toUInt32 >>> ((10 : Int32) &&& 31).toUInt32).toInt32) &&& (3 : Int32))), (.int ((((p3.toUInt32 >>> ((8 : Int32) &&& 31).toUInt32).toInt32) &&& (255 : Int32)).toUInt32.toUInt16.toUInt32.toInt32)), (.int ((p3 &&& (255 : Int32)).toUInt32.toUInt16.toUInt32.toInt32))]) (rest := []) (lenOf pd__JIICC_Lcom_example_oncemark_oncemark_Message_ rfl) rfl (w00 rfl) (hb hby at_119) (fun _ _ => ⟨rfl, rfl, (by decide : 8 + 8 ≤ _), (by decide : 28 + 28 ≤ _)⟩)
  dsimp only [Pt.U, Pt.locs, Pt.cells, Pt.slots] at X28 l28 y28 z28 st28 hQ28 hSn28 hgn28
  subst l28 y28 z28
  obtain ⟨X28, hS28, hZ, hown⟩ := rebS hS23 (Nat.le_refl _) X28 hSn28 hgn28 hZ hown
  obtain ⟨hQ28, Jq28⟩ := hQ28
  obtain ⟨b119_0, rfl, Nq28, Kq28, gz28_b119_0, o28_0, o28_1⟩ := hQ28
  have N28 := Fr.app N23 Nq28
  have K28 : Keep h0 T28.heap [] := K23.trans Kq28 all0
  have Z28 : n0 ≤ T28.heap.size := Nat.le_trans Z23 Kq28.1
  have x29 := own_staK x24 Kq28 all0
  have x30 := x25.keep Kq28
  have x31 := o23_0.keep Kq28
  have x32 := (o23_1.keep Kq28 all0).grow (Nat.le_trans (Nat.le_refl _) Kq28.1)
  have gg28_b119_0 : n0 ≤ b119_0 := Nat.le_trans Z23 gz28_b119_0
  have sz28_b119_0 : h0.size ≤ b119_0 := Nat.le_trans K23.1 gz28_b119_0
  have ne28_b105_0_b119_0 : b105_0 ≠ b119_0 := Nat.ne_of_lt (Nat.lt_of_lt_of_le o23_0.lt gz28_b119_0)
  have pre33 := Go.trn pre27 st28
  have pre34 : Go p e below T28 _ (mkF m 135 #[.val (.int p0), .val (.long q1), .second, .val (.int p2), .val (.int p3), .val (.int (f1 (1 : Int32) (p0 &&& (2147483647 : Int32)))), .val (.long (f2 (1 : Int64) (q1 &&& (9223372036854775807 : Int64)))), .second, .val (.int (p2 &&& (3 : Int32))), .val (.int (((p2.toUInt32 >>> ((2 : Int32) &&& 31).toUInt32).toInt32) &&& (7 : Int32))), .val (.int (((p2.toUInt32 >>> ((5 : Int32) &&& 31).toUInt32).toInt32) &&& (3 : Int32))), .val (.int (((p2.toUInt32 >>> ((7 : Int32) &&& 31).toUInt32).toInt32) &&& (7 : Int32))), .val (.int (((p2.toUInt32 >>> ((10 : Int32) &&& 31).toUInt32).toInt32) &&& (3 : Int32))), .val (.int (((p2.toUInt32 >>> ((12 : Int32) &&& 31).toUInt32).toInt32) &&& (7 : Int32))), .val (.int (((p2.toUInt32 >>> ((15 : Int32) &&& 31).toUInt32).toInt32) &&& (3 : Int32))), .val (.int ((p3 &&& (255 : Int32)).toUInt32.toUInt16.toUInt32.toInt32)), .val (.int ((((p3.toUInt32 >>> ((8 : Int32) &&& 31).toUInt32).toInt32) &&& (255 : Int32)).toUInt32.toUInt16.toUInt32.toInt32)), .val (.ref b105_0), .val (.ref b119_0), .unset, .unset, .unset, .unset, .unset] [(.int ((p3 &&& (255 : Int32)).toUInt32.toUInt16.toUInt32.toInt32)), (.int ((p3 &&& (255 : Int32)).toUInt32.toUInt16.toUInt32.toInt32)), (.int (((p2.toUInt32 >>> ((15 : Int32) &&& 31).toUInt32).toInt32) &&& (3 : Int32))), (.int (((p2.toUInt32 >>> ((12 : Int32) &&& 31).toUInt32).toInt32) &&& (7 : Int32))), (.long (2 : Int64))]) _ := fun t k => pre33 t (by
    refine XS.astore X28.here hx rfl (hb hby at_122) rfl rfl (l' := #[.val (.int p0), .val (.long q1), .second, .val (.int p2), .val (.int p3), .val (.int (f1 (1 : Int32) (p0 &&& (2147483647 : Int32)))), .val (.long (f2 (1 : Int64) (q1 &&& (9223372036854775807 : Int64)))), .second, .val (.int (p2 &&& (3 : Int32))), .val (.int (((p2.toUInt32 >>> ((2 : Int32) &&& 31).toUInt32).toInt32) &&& (7 : Int32))), .val (.int (((p2.toUInt32 >>> ((5 : Int32) &&& 31).toUInt32).toInt32) &&& (3 : Int32))), .val (.int (((p2.toUInt32 >>> ((7 : Int32) &&& 31).toUInt32).toInt32) &&& (7 : Int32))), .val (.int (((p2.toUInt32 >>> ((10 : Int32) &&& 31).toUInt32).toInt32) &&& (3 : Int32))), .val (.int (((p2.toUInt32 >>> ((12 : Int32) &&& 31).toUInt32).toInt32) &&& (7 : Int32))), .val (.int (((p2.toUInt32 >>> ((15 : Int32) &&& 31).toUInt32).toInt32) &&& (3 : Int32))), .val (.int ((p3 &&& (255 : Int32)).toUInt32.toUInt16.toUInt32.toInt32)), .val (.int ((((p3.toUInt32 >>> ((8 : Int32) &&& 31).toUInt32).toInt32) &&& (255 : Int32)).toUInt32.toUInt16.toUInt32.toInt32)), .val (.ref b105_0), .val (.ref b119_0), .unset, .unset, .unset, .unset, .unset]) rfl ?_
    refine X28.ldc2Long hx hown (mvT hZ (wq hw 45 rfl)) (g := (mkF m 124 #[.val (.int p0), .val (.long q1), .second, .val (.int p2), .val (.int p3), .val (.int (f1 (1 : Int32) (p0 &&& (2147483647 : Int32)))), .val (.long (f2 (1 : Int64) (q1 &&& (9223372036854775807 : Int64)))), .second, .val (.int (p2 &&& (3 : Int32))), .val (.int (((p2.toUInt32 >>> ((2 : Int32) &&& 31).toUInt32).toInt32) &&& (7 : Int32))), .val (.int (((p2.toUInt32 >>> ((5 : Int32) &&& 31).toUInt32).toInt32) &&& (3 : Int32))), .val (.int (((p2.toUInt32 >>> ((7 : Int32) &&& 31).toUInt32).toInt32) &&& (7 : Int32))), .val (.int (((p2.toUInt32 >>> ((10 : Int32) &&& 31).toUInt32).toInt32) &&& (3 : Int32))), .val (.int (((p2.toUInt32 >>> ((12 : Int32) &&& 31).toUInt32).toInt32) &&& (7 : Int32))), .val (.int (((p2.toUInt32 >>> ((15 : Int32) &&& 31).toUInt32).toInt32) &&& (3 : Int32))), .val (.int ((p3 &&& (255 : Int32)).toUInt32.toUInt16.toUInt32.toInt32)), .val (.int ((((p3.toUInt32 >>> ((8 : Int32) &&& 31).toUInt32).toInt32) &&& (255 : Int32)).toUInt32.toUInt16.toUInt32.toInt32)), .val (.ref b105_0), .val (.ref b119_0), .unset, .unset, .unset, .unset, .unset] [])) rfl (hb hby at_124) _ ?_
    refine XS.iload X28.here hx rfl (hb hby at_127) rfl ?_
    refine XS.iload X28.here hx rfl (hb hby at_129) rfl ?_
    refine XS.iload X28.here hx rfl (hb hby at_131) rfl ?_
    refine XS.iload X28.here hx rfl (hb hby at_133) rfl ?_
    exact k)
  obtain ⟨_, _, ⟨T35, L35, k35, n35⟩, -, X35, hSn35, hgn35, ⟨Lc35, hQ35, l35, y35, z35⟩, st35⟩ := callSS X28 hx (y := Nm_10) hown (mvT hZ (wq hw 9 rfl)) (mvT hZ (wq hw 10 rfl)) (mvT hZ (wq hw 11 rfl)) (mvT hZ (wq hw 12 rfl)) (by decide) (own_backJ Jq28 (Wd := 0) (rm3 l Z a0 hw [] (2 : Int64) (((p2.toUInt32 >>> ((12 : Int32) &&& 31).toUInt32).toInt32) &&& (7 : Int32)) (((p2.toUInt32 >>> ((15 : Int32) &&& 31).toUInt32).toInt32) &&& (3 : Int32)) ((p3 &&& (255 : Int32)).toUInt32.toUInt16.toUInt32.toInt32) ((p3 &&& (255 : Int32)).toUInt32.toUInt16.toUInt32.toInt32) wcs T28.heap.size T28.heap n0 Z28 x29 x30 (Nat.le_refl _) (own_m7 _) hcw hh53 hh7 hcs (own_m3 _) (own_c8 _) (own_c8 _)) hZ (wq hw 12 rfl) (wq hw 11 rfl) (by decide) (by decide)) (g := (mkF m 135 #[.val (.int p0), .val (.long q1), .second, .val (.int p2), .val (.int p3), .val (.int (f1 (1 : Int32) (p0 &&& (2147483647 : Int32)))), .val (.long (f2 (1 : Int64) (q1 &&& (9223372036854775807 : Int64)))), .second, .val (.int (p2 &&& (3 : Int32))), .val (.int (((p2.toUInt32 >>> ((2 : Int32) &&& 31).toUInt32).toInt32) &&& (7 : Int32))), .val (.int (((p2.toUInt32 >>> ((5 : Int32) &&& 31).toUInt32).toInt32) &&& (3 : Int32))), .val (.int (((p2.toUInt32 >>> ((7 : Int32) &&& 31).toUInt32).toInt32) &&& (7 : Int32))), .val (.int (((p2.toUInt32 >>> ((10 : Int32) &&& 31).toUInt32).toInt32) &&& (3 : Int32))), .val (.int (((p2.toUInt32 >>> ((12 : Int32) &&& 31).toUInt32).toInt32) &&& (7 : Int32))), .val (.int (((p2.toUInt32 >>> ((15 : Int32) &&& 31).toUInt32).toInt32) &&& (3 : Int32))), .val (.int ((p3 &&& (255 : Int32)).toUInt32.toUInt16.toUInt32.toInt32)), .val (.int ((((p3.toUInt32 >>> ((8 : Int32) &&& 31).toUInt32).toInt32) &&& (255 : Int32)).toUInt32.toUInt16.toUInt32.toInt32)), .val (.ref b105_0), .val (.ref b119_0), .unset, .unset, .unset, .unset, .unset] [(.int ((p3 &&& (255 : Int32)).toUInt32.toUInt16.toUInt32.toInt32)), (.int ((p3 &&& (255 : Int32)).toUInt32.toUInt16.toUInt32.toInt32)), (.int (((p2.toUInt32 >>> ((15 : Int32) &&& 31).toUInt32).toInt32) &&& (3 : Int32))), (.int (((p2.toUInt32 >>> ((12 : Int32) &&& 31).toUInt32).toInt32) &&& (7 : Int32))), (.long (2 : Int64))])) rfl (by rw [hml]; rfl) (argsL := [(.long (2 : Int64)), (.int (((p2.toUInt32 >>> ((12 : Int32) &&& 31).toUInt32).toInt32) &&& (7 : Int32))), (.int (((p2.toUInt32 >>> ((15 : Int32) &&& 31).toUInt32).toInt32) &&& (3 : Int32))), (.int ((p3 &&& (255 : Int32)).toUInt32.toUInt16.toUInt32.toInt32)), (.int ((p3 &&& (255 : Int32)).toUInt32.toUInt16.toUInt32.toInt32))]) (rest := []) (lenOf pd__JIICC_Lcom_example_oncemark_oncemark_Message_ rfl) rfl (w00 rfl) (hb hby at_135) (fun _ _ => ⟨rfl, rfl, (by decide : 16 + 8 ≤ _), (by decide : 56 + 28 ≤ _)⟩)
  dsimp only [Pt.U, Pt.locs, Pt.cells, Pt.slots] at X35 l35 y35 z35 st35 hQ35 hSn35 hgn35
  subst l35 y35 z35
  obtain ⟨X35, hS35, hZ, hown⟩ := rebS hS28 (Nat.le_refl _) X35 hSn35 hgn35 hZ hown
  obtain ⟨hQ35, Jq35⟩ := hQ35
  obtain ⟨b135_0, rfl, Nq35, Kq35, gz35_b135_0, o35_0, o35_1⟩ := hQ35
  have N35 := Fr.app N28 Nq35
  have K35 : Keep h0 T35.heap [] := K28.trans Kq35 all0
  have Z35 : n0 ≤ T35.heap.size := Nat.le_trans Z28 Kq35.1
  have x36 := own_staK x29 Kq35 all0
  have x37 := x30.keep Kq35
  have x38 := x31.keep Kq35
  have x39 := (x32.keep Kq35 all0).grow (Nat.le_trans (Nat.le_refl _) Kq35.1)
  have x40 := o28_0.keep Kq35
  have x41 := (o28_1.keep Kq35 all0).grow (Nat.le_trans (Nat.le_refl _) Kq35.1)
  have gg35_b135_0 : n0 ≤ b135_0 := Nat.le_trans Z28 gz35_b135_0
  have sz35_b135_0 : h0.size ≤ b135_0 := Nat.le_trans K28.1 gz35_b135_0
  have ne35_b105_0_b135_0 : b105_0 ≠ b135_0 := Nat.ne_of_lt (Nat.lt_of_lt_of_le x31.lt gz35_b135_0)
  have ne35_b119_0_b135_0 : b119_0 ≠ b135_0 := Nat.ne_of_lt (Nat.lt_of_lt_of_le o28_0.lt gz35_b135_0)
  have pre42 := Go.trn pre34 st35
  have pre43 : Go p e below T35 _ (mkF m 140 #[.val (.int p0), .val (.long q1), .second, .val (.int p2), .val (.int p3), .val (.int (f1 (1 : Int32) (p0 &&& (2147483647 : Int32)))), .val (.long (f2 (1 : Int64) (q1 &&& (9223372036854775807 : Int64)))), .second, .val (.int (p2 &&& (3 : Int32))), .val (.int (((p2.toUInt32 >>> ((2 : Int32) &&& 31).toUInt32).toInt32) &&& (7 : Int32))), .val (.int (((p2.toUInt32 >>> ((5 : Int32) &&& 31).toUInt32).toInt32) &&& (3 : Int32))), .val (.int (((p2.toUInt32 >>> ((7 : Int32) &&& 31).toUInt32).toInt32) &&& (7 : Int32))), .val (.int (((p2.toUInt32 >>> ((10 : Int32) &&& 31).toUInt32).toInt32) &&& (3 : Int32))), .val (.int (((p2.toUInt32 >>> ((12 : Int32) &&& 31).toUInt32).toInt32) &&& (7 : Int32))), .val (.int (((p2.toUInt32 >>> ((15 : Int32) &&& 31).toUInt32).toInt32) &&& (3 : Int32))), .val (.int ((p3 &&& (255 : Int32)).toUInt32.toUInt16.toUInt32.toInt32)), .val (.int ((((p3.toUInt32 >>> ((8 : Int32) &&& 31).toUInt32).toInt32) &&& (255 : Int32)).toUInt32.toUInt16.toUInt32.toInt32)), .val (.ref b105_0), .val (.ref b119_0), .val (.ref b135_0), .unset, .unset, .unset, .unset] []) _ := fun t k => pre42 t (by
    refine XS.astore X35.here hx rfl (hb hby at_138) rfl rfl (l' := #[.val (.int p0), .val (.long q1), .second, .val (.int p2), .val (.int p3), .val (.int (f1 (1 : Int32) (p0 &&& (2147483647 : Int32)))), .val (.long (f2 (1 : Int64) (q1 &&& (9223372036854775807 : Int64)))), .second, .val (.int (p2 &&& (3 : Int32))), .val (.int (((p2.toUInt32 >>> ((2 : Int32) &&& 31).toUInt32).toInt32) &&& (7 : Int32))), .val (.int (((p2.toUInt32 >>> ((5 : Int32) &&& 31).toUInt32).toInt32) &&& (3 : Int32))), .val (.int (((p2.toUInt32 >>> ((7 : Int32) &&& 31).toUInt32).toInt32) &&& (7 : Int32))), .val (.int (((p2.toUInt32 >>> ((10 : Int32) &&& 31).toUInt32).toInt32) &&& (3 : Int32))), .val (.int (((p2.toUInt32 >>> ((12 : Int32) &&& 31).toUInt32).toInt32) &&& (7 : Int32))), .val (.int (((p2.toUInt32 >>> ((15 : Int32) &&& 31).toUInt32).toInt32) &&& (3 : Int32))), .val (.int ((p3 &&& (255 : Int32)).toUInt32.toUInt16.toUInt32.toInt32)), .val (.int ((((p3.toUInt32 >>> ((8 : Int32) &&& 31).toUInt32).toInt32) &&& (255 : Int32)).toUInt32.toUInt16.toUInt32.toInt32)), .val (.ref b105_0), .val (.ref b119_0), .val (.ref b135_0), .unset, .unset, .unset, .unset]) rfl ?_
    exact k)
  obtain ⟨T44, h44, X44, e44, E44, A44, D44, -, st44⟩ := newO X35 hx hZ hown (wq hw 46 rfl) (wq hw 47 rfl) (wq hw 48 rfl) rfl (g := (mkF m 140 #[.val (.int p0), .val (.long q1), .second, .val (.int p2), .val (.int p3), .val (.int (f1 (1 : Int32) (p0 &&& (2147483647 : Int32)))), .val (.long (f2 (1 : Int64) (q1 &&& (9223372036854775807 : Int64)))), .second, .val (.int (p2 &&& (3 : Int32))), .val (.int (((p2.toUInt32 >>> ((2 : Int32) &&& 31).toUInt32).toInt32) &&& (7 : Int32))), .val (.int (((p2.toUInt32 >>> ((5 : Int32) &&& 31).toUInt32).toInt32) &&& (3 : Int32))), .val (.int (((p2.toUInt32 >>> ((7 : Int32) &&& 31).toUInt32).toInt32) &&& (7 : Int32))), .val (.int (((p2.toUInt32 >>> ((10 : Int32) &&& 31).toUInt32).toInt32) &&& (3 : Int32))), .val (.int (((p2.toUInt32 >>> ((12 : Int32) &&& 31).toUInt32).toInt32) &&& (7 : Int32))), .val (.int (((p2.toUInt32 >>> ((15 : Int32) &&& 31).toUInt32).toInt32) &&& (3 : Int32))), .val (.int ((p3 &&& (255 : Int32)).toUInt32.toUInt16.toUInt32.toInt32)), .val (.int ((((p3.toUInt32 >>> ((8 : Int32) &&& 31).toUInt32).toInt32) &&& (255 : Int32)).toUInt32.toUInt16.toUInt32.toInt32)), .val (.ref b105_0), .val (.ref b119_0), .val (.ref b135_0), .unset, .unset, .unset, .unset] [])) rfl (hb hby at_140) (by decide) (by decide)
  obtain ⟨b140, g44⟩ : ∃ z, z = T35.heap.size := ⟨_, rfl⟩
  rw [← g44] at A44 D44 st44
  have gg44 : n0 ≤ b140 := Nat.le_trans Z35 (Nat.le_of_eq g44.symm)
  have sz44 : h0.size ≤ b140 := Nat.le_trans K35.1 (Nat.le_of_eq g44.symm)
  have K44 : Keep h0 h44 [] := K35.ext E44
  have Z44 : n0 ≤ h44.size := Nat.le_trans Z35 E44.1
  have ne44_b105_0 : b105_0 ≠ b140 := Nat.ne_of_lt (Nat.lt_of_lt_of_le x38.lt (Nat.le_of_eq g44.symm))
  have ne44_b119_0 : b119_0 ≠ b140 := Nat.ne_of_lt (Nat.lt_of_lt_of_le x40.lt (Nat.le_of_eq g44.symm))
  have ne44_b135_0 : b135_0 ≠ b140 := Nat.ne_of_lt (Nat.lt_of_lt_of_le o35_0.lt (Nat.le_of_eq g44.symm))
  have x45 := x36.ext E44
  have x46 := x37.ext E44
  have x47 := Jq35.ext E44
  have x48 := x38.ext E44
  have x49 := x39.ext E44
  have x50 := x40.ext E44
  have x51 := x41.ext E44
  have x52 := o35_0.ext E44
  have x53 := o35_1.ext E44
  have Fn44_messages : Fld Z h44 b140 "com/example/oncemark/oncemark/ReceiveQueue" "messages" "Ljava/util/Deque;" .null := D44 (Or.inr (wq hw 71 rfl)) (ty := (.object "java/util/Deque")) (by decide)
  have Fn44_maxMessages : Fld Z h44 b140 "com/example/oncemark/oncemark/ReceiveQueue" "maxMessages" "I" (.int 0) := D44 (Or.inr (wq hw 73 rfl)) (ty := .int) (by decide)
  have Fn44_maxBytes : Fld Z h44 b140 "com/example/oncemark/oncemark/ReceiveQueue" "maxBytes" "J" (.long (0 : Int64)) := D44 (Or.inr (wq hw 75 rfl)) (ty := .long) (by decide)
  have Fn44_bytes : Fld Z h44 b140 "com/example/oncemark/oncemark/ReceiveQueue" "bytes" "J" (.long (0 : Int64)) := D44 (Or.inl (wq hw 104 rfl)) (ty := .long) (by decide)
  have pre54 := Go.thn pre43 st44
  have jl44 : T35.heap.size ≤ h44.size := Nat.le_trans (Nat.le_refl _) E44.1
  have kS44 : _ ≤ h44.size := Nat.le_trans (Nat.le_refl _) E44.1
  have pre55 : Go p e below T44 _ (mkF m 148 #[.val (.int p0), .val (.long q1), .second, .val (.int p2), .val (.int p3), .val (.int (f1 (1 : Int32) (p0 &&& (2147483647 : Int32)))), .val (.long (f2 (1 : Int64) (q1 &&& (9223372036854775807 : Int64)))), .second, .val (.int (p2 &&& (3 : Int32))), .val (.int (((p2.toUInt32 >>> ((2 : Int32) &&& 31).toUInt32).toInt32) &&& (7 : Int32))), .val (.int (((p2.toUInt32 >>> ((5 : Int32) &&& 31).toUInt32).toInt32) &&& (3 : Int32))), .val (.int (((p2.toUInt32 >>> ((7 : Int32) &&& 31).toUInt32).toInt32) &&& (7 : Int32))), .val (.int (((p2.toUInt32 >>> ((10 : Int32) &&& 31).toUInt32).toInt32) &&& (3 : Int32))), .val (.int (((p2.toUInt32 >>> ((12 : Int32) &&& 31).toUInt32).toInt32) &&& (7 : Int32))), .val (.int (((p2.toUInt32 >>> ((15 : Int32) &&& 31).toUInt32).toInt32) &&& (3 : Int32))), .val (.int ((p3 &&& (255 : Int32)).toUInt32.toUInt16.toUInt32.toInt32)), .val (.int ((((p3.toUInt32 >>> ((8 : Int32) &&& 31).toUInt32).toInt32) &&& (255 : Int32)).toUInt32.toUInt16.toUInt32.toInt32)), .val (.ref b105_0), .val (.ref b119_0), .val (.ref b135_0), .unset, .unset, .unset, .unset] [(.long (f2 (1 : Int64) (q1 &&& (9223372036854775807 : Int64)))), (.int (f1 (1 : Int32) (p0 &&& (2147483647 : Int32)))), (.ref b140), (.ref b140)]) _ := fun t k => pre54 t (by
    refine XS.dup X44.here hx rfl (hb hby at_143) rfl rfl ?_
    refine XS.iload X44.here hx rfl (hb hby at_144) rfl ?_
    refine XS.lload X44.here hx rfl (hb hby at_146) rfl ?_
    exact k)
  obtain ⟨_, _, ⟨T56, L56, k56, n56⟩, -, X56, ⟨Lc56, hQ56, l56, y56, z56⟩, st56⟩ := X44.specialBack hx (y := Nm_27) rfl hown (mvT hZ (wq hw 49 rfl)) (mvT hZ (wq hw 50 rfl)) (mvT hZ (wq hw 51 rfl)) (by decide) (backOf (W := 1) (rm7 l Z a0 hw [] b140 (f1 (1 : Int32) (p0 &&& (2147483647 : Int32))) (f2 (1 : Int64) (q1 &&& (9223372036854775807 : Int64))) h44 n0 Z44 A44 Fn44_messages Fn44_maxMessages Fn44_maxBytes Fn44_bytes gg44) hZ (wq hw 51 rfl) (wq hw 48 rfl) (by decide) (by decide)) (g := (mkF m 148 #[.val (.int p0), .val (.long q1), .second, .val (.int p2), .val (.int p3), .val (.int (f1 (1 : Int32) (p0 &&& (2147483647 : Int32)))), .val (.long (f2 (1 : Int64) (q1 &&& (9223372036854775807 : Int64)))), .second, .val (.int (p2 &&& (3 : Int32))), .val (.int (((p2.toUInt32 >>> ((2 : Int32) &&& 31).toUInt32).toInt32) &&& (7 : Int32))), .val (.int (((p2.toUInt32 >>> ((5 : Int32) &&& 31).toUInt32).toInt32) &&& (3 : Int32))), .val (.int (((p2.toUInt32 >>> ((7 : Int32) &&& 31).toUInt32).toInt32) &&& (7 : Int32))), .val (.int (((p2.toUInt32 >>> ((10 : Int32) &&& 31).toUInt32).toInt32) &&& (3 : Int32))), .val (.int (((p2.toUInt32 >>> ((12 : Int32) &&& 31).toUInt32).toInt32) &&& (7 : Int32))), .val (.int (((p2.toUInt32 >>> ((15 : Int32) &&& 31).toUInt32).toInt32) &&& (3 : Int32))), .val (.int ((p3 &&& (255 : Int32)).toUInt32.toUInt16.toUInt32.toInt32)), .val (.int ((((p3.toUInt32 >>> ((8 : Int32) &&& 31).toUInt32).toInt32) &&& (255 : Int32)).toUInt32.toUInt16.toUInt32.toInt32)), .val (.ref b105_0), .val (.ref b119_0), .val (.ref b135_0), .unset, .unset, .unset, .unset] [(.long (f2 (1 : Int64) (q1 &&& (9223372036854775807 : Int64)))), (.int (f1 (1 : Int32) (p0 &&& (2147483647 : Int32)))), (.ref b140), (.ref b140)])) rfl (by rw [hml]; rfl) (Steps.refl _) (a := b140) (argsL := [(.int (f1 (1 : Int32) (p0 &&& (2147483647 : Int32)))), (.long (f2 (1 : Int64) (q1 &&& (9223372036854775807 : Int64))))]) (rest := [(.ref b140)]) (lenOf pd__IJ_V rfl) rfl (w00 rfl) (hb hby at_148) (fun _ _ => ⟨rfl, e44, (by decide : 25 + 2 ≤ _), (by decide : 88 + 20 ≤ _)⟩)
  dsimp only [Pt.U, Pt.locs, Pt.cells, Pt.slots] at X56 l56 y56 z56 st56 hQ56
  subst l56 y56 z56
  obtain ⟨b148_0, b148_1, k_b9_0_56, rfl, Nq56, Kq56, gz56_b148_0, gz56_b148_1, o56_0, o56_1, o56_2, o56_3, o56_4, o56_5, o56_6, o56_7, o56_8, o56_9, o56_10⟩ := hQ56
  have N56 := Fr.app N35 Nq56
  have K56 : Keep h0 T56.heap [] := K44.trans Kq56 (allS (Or.inr sz44) all0)
  have Z56 : n0 ≤ T56.heap.size := Nat.le_trans Z44 Kq56.1
  have x57 := own_staK x45 Kq56 (allS (own_plE A44) all0)
  have x58 := x47.keep Kq56 (allS (Nat.le_trans (Nat.le_refl _) (Nat.le_of_eq g44.symm)) all0)
  have x59 := x48.keep Kq56
  have x60 := x49.keep Kq56 (allS (Nat.le_trans (Nat.le_refl _) (Nat.le_of_eq g44.symm)) all0)
  have x61 := x50.keep Kq56
  have x62 := x51.keep Kq56 (allS (Nat.le_trans (Nat.le_refl _) (Nat.le_of_eq g44.symm)) all0)
  have x63 := x52.keep Kq56
  have x64 := x53.keep Kq56 (allS (Nat.le_trans (Nat.le_refl _) (Nat.le_of_eq g44.symm)) all0)
  have x65 := A44.keep Kq56
  have gg56_b148_0 : n0 ≤ b148_0 := Nat.le_trans Z44 gz56_b148_0
  have sz56_b148_0 : h0.size ≤ b148_0 := Nat.le_trans K44.1 gz56_b148_0
  have ne56_b105_0_b148_0 : b105_0 ≠ b148_0 := Nat.ne_of_lt (Nat.lt_of_lt_of_le x48.lt gz56_b148_0)
  have ne56_b119_0_b148_0 : b119_0 ≠ b148_0 := Nat.ne_of_lt (Nat.lt_of_lt_of_le x50.lt gz56_b148_0)
  have ne56_b135_0_b148_0 : b135_0 ≠ b148_0 := Nat.ne_of_lt (Nat.lt_of_lt_of_le x52.lt gz56_b148_0)
  have ne56_b140_b148_0 : b140 ≠ b148_0 := Nat.ne_of_lt (Nat.lt_of_lt_of_le A44.lt gz56_b148_0)
  have gg56_b148_1 : n0 ≤ b148_1 := Nat.le_trans Z44 gz56_b148_1
  have sz56_b148_1 : h0.size ≤ b148_1 := Nat.le_trans K44.1 gz56_b148_1
  have ne56_b105_0_b148_1 : b105_0 ≠ b148_1 := Nat.ne_of_lt (Nat.lt_of_lt_of_le x48.lt gz56_b148_1)
  have ne56_b119_0_b148_1 : b119_0 ≠ b148_1 := Nat.ne_of_lt (Nat.lt_of_lt_of_le x50.lt gz56_b148_1)
  have ne56_b135_0_b148_1 : b135_0 ≠ b148_1 := Nat.ne_of_lt (Nat.lt_of_lt_of_le x52.lt gz56_b148_1)
  have ne56_b140_b148_1 : b140 ≠ b148_1 := Nat.ne_of_lt (Nat.lt_of_lt_of_le A44.lt gz56_b148_1)
  have pre66 := Go.trn pre55 st56
  have jl56 : T35.heap.size ≤ T56.heap.size := Nat.le_trans jl44 Kq56.1
  have kS56 : _ ≤ T56.heap.size := Nat.le_trans kS44 Kq56.1
  have pre67 : Go p e below T56 _ (mkF m 159 #[.val (.int p0), .val (.long q1), .second, .val (.int p2), .val (.int p3), .val (.int (f1 (1 : Int32) (p0 &&& (2147483647 : Int32)))), .val (.long (f2 (1 : Int64) (q1 &&& (9223372036854775807 : Int64)))), .second, .val (.int (p2 &&& (3 : Int32))), .val (.int (((p2.toUInt32 >>> ((2 : Int32) &&& 31).toUInt32).toInt32) &&& (7 : Int32))), .val (.int (((p2.toUInt32 >>> ((5 : Int32) &&& 31).toUInt32).toInt32) &&& (3 : Int32))), .val (.int (((p2.toUInt32 >>> ((7 : Int32) &&& 31).toUInt32).toInt32) &&& (7 : Int32))), .val (.int (((p2.toUInt32 >>> ((10 : Int32) &&& 31).toUInt32).toInt32) &&& (3 : Int32))), .val (.int (((p2.toUInt32 >>> ((12 : Int32) &&& 31).toUInt32).toInt32) &&& (7 : Int32))), .val (.int (((p2.toUInt32 >>> ((15 : Int32) &&& 31).toUInt32).toInt32) &&& (3 : Int32))), .val (.int ((p3 &&& (255 : Int32)).toUInt32.toUInt16.toUInt32.toInt32)), .val (.int ((((p3.toUInt32 >>> ((8 : Int32) &&& 31).toUInt32).toInt32) &&& (255 : Int32)).toUInt32.toUInt16.toUInt32.toInt32)), .val (.ref b105_0), .val (.ref b119_0), .val (.ref b135_0), .val (.ref b140), .val (.long (0 : Int64)), .second, .unset] [(.int 1), (.int (p2 &&& (3 : Int32)))]) _ := fun t k => pre66 t (by
    refine XS.astore X56.here hx rfl (hb hby at_151) rfl rfl (l' := #[.val (.int p0), .val (.long q1), .second, .val (.int p2), .val (.int p3), .val (.int (f1 (1 : Int32) (p0 &&& (2147483647 : Int32)))), .val (.long (f2 (1 : Int64) (q1 &&& (9223372036854775807 : Int64)))), .second, .val (.int (p2 &&& (3 : Int32))), .val (.int (((p2.toUInt32 >>> ((2 : Int32) &&& 31).toUInt32).toInt32) &&& (7 : Int32))), .val (.int (((p2.toUInt32 >>> ((5 : Int32) &&& 31).toUInt32).toInt32) &&& (3 : Int32))), .val (.int (((p2.toUInt32 >>> ((7 : Int32) &&& 31).toUInt32).toInt32) &&& (7 : Int32))), .val (.int (((p2.toUInt32 >>> ((10 : Int32) &&& 31).toUInt32).toInt32) &&& (3 : Int32))), .val (.int (((p2.toUInt32 >>> ((12 : Int32) &&& 31).toUInt32).toInt32) &&& (7 : Int32))), .val (.int (((p2.toUInt32 >>> ((15 : Int32) &&& 31).toUInt32).toInt32) &&& (3 : Int32))), .val (.int ((p3 &&& (255 : Int32)).toUInt32.toUInt16.toUInt32.toInt32)), .val (.int ((((p3.toUInt32 >>> ((8 : Int32) &&& 31).toUInt32).toInt32) &&& (255 : Int32)).toUInt32.toUInt16.toUInt32.toInt32)), .val (.ref b105_0), .val (.ref b119_0), .val (.ref b135_0), .val (.ref b140), .unset, .unset, .unset]) rfl ?_
    refine XS.lconst X56.here hx rfl (hb hby at_153) ?_
    refine XS.lstore X56.here hx rfl (hb hby at_154) rfl (l' := #[.val (.int p0), .val (.long q1), .second, .val (.int p2), .val (.int p3), .val (.int (f1 (1 : Int32) (p0 &&& (2147483647 : Int32)))), .val (.long (f2 (1 : Int64) (q1 &&& (9223372036854775807 : Int64)))), .second, .val (.int (p2 &&& (3 : Int32))), .val (.int (((p2.toUInt32 >>> ((2 : Int32) &&& 31).toUInt32).toInt32) &&& (7 : Int32))), .val (.int (((p2.toUInt32 >>> ((5 : Int32) &&& 31).toUInt32).toInt32) &&& (3 : Int32))), .val (.int (((p2.toUInt32 >>> ((7 : Int32) &&& 31).toUInt32).toInt32) &&& (7 : Int32))), .val (.int (((p2.toUInt32 >>> ((10 : Int32) &&& 31).toUInt32).toInt32) &&& (3 : Int32))), .val (.int (((p2.toUInt32 >>> ((12 : Int32) &&& 31).toUInt32).toInt32) &&& (7 : Int32))), .val (.int (((p2.toUInt32 >>> ((15 : Int32) &&& 31).toUInt32).toInt32) &&& (3 : Int32))), .val (.int ((p3 &&& (255 : Int32)).toUInt32.toUInt16.toUInt32.toInt32)), .val (.int ((((p3.toUInt32 >>> ((8 : Int32) &&& 31).toUInt32).toInt32) &&& (255 : Int32)).toUInt32.toUInt16.toUInt32.toInt32)), .val (.ref b105_0), .val (.ref b119_0), .val (.ref b135_0), .val (.ref b140), .val (.long (0 : Int64)), .second, .unset]) rfl ?_
    refine XS.iload X56.here hx rfl (hb hby at_156) rfl ?_
    refine XS.iconst X56.here hx rfl (hb hby at_158) ?_
    exact k)
  by_cases hc159_1 : (p2 &&& (3 : Int32)) < (1 : Int32)
  · have pre68 : Go p e below T56 _ (mkF m 242 #[.val (.int p0), .val (.long q1), .second, .val (.int p2), .val (.int p3), .val (.int (f1 (1 : Int32) (p0 &&& (2147483647 : Int32)))), .val (.long (f2 (1 : Int64) (q1 &&& (9223372036854775807 : Int64)))), .second, .val (.int (p2 &&& (3 : Int32))), .val (.int (((p2.toUInt32 >>> ((2 : Int32) &&& 31).toUInt32).toInt32) &&& (7 : Int32))), .val (.int (((p2.toUInt32 >>> ((5 : Int32) &&& 31).toUInt32).toInt32) &&& (3 : Int32))), .val (.int (((p2.toUInt32 >>> ((7 : Int32) &&& 31).toUInt32).toInt32) &&& (7 : Int32))), .val (.int (((p2.toUInt32 >>> ((10 : Int32) &&& 31).toUInt32).toInt32) &&& (3 : Int32))), .val (.int (((p2.toUInt32 >>> ((12 : Int32) &&& 31).toUInt32).toInt32) &&& (7 : Int32))), .val (.int (((p2.toUInt32 >>> ((15 : Int32) &&& 31).toUInt32).toInt32) &&& (3 : Int32))), .val (.int ((p3 &&& (255 : Int32)).toUInt32.toUInt16.toUInt32.toInt32)), .val (.int ((((p3.toUInt32 >>> ((8 : Int32) &&& 31).toUInt32).toInt32) &&& (255 : Int32)).toUInt32.toUInt16.toUInt32.toInt32)), .val (.ref b105_0), .val (.ref b119_0), .val (.ref b135_0), .val (.ref b140), .val (.long (0 : Int64)), .second, .unset] [(.int (lcmpW ((2 : Int64) * ((p2 &&& (3 : Int32)).toInt64)) ((f1 (1 : Int32) (p0 &&& (2147483647 : Int32))).toInt64)))]) _ := fun t k => pre67 t (by
      refine XS.icmpYes X56.here hx rfl (pc0 := 159) (pc' := 181) rfl (hb hby at_159) rfl (tlt hc159_1).1 (by decide) (by decide) ?_
      refine XS.iload X56.here hx rfl (hb hby at_181) rfl ?_
      refine XS.iconst X56.here hx rfl (hb hby at_183) ?_
      refine XS.icmpYes X56.here hx rfl (pc0 := 184) (pc' := 206) rfl (hb hby at_184) rfl (tlt (own_ltt (a := 1) (by assumption) (by decide))).1 (by decide) (by decide) ?_
      refine XS.iload X56.here hx rfl (hb hby at_206) rfl ?_
      refine XS.iconst X56.here hx rfl (hb hby at_208) ?_
      refine XS.icmpYes X56.here hx rfl (pc0 := 209) (pc' := 231) rfl (hb hby at_209) rfl (tlt (own_ltt (a := 1) (by assumption) (by decide))).1 (by decide) (by decide) ?_
      refine X56.ldc2Long hx hown (mvT hZ (wq hw 45 rfl)) (g := (mkF m 231 #[.val (.int p0), .val (.long q1), .second, .val (.int p2), .val (.int p3), .val (.int (f1 (1 : Int32) (p0 &&& (2147483647 : Int32)))), .val (.long (f2 (1 : Int64) (q1 &&& (9223372036854775807 : Int64)))), .second, .val (.int (p2 &&& (3 : Int32))), .val (.int (((p2.toUInt32 >>> ((2 : Int32) &&& 31).toUInt32).toInt32) &&& (7 : Int32))), .val (.int (((p2.toUInt32 >>> ((5 : Int32) &&& 31).toUInt32).toInt32) &&& (3 : Int32))), .val (.int (((p2.toUInt32 >>> ((7 : Int32) &&& 31).toUInt32).toInt32) &&& (7 : Int32))), .val (.int (((p2.toUInt32 >>> ((10 : Int32) &&& 31).toUInt32).toInt32) &&& (3 : Int32))), .val (.int (((p2.toUInt32 >>> ((12 : Int32) &&& 31).toUInt32).toInt32) &&& (7 : Int32))), .val (.int (((p2.toUInt32 >>> ((15 : Int32) &&& 31).toUInt32).toInt32) &&& (3 : Int32))), .val (.int ((p3 &&& (255 : Int32)).toUInt32.toUInt16.toUInt32.toInt32)), .val (.int ((((p3.toUInt32 >>> ((8 : Int32) &&& 31).toUInt32).toInt32) &&& (255 : Int32)).toUInt32.toUInt16.toUInt32.toInt32)), .val (.ref b105_0), .val (.ref b119_0), .val (.ref b135_0), .val (.ref b140), .val (.long (0 : Int64)), .second, .unset] [])) rfl (hb hby at_231) _ ?_
      refine XS.iload X56.here hx rfl (hb hby at_234) rfl ?_
      refine XS.i2l X56.here hx rfl (hb hby at_236) rfl ?_
      refine XS.lmul X56.here hx rfl (hb hby at_237) rfl ?_
      refine XS.iload X56.here hx rfl (hb hby at_238) rfl ?_
      refine XS.i2l X56.here hx rfl (hb hby at_240) rfl ?_
      refine XS.lcmp X56.here hx rfl (hb hby at_241) rfl ?_
      exact k)
    obtain ⟨T69, L69, X69, e69, N69, pre69⟩ : ∃ (T' : State) (L' : List Loc), Stand p l e room_1 (s.setVm T35.vm) m #[(.int p0), (.long q1), (.int p2), (.int p3)] below meth c T' L' 27 108 ∧ T'.heap = T56.heap ∧ Fr n0 L' ∧ ∀ t, Steps p.tables e below (T'.setTop (mkF m 262 #[.val (.int p0), .val (.long q1), .second, .val (.int p2), .val (.int p3), .val (.int (f1 (1 : Int32) (p0 &&& (2147483647 : Int32)))), .val (.long (f2 (1 : Int64) (q1 &&& (9223372036854775807 : Int64)))), .second, .val (.int (p2 &&& (3 : Int32))), .val (.int (((p2.toUInt32 >>> ((2 : Int32) &&& 31).toUInt32).toInt32) &&& (7 : Int32))), .val (.int (((p2.toUInt32 >>> ((5 : Int32) &&& 31).toUInt32).toInt32) &&& (3 : Int32))), .val (.int (((p2.toUInt32 >>> ((7 : Int32) &&& 31).toUInt32).toInt32) &&& (7 : Int32))), .val (.int (((p2.toUInt32 >>> ((10 : Int32) &&& 31).toUInt32).toInt32) &&& (3 : Int32))), .val (.int (((p2.toUInt32 >>> ((12 : Int32) &&& 31).toUInt32).toInt32) &&& (7 : Int32))), .val (.int (((p2.toUInt32 >>> ((15 : Int32) &&& 31).toUInt32).toInt32) &&& (3 : Int32))), .val (.int ((p3 &&& (255 : Int32)).toUInt32.toUInt16.toUInt32.toInt32)), .val (.int ((((p3.toUInt32 >>> ((8 : Int32) &&& 31).toUInt32).toInt32) &&& (255 : Int32)).toUInt32.toUInt16.toUInt32.toInt32)), .val (.ref b105_0), .val (.ref b119_0), .val (.ref b135_0), .val (.ref b140), .val (.long (0 : Int64)), .second, .unset] [(.int (v0_262_s0 p0 q1 p2))])) t → Steps p.tables e below (s₁.setTop (entryFrame m #[(.int p0), (.long q1), (.int p2), (.int p3)] maxLocals)) t := by
      by_cases hc242_2 : ((f1 (1 : Int32) (p0 &&& (2147483647 : Int32))).toInt64) < ((2 : Int64) * ((p2 &&& (3 : Int32)).toInt64))
      · have pre70 : Go p e below T56 _ (mkF m 262 #[.val (.int p0), .val (.long q1), .second, .val (.int p2), .val (.int p3), .val (.int (f1 (1 : Int32) (p0 &&& (2147483647 : Int32)))), .val (.long (f2 (1 : Int64) (q1 &&& (9223372036854775807 : Int64)))), .second, .val (.int (p2 &&& (3 : Int32))), .val (.int (((p2.toUInt32 >>> ((2 : Int32) &&& 31).toUInt32).toInt32) &&& (7 : Int32))), .val (.int (((p2.toUInt32 >>> ((5 : Int32) &&& 31).toUInt32).toInt32) &&& (3 : Int32))), .val (.int (((p2.toUInt32 >>> ((7 : Int32) &&& 31).toUInt32).toInt32) &&& (7 : Int32))), .val (.int (((p2.toUInt32 >>> ((10 : Int32) &&& 31).toUInt32).toInt32) &&& (3 : Int32))), .val (.int (((p2.toUInt32 >>> ((12 : Int32) &&& 31).toUInt32).toInt32) &&& (7 : Int32))), .val (.int (((p2.toUInt32 >>> ((15 : Int32) &&& 31).toUInt32).toInt32) &&& (3 : Int32))), .val (.int ((p3 &&& (255 : Int32)).toUInt32.toUInt16.toUInt32.toInt32)), .val (.int ((((p3.toUInt32 >>> ((8 : Int32) &&& 31).toUInt32).toInt32) &&& (255 : Int32)).toUInt32.toUInt16.toUInt32.toInt32)), .val (.ref b105_0), .val (.ref b119_0), .val (.ref b135_0), .val (.ref b140), .val (.long (0 : Int64)), .second, .unset] [(.int 0)]) _ := fun t k => pre68 t (by
          refine XS.ifYes X56.here hx rfl (pc0 := 242) (pc' := 261) rfl (hb hby at_242) rfl ((if0 _ _).trans (tlt ((lw_gt _ _).mpr hc242_2)).2.2.1) (by decide) (by decide) ?_
          refine XS.iconst X56.here hx rfl (hb hby at_261) ?_
          exact k)
        exact ⟨T56, _, X56, rfl, N56, fun t k => pre70 t (by simpa only [v0_262_s0, if_pos hc242_2] using k)⟩
      · have pre71 : Go p e below T56 _ (mkF m 254 #[.val (.int p0), .val (.long q1), .second, .val (.int p2), .val (.int p3), .val (.int (f1 (1 : Int32) (p0 &&& (2147483647 : Int32)))), .val (.long (f2 (1 : Int64) (q1 &&& (9223372036854775807 : Int64)))), .second, .val (.int (p2 &&& (3 : Int32))), .val (.int (((p2.toUInt32 >>> ((2 : Int32) &&& 31).toUInt32).toInt32) &&& (7 : Int32))), .val (.int (((p2.toUInt32 >>> ((5 : Int32) &&& 31).toUInt32).toInt32) &&& (3 : Int32))), .val (.int (((p2.toUInt32 >>> ((7 : Int32) &&& 31).toUInt32).toInt32) &&& (7 : Int32))), .val (.int (((p2.toUInt32 >>> ((10 : Int32) &&& 31).toUInt32).toInt32) &&& (3 : Int32))), .val (.int (((p2.toUInt32 >>> ((12 : Int32) &&& 31).toUInt32).toInt32) &&& (7 : Int32))), .val (.int (((p2.toUInt32 >>> ((15 : Int32) &&& 31).toUInt32).toInt32) &&& (3 : Int32))), .val (.int ((p3 &&& (255 : Int32)).toUInt32.toUInt16.toUInt32.toInt32)), .val (.int ((((p3.toUInt32 >>> ((8 : Int32) &&& 31).toUInt32).toInt32) &&& (255 : Int32)).toUInt32.toUInt16.toUInt32.toInt32)), .val (.ref b105_0), .val (.ref b119_0), .val (.ref b135_0), .val (.ref b140), .val (.long (0 : Int64)), .second, .unset] [(.int (lcmpW (0 : Int64) (f2 (1 : Int64) (q1 &&& (9223372036854775807 : Int64)))))]) _ := fun t k => pre68 t (by
          refine XS.ifNo X56.here hx rfl (hb hby at_242) rfl ((if0 _ _).trans (flt (fun q => hc242_2 ((lw_gt _ _).mp q))).2.2.1) ?_
          refine X56.ldc2Long hx hown (mvT hZ (wq hw 45 rfl)) (g := (mkF m 245 #[.val (.int p0), .val (.long q1), .second, .val (.int p2), .val (.int p3), .val (.int (f1 (1 : Int32) (p0 &&& (2147483647 : Int32)))), .val (.long (f2 (1 : Int64) (q1 &&& (9223372036854775807 : Int64)))), .second, .val (.int (p2 &&& (3 : Int32))), .val (.int (((p2.toUInt32 >>> ((2 : Int32) &&& 31).toUInt32).toInt32) &&& (7 : Int32))), .val (.int (((p2.toUInt32 >>> ((5 : Int32) &&& 31).toUInt32).toInt32) &&& (3 : Int32))), .val (.int (((p2.toUInt32 >>> ((7 : Int32) &&& 31).toUInt32).toInt32) &&& (7 : Int32))), .val (.int (((p2.toUInt32 >>> ((10 : Int32) &&& 31).toUInt32).toInt32) &&& (3 : Int32))), .val (.int (((p2.toUInt32 >>> ((12 : Int32) &&& 31).toUInt32).toInt32) &&& (7 : Int32))), .val (.int (((p2.toUInt32 >>> ((15 : Int32) &&& 31).toUInt32).toInt32) &&& (3 : Int32))), .val (.int ((p3 &&& (255 : Int32)).toUInt32.toUInt16.toUInt32.toInt32)), .val (.int ((((p3.toUInt32 >>> ((8 : Int32) &&& 31).toUInt32).toInt32) &&& (255 : Int32)).toUInt32.toUInt16.toUInt32.toInt32)), .val (.ref b105_0), .val (.ref b119_0), .val (.ref b135_0), .val (.ref b140), .val (.long (0 : Int64)), .second, .unset] [])) rfl (hb hby at_245) _ ?_
          refine XS.lload X56.here hx rfl (hb hby at_248) rfl ?_
          refine XS.lmul X56.here hx rfl (hb hby at_250) rfl ?_
          refine XS.lload X56.here hx rfl (hb hby at_251) rfl ?_
          refine XS.lcmp X56.here hx rfl (hb hby at_253) rfl ?_
          exact k)
        by_cases hc254_3 : (f2 (1 : Int64) (q1 &&& (9223372036854775807 : Int64))) < (0 : Int64)
        · have pre72 : Go p e below T56 _ (mkF m 262 #[.val (.int p0), .val (.long q1), .second, .val (.int p2), .val (.int p3), .val (.int (f1 (1 : Int32) (p0 &&& (2147483647 : Int32)))), .val (.long (f2 (1 : Int64) (q1 &&& (9223372036854775807 : Int64)))), .second, .val (.int (p2 &&& (3 : Int32))), .val (.int (((p2.toUInt32 >>> ((2 : Int32) &&& 31).toUInt32).toInt32) &&& (7 : Int32))), .val (.int (((p2.toUInt32 >>> ((5 : Int32) &&& 31).toUInt32).toInt32) &&& (3 : Int32))), .val (.int (((p2.toUInt32 >>> ((7 : Int32) &&& 31).toUInt32).toInt32) &&& (7 : Int32))), .val (.int (((p2.toUInt32 >>> ((10 : Int32) &&& 31).toUInt32).toInt32) &&& (3 : Int32))), .val (.int (((p2.toUInt32 >>> ((12 : Int32) &&& 31).toUInt32).toInt32) &&& (7 : Int32))), .val (.int (((p2.toUInt32 >>> ((15 : Int32) &&& 31).toUInt32).toInt32) &&& (3 : Int32))), .val (.int ((p3 &&& (255 : Int32)).toUInt32.toUInt16.toUInt32.toInt32)), .val (.int ((((p3.toUInt32 >>> ((8 : Int32) &&& 31).toUInt32).toInt32) &&& (255 : Int32)).toUInt32.toUInt16.toUInt32.toInt32)), .val (.ref b105_0), .val (.ref b119_0), .val (.ref b135_0), .val (.ref b140), .val (.long (0 : Int64)), .second, .unset] [(.int 0)]) _ := fun t k => pre71 t (by
            refine XS.ifYes X56.here hx rfl (pc0 := 254) (pc' := 261) rfl (hb hby at_254) rfl ((if0 _ _).trans (tlt ((lw_gt _ _).mpr hc254_3)).2.2.1) (by decide) (by decide) ?_
            refine XS.iconst X56.here hx rfl (hb hby at_261) ?_
            exact k)
          exact ⟨T56, _, X56, rfl, N56, fun t k => pre72 t (by simpa only [v0_262_s0, if_neg hc242_2, if_pos hc254_3] using k)⟩
        · have pre73 : Go p e below T56 _ (mkF m 262 #[.val (.int p0), .val (.long q1), .second, .val (.int p2), .val (.int p3), .val (.int (f1 (1 : Int32) (p0 &&& (2147483647 : Int32)))), .val (.long (f2 (1 : Int64) (q1 &&& (9223372036854775807 : Int64)))), .second, .val (.int (p2 &&& (3 : Int32))), .val (.int (((p2.toUInt32 >>> ((2 : Int32) &&& 31).toUInt32).toInt32) &&& (7 : Int32))), .val (.int (((p2.toUInt32 >>> ((5 : Int32) &&& 31).toUInt32).toInt32) &&& (3 : Int32))), .val (.int (((p2.toUInt32 >>> ((7 : Int32) &&& 31).toUInt32).toInt32) &&& (7 : Int32))), .val (.int (((p2.toUInt32 >>> ((10 : Int32) &&& 31).toUInt32).toInt32) &&& (3 : Int32))), .val (.int (((p2.toUInt32 >>> ((12 : Int32) &&& 31).toUInt32).toInt32) &&& (7 : Int32))), .val (.int (((p2.toUInt32 >>> ((15 : Int32) &&& 31).toUInt32).toInt32) &&& (3 : Int32))), .val (.int ((p3 &&& (255 : Int32)).toUInt32.toUInt16.toUInt32.toInt32)), .val (.int ((((p3.toUInt32 >>> ((8 : Int32) &&& 31).toUInt32).toInt32) &&& (255 : Int32)).toUInt32.toUInt16.toUInt32.toInt32)), .val (.ref b105_0), .val (.ref b119_0), .val (.ref b135_0), .val (.ref b140), .val (.long (0 : Int64)), .second, .unset] [(.int 1)]) _ := fun t k => pre71 t (by
            refine XS.ifNo X56.here hx rfl (hb hby at_254) rfl ((if0 _ _).trans (flt (fun q => hc254_3 ((lw_gt _ _).mp q))).2.2.1) ?_
            refine XS.iconst X56.here hx rfl (hb hby at_257) ?_
            refine XS.goto X56.here hx rfl (pc0 := 258) (pc' := 262) rfl (hb hby at_258) (by decide) (by decide) ?_
            exact k)
          exact ⟨T56, _, X56, rfl, N56, fun t k => pre73 t (by simpa only [v0_262_s0, if_neg hc242_2, if_neg hc254_3] using k)⟩
    have pre74 : Go p e below T69 _ (mkF m 266 #[.val (.int p0), .val (.long q1), .second, .val (.int p2), .val (.int p3), .val (.int (f1 (1 : Int32) (p0 &&& (2147483647 : Int32)))), .val (.long (f2 (1 : Int64) (q1 &&& (9223372036854775807 : Int64)))), .second, .val (.int (p2 &&& (3 : Int32))), .val (.int (((p2.toUInt32 >>> ((2 : Int32) &&& 31).toUInt32).toInt32) &&& (7 : Int32))), .val (.int (((p2.toUInt32 >>> ((5 : Int32) &&& 31).toUInt32).toInt32) &&& (3 : Int32))), .val (.int (((p2.toUInt32 >>> ((7 : Int32) &&& 31).toUInt32).toInt32) &&& (7 : Int32))), .val (.int (((p2.toUInt32 >>> ((10 : Int32) &&& 31).toUInt32).toInt32) &&& (3 : Int32))), .val (.int (((p2.toUInt32 >>> ((12 : Int32) &&& 31).toUInt32).toInt32) &&& (7 : Int32))), .val (.int (((p2.toUInt32 >>> ((15 : Int32) &&& 31).toUInt32).toInt32) &&& (3 : Int32))), .val (.int ((p3 &&& (255 : Int32)).toUInt32.toUInt16.toUInt32.toInt32)), .val (.int ((((p3.toUInt32 >>> ((8 : Int32) &&& 31).toUInt32).toInt32) &&& (255 : Int32)).toUInt32.toUInt16.toUInt32.toInt32)), .val (.ref b105_0), .val (.ref b119_0), .val (.ref b135_0), .val (.ref b140), .val (.long (0 : Int64)), .second, .val (.int (v0_262_s0 p0 q1 p2))] [(.ref b140)]) _ := fun t k => pre69 t (by
      refine XS.istore X69.here hx rfl (hb hby at_262) rfl (l' := #[.val (.int p0), .val (.long q1), .second, .val (.int p2), .val (.int p3), .val (.int (f1 (1 : Int32) (p0 &&& (2147483647 : Int32)))), .val (.long (f2 (1 : Int64) (q1 &&& (9223372036854775807 : Int64)))), .second, .val (.int (p2 &&& (3 : Int32))), .val (.int (((p2.toUInt32 >>> ((2 : Int32) &&& 31).toUInt32).toInt32) &&& (7 : Int32))), .val (.int (((p2.toUInt32 >>> ((5 : Int32) &&& 31).toUInt32).toInt32) &&& (3 : Int32))), .val (.int (((p2.toUInt32 >>> ((7 : Int32) &&& 31).toUInt32).toInt32) &&& (7 : Int32))), .val (.int (((p2.toUInt32 >>> ((10 : Int32) &&& 31).toUInt32).toInt32) &&& (3 : Int32))), .val (.int (((p2.toUInt32 >>> ((12 : Int32) &&& 31).toUInt32).toInt32) &&& (7 : Int32))), .val (.int (((p2.toUInt32 >>> ((15 : Int32) &&& 31).toUInt32).toInt32) &&& (3 : Int32))), .val (.int ((p3 &&& (255 : Int32)).toUInt32.toUInt16.toUInt32.toInt32)), .val (.int ((((p3.toUInt32 >>> ((8 : Int32) &&& 31).toUInt32).toInt32) &&& (255 : Int32)).toUInt32.toUInt16.toUInt32.toInt32)), .val (.ref b105_0), .val (.ref b119_0), .val (.ref b135_0), .val (.ref b140), .val (.long (0 : Int64)), .second, .val (.int (v0_262_s0 p0 q1 p2))]) rfl ?_
      refine XS.aload X69.here hx rfl (hb hby at_264) rfl rfl ?_
      exact k)
    obtain ⟨cq75, kq75, q75a, q75b, q75c⟩ := isOf hZ e69 o56_0
    obtain ⟨_, _, ⟨T75, L75, k75, n75⟩, -, X75, ⟨Lc75, hQ75, l75, y75, z75⟩, st75⟩ := X69.virtualBack hx (y := Nm_25) (z := Nm_25) hown (mvT hZ (wq hw 121 rfl)) (mvT hZ (wq hw 122 rfl)) (notFace_of_selects (args := #[]) (mvT hZ (wq hw 124 rfl))) (mvT hZ (wq hw 124 rfl)) (mvT hZ (wq hw 123 rfl)) (by decide) (backOf (W := 0) (rm18_0 l Z a0 hw [] b140 b148_0 (f1 (1 : Int32) (p0 &&& (2147483647 : Int32))) (f2 (1 : Int64) (q1 &&& (9223372036854775807 : Int64))) (0 : Int64) b148_1 _ T56.heap n0 Z56 o56_1 o56_2 o56_3 o56_4 o56_5 o56_6 o56_7 o56_8 o56_9 o56_10) hZ (wq hw 125 rfl) (wq hw 48 rfl) (by decide) (by decide)) q75a q75c (g := (mkF m 266 #[.val (.int p0), .val (.long q1), .second, .val (.int p2), .val (.int p3), .val (.int (f1 (1 : Int32) (p0 &&& (2147483647 : Int32)))), .val (.long (f2 (1 : Int64) (q1 &&& (9223372036854775807 : Int64)))), .second, .val (.int (p2 &&& (3 : Int32))), .val (.int (((p2.toUInt32 >>> ((2 : Int32) &&& 31).toUInt32).toInt32) &&& (7 : Int32))), .val (.int (((p2.toUInt32 >>> ((5 : Int32) &&& 31).toUInt32).toInt32) &&& (3 : Int32))), .val (.int (((p2.toUInt32 >>> ((7 : Int32) &&& 31).toUInt32).toInt32) &&& (7 : Int32))), .val (.int (((p2.toUInt32 >>> ((10 : Int32) &&& 31).toUInt32).toInt32) &&& (3 : Int32))), .val (.int (((p2.toUInt32 >>> ((12 : Int32) &&& 31).toUInt32).toInt32) &&& (7 : Int32))), .val (.int (((p2.toUInt32 >>> ((15 : Int32) &&& 31).toUInt32).toInt32) &&& (3 : Int32))), .val (.int ((p3 &&& (255 : Int32)).toUInt32.toUInt16.toUInt32.toInt32)), .val (.int ((((p3.toUInt32 >>> ((8 : Int32) &&& 31).toUInt32).toInt32) &&& (255 : Int32)).toUInt32.toUInt16.toUInt32.toInt32)), .val (.ref b105_0), .val (.ref b119_0), .val (.ref b135_0), .val (.ref b140), .val (.long (0 : Int64)), .second, .val (.int (v0_262_s0 p0 q1 p2))] [(.ref b140)])) rfl (by rw [hml]; rfl) (Steps.refl _) (argsL := []) (rest := []) (lenOf pd___Z rfl) rfl (w00 rfl) (hb hby at_266) (fun _ _ => ⟨rfl, e69, (by decide : 27 + 0 ≤ _), (by decide : 108 + 0 ≤ _)⟩)
    dsimp only [Pt.U, Pt.locs, Pt.cells, Pt.slots] at X75 l75 y75 z75 st75 hQ75
    subst l75 y75 z75
    obtain ⟨rfl, Nq75, e75⟩ := hQ75
    have N75 := Fr.app N69 Nq75
    have pre76 := Go.trn pre74 st75
    have pre77 : Go p e below T75 _ (mkF m 271 #[.val (.int p0), .val (.long q1), .second, .val (.int p2), .val (.int p3), .val (.int (f1 (1 : Int32) (p0 &&& (2147483647 : Int32)))), .val (.long (f2 (1 : Int64) (q1 &&& (9223372036854775807 : Int64)))), .second, .val (.int (p2 &&& (3 : Int32))), .val (.int (((p2.toUInt32 >>> ((2 : Int32) &&& 31).toUInt32).toInt32) &&& (7 : Int32))), .val (.int (((p2.toUInt32 >>> ((5 : Int32) &&& 31).toUInt32).toInt32) &&& (3 : Int32))), .val (.int (((p2.toUInt32 >>> ((7 : Int32) &&& 31).toUInt32).toInt32) &&& (7 : Int32))), .val (.int (((p2.toUInt32 >>> ((10 : Int32) &&& 31).toUInt32).toInt32) &&& (3 : Int32))), .val (.int (((p2.toUInt32 >>> ((12 : Int32) &&& 31).toUInt32).toInt32) &&& (7 : Int32))), .val (.int (((p2.toUInt32 >>> ((15 : Int32) &&& 31).toUInt32).toInt32) &&& (3 : Int32))), .val (.int ((p3 &&& (255 : Int32)).toUInt32.toUInt16.toUInt32.toInt32)), .val (.int ((((p3.toUInt32 >>> ((8 : Int32) &&& 31).toUInt32).toInt32) &&& (255 : Int32)).toUInt32.toUInt16.toUInt32.toInt32)), .val (.ref b105_0), .val (.ref b119_0), .val (.ref b135_0), .val (.ref b140), .val (.long (0 : Int64)), .second, .val (.int (v0_262_s0 p0 q1 p2))] [(.int (v0_262_s0 p0 q1 p2)), (.int (f18_0 (f1 (1 : Int32) (p0 &&& (2147483647 : Int32))) (f2 (1 : Int64) (q1 &&& (9223372036854775807 : Int64))) (0 : Int64)))]) _ := fun t k => pre76 t (by
      refine XS.iload X75.here hx rfl (hb hby at_269) rfl ?_
      exact k)
    by_cases hc271_4 : (f18_0 (f1 (1 : Int32) (p0 &&& (2147483647 : Int32))) (f2 (1 : Int64) (q1 &&& (9223372036854775807 : Int64))) (0 : Int64)) = (v0_262_s0 p0 q1 p2)
    · have pre78 : Go p e below T75 _ (mkF m 279 #[.val (.int p0), .val (.long q1), .second, .val (.int p2), .val (.int p3), .val (.int (f1 (1 : Int32) (p0 &&& (2147483647 : Int32)))), .val (.long (f2 (1 : Int64) (q1 &&& (9223372036854775807 : Int64)))), .second, .val (.int (p2 &&& (3 : Int32))), .val (.int (((p2.toUInt32 >>> ((2 : Int32) &&& 31).toUInt32).toInt32) &&& (7 : Int32))), .val (.int (((p2.toUInt32 >>> ((5 : Int32) &&& 31).toUInt32).toInt32) &&& (3 : Int32))), .val (.int (((p2.toUInt32 >>> ((7 : Int32) &&& 31).toUInt32).toInt32) &&& (7 : Int32))), .val (.int (((p2.toUInt32 >>> ((10 : Int32) &&& 31).toUInt32).toInt32) &&& (3 : Int32))), .val (.int (((p2.toUInt32 >>> ((12 : Int32) &&& 31).toUInt32).toInt32) &&& (7 : Int32))), .val (.int (((p2.toUInt32 >>> ((15 : Int32) &&& 31).toUInt32).toInt32) &&& (3 : Int32))), .val (.int ((p3 &&& (255 : Int32)).toUInt32.toUInt16.toUInt32.toInt32)), .val (.int ((((p3.toUInt32 >>> ((8 : Int32) &&& 31).toUInt32).toInt32) &&& (255 : Int32)).toUInt32.toUInt16.toUInt32.toInt32)), .val (.ref b105_0), .val (.ref b119_0), .val (.ref b135_0), .val (.ref b140), .val (.long (0 : Int64)), .second, .val (.int (v0_262_s0 p0 q1 p2))] [(.int 1)]) _ := fun t k => pre77 t (by
        refine XS.icmpNo X75.here hx rfl (hb hby at_271) rfl (teq hc271_4).2 ?_
        refine XS.iconst X75.here hx rfl (hb hby at_274) ?_
        refine XS.goto X75.here hx rfl (pc0 := 275) (pc' := 279) rfl (hb hby at_275) (by decide) (by decide) ?_
        exact k)
      obtain ⟨fs, hr, hrun, hended, hE⟩ := X75.leaveW hS35 (by rw [e75]; exact kS56) (v := some (.int 1)) (fun h => by rw [Bd.returns] at h; cases h)
      refine ⟨_, _, ?_, hrun, hended, _, _, rfl, ?_, hE.1, hE.2.1, hE.2.2.1, hE.2.2.2.mono (by decide) (by decide)⟩
      · exact pre78 _ (retN X75 hx (t := .boolean) Bd.returns (by simp) (hb hby at_279) hr)
      · exact ⟨by simp only [f0, if_pos hc159_1, if_pos hc271_4], N75, trivial⟩
    · have pre79 : Go p e below T75 _ (mkF m 279 #[.val (.int p0), .val (.long q1), .second, .val (.int p2), .val (.int p3), .val (.int (f1 (1 : Int32) (p0 &&& (2147483647 : Int32)))), .val (.long (f2 (1 : Int64) (q1 &&& (9223372036854775807 : Int64)))), .second, .val (.int (p2 &&& (3 : Int32))), .val (.int (((p2.toUInt32 >>> ((2 : Int32) &&& 31).toUInt32).toInt32) &&& (7 : Int32))), .val (.int (((p2.toUInt32 >>> ((5 : Int32) &&& 31).toUInt32).toInt32) &&& (3 : Int32))), .val (.int (((p2.toUInt32 >>> ((7 : Int32) &&& 31).toUInt32).toInt32) &&& (7 : Int32))), .val (.int (((p2.toUInt32 >>> ((10 : Int32) &&& 31).toUInt32).toInt32) &&& (3 : Int32))), .val (.int (((p2.toUInt32 >>> ((12 : Int32) &&& 31).toUInt32).toInt32) &&& (7 : Int32))), .val (.int (((p2.toUInt32 >>> ((15 : Int32) &&& 31).toUInt32).toInt32) &&& (3 : Int32))), .val (.int ((p3 &&& (255 : Int32)).toUInt32.toUInt16.toUInt32.toInt32)), .val (.int ((((p3.toUInt32 >>> ((8 : Int32) &&& 31).toUInt32).toInt32) &&& (255 : Int32)).toUInt32.toUInt16.toUInt32.toInt32)), .val (.ref b105_0), .val (.ref b119_0), .val (.ref b135_0), .val (.ref b140), .val (.long (0 : Int64)), .second, .val (.int (v0_262_s0 p0 q1 p2))] [(.int 0)]) _ := fun t k => pre77 t (by
        refine XS.icmpYes X75.here hx rfl (pc0 := 271) (pc' := 278) rfl (hb hby at_271) rfl (feq hc271_4).2 (by decide) (by decide) ?_
        refine XS.iconst X75.here hx rfl (hb hby at_278) ?_
        exact k)
      obtain ⟨fs, hr, hrun, hended, hE⟩ := X75.leaveW hS35 (by rw [e75]; exact kS56) (v := some (.int 0)) (fun h => by rw [Bd.returns] at h; cases h)
      refine ⟨_, _, ?_, hrun, hended, _, _, rfl, ?_, hE.1, hE.2.1, hE.2.2.1, hE.2.2.2.mono (by decide) (by decide)⟩
      · exact pre79 _ (retN X75 hx (t := .boolean) Bd.returns (by simp) (hb hby at_279) hr)
      · exact ⟨by simp only [f0, if_pos hc159_1, if_neg hc271_4], N75, trivial⟩
  · have pre80 : Go p e below T56 _ (mkF m 166 #[.val (.int p0), .val (.long q1), .second, .val (.int p2), .val (.int p3), .val (.int (f1 (1 : Int32) (p0 &&& (2147483647 : Int32)))), .val (.long (f2 (1 : Int64) (q1 &&& (9223372036854775807 : Int64)))), .second, .val (.int (p2 &&& (3 : Int32))), .val (.int (((p2.toUInt32 >>> ((2 : Int32) &&& 31).toUInt32).toInt32) &&& (7 : Int32))), .val (.int (((p2.toUInt32 >>> ((5 : Int32) &&& 31).toUInt32).toInt32) &&& (3 : Int32))), .val (.int (((p2.toUInt32 >>> ((7 : Int32) &&& 31).toUInt32).toInt32) &&& (7 : Int32))), .val (.int (((p2.toUInt32 >>> ((10 : Int32) &&& 31).toUInt32).toInt32) &&& (3 : Int32))), .val (.int (((p2.toUInt32 >>> ((12 : Int32) &&& 31).toUInt32).toInt32) &&& (7 : Int32))), .val (.int (((p2.toUInt32 >>> ((15 : Int32) &&& 31).toUInt32).toInt32) &&& (3 : Int32))), .val (.int ((p3 &&& (255 : Int32)).toUInt32.toUInt16.toUInt32.toInt32)), .val (.int ((((p3.toUInt32 >>> ((8 : Int32) &&& 31).toUInt32).toInt32) &&& (255 : Int32)).toUInt32.toUInt16.toUInt32.toInt32)), .val (.ref b105_0), .val (.ref b119_0), .val (.ref b135_0), .val (.ref b140), .val (.long (0 : Int64)), .second, .unset] [(.ref b105_0), (.ref b140)]) _ := fun t k => pre67 t (by
      refine XS.icmpNo X56.here hx rfl (hb hby at_159) rfl (flt hc159_1).1 ?_
      refine XS.aload X56.here hx rfl (hb hby at_162) rfl rfl ?_
      refine XS.aload X56.here hx rfl (hb hby at_164) rfl rfl ?_
      exact k)
    obtain ⟨cq81, kq81, q81a, q81b, q81c⟩ := isOf hZ rfl o56_0
    obtain ⟨_, _, ⟨T81, L81, k81, n81⟩, -, X81, ⟨Lc81, hQ81, l81, y81, z81⟩, st81⟩ := X56.virtualBack hx (y := Nm_22) (z := Nm_22) hown (mvT hZ (wq hw 76 rfl)) (mvT hZ (wq hw 77 rfl)) (notFace_of_selects (args := #[]) (mvT hZ (wq hw 79 rfl))) (mvT hZ (wq hw 79 rfl)) (mvT hZ (wq hw 78 rfl)) (by decide) (backOf (W := 0) (rm10_0 l Z a0 hw [] b140 b105_0 wcs b148_0 (f1 (1 : Int32) (p0 &&& (2147483647 : Int32))) (f2 (1 : Int64) (q1 &&& (9223372036854775807 : Int64))) (0 : Int64) b148_1 _ (f17 (((p2.toUInt32 >>> ((2 : Int32) &&& 31).toUInt32).toInt32) &&& (7 : Int32)) (((p2.toUInt32 >>> ((5 : Int32) &&& 31).toUInt32).toInt32) &&& (3 : Int32))) T35.heap.size T56.heap n0 Z56 x57 o56_0 o56_1 o56_2 o56_3 o56_4 o56_5 o56_6 o56_7 o56_8 o56_9 o56_10 x59 x60 jl56 (Nat.le_trans (Nat.le_refl _) (Nat.le_of_eq g44.symm)) (Nat.le_trans jl44 gz56_b148_0) (Nat.le_trans jl44 gz56_b148_1) gg44 gg56_b148_0 gg56_b148_1 ne56_b140_b148_0 ne56_b140_b148_1 (own_neH o56_5 o56_9 (wq hw 54 rfl)) hcs) hZ (wq hw 80 rfl) (wq hw 48 rfl) (by decide) (by decide)) q81a q81c (g := (mkF m 166 #[.val (.int p0), .val (.long q1), .second, .val (.int p2), .val (.int p3), .val (.int (f1 (1 : Int32) (p0 &&& (2147483647 : Int32)))), .val (.long (f2 (1 : Int64) (q1 &&& (9223372036854775807 : Int64)))), .second, .val (.int (p2 &&& (3 : Int32))), .val (.int (((p2.toUInt32 >>> ((2 : Int32) &&& 31).toUInt32).toInt32) &&& (7 : Int32))), .val (.int (((p2.toUInt32 >>> ((5 : Int32) &&& 31).toUInt32).toInt32) &&& (3 : Int32))), .val (.int (((p2.toUInt32 >>> ((7 : Int32) &&& 31).toUInt32).toInt32) &&& (7 : Int32))), .val (.int (((p2.toUInt32 >>> ((10 : Int32) &&& 31).toUInt32).toInt32) &&& (3 : Int32))), .val (.int (((p2.toUInt32 >>> ((12 : Int32) &&& 31).toUInt32).toInt32) &&& (7 : Int32))), .val (.int (((p2.toUInt32 >>> ((15 : Int32) &&& 31).toUInt32).toInt32) &&& (3 : Int32))), .val (.int ((p3 &&& (255 : Int32)).toUInt32.toUInt16.toUInt32.toInt32)), .val (.int ((((p3.toUInt32 >>> ((8 : Int32) &&& 31).toUInt32).toInt32) &&& (255 : Int32)).toUInt32.toUInt16.toUInt32.toInt32)), .val (.ref b105_0), .val (.ref b119_0), .val (.ref b135_0), .val (.ref b140), .val (.long (0 : Int64)), .second, .unset] [(.ref b105_0), (.ref b140)])) rfl (by rw [hml]; rfl) (Steps.refl _) (argsL := [(.ref b105_0)]) (rest := []) (lenOf pd__Lcom_example_oncemark_oncemark_Message__V rfl) rfl (w00 rfl) (hb hby at_166) (fun _ _ => ⟨rfl, rfl, (by decide : 27 + 0 ≤ _), (by decide : 108 + 0 ≤ _)⟩)
    dsimp only [Pt.U, Pt.locs, Pt.cells, Pt.slots] at X81 l81 y81 z81 st81 hQ81
    subst l81 y81 z81
    obtain ⟨rfl, Nq81, Kq81, o81_0, o81_1, o81_2, o81_3, o81_4, o81_5, o81_6, o81_7, o81_8, o81_9⟩ := hQ81
    have N81 := Fr.app N56 Nq81
    have K81 : Keep h0 T81.heap [] := K56.trans Kq81 (allS (Or.inr sz44) (allS (Or.inr sz56_b148_0) (allS (Or.inr sz56_b148_1) all0)))
    have Z81 : n0 ≤ T81.heap.size := Nat.le_trans Z56 Kq81.1
    have x82 := own_staK x57 Kq81 (allS (own_plE o56_0) (allS (own_plE o56_5) (allS (own_plH o56_9) all0)))
    have x83 := x58.keep Kq81 (allS (Nat.le_trans (Nat.le_refl _) (Nat.le_of_eq g44.symm)) (allS (Nat.le_trans jl44 gz56_b148_0) (allS (Nat.le_trans jl44 gz56_b148_1) all0)))
    have x84 := x59.keep Kq81
    have x85 := x60.keep Kq81 (allS (Nat.le_trans (Nat.le_refl _) (Nat.le_of_eq g44.symm)) (allS (Nat.le_trans jl44 gz56_b148_0) (allS (Nat.le_trans jl44 gz56_b148_1) all0)))
    have x86 := x61.keep Kq81
    have x87 := x62.keep Kq81 (allS (Nat.le_trans (Nat.le_refl _) (Nat.le_of_eq g44.symm)) (allS (Nat.le_trans jl44 gz56_b148_0) (allS (Nat.le_trans jl44 gz56_b148_1) all0)))
    have x88 := x63.keep Kq81
    have x89 := x64.keep Kq81 (allS (Nat.le_trans (Nat.le_refl _) (Nat.le_of_eq g44.symm)) (allS (Nat.le_trans jl44 gz56_b148_0) (allS (Nat.le_trans jl44 gz56_b148_1) all0)))
    have x90 := o56_0.keep Kq81
    have x91 := o56_5.keep Kq81
    have pre92 := Go.trn pre80 st81
    have jl81 : T35.heap.size ≤ T81.heap.size := Nat.le_trans jl56 Kq81.1
    have kS81 : _ ≤ T81.heap.size := Nat.le_trans kS56 Kq81.1
    have pre93 : Go p e below T81 _ (mkF m 175 #[.val (.int p0), .val (.long q1), .second, .val (.int p2), .val (.int p3), .val (.int (f1 (1 : Int32) (p0 &&& (2147483647 : Int32)))), .val (.long (f2 (1 : Int64) (q1 &&& (9223372036854775807 : Int64)))), .second, .val (.int (p2 &&& (3 : Int32))), .val (.int (((p2.toUInt32 >>> ((2 : Int32) &&& 31).toUInt32).toInt32) &&& (7 : Int32))), .val (.int (((p2.toUInt32 >>> ((5 : Int32) &&& 31).toUInt32).toInt32) &&& (3 : Int32))), .val (.int (((p2.toUInt32 >>> ((7 : Int32) &&& 31).toUInt32).toInt32) &&& (7 : Int32))), .val (.int (((p2.toUInt32 >>> ((10 : Int32) &&& 31).toUInt32).toInt32) &&& (3 : Int32))), .val (.int (((p2.toUInt32 >>> ((12 : Int32) &&& 31).toUInt32).toInt32) &&& (7 : Int32))), .val (.int (((p2.toUInt32 >>> ((15 : Int32) &&& 31).toUInt32).toInt32) &&& (3 : Int32))), .val (.int ((p3 &&& (255 : Int32)).toUInt32.toUInt16.toUInt32.toInt32)), .val (.int ((((p3.toUInt32 >>> ((8 : Int32) &&& 31).toUInt32).toInt32) &&& (255 : Int32)).toUInt32.toUInt16.toUInt32.toInt32)), .val (.ref b105_0), .val (.ref b119_0), .val (.ref b135_0), .val (.ref b140), .val (.long (0 : Int64)), .second, .unset] [(.int (((p2.toUInt32 >>> ((5 : Int32) &&& 31).toUInt32).toInt32) &&& (3 : Int32))), (.int (((p2.toUInt32 >>> ((2 : Int32) &&& 31).toUInt32).toInt32) &&& (7 : Int32))), (.long (0 : Int64))]) _ := fun t k => pre92 t (by
      refine XS.lload X81.here hx rfl (hb hby at_169) rfl ?_
      refine XS.iload X81.here hx rfl (hb hby at_171) rfl ?_
      refine XS.iload X81.here hx rfl (hb hby at_173) rfl ?_
      exact k)
    obtain ⟨_, _, ⟨T94, L94, k94, n94⟩, -, X94, ⟨Lc94, hQ94, l94, y94, z94⟩, st94⟩ := Jvm.LawKit.callS X81 hx (y := Nm_3) hown (mvT hZ (wq hw 118 rfl)) (mvT hZ (wq hw 119 rfl)) (mvT hZ (wq hw 11 rfl)) (mvT hZ (wq hw 120 rfl)) (by decide) (backOf (W := 2) (rm17 l Z a0 hw [] (((p2.toUInt32 >>> ((2 : Int32) &&& 31).toUInt32).toInt32) &&& (7 : Int32)) (((p2.toUInt32 >>> ((5 : Int32) &&& 31).toUInt32).toInt32) &&& (3 : Int32)) T81.heap n0 Z81) hZ (wq hw 120 rfl) (wq hw 11 rfl) (by decide) (by decide)) (g := (mkF m 175 #[.val (.int p0), .val (.long q1), .second, .val (.int p2), .val (.int p3), .val (.int (f1 (1 : Int32) (p0 &&& (2147483647 : Int32)))), .val (.long (f2 (1 : Int64) (q1 &&& (9223372036854775807 : Int64)))), .second, .val (.int (p2 &&& (3 : Int32))), .val (.int (((p2.toUInt32 >>> ((2 : Int32) &&& 31).toUInt32).toInt32) &&& (7 : Int32))), .val (.int (((p2.toUInt32 >>> ((5 : Int32) &&& 31).toUInt32).toInt32) &&& (3 : Int32))), .val (.int (((p2.toUInt32 >>> ((7 : Int32) &&& 31).toUInt32).toInt32) &&& (7 : Int32))), .val (.int (((p2.toUInt32 >>> ((10 : Int32) &&& 31).toUInt32).toInt32) &&& (3 : Int32))), .val (.int (((p2.toUInt32 >>> ((12 : Int32) &&& 31).toUInt32).toInt32) &&& (7 : Int32))), .val (.int (((p2.toUInt32 >>> ((15 : Int32) &&& 31).toUInt32).toInt32) &&& (3 : Int32))), .val (.int ((p3 &&& (255 : Int32)).toUInt32.toUInt16.toUInt32.toInt32)), .val (.int ((((p3.toUInt32 >>> ((8 : Int32) &&& 31).toUInt32).toInt32) &&& (255 : Int32)).toUInt32.toUInt16.toUInt32.toInt32)), .val (.ref b105_0), .val (.ref b119_0), .val (.ref b135_0), .val (.ref b140), .val (.long (0 : Int64)), .second, .unset] [(.int (((p2.toUInt32 >>> ((5 : Int32) &&& 31).toUInt32).toInt32) &&& (3 : Int32))), (.int (((p2.toUInt32 >>> ((2 : Int32) &&& 31).toUInt32).toInt32) &&& (7 : Int32))), (.long (0 : Int64))])) rfl (by rw [hml]; rfl) (argsL := [(.int (((p2.toUInt32 >>> ((2 : Int32) &&& 31).toUInt32).toInt32) &&& (7 : Int32))), (.int (((p2.toUInt32 >>> ((5 : Int32) &&& 31).toUInt32).toInt32) &&& (3 : Int32)))]) (rest := [(.long (0 : Int64))]) (lenOf pd__II_J rfl) rfl (w00 rfl) (hb hby at_175) (fun _ _ => ⟨rfl, rfl, (by decide : 27 + 0 ≤ _), (by decide : 108 + 0 ≤ _)⟩)
    dsimp only [Pt.U, Pt.locs, Pt.cells, Pt.slots] at X94 l94 y94 z94 st94 hQ94
    subst l94 y94 z94
    obtain ⟨rfl, Nq94, e94⟩ := hQ94
    have N94 := Fr.app N81 Nq94
    have pre95 := Go.thn pre93 st94
    have pre96 : Go p e below T94 _ (mkF m 184 #[.val (.int p0), .val (.long q1), .second, .val (.int p2), .val (.int p3), .val (.int (f1 (1 : Int32) (p0 &&& (2147483647 : Int32)))), .val (.long (f2 (1 : Int64) (q1 &&& (9223372036854775807 : Int64)))), .second, .val (.int (p2 &&& (3 : Int32))), .val (.int (((p2.toUInt32 >>> ((2 : Int32) &&& 31).toUInt32).toInt32) &&& (7 : Int32))), .val (.int (((p2.toUInt32 >>> ((5 : Int32) &&& 31).toUInt32).toInt32) &&& (3 : Int32))), .val (.int (((p2.toUInt32 >>> ((7 : Int32) &&& 31).toUInt32).toInt32) &&& (7 : Int32))), .val (.int (((p2.toUInt32 >>> ((10 : Int32) &&& 31).toUInt32).toInt32) &&& (3 : Int32))), .val (.int (((p2.toUInt32 >>> ((12 : Int32) &&& 31).toUInt32).toInt32) &&& (7 : Int32))), .val (.int (((p2.toUInt32 >>> ((15 : Int32) &&& 31).toUInt32).toInt32) &&& (3 : Int32))), .val (.int ((p3 &&& (255 : Int32)).toUInt32.toUInt16.toUInt32.toInt32)), .val (.int ((((p3.toUInt32 >>> ((8 : Int32) &&& 31).toUInt32).toInt32) &&& (255 : Int32)).toUInt32.toUInt16.toUInt32.toInt32)), .val (.ref b105_0), .val (.ref b119_0), .val (.ref b135_0), .val (.ref b140), .val (.long ((0 : Int64) + (f17 (((p2.toUInt32 >>> ((2 : Int32) &&& 31).toUInt32).toInt32) &&& (7 : Int32)) (((p2.toUInt32 >>> ((5 : Int32) &&& 31).toUInt32).toInt32) &&& (3 : Int32))))), .second, .unset] [(.int 2), (.int (p2 &&& (3 : Int32)))]) _ := fun t k => pre95 t (by
      refine XS.ladd X94.here hx rfl (hb hby at_178) rfl ?_
      refine XS.lstore X94.here hx rfl (hb hby at_179) rfl (l' := #[.val (.int p0), .val (.long q1), .second, .val (.int p2), .val (.int p3), .val (.int (f1 (1 : Int32) (p0 &&& (2147483647 : Int32)))), .val (.long (f2 (1 : Int64) (q1 &&& (9223372036854775807 : Int64)))), .second, .val (.int (p2 &&& (3 : Int32))), .val (.int (((p2.toUInt32 >>> ((2 : Int32) &&& 31).toUInt32).toInt32) &&& (7 : Int32))), .val (.int (((p2.toUInt32 >>> ((5 : Int32) &&& 31).toUInt32).toInt32) &&& (3 : Int32))), .val (.int (((p2.toUInt32 >>> ((7 : Int32) &&& 31).toUInt32).toInt32) &&& (7 : Int32))), .val (.int (((p2.toUInt32 >>> ((10 : Int32) &&& 31).toUInt32).toInt32) &&& (3 : Int32))), .val (.int (((p2.toUInt32 >>> ((12 : Int32) &&& 31).toUInt32).toInt32) &&& (7 : Int32))), .val (.int (((p2.toUInt32 >>> ((15 : Int32) &&& 31).toUInt32).toInt32) &&& (3 : Int32))), .val (.int ((p3 &&& (255 : Int32)).toUInt32.toUInt16.toUInt32.toInt32)), .val (.int ((((p3.toUInt32 >>> ((8 : Int32) &&& 31).toUInt32).toInt32) &&& (255 : Int32)).toUInt32.toUInt16.toUInt32.toInt32)), .val (.ref b105_0), .val (.ref b119_0), .val (.ref b135_0), .val (.ref b140), .val (.long ((0 : Int64) + (f17 (((p2.toUInt32 >>> ((2 : Int32) &&& 31).toUInt32).toInt32) &&& (7 : Int32)) (((p2.toUInt32 >>> ((5 : Int32) &&& 31).toUInt32).toInt32) &&& (3 : Int32))))), .second, .unset]) rfl ?_
      refine XS.iload X94.here hx rfl (hb hby at_181) rfl ?_
      refine XS.iconst X94.here hx rfl (hb hby at_183) ?_
      exact k)
    by_cases hc184_5 : (p2 &&& (3 : Int32)) < (2 : Int32)
    · have pre97 : Go p e below T94 _ (mkF m 242 #[.val (.int p0), .val (.long q1), .second, .val (.int p2), .val (.int p3), .val (.int (f1 (1 : Int32) (p0 &&& (2147483647 : Int32)))), .val (.long (f2 (1 : Int64) (q1 &&& (9223372036854775807 : Int64)))), .second, .val (.int (p2 &&& (3 : Int32))), .val (.int (((p2.toUInt32 >>> ((2 : Int32) &&& 31).toUInt32).toInt32) &&& (7 : Int32))), .val (.int (((p2.toUInt32 >>> ((5 : Int32) &&& 31).toUInt32).toInt32) &&& (3 : Int32))), .val (.int (((p2.toUInt32 >>> ((7 : Int32) &&& 31).toUInt32).toInt32) &&& (7 : Int32))), .val (.int (((p2.toUInt32 >>> ((10 : Int32) &&& 31).toUInt32).toInt32) &&& (3 : Int32))), .val (.int (((p2.toUInt32 >>> ((12 : Int32) &&& 31).toUInt32).toInt32) &&& (7 : Int32))), .val (.int (((p2.toUInt32 >>> ((15 : Int32) &&& 31).toUInt32).toInt32) &&& (3 : Int32))), .val (.int ((p3 &&& (255 : Int32)).toUInt32.toUInt16.toUInt32.toInt32)), .val (.int ((((p3.toUInt32 >>> ((8 : Int32) &&& 31).toUInt32).toInt32) &&& (255 : Int32)).toUInt32.toUInt16.toUInt32.toInt32)), .val (.ref b105_0), .val (.ref b119_0), .val (.ref b135_0), .val (.ref b140), .val (.long ((0 : Int64) + (f17 (((p2.toUInt32 >>> ((2 : Int32) &&& 31).toUInt32).toInt32) &&& (7 : Int32)) (((p2.toUInt32 >>> ((5 : Int32) &&& 31).toUInt32).toInt32) &&& (3 : Int32))))), .second, .unset] [(.int (lcmpW ((2 : Int64) * ((p2 &&& (3 : Int32)).toInt64)) ((f1 (1 : Int32) (p0 &&& (2147483647 : Int32))).toInt64)))]) _ := fun t k => pre96 t (by
        refine XS.icmpYes X94.here hx rfl (pc0 := 184) (pc' := 206) rfl (hb hby at_184) rfl (tlt hc184_5).1 (by decide) (by decide) ?_
        refine XS.iload X94.here hx rfl (hb hby at_206) rfl ?_
        refine XS.iconst X94.here hx rfl (hb hby at_208) ?_
        refine XS.icmpYes X94.here hx rfl (pc0 := 209) (pc' := 231) rfl (hb hby at_209) rfl (tlt (own_ltt (a := 2) (by assumption) (by decide))).1 (by decide) (by decide) ?_
        refine X94.ldc2Long hx hown (mvT hZ (wq hw 45 rfl)) (g := (mkF m 231 #[.val (.int p0), .val (.long q1), .second, .val (.int p2), .val (.int p3), .val (.int (f1 (1 : Int32) (p0 &&& (2147483647 : Int32)))), .val (.long (f2 (1 : Int64) (q1 &&& (9223372036854775807 : Int64)))), .second, .val (.int (p2 &&& (3 : Int32))), .val (.int (((p2.toUInt32 >>> ((2 : Int32) &&& 31).toUInt32).toInt32) &&& (7 : Int32))), .val (.int (((p2.toUInt32 >>> ((5 : Int32) &&& 31).toUInt32).toInt32) &&& (3 : Int32))), .val (.int (((p2.toUInt32 >>> ((7 : Int32) &&& 31).toUInt32).toInt32) &&& (7 : Int32))), .val (.int (((p2.toUInt32 >>> ((10 : Int32) &&& 31).toUInt32).toInt32) &&& (3 : Int32))), .val (.int (((p2.toUInt32 >>> ((12 : Int32) &&& 31).toUInt32).toInt32) &&& (7 : Int32))), .val (.int (((p2.toUInt32 >>> ((15 : Int32) &&& 31).toUInt32).toInt32) &&& (3 : Int32))), .val (.int ((p3 &&& (255 : Int32)).toUInt32.toUInt16.toUInt32.toInt32)), .val (.int ((((p3.toUInt32 >>> ((8 : Int32) &&& 31).toUInt32).toInt32) &&& (255 : Int32)).toUInt32.toUInt16.toUInt32.toInt32)), .val (.ref b105_0), .val (.ref b119_0), .val (.ref b135_0), .val (.ref b140), .val (.long ((0 : Int64) + (f17 (((p2.toUInt32 >>> ((2 : Int32) &&& 31).toUInt32).toInt32) &&& (7 : Int32)) (((p2.toUInt32 >>> ((5 : Int32) &&& 31).toUInt32).toInt32) &&& (3 : Int32))))), .second, .unset] [])) rfl (hb hby at_231) _ ?_
        refine XS.iload X94.here hx rfl (hb hby at_234) rfl ?_
        refine XS.i2l X94.here hx rfl (hb hby at_236) rfl ?_
        refine XS.lmul X94.here hx rfl (hb hby at_237) rfl ?_
        refine XS.iload X94.here hx rfl (hb hby at_238) rfl ?_
        refine XS.i2l X94.here hx rfl (hb hby at_240) rfl ?_
        refine XS.lcmp X94.here hx rfl (hb hby at_241) rfl ?_
        exact k)
      obtain ⟨T98, L98, X98, e98, N98, pre98⟩ : ∃ (T' : State) (L' : List Loc), Stand p l e room_1 (s.setVm T35.vm) m #[(.int p0), (.long q1), (.int p2), (.int p3)] below meth c T' L' 27 108 ∧ T'.heap = T81.heap ∧ Fr n0 L' ∧ ∀ t, Steps p.tables e below (T'.setTop (mkF m 262 #[.val (.int p0), .val (.long q1), .second, .val (.int p2), .val (.int p3), .val (.int (f1 (1 : Int32) (p0 &&& (2147483647 : Int32)))), .val (.long (f2 (1 : Int64) (q1 &&& (9223372036854775807 : Int64)))), .second, .val (.int (p2 &&& (3 : Int32))), .val (.int (((p2.toUInt32 >>> ((2 : Int32) &&& 31).toUInt32).toInt32) &&& (7 : Int32))), .val (.int (((p2.toUInt32 >>> ((5 : Int32) &&& 31).toUInt32).toInt32) &&& (3 : Int32))), .val (.int (((p2.toUInt32 >>> ((7 : Int32) &&& 31).toUInt32).toInt32) &&& (7 : Int32))), .val (.int (((p2.toUInt32 >>> ((10 : Int32) &&& 31).toUInt32).toInt32) &&& (3 : Int32))), .val (.int (((p2.toUInt32 >>> ((12 : Int32) &&& 31).toUInt32).toInt32) &&& (7 : Int32))), .val (.int (((p2.toUInt32 >>> ((15 : Int32) &&& 31).toUInt32).toInt32) &&& (3 : Int32))), .val (.int ((p3 &&& (255 : Int32)).toUInt32.toUInt16.toUInt32.toInt32)), .val (.int ((((p3.toUInt32 >>> ((8 : Int32) &&& 31).toUInt32).toInt32) &&& (255 : Int32)).toUInt32.toUInt16.toUInt32.toInt32)), .val (.ref b105_0), .val (.ref b119_0), .val (.ref b135_0), .val (.ref b140), .val (.long ((0 : Int64) + (f17 (((p2.toUInt32 >>> ((2 : Int32) &&& 31).toUInt32).toInt32) &&& (7 : Int32)) (((p2.toUInt32 >>> ((5 : Int32) &&& 31).toUInt32).toInt32) &&& (3 : Int32))))), .second, .unset] [(.int (v0_262_s0_1 p0 q1 p2))])) t → Steps p.tables e below (s₁.setTop (entryFrame m #[(.int p0), (.long q1), (.int p2), (.int p3)] maxLocals)) t := by
        by_cases hc242_6 : ((f1 (1 : Int32) (p0 &&& (2147483647 : Int32))).toInt64) < ((2 : Int64) * ((p2 &&& (3 : Int32)).toInt64))
        · have pre99 : Go p e below T94 _ (mkF m 262 #[.val (.int p0), .val (.long q1), .second, .val (.int p2), .val (.int p3), .val (.int (f1 (1 : Int32) (p0 &&& (2147483647 : Int32)))), .val (.long (f2 (1 : Int64) (q1 &&& (9223372036854775807 : Int64)))), .second, .val (.int (p2 &&& (3 : Int32))), .val (.int (((p2.toUInt32 >>> ((2 : Int32) &&& 31).toUInt32).toInt32) &&& (7 : Int32))), .val (.int (((p2.toUInt32 >>> ((5 : Int32) &&& 31).toUInt32).toInt32) &&& (3 : Int32))), .val (.int (((p2.toUInt32 >>> ((7 : Int32) &&& 31).toUInt32).toInt32) &&& (7 : Int32))), .val (.int (((p2.toUInt32 >>> ((10 : Int32) &&& 31).toUInt32).toInt32) &&& (3 : Int32))), .val (.int (((p2.toUInt32 >>> ((12 : Int32) &&& 31).toUInt32).toInt32) &&& (7 : Int32))), .val (.int (((p2.toUInt32 >>> ((15 : Int32) &&& 31).toUInt32).toInt32) &&& (3 : Int32))), .val (.int ((p3 &&& (255 : Int32)).toUInt32.toUInt16.toUInt32.toInt32)), .val (.int ((((p3.toUInt32 >>> ((8 : Int32) &&& 31).toUInt32).toInt32) &&& (255 : Int32)).toUInt32.toUInt16.toUInt32.toInt32)), .val (.ref b105_0), .val (.ref b119_0), .val (.ref b135_0), .val (.ref b140), .val (.long ((0 : Int64) + (f17 (((p2.toUInt32 >>> ((2 : Int32) &&& 31).toUInt32).toInt32) &&& (7 : Int32)) (((p2.toUInt32 >>> ((5 : Int32) &&& 31).toUInt32).toInt32) &&& (3 : Int32))))), .second, .unset] [(.int 0)]) _ := fun t k => pre97 t (by
            refine XS.ifYes X94.here hx rfl (pc0 := 242) (pc' := 261) rfl (hb hby at_242) rfl ((if0 _ _).trans (tlt ((lw_gt _ _).mpr hc242_6)).2.2.1) (by decide) (by decide) ?_
            refine XS.iconst X94.here hx rfl (hb hby at_261) ?_
            exact k)
          exact ⟨T94, _, X94, e94, N94, fun t k => pre99 t (by simpa only [v0_262_s0_1, if_pos hc242_6] using k)⟩
        · have pre100 : Go p e below T94 _ (mkF m 254 #[.val (.int p0), .val (.long q1), .second, .val (.int p2), .val (.int p3), .val (.int (f1 (1 : Int32) (p0 &&& (2147483647 : Int32)))), .val (.long (f2 (1 : Int64) (q1 &&& (9223372036854775807 : Int64)))), .second, .val (.int (p2 &&& (3 : Int32))), .val (.int (((p2.toUInt32 >>> ((2 : Int32) &&& 31).toUInt32).toInt32) &&& (7 : Int32))), .val (.int (((p2.toUInt32 >>> ((5 : Int32) &&& 31).toUInt32).toInt32) &&& (3 : Int32))), .val (.int (((p2.toUInt32 >>> ((7 : Int32) &&& 31).toUInt32).toInt32) &&& (7 : Int32))), .val (.int (((p2.toUInt32 >>> ((10 : Int32) &&& 31).toUInt32).toInt32) &&& (3 : Int32))), .val (.int (((p2.toUInt32 >>> ((12 : Int32) &&& 31).toUInt32).toInt32) &&& (7 : Int32))), .val (.int (((p2.toUInt32 >>> ((15 : Int32) &&& 31).toUInt32).toInt32) &&& (3 : Int32))), .val (.int ((p3 &&& (255 : Int32)).toUInt32.toUInt16.toUInt32.toInt32)), .val (.int ((((p3.toUInt32 >>> ((8 : Int32) &&& 31).toUInt32).toInt32) &&& (255 : Int32)).toUInt32.toUInt16.toUInt32.toInt32)), .val (.ref b105_0), .val (.ref b119_0), .val (.ref b135_0), .val (.ref b140), .val (.long ((0 : Int64) + (f17 (((p2.toUInt32 >>> ((2 : Int32) &&& 31).toUInt32).toInt32) &&& (7 : Int32)) (((p2.toUInt32 >>> ((5 : Int32) &&& 31).toUInt32).toInt32) &&& (3 : Int32))))), .second, .unset] [(.int (lcmpW ((2 : Int64) * ((0 : Int64) + (f17 (((p2.toUInt32 >>> ((2 : Int32) &&& 31).toUInt32).toInt32) &&& (7 : Int32)) (((p2.toUInt32 >>> ((5 : Int32) &&& 31).toUInt32).toInt32) &&& (3 : Int32))))) (f2 (1 : Int64) (q1 &&& (9223372036854775807 : Int64)))))]) _ := fun t k => pre97 t (by
            refine XS.ifNo X94.here hx rfl (hb hby at_242) rfl ((if0 _ _).trans (flt (fun q => hc242_6 ((lw_gt _ _).mp q))).2.2.1) ?_
            refine X94.ldc2Long hx hown (mvT hZ (wq hw 45 rfl)) (g := (mkF m 245 #[.val (.int p0), .val (.long q1), .second, .val (.int p2), .val (.int p3), .val (.int (f1 (1 : Int32) (p0 &&& (2147483647 : Int32)))), .val (.long (f2 (1 : Int64) (q1 &&& (9223372036854775807 : Int64)))), .second, .val (.int (p2 &&& (3 : Int32))), .val (.int (((p2.toUInt32 >>> ((2 : Int32) &&& 31).toUInt32).toInt32) &&& (7 : Int32))), .val (.int (((p2.toUInt32 >>> ((5 : Int32) &&& 31).toUInt32).toInt32) &&& (3 : Int32))), .val (.int (((p2.toUInt32 >>> ((7 : Int32) &&& 31).toUInt32).toInt32) &&& (7 : Int32))), .val (.int (((p2.toUInt32 >>> ((10 : Int32) &&& 31).toUInt32).toInt32) &&& (3 : Int32))), .val (.int (((p2.toUInt32 >>> ((12 : Int32) &&& 31).toUInt32).toInt32) &&& (7 : Int32))), .val (.int (((p2.toUInt32 >>> ((15 : Int32) &&& 31).toUInt32).toInt32) &&& (3 : Int32))), .val (.int ((p3 &&& (255 : Int32)).toUInt32.toUInt16.toUInt32.toInt32)), .val (.int ((((p3.toUInt32 >>> ((8 : Int32) &&& 31).toUInt32).toInt32) &&& (255 : Int32)).toUInt32.toUInt16.toUInt32.toInt32)), .val (.ref b105_0), .val (.ref b119_0), .val (.ref b135_0), .val (.ref b140), .val (.long ((0 : Int64) + (f17 (((p2.toUInt32 >>> ((2 : Int32) &&& 31).toUInt32).toInt32) &&& (7 : Int32)) (((p2.toUInt32 >>> ((5 : Int32) &&& 31).toUInt32).toInt32) &&& (3 : Int32))))), .second, .unset] [])) rfl (hb hby at_245) _ ?_
            refine XS.lload X94.here hx rfl (hb hby at_248) rfl ?_
            refine XS.lmul X94.here hx rfl (hb hby at_250) rfl ?_
            refine XS.lload X94.here hx rfl (hb hby at_251) rfl ?_
            refine XS.lcmp X94.here hx rfl (hb hby at_253) rfl ?_
            exact k)
          by_cases hc254_7 : (f2 (1 : Int64) (q1 &&& (9223372036854775807 : Int64))) < ((2 : Int64) * ((0 : Int64) + (f17 (((p2.toUInt32 >>> ((2 : Int32) &&& 31).toUInt32).toInt32) &&& (7 : Int32)) (((p2.toUInt32 >>> ((5 : Int32) &&& 31).toUInt32).toInt32) &&& (3 : Int32)))))
          · have pre101 : Go p e below T94 _ (mkF m 262 #[.val (.int p0), .val (.long q1), .second, .val (.int p2), .val (.int p3), .val (.int (f1 (1 : Int32) (p0 &&& (2147483647 : Int32)))), .val (.long (f2 (1 : Int64) (q1 &&& (9223372036854775807 : Int64)))), .second, .val (.int (p2 &&& (3 : Int32))), .val (.int (((p2.toUInt32 >>> ((2 : Int32) &&& 31).toUInt32).toInt32) &&& (7 : Int32))), .val (.int (((p2.toUInt32 >>> ((5 : Int32) &&& 31).toUInt32).toInt32) &&& (3 : Int32))), .val (.int (((p2.toUInt32 >>> ((7 : Int32) &&& 31).toUInt32).toInt32) &&& (7 : Int32))), .val (.int (((p2.toUInt32 >>> ((10 : Int32) &&& 31).toUInt32).toInt32) &&& (3 : Int32))), .val (.int (((p2.toUInt32 >>> ((12 : Int32) &&& 31).toUInt32).toInt32) &&& (7 : Int32))), .val (.int (((p2.toUInt32 >>> ((15 : Int32) &&& 31).toUInt32).toInt32) &&& (3 : Int32))), .val (.int ((p3 &&& (255 : Int32)).toUInt32.toUInt16.toUInt32.toInt32)), .val (.int ((((p3.toUInt32 >>> ((8 : Int32) &&& 31).toUInt32).toInt32) &&& (255 : Int32)).toUInt32.toUInt16.toUInt32.toInt32)), .val (.ref b105_0), .val (.ref b119_0), .val (.ref b135_0), .val (.ref b140), .val (.long ((0 : Int64) + (f17 (((p2.toUInt32 >>> ((2 : Int32) &&& 31).toUInt32).toInt32) &&& (7 : Int32)) (((p2.toUInt32 >>> ((5 : Int32) &&& 31).toUInt32).toInt32) &&& (3 : Int32))))), .second, .unset] [(.int 0)]) _ := fun t k => pre100 t (by
              refine XS.ifYes X94.here hx rfl (pc0 := 254) (pc' := 261) rfl (hb hby at_254) rfl ((if0 _ _).trans (tlt ((lw_gt _ _).mpr hc254_7)).2.2.1) (by decide) (by decide) ?_
              refine XS.iconst X94.here hx rfl (hb hby at_261) ?_
              exact k)
            exact ⟨T94, _, X94, e94, N94, fun t k => pre101 t (by simpa only [v0_262_s0_1, if_neg hc242_6, if_pos hc254_7] using k)⟩
          · have pre102 : Go p e below T94 _ (mkF m 262 #[.val (.int p0), .val (.long q1), .second, .val (.int p2), .val (.int p3), .val (.int (f1 (1 : Int32) (p0 &&& (2147483647 : Int32)))), .val (.long (f2 (1 : Int64) (q1 &&& (9223372036854775807 : Int64)))), .second, .val (.int (p2 &&& (3 : Int32))), .val (.int (((p2.toUInt32 >>> ((2 : Int32) &&& 31).toUInt32).toInt32) &&& (7 : Int32))), .val (.int (((p2.toUInt32 >>> ((5 : Int32) &&& 31).toUInt32).toInt32) &&& (3 : Int32))), .val (.int (((p2.toUInt32 >>> ((7 : Int32) &&& 31).toUInt32).toInt32) &&& (7 : Int32))), .val (.int (((p2.toUInt32 >>> ((10 : Int32) &&& 31).toUInt32).toInt32) &&& (3 : Int32))), .val (.int (((p2.toUInt32 >>> ((12 : Int32) &&& 31).toUInt32).toInt32) &&& (7 : Int32))), .val (.int (((p2.toUInt32 >>> ((15 : Int32) &&& 31).toUInt32).toInt32) &&& (3 : Int32))), .val (.int ((p3 &&& (255 : Int32)).toUInt32.toUInt16.toUInt32.toInt32)), .val (.int ((((p3.toUInt32 >>> ((8 : Int32) &&& 31).toUInt32).toInt32) &&& (255 : Int32)).toUInt32.toUInt16.toUInt32.toInt32)), .val (.ref b105_0), .val (.ref b119_0), .val (.ref b135_0), .val (.ref b140), .val (.long ((0 : Int64) + (f17 (((p2.toUInt32 >>> ((2 : Int32) &&& 31).toUInt32).toInt32) &&& (7 : Int32)) (((p2.toUInt32 >>> ((5 : Int32) &&& 31).toUInt32).toInt32) &&& (3 : Int32))))), .second, .unset] [(.int 1)]) _ := fun t k => pre100 t (by
              refine XS.ifNo X94.here hx rfl (hb hby at_254) rfl ((if0 _ _).trans (flt (fun q => hc254_7 ((lw_gt _ _).mp q))).2.2.1) ?_
              refine XS.iconst X94.here hx rfl (hb hby at_257) ?_
              refine XS.goto X94.here hx rfl (pc0 := 258) (pc' := 262) rfl (hb hby at_258) (by decide) (by decide) ?_
              exact k)
            exact ⟨T94, _, X94, e94, N94, fun t k => pre102 t (by simpa only [v0_262_s0_1, if_neg hc242_6, if_neg hc254_7] using k)⟩
      have pre103 : Go p e below T98 _ (mkF m 266 #[.val (.int p0), .val (.long q1), .second, .val (.int p2), .val (.int p3), .val (.int (f1 (1 : Int32) (p0 &&& (2147483647 : Int32)))), .val (.long (f2 (1 : Int64) (q1 &&& (9223372036854775807 : Int64)))), .second, .val (.int (p2 &&& (3 : Int32))), .val (.int (((p2.toUInt32 >>> ((2 : Int32) &&& 31).toUInt32).toInt32) &&& (7 : Int32))), .val (.int (((p2.toUInt32 >>> ((5 : Int32) &&& 31).toUInt32).toInt32) &&& (3 : Int32))), .val (.int (((p2.toUInt32 >>> ((7 : Int32) &&& 31).toUInt32).toInt32) &&& (7 : Int32))), .val (.int (((p2.toUInt32 >>> ((10 : Int32) &&& 31).toUInt32).toInt32) &&& (3 : Int32))), .val (.int (((p2.toUInt32 >>> ((12 : Int32) &&& 31).toUInt32).toInt32) &&& (7 : Int32))), .val (.int (((p2.toUInt32 >>> ((15 : Int32) &&& 31).toUInt32).toInt32) &&& (3 : Int32))), .val (.int ((p3 &&& (255 : Int32)).toUInt32.toUInt16.toUInt32.toInt32)), .val (.int ((((p3.toUInt32 >>> ((8 : Int32) &&& 31).toUInt32).toInt32) &&& (255 : Int32)).toUInt32.toUInt16.toUInt32.toInt32)), .val (.ref b105_0), .val (.ref b119_0), .val (.ref b135_0), .val (.ref b140), .val (.long ((0 : Int64) + (f17 (((p2.toUInt32 >>> ((2 : Int32) &&& 31).toUInt32).toInt32) &&& (7 : Int32)) (((p2.toUInt32 >>> ((5 : Int32) &&& 31).toUInt32).toInt32) &&& (3 : Int32))))), .second, .val (.int (v0_262_s0_1 p0 q1 p2))] [(.ref b140)]) _ := fun t k => pre98 t (by
        refine XS.istore X98.here hx rfl (hb hby at_262) rfl (l' := #[.val (.int p0), .val (.long q1), .second, .val (.int p2), .val (.int p3), .val (.int (f1 (1 : Int32) (p0 &&& (2147483647 : Int32)))), .val (.long (f2 (1 : Int64) (q1 &&& (9223372036854775807 : Int64)))), .second, .val (.int (p2 &&& (3 : Int32))), .val (.int (((p2.toUInt32 >>> ((2 : Int32) &&& 31).toUInt32).toInt32) &&& (7 : Int32))), .val (.int (((p2.toUInt32 >>> ((5 : Int32) &&& 31).toUInt32).toInt32) &&& (3 : Int32))), .val (.int (((p2.toUInt32 >>> ((7 : Int32) &&& 31).toUInt32).toInt32) &&& (7 : Int32))), .val (.int (((p2.toUInt32 >>> ((10 : Int32) &&& 31).toUInt32).toInt32) &&& (3 : Int32))), .val (.int (((p2.toUInt32 >>> ((12 : Int32) &&& 31).toUInt32).toInt32) &&& (7 : Int32))), .val (.int (((p2.toUInt32 >>> ((15 : Int32) &&& 31).toUInt32).toInt32) &&& (3 : Int32))), .val (.int ((p3 &&& (255 : Int32)).toUInt32.toUInt16.toUInt32.toInt32)), .val (.int ((((p3.toUInt32 >>> ((8 : Int32) &&& 31).toUInt32).toInt32) &&& (255 : Int32)).toUInt32.toUInt16.toUInt32.toInt32)), .val (.ref b105_0), .val (.ref b119_0), .val (.ref b135_0), .val (.ref b140), .val (.long ((0 : Int64) + (f17 (((p2.toUInt32 >>> ((2 : Int32) &&& 31).toUInt32).toInt32) &&& (7 : Int32)) (((p2.toUInt32 >>> ((5 : Int32) &&& 31).toUInt32).toInt32) &&& (3 : Int32))))), .second, .val (.int (v0_262_s0_1 p0 q1 p2))]) rfl ?_
        refine XS.aload X98.here hx rfl (hb hby at_264) rfl rfl ?_
        exact k)
      obtain ⟨cq104, kq104, q104a, q104b, q104c⟩ := isOf hZ e98 o81_0
      obtain ⟨_, _, ⟨T104, L104, k104, n104⟩, -, X104, ⟨Lc104, hQ104, l104, y104, z104⟩, st104⟩ := X98.virtualBack hx (y := Nm_25) (z := Nm_25) hown (mvT hZ (wq hw 121 rfl)) (mvT hZ (wq hw 122 rfl)) (notFace_of_selects (args := #[]) (mvT hZ (wq hw 124 rfl))) (mvT hZ (wq hw 124 rfl)) (mvT hZ (wq hw 123 rfl)) (by decide) (backOf (W := 0) (rm18_1 l Z a0 hw [] b140 b148_0 (f1 (1 : Int32) (p0 &&& (2147483647 : Int32))) (f2 (1 : Int64) (q1 &&& (9223372036854775807 : Int64))) ((0 : Int64) + (f17 (((p2.toUInt32 >>> ((2 : Int32) &&& 31).toUInt32).toInt32) &&& (7 : Int32)) (((p2.toUInt32 >>> ((5 : Int32) &&& 31).toUInt32).toInt32) &&& (3 : Int32)))) b148_1 _ b105_0 T81.heap n0 Z81 o81_1 o81_2 o81_3 o81_4 o81_5 o81_6 o81_7 o81_8 o81_9 o56_10) hZ (wq hw 125 rfl) (wq hw 48 rfl) (by decide) (by decide)) q104a q104c (g := (mkF m 266 #[.val (.int p0), .val (.long q1), .second, .val (.int p2), .val (.int p3), .val (.int (f1 (1 : Int32) (p0 &&& (2147483647 : Int32)))), .val (.long (f2 (1 : Int64) (q1 &&& (9223372036854775807 : Int64)))), .second, .val (.int (p2 &&& (3 : Int32))), .val (.int (((p2.toUInt32 >>> ((2 : Int32) &&& 31).toUInt32).toInt32) &&& (7 : Int32))), .val (.int (((p2.toUInt32 >>> ((5 : Int32) &&& 31).toUInt32).toInt32) &&& (3 : Int32))), .val (.int (((p2.toUInt32 >>> ((7 : Int32) &&& 31).toUInt32).toInt32) &&& (7 : Int32))), .val (.int (((p2.toUInt32 >>> ((10 : Int32) &&& 31).toUInt32).toInt32) &&& (3 : Int32))), .val (.int (((p2.toUInt32 >>> ((12 : Int32) &&& 31).toUInt32).toInt32) &&& (7 : Int32))), .val (.int (((p2.toUInt32 >>> ((15 : Int32) &&& 31).toUInt32).toInt32) &&& (3 : Int32))), .val (.int ((p3 &&& (255 : Int32)).toUInt32.toUInt16.toUInt32.toInt32)), .val (.int ((((p3.toUInt32 >>> ((8 : Int32) &&& 31).toUInt32).toInt32) &&& (255 : Int32)).toUInt32.toUInt16.toUInt32.toInt32)), .val (.ref b105_0), .val (.ref b119_0), .val (.ref b135_0), .val (.ref b140), .val (.long ((0 : Int64) + (f17 (((p2.toUInt32 >>> ((2 : Int32) &&& 31).toUInt32).toInt32) &&& (7 : Int32)) (((p2.toUInt32 >>> ((5 : Int32) &&& 31).toUInt32).toInt32) &&& (3 : Int32))))), .second, .val (.int (v0_262_s0_1 p0 q1 p2))] [(.ref b140)])) rfl (by rw [hml]; rfl) (Steps.refl _) (argsL := []) (rest := []) (lenOf pd___Z rfl) rfl (w00 rfl) (hb hby at_266) (fun _ _ => ⟨rfl, e98, (by decide : 27 + 0 ≤ _), (by decide : 108 + 0 ≤ _)⟩)
      dsimp only [Pt.U, Pt.locs, Pt.cells, Pt.slots] at X104 l104 y104 z104 st104 hQ104
      subst l104 y104 z104
      obtain ⟨rfl, Nq104, e104⟩ := hQ104
      have N104 := Fr.app N98 Nq104
      have pre105 := Go.trn pre103 st104
      have pre106 : Go p e below T104 _ (mkF m 271 #[.val (.int p0), .val (.long q1), .second, .val (.int p2), .val (.int p3), .val (.int (f1 (1 : Int32) (p0 &&& (2147483647 : Int32)))), .val (.long (f2 (1 : Int64) (q1 &&& (9223372036854775807 : Int64)))), .second, .val (.int (p2 &&& (3 : Int32))), .val (.int (((p2.toUInt32 >>> ((2 : Int32) &&& 31).toUInt32).toInt32) &&& (7 : Int32))), .val (.int (((p2.toUInt32 >>> ((5 : Int32) &&& 31).toUInt32).toInt32) &&& (3 : Int32))), .val (.int (((p2.toUInt32 >>> ((7 : Int32) &&& 31).toUInt32).toInt32) &&& (7 : Int32))), .val (.int (((p2.toUInt32 >>> ((10 : Int32) &&& 31).toUInt32).toInt32) &&& (3 : Int32))), .val (.int (((p2.toUInt32 >>> ((12 : Int32) &&& 31).toUInt32).toInt32) &&& (7 : Int32))), .val (.int (((p2.toUInt32 >>> ((15 : Int32) &&& 31).toUInt32).toInt32) &&& (3 : Int32))), .val (.int ((p3 &&& (255 : Int32)).toUInt32.toUInt16.toUInt32.toInt32)), .val (.int ((((p3.toUInt32 >>> ((8 : Int32) &&& 31).toUInt32).toInt32) &&& (255 : Int32)).toUInt32.toUInt16.toUInt32.toInt32)), .val (.ref b105_0), .val (.ref b119_0), .val (.ref b135_0), .val (.ref b140), .val (.long ((0 : Int64) + (f17 (((p2.toUInt32 >>> ((2 : Int32) &&& 31).toUInt32).toInt32) &&& (7 : Int32)) (((p2.toUInt32 >>> ((5 : Int32) &&& 31).toUInt32).toInt32) &&& (3 : Int32))))), .second, .val (.int (v0_262_s0_1 p0 q1 p2))] [(.int (v0_262_s0_1 p0 q1 p2)), (.int (f18_1 (f1 (1 : Int32) (p0 &&& (2147483647 : Int32))) (f2 (1 : Int64) (q1 &&& (9223372036854775807 : Int64))) ((0 : Int64) + (f17 (((p2.toUInt32 >>> ((2 : Int32) &&& 31).toUInt32).toInt32) &&& (7 : Int32)) (((p2.toUInt32 >>> ((5 : Int32) &&& 31).toUInt32).toInt32) &&& (3 : Int32))))))]) _ := fun t k => pre105 t (by
        refine XS.iload X104.here hx rfl (hb hby at_269) rfl ?_
        exact k)
      by_cases hc271_8 : (f18_1 (f1 (1 : Int32) (p0 &&& (2147483647 : Int32))) (f2 (1 : Int64) (q1 &&& (9223372036854775807 : Int64))) ((0 : Int64) + (f17 (((p2.toUInt32 >>> ((2 : Int32) &&& 31).toUInt32).toInt32) &&& (7 : Int32)) (((p2.toUInt32 >>> ((5 : Int32) &&& 31).toUInt32).toInt32) &&& (3 : Int32))))) = (v0_262_s0_1 p0 q1 p2)
      · have pre107 : Go p e below T104 _ (mkF m 279 #[.val (.int p0), .val (.long q1), .second, .val (.int p2), .val (.int p3), .val (.int (f1 (1 : Int32) (p0 &&& (2147483647 : Int32)))), .val (.long (f2 (1 : Int64) (q1 &&& (9223372036854775807 : Int64)))), .second, .val (.int (p2 &&& (3 : Int32))), .val (.int (((p2.toUInt32 >>> ((2 : Int32) &&& 31).toUInt32).toInt32) &&& (7 : Int32))), .val (.int (((p2.toUInt32 >>> ((5 : Int32) &&& 31).toUInt32).toInt32) &&& (3 : Int32))), .val (.int (((p2.toUInt32 >>> ((7 : Int32) &&& 31).toUInt32).toInt32) &&& (7 : Int32))), .val (.int (((p2.toUInt32 >>> ((10 : Int32) &&& 31).toUInt32).toInt32) &&& (3 : Int32))), .val (.int (((p2.toUInt32 >>> ((12 : Int32) &&& 31).toUInt32).toInt32) &&& (7 : Int32))), .val (.int (((p2.toUInt32 >>> ((15 : Int32) &&& 31).toUInt32).toInt32) &&& (3 : Int32))), .val (.int ((p3 &&& (255 : Int32)).toUInt32.toUInt16.toUInt32.toInt32)), .val (.int ((((p3.toUInt32 >>> ((8 : Int32) &&& 31).toUInt32).toInt32) &&& (255 : Int32)).toUInt32.toUInt16.toUInt32.toInt32)), .val (.ref b105_0), .val (.ref b119_0), .val (.ref b135_0), .val (.ref b140), .val (.long ((0 : Int64) + (f17 (((p2.toUInt32 >>> ((2 : Int32) &&& 31).toUInt32).toInt32) &&& (7 : Int32)) (((p2.toUInt32 >>> ((5 : Int32) &&& 31).toUInt32).toInt32) &&& (3 : Int32))))), .second, .val (.int (v0_262_s0_1 p0 q1 p2))] [(.int 1)]) _ := fun t k => pre106 t (by
          refine XS.icmpNo X104.here hx rfl (hb hby at_271) rfl (teq hc271_8).2 ?_
          refine XS.iconst X104.here hx rfl (hb hby at_274) ?_
          refine XS.goto X104.here hx rfl (pc0 := 275) (pc' := 279) rfl (hb hby at_275) (by decide) (by decide) ?_
          exact k)
        obtain ⟨fs, hr, hrun, hended, hE⟩ := X104.leaveW hS35 (by rw [e104]; exact kS81) (v := some (.int 1)) (fun h => by rw [Bd.returns] at h; cases h)
        refine ⟨_, _, ?_, hrun, hended, _, _, rfl, ?_, hE.1, hE.2.1, hE.2.2.1, hE.2.2.2.mono (by decide) (by decide)⟩
        · exact pre107 _ (retN X104 hx (t := .boolean) Bd.returns (by simp) (hb hby at_279) hr)
        · exact ⟨by simp only [f0, if_neg hc159_1, if_pos hc184_5, if_pos hc271_8], N104, trivial⟩
      · have pre108 : Go p e below T104 _ (mkF m 279 #[.val (.int p0), .val (.long q1), .second, .val (.int p2), .val (.int p3), .val (.int (f1 (1 : Int32) (p0 &&& (2147483647 : Int32)))), .val (.long (f2 (1 : Int64) (q1 &&& (9223372036854775807 : Int64)))), .second, .val (.int (p2 &&& (3 : Int32))), .val (.int (((p2.toUInt32 >>> ((2 : Int32) &&& 31).toUInt32).toInt32) &&& (7 : Int32))), .val (.int (((p2.toUInt32 >>> ((5 : Int32) &&& 31).toUInt32).toInt32) &&& (3 : Int32))), .val (.int (((p2.toUInt32 >>> ((7 : Int32) &&& 31).toUInt32).toInt32) &&& (7 : Int32))), .val (.int (((p2.toUInt32 >>> ((10 : Int32) &&& 31).toUInt32).toInt32) &&& (3 : Int32))), .val (.int (((p2.toUInt32 >>> ((12 : Int32) &&& 31).toUInt32).toInt32) &&& (7 : Int32))), .val (.int (((p2.toUInt32 >>> ((15 : Int32) &&& 31).toUInt32).toInt32) &&& (3 : Int32))), .val (.int ((p3 &&& (255 : Int32)).toUInt32.toUInt16.toUInt32.toInt32)), .val (.int ((((p3.toUInt32 >>> ((8 : Int32) &&& 31).toUInt32).toInt32) &&& (255 : Int32)).toUInt32.toUInt16.toUInt32.toInt32)), .val (.ref b105_0), .val (.ref b119_0), .val (.ref b135_0), .val (.ref b140), .val (.long ((0 : Int64) + (f17 (((p2.toUInt32 >>> ((2 : Int32) &&& 31).toUInt32).toInt32) &&& (7 : Int32)) (((p2.toUInt32 >>> ((5 : Int32) &&& 31).toUInt32).toInt32) &&& (3 : Int32))))), .second, .val (.int (v0_262_s0_1 p0 q1 p2))] [(.int 0)]) _ := fun t k => pre106 t (by
          refine XS.icmpYes X104.here hx rfl (pc0 := 271) (pc' := 278) rfl (hb hby at_271) rfl (feq hc271_8).2 (by decide) (by decide) ?_
          refine XS.iconst X104.here hx rfl (hb hby at_278) ?_
          exact k)
        obtain ⟨fs, hr, hrun, hended, hE⟩ := X104.leaveW hS35 (by rw [e104]; exact kS81) (v := some (.int 0)) (fun h => by rw [Bd.returns] at h; cases h)
        refine ⟨_, _, ?_, hrun, hended, _, _, rfl, ?_, hE.1, hE.2.1, hE.2.2.1, hE.2.2.2.mono (by decide) (by decide)⟩
        · exact pre108 _ (retN X104 hx (t := .boolean) Bd.returns (by simp) (hb hby at_279) hr)
        · exact ⟨by simp only [f0, if_neg hc159_1, if_pos hc184_5, if_neg hc271_8], N104, trivial⟩
    · have pre109 : Go p e below T94 _ (mkF m 191 #[.val (.int p0), .val (.long q1), .second, .val (.int p2), .val (.int p3), .val (.int (f1 (1 : Int32) (p0 &&& (2147483647 : Int32)))), .val (.long (f2 (1 : Int64) (q1 &&& (9223372036854775807 : Int64)))), .second, .val (.int (p2 &&& (3 : Int32))), .val (.int (((p2.toUInt32 >>> ((2 : Int32) &&& 31).toUInt32).toInt32) &&& (7 : Int32))), .val (.int (((p2.toUInt32 >>> ((5 : Int32) &&& 31).toUInt32).toInt32) &&& (3 : Int32))), .val (.int (((p2.toUInt32 >>> ((7 : Int32) &&& 31).toUInt32).toInt32) &&& (7 : Int32))), .val (.int (((p2.toUInt32 >>> ((10 : Int32) &&& 31).toUInt32).toInt32) &&& (3 : Int32))), .val (.int (((p2.toUInt32 >>> ((12 : Int32) &&& 31).toUInt32).toInt32) &&& (7 : Int32))), .val (.int (((p2.toUInt32 >>> ((15 : Int32) &&& 31).toUInt32).toInt32) &&& (3 : Int32))), .val (.int ((p3 &&& (255 : Int32)).toUInt32.toUInt16.toUInt32.toInt32)), .val (.int ((((p3.toUInt32 >>> ((8 : Int32) &&& 31).toUInt32).toInt32) &&& (255 : Int32)).toUInt32.toUInt16.toUInt32.toInt32)), .val (.ref b105_0), .val (.ref b119_0), .val (.ref b135_0), .val (.ref b140), .val (.long ((0 : Int64) + (f17 (((p2.toUInt32 >>> ((2 : Int32) &&& 31).toUInt32).toInt32) &&& (7 : Int32)) (((p2.toUInt32 >>> ((5 : Int32) &&& 31).toUInt32).toInt32) &&& (3 : Int32))))), .second, .unset] [(.ref b119_0), (.ref b140)]) _ := fun t k => pre96 t (by
        refine XS.icmpNo X94.here hx rfl (hb hby at_184) rfl (flt hc184_5).1 ?_
        refine XS.aload X94.here hx rfl (hb hby at_187) rfl rfl ?_
        refine XS.aload X94.here hx rfl (hb hby at_189) rfl rfl ?_
        exact k)
      obtain ⟨cq110, kq110, q110a, q110b, q110c⟩ := isOf hZ e94 o81_0
      obtain ⟨_, _, ⟨T110, L110, k110, n110⟩, -, X110, ⟨Lc110, hQ110, l110, y110, z110⟩, st110⟩ := X94.virtualBack hx (y := Nm_22) (z := Nm_22) hown (mvT hZ (wq hw 76 rfl)) (mvT hZ (wq hw 77 rfl)) (notFace_of_selects (args := #[]) (mvT hZ (wq hw 79 rfl))) (mvT hZ (wq hw 79 rfl)) (mvT hZ (wq hw 78 rfl)) (by decide) (backOf (W := 0) (rm10_1 l Z a0 hw [] b140 b119_0 wcs b148_0 (f1 (1 : Int32) (p0 &&& (2147483647 : Int32))) (f2 (1 : Int64) (q1 &&& (9223372036854775807 : Int64))) ((0 : Int64) + (f17 (((p2.toUInt32 >>> ((2 : Int32) &&& 31).toUInt32).toInt32) &&& (7 : Int32)) (((p2.toUInt32 >>> ((5 : Int32) &&& 31).toUInt32).toInt32) &&& (3 : Int32)))) b148_1 _ b105_0 (f17 (((p2.toUInt32 >>> ((7 : Int32) &&& 31).toUInt32).toInt32) &&& (7 : Int32)) (((p2.toUInt32 >>> ((10 : Int32) &&& 31).toUInt32).toInt32) &&& (3 : Int32))) T35.heap.size T81.heap n0 Z81 x82 o81_0 o81_1 o81_2 o81_3 o81_4 o81_5 o81_6 o81_7 o81_8 o81_9 o56_10 x86 x87 jl81 (Nat.le_trans (Nat.le_refl _) (Nat.le_of_eq g44.symm)) (Nat.le_trans jl44 gz56_b148_0) (Nat.le_trans jl44 gz56_b148_1) gg44 gg56_b148_0 gg56_b148_1 ne56_b140_b148_0 ne56_b140_b148_1 (own_neH o81_5 o81_9 (wq hw 54 rfl)) hcs) hZ (wq hw 80 rfl) (wq hw 48 rfl) (by decide) (by decide)) q110a q110c (g := (mkF m 191 #[.val (.int p0), .val (.long q1), .second, .val (.int p2), .val (.int p3), .val (.int (f1 (1 : Int32) (p0 &&& (2147483647 : Int32)))), .val (.long (f2 (1 : Int64) (q1 &&& (9223372036854775807 : Int64)))), .second, .val (.int (p2 &&& (3 : Int32))), .val (.int (((p2.toUInt32 >>> ((2 : Int32) &&& 31).toUInt32).toInt32) &&& (7 : Int32))), .val (.int (((p2.toUInt32 >>> ((5 : Int32) &&& 31).toUInt32).toInt32) &&& (3 : Int32))), .val (.int (((p2.toUInt32 >>> ((7 : Int32) &&& 31).toUInt32).toInt32) &&& (7 : Int32))), .val (.int (((p2.toUInt32 >>> ((10 : Int32) &&& 31).toUInt32).toInt32) &&& (3 : Int32))), .val (.int (((p2.toUInt32 >>> ((12 : Int32) &&& 31).toUInt32).toInt32) &&& (7 : Int32))), .val (.int (((p2.toUInt32 >>> ((15 : Int32) &&& 31).toUInt32).toInt32) &&& (3 : Int32))), .val (.int ((p3 &&& (255 : Int32)).toUInt32.toUInt16.toUInt32.toInt32)), .val (.int ((((p3.toUInt32 >>> ((8 : Int32) &&& 31).toUInt32).toInt32) &&& (255 : Int32)).toUInt32.toUInt16.toUInt32.toInt32)), .val (.ref b105_0), .val (.ref b119_0), .val (.ref b135_0), .val (.ref b140), .val (.long ((0 : Int64) + (f17 (((p2.toUInt32 >>> ((2 : Int32) &&& 31).toUInt32).toInt32) &&& (7 : Int32)) (((p2.toUInt32 >>> ((5 : Int32) &&& 31).toUInt32).toInt32) &&& (3 : Int32))))), .second, .unset] [(.ref b119_0), (.ref b140)])) rfl (by rw [hml]; rfl) (Steps.refl _) (argsL := [(.ref b119_0)]) (rest := []) (lenOf pd__Lcom_example_oncemark_oncemark_Message__V rfl) rfl (w00 rfl) (hb hby at_191) (fun _ _ => ⟨rfl, e94, (by decide : 27 + 0 ≤ _), (by decide : 108 + 0 ≤ _)⟩)
      dsimp only [Pt.U, Pt.locs, Pt.cells, Pt.slots] at X110 l110 y110 z110 st110 hQ110
      subst l110 y110 z110
      obtain ⟨rfl, Nq110, Kq110, o110_0, o110_1, o110_2, o110_3, o110_4, o110_5, o110_6, o110_7, o110_8, o110_9⟩ := hQ110
      have N110 := Fr.app N94 Nq110
      have K110 : Keep h0 T110.heap [] := K81.trans Kq110 (allS (Or.inr sz44) (allS (Or.inr sz56_b148_0) (allS (Or.inr sz56_b148_1) all0)))
      have Z110 : n0 ≤ T110.heap.size := Nat.le_trans Z81 Kq110.1
      have x111 := own_staK x82 Kq110 (allS (own_plE o81_0) (allS (own_plE o81_5) (allS (own_plH o81_9) all0)))
      have x112 := x83.keep Kq110 (allS (Nat.le_trans (Nat.le_refl _) (Nat.le_of_eq g44.symm)) (allS (Nat.le_trans jl44 gz56_b148_0) (allS (Nat.le_trans jl44 gz56_b148_1) all0)))
      have x113 := x84.keep Kq110
      have x114 := x85.keep Kq110 (allS (Nat.le_trans (Nat.le_refl _) (Nat.le_of_eq g44.symm)) (allS (Nat.le_trans jl44 gz56_b148_0) (allS (Nat.le_trans jl44 gz56_b148_1) all0)))
      have x115 := x86.keep Kq110
      have x116 := x87.keep Kq110 (allS (Nat.le_trans (Nat.le_refl _) (Nat.le_of_eq g44.symm)) (allS (Nat.le_trans jl44 gz56_b148_0) (allS (Nat.le_trans jl44 gz56_b148_1) all0)))
      have x117 := x88.keep Kq110
      have x118 := x89.keep Kq110 (allS (Nat.le_trans (Nat.le_refl _) (Nat.le_of_eq g44.symm)) (allS (Nat.le_trans jl44 gz56_b148_0) (allS (Nat.le_trans jl44 gz56_b148_1) all0)))
      have x119 := o81_0.keep Kq110
      have x120 := o81_5.keep Kq110
      have pre121 := Go.trn pre109 st110
      have jl110 : T35.heap.size ≤ T110.heap.size := Nat.le_trans jl81 Kq110.1
      have kS110 : _ ≤ T110.heap.size := Nat.le_trans kS81 Kq110.1
      have pre122 : Go p e below T110 _ (mkF m 200 #[.val (.int p0), .val (.long q1), .second, .val (.int p2), .val (.int p3), .val (.int (f1 (1 : Int32) (p0 &&& (2147483647 : Int32)))), .val (.long (f2 (1 : Int64) (q1 &&& (9223372036854775807 : Int64)))), .second, .val (.int (p2 &&& (3 : Int32))), .val (.int (((p2.toUInt32 >>> ((2 : Int32) &&& 31).toUInt32).toInt32) &&& (7 : Int32))), .val (.int (((p2.toUInt32 >>> ((5 : Int32) &&& 31).toUInt32).toInt32) &&& (3 : Int32))), .val (.int (((p2.toUInt32 >>> ((7 : Int32) &&& 31).toUInt32).toInt32) &&& (7 : Int32))), .val (.int (((p2.toUInt32 >>> ((10 : Int32) &&& 31).toUInt32).toInt32) &&& (3 : Int32))), .val (.int (((p2.toUInt32 >>> ((12 : Int32) &&& 31).toUInt32).toInt32) &&& (7 : Int32))), .val (.int (((p2.toUInt32 >>> ((15 : Int32) &&& 31).toUInt32).toInt32) &&& (3 : Int32))), .val (.int ((p3 &&& (255 : Int32)).toUInt32.toUInt16.toUInt32.toInt32)), .val (.int ((((p3.toUInt32 >>> ((8 : Int32) &&& 31).toUInt32).toInt32) &&& (255 : Int32)).toUInt32.toUInt16.toUInt32.toInt32)), .val (.ref b105_0), .val (.ref b119_0), .val (.ref b135_0), .val (.ref b140), .val (.long ((0 : Int64) + (f17 (((p2.toUInt32 >>> ((2 : Int32) &&& 31).toUInt32).toInt32) &&& (7 : Int32)) (((p2.toUInt32 >>> ((5 : Int32) &&& 31).toUInt32).toInt32) &&& (3 : Int32))))), .second, .unset] [(.int (((p2.toUInt32 >>> ((10 : Int32) &&& 31).toUInt32).toInt32) &&& (3 : Int32))), (.int (((p2.toUInt32 >>> ((7 : Int32) &&& 31).toUInt32).toInt32) &&& (7 : Int32))), (.long ((0 : Int64) + (f17 (((p2.toUInt32 >>> ((2 : Int32) &&& 31).toUInt32).toInt32) &&& (7 : Int32)) (((p2.toUInt32 >>> ((5 : Int32) &&& 31).toUInt32).toInt32) &&& (3 : Int32)))))]) _ := fun t k => pre121 t (by
        refine XS.lload X110.here hx rfl (hb hby at_194) rfl ?_
        refine XS.iload X110.here hx rfl (hb hby at_196) rfl ?_
        refine XS.iload X110.here hx rfl (hb hby at_198) rfl ?_
        exact k)
      obtain ⟨_, _, ⟨T123, L123, k123, n123⟩, -, X123, ⟨Lc123, hQ123, l123, y123, z123⟩, st123⟩ := Jvm.LawKit.callS X110 hx (y := Nm_3) hown (mvT hZ (wq hw 118 rfl)) (mvT hZ (wq hw 119 rfl)) (mvT hZ (wq hw 11 rfl)) (mvT hZ (wq hw 120 rfl)) (by decide) (backOf (W := 2) (rm17 l Z a0 hw [] (((p2.toUInt32 >>> ((7 : Int32) &&& 31).toUInt32).toInt32) &&& (7 : Int32)) (((p2.toUInt32 >>> ((10 : Int32) &&& 31).toUInt32).toInt32) &&& (3 : Int32)) T110.heap n0 Z110) hZ (wq hw 120 rfl) (wq hw 11 rfl) (by decide) (by decide)) (g := (mkF m 200 #[.val (.int p0), .val (.long q1), .second, .val (.int p2), .val (.int p3), .val (.int (f1 (1 : Int32) (p0 &&& (2147483647 : Int32)))), .val (.long (f2 (1 : Int64) (q1 &&& (9223372036854775807 : Int64)))), .second, .val (.int (p2 &&& (3 : Int32))), .val (.int (((p2.toUInt32 >>> ((2 : Int32) &&& 31).toUInt32).toInt32) &&& (7 : Int32))), .val (.int (((p2.toUInt32 >>> ((5 : Int32) &&& 31).toUInt32).toInt32) &&& (3 : Int32))), .val (.int (((p2.toUInt32 >>> ((7 : Int32) &&& 31).toUInt32).toInt32) &&& (7 : Int32))), .val (.int (((p2.toUInt32 >>> ((10 : Int32) &&& 31).toUInt32).toInt32) &&& (3 : Int32))), .val (.int (((p2.toUInt32 >>> ((12 : Int32) &&& 31).toUInt32).toInt32) &&& (7 : Int32))), .val (.int (((p2.toUInt32 >>> ((15 : Int32) &&& 31).toUInt32).toInt32) &&& (3 : Int32))), .val (.int ((p3 &&& (255 : Int32)).toUInt32.toUInt16.toUInt32.toInt32)), .val (.int ((((p3.toUInt32 >>> ((8 : Int32) &&& 31).toUInt32).toInt32) &&& (255 : Int32)).toUInt32.toUInt16.toUInt32.toInt32)), .val (.ref b105_0), .val (.ref b119_0), .val (.ref b135_0), .val (.ref b140), .val (.long ((0 : Int64) + (f17 (((p2.toUInt32 >>> ((2 : Int32) &&& 31).toUInt32).toInt32) &&& (7 : Int32)) (((p2.toUInt32 >>> ((5 : Int32) &&& 31).toUInt32).toInt32) &&& (3 : Int32))))), .second, .unset] [(.int (((p2.toUInt32 >>> ((10 : Int32) &&& 31).toUInt32).toInt32) &&& (3 : Int32))), (.int (((p2.toUInt32 >>> ((7 : Int32) &&& 31).toUInt32).toInt32) &&& (7 : Int32))), (.long ((0 : Int64) + (f17 (((p2.toUInt32 >>> ((2 : Int32) &&& 31).toUInt32).toInt32) &&& (7 : Int32)) (((p2.toUInt32 >>> ((5 : Int32) &&& 31).toUInt32).toInt32) &&& (3 : Int32)))))])) rfl (by rw [hml]; rfl) (argsL := [(.int (((p2.toUInt32 >>> ((7 : Int32) &&& 31).toUInt32).toInt32) &&& (7 : Int32))), (.int (((p2.toUInt32 >>> ((10 : Int32) &&& 31).toUInt32).toInt32) &&& (3 : Int32)))]) (rest := [(.long ((0 : Int64) + (f17 (((p2.toUInt32 >>> ((2 : Int32) &&& 31).toUInt32).toInt32) &&& (7 : Int32)) (((p2.toUInt32 >>> ((5 : Int32) &&& 31).toUInt32).toInt32) &&& (3 : Int32)))))]) (lenOf pd__II_J rfl) rfl (w00 rfl) (hb hby at_200) (fun _ _ => ⟨rfl, rfl, (by decide : 27 + 0 ≤ _), (by decide : 108 + 0 ≤ _)⟩)
      dsimp only [Pt.U, Pt.locs, Pt.cells, Pt.slots] at X123 l123 y123 z123 st123 hQ123
      subst l123 y123 z123
      obtain ⟨rfl, Nq123, e123⟩ := hQ123
      have N123 := Fr.app N110 Nq123
      have pre124 := Go.thn pre122 st123
      have pre125 : Go p e below T123 _ (mkF m 209 #[.val (.int p0), .val (.long q1), .second, .val (.int p2), .val (.int p3), .val (.int (f1 (1 : Int32) (p0 &&& (2147483647 : Int32)))), .val (.long (f2 (1 : Int64) (q1 &&& (9223372036854775807 : Int64)))), .second, .val (.int (p2 &&& (3 : Int32))), .val (.int (((p2.toUInt32 >>> ((2 : Int32) &&& 31).toUInt32).toInt32) &&& (7 : Int32))), .val (.int (((p2.toUInt32 >>> ((5 : Int32) &&& 31).toUInt32).toInt32) &&& (3 : Int32))), .val (.int (((p2.toUInt32 >>> ((7 : Int32) &&& 31).toUInt32).toInt32) &&& (7 : Int32))), .val (.int (((p2.toUInt32 >>> ((10 : Int32) &&& 31).toUInt32).toInt32) &&& (3 : Int32))), .val (.int (((p2.toUInt32 >>> ((12 : Int32) &&& 31).toUInt32).toInt32) &&& (7 : Int32))), .val (.int (((p2.toUInt32 >>> ((15 : Int32) &&& 31).toUInt32).toInt32) &&& (3 : Int32))), .val (.int ((p3 &&& (255 : Int32)).toUInt32.toUInt16.toUInt32.toInt32)), .val (.int ((((p3.toUInt32 >>> ((8 : Int32) &&& 31).toUInt32).toInt32) &&& (255 : Int32)).toUInt32.toUInt16.toUInt32.toInt32)), .val (.ref b105_0), .val (.ref b119_0), .val (.ref b135_0), .val (.ref b140), .val (.long (((0 : Int64) + (f17 (((p2.toUInt32 >>> ((2 : Int32) &&& 31).toUInt32).toInt32) &&& (7 : Int32)) (((p2.toUInt32 >>> ((5 : Int32) &&& 31).toUInt32).toInt32) &&& (3 : Int32)))) + (f17 (((p2.toUInt32 >>> ((7 : Int32) &&& 31).toUInt32).toInt32) &&& (7 : Int32)) (((p2.toUInt32 >>> ((10 : Int32) &&& 31).toUInt32).toInt32) &&& (3 : Int32))))), .second, .unset] [(.int 3), (.int (p2 &&& (3 : Int32)))]) _ := fun t k => pre124 t (by
        refine XS.ladd X123.here hx rfl (hb hby at_203) rfl ?_
        refine XS.lstore X123.here hx rfl (hb hby at_204) rfl (l' := #[.val (.int p0), .val (.long q1), .second, .val (.int p2), .val (.int p3), .val (.int (f1 (1 : Int32) (p0 &&& (2147483647 : Int32)))), .val (.long (f2 (1 : Int64) (q1 &&& (9223372036854775807 : Int64)))), .second, .val (.int (p2 &&& (3 : Int32))), .val (.int (((p2.toUInt32 >>> ((2 : Int32) &&& 31).toUInt32).toInt32) &&& (7 : Int32))), .val (.int (((p2.toUInt32 >>> ((5 : Int32) &&& 31).toUInt32).toInt32) &&& (3 : Int32))), .val (.int (((p2.toUInt32 >>> ((7 : Int32) &&& 31).toUInt32).toInt32) &&& (7 : Int32))), .val (.int (((p2.toUInt32 >>> ((10 : Int32) &&& 31).toUInt32).toInt32) &&& (3 : Int32))), .val (.int (((p2.toUInt32 >>> ((12 : Int32) &&& 31).toUInt32).toInt32) &&& (7 : Int32))), .val (.int (((p2.toUInt32 >>> ((15 : Int32) &&& 31).toUInt32).toInt32) &&& (3 : Int32))), .val (.int ((p3 &&& (255 : Int32)).toUInt32.toUInt16.toUInt32.toInt32)), .val (.int ((((p3.toUInt32 >>> ((8 : Int32) &&& 31).toUInt32).toInt32) &&& (255 : Int32)).toUInt32.toUInt16.toUInt32.toInt32)), .val (.ref b105_0), .val (.ref b119_0), .val (.ref b135_0), .val (.ref b140), .val (.long (((0 : Int64) + (f17 (((p2.toUInt32 >>> ((2 : Int32) &&& 31).toUInt32).toInt32) &&& (7 : Int32)) (((p2.toUInt32 >>> ((5 : Int32) &&& 31).toUInt32).toInt32) &&& (3 : Int32)))) + (f17 (((p2.toUInt32 >>> ((7 : Int32) &&& 31).toUInt32).toInt32) &&& (7 : Int32)) (((p2.toUInt32 >>> ((10 : Int32) &&& 31).toUInt32).toInt32) &&& (3 : Int32))))), .second, .unset]) rfl ?_
        refine XS.iload X123.here hx rfl (hb hby at_206) rfl ?_
        refine XS.iconst X123.here hx rfl (hb hby at_208) ?_
        exact k)
      by_cases hc209_9 : (p2 &&& (3 : Int32)) < (3 : Int32)
      · have pre126 : Go p e below T123 _ (mkF m 242 #[.val (.int p0), .val (.long q1), .second, .val (.int p2), .val (.int p3), .val (.int (f1 (1 : Int32) (p0 &&& (2147483647 : Int32)))), .val (.long (f2 (1 : Int64) (q1 &&& (9223372036854775807 : Int64)))), .second, .val (.int (p2 &&& (3 : Int32))), .val (.int (((p2.toUInt32 >>> ((2 : Int32) &&& 31).toUInt32).toInt32) &&& (7 : Int32))), .val (.int (((p2.toUInt32 >>> ((5 : Int32) &&& 31).toUInt32).toInt32) &&& (3 : Int32))), .val (.int (((p2.toUInt32 >>> ((7 : Int32) &&& 31).toUInt32).toInt32) &&& (7 : Int32))), .val (.int (((p2.toUInt32 >>> ((10 : Int32) &&& 31).toUInt32).toInt32) &&& (3 : Int32))), .val (.int (((p2.toUInt32 >>> ((12 : Int32) &&& 31).toUInt32).toInt32) &&& (7 : Int32))), .val (.int (((p2.toUInt32 >>> ((15 : Int32) &&& 31).toUInt32).toInt32) &&& (3 : Int32))), .val (.int ((p3 &&& (255 : Int32)).toUInt32.toUInt16.toUInt32.toInt32)), .val (.int ((((p3.toUInt32 >>> ((8 : Int32) &&& 31).toUInt32).toInt32) &&& (255 : Int32)).toUInt32.toUInt16.toUInt32.toInt32)), .val (.ref b105_0), .val (.ref b119_0), .val (.ref b135_0), .val (.ref b140), .val (.long (((0 : Int64) + (f17 (((p2.toUInt32 >>> ((2 : Int32) &&& 31).toUInt32).toInt32) &&& (7 : Int32)) (((p2.toUInt32 >>> ((5 : Int32) &&& 31).toUInt32).toInt32) &&& (3 : Int32)))) + (f17 (((p2.toUInt32 >>> ((7 : Int32) &&& 31).toUInt32).toInt32) &&& (7 : Int32)) (((p2.toUInt32 >>> ((10 : Int32) &&& 31).toUInt32).toInt32) &&& (3 : Int32))))), .second, .unset] [(.int (lcmpW ((2 : Int64) * ((p2 &&& (3 : Int32)).toInt64)) ((f1 (1 : Int32) (p0 &&& (2147483647 : Int32))).toInt64)))]) _ := fun t k => pre125 t (by
          refine XS.icmpYes X123.here hx rfl (pc0 := 209) (pc' := 231) rfl (hb hby at_209) rfl (tlt hc209_9).1 (by decide) (by decide) ?_
          refine X123.ldc2Long hx hown (mvT hZ (wq hw 45 rfl)) (g := (mkF m 231 #[.val (.int p0), .val (.long q1), .second, .val (.int p2), .val (.int p3), .val (.int (f1 (1 : Int32) (p0 &&& (2147483647 : Int32)))), .val (.long (f2 (1 : Int64) (q1 &&& (9223372036854775807 : Int64)))), .second, .val (.int (p2 &&& (3 : Int32))), .val (.int (((p2.toUInt32 >>> ((2 : Int32) &&& 31).toUInt32).toInt32) &&& (7 : Int32))), .val (.int (((p2.toUInt32 >>> ((5 : Int32) &&& 31).toUInt32).toInt32) &&& (3 : Int32))), .val (.int (((p2.toUInt32 >>> ((7 : Int32) &&& 31).toUInt32).toInt32) &&& (7 : Int32))), .val (.int (((p2.toUInt32 >>> ((10 : Int32) &&& 31).toUInt32).toInt32) &&& (3 : Int32))), .val (.int (((p2.toUInt32 >>> ((12 : Int32) &&& 31).toUInt32).toInt32) &&& (7 : Int32))), .val (.int (((p2.toUInt32 >>> ((15 : Int32) &&& 31).toUInt32).toInt32) &&& (3 : Int32))), .val (.int ((p3 &&& (255 : Int32)).toUInt32.toUInt16.toUInt32.toInt32)), .val (.int ((((p3.toUInt32 >>> ((8 : Int32) &&& 31).toUInt32).toInt32) &&& (255 : Int32)).toUInt32.toUInt16.toUInt32.toInt32)), .val (.ref b105_0), .val (.ref b119_0), .val (.ref b135_0), .val (.ref b140), .val (.long (((0 : Int64) + (f17 (((p2.toUInt32 >>> ((2 : Int32) &&& 31).toUInt32).toInt32) &&& (7 : Int32)) (((p2.toUInt32 >>> ((5 : Int32) &&& 31).toUInt32).toInt32) &&& (3 : Int32)))) + (f17 (((p2.toUInt32 >>> ((7 : Int32) &&& 31).toUInt32).toInt32) &&& (7 : Int32)) (((p2.toUInt32 >>> ((10 : Int32) &&& 31).toUInt32).toInt32) &&& (3 : Int32))))), .second, .unset] [])) rfl (hb hby at_231) _ ?_
          refine XS.iload X123.here hx rfl (hb hby at_234) rfl ?_
          refine XS.i2l X123.here hx rfl (hb hby at_236) rfl ?_
          refine XS.lmul X123.here hx rfl (hb hby at_237) rfl ?_
          refine XS.iload X123.here hx rfl (hb hby at_238) rfl ?_
          refine XS.i2l X123.here hx rfl (hb hby at_240) rfl ?_
          refine XS.lcmp X123.here hx rfl (hb hby at_241) rfl ?_
          exact k)
        obtain ⟨T127, L127, X127, e127, N127, pre127⟩ : ∃ (T' : State) (L' : List Loc), Stand p l e room_1 (s.setVm T35.vm) m #[(.int p0), (.long q1), (.int p2), (.int p3)] below meth c T' L' 27 108 ∧ T'.heap = T110.heap ∧ Fr n0 L' ∧ ∀ t, Steps p.tables e below (T'.setTop (mkF m 262 #[.val (.int p0), .val (.long q1), .second, .val (.int p2), .val (.int p3), .val (.int (f1 (1 : Int32) (p0 &&& (2147483647 : Int32)))), .val (.long (f2 (1 : Int64) (q1 &&& (9223372036854775807 : Int64)))), .second, .val (.int (p2 &&& (3 : Int32))), .val (.int (((p2.toUInt32 >>> ((2 : Int32) &&& 31).toUInt32).toInt32) &&& (7 : Int32))), .val (.int (((p2.toUInt32 >>> ((5 : Int32) &&& 31).toUInt32).toInt32) &&& (3 : Int32))), .val (.int (((p2.toUInt32 >>> ((7 : Int32) &&& 31).toUInt32).toInt32) &&& (7 : Int32))), .val (.int (((p2.toUInt32 >>> ((10 : Int32) &&& 31).toUInt32).toInt32) &&& (3 : Int32))), .val (.int (((p2.toUInt32 >>> ((12 : Int32) &&& 31).toUInt32).toInt32) &&& (7 : Int32))), .val (.int (((p2.toUInt32 >>> ((15 : Int32) &&& 31).toUInt32).toInt32) &&& (3 : Int32))), .val (.int ((p3 &&& (255 : Int32)).toUInt32.toUInt16.toUInt32.toInt32)), .val (.int ((((p3.toUInt32 >>> ((8 : Int32) &&& 31).toUInt32).toInt32) &&& (255 : Int32)).toUInt32.toUInt16.toUInt32.toInt32)), .val (.ref b105_0), .val (.ref b119_0), .val (.ref b135_0), .val (.ref b140), .val (.long (((0 : Int64) + (f17 (((p2.toUInt32 >>> ((2 : Int32) &&& 31).toUInt32).toInt32) &&& (7 : Int32)) (((p2.toUInt32 >>> ((5 : Int32) &&& 31).toUInt32).toInt32) &&& (3 : Int32)))) + (f17 (((p2.toUInt32 >>> ((7 : Int32) &&& 31).toUInt32).toInt32) &&& (7 : Int32)) (((p2.toUInt32 >>> ((10 : Int32) &&& 31).toUInt32).toInt32) &&& (3 : Int32))))), .second, .unset] [(.int (v0_262_s0_2 p0 q1 p2))])) t → Steps p.tables e below (s₁.setTop (entryFrame m #[(.int p0), (.long q1), (.int p2), (.int p3)] maxLocals)) t := by
          by_cases hc242_10 : ((f1 (1 : Int32) (p0 &&& (2147483647 : Int32))).toInt64) < ((2 : Int64) * ((p2 &&& (3 : Int32)).toInt64))
          · have pre128 : Go p e below T123 _ (mkF m 262 #[.val (.int p0), .val (.long q1), .second, .val (.int p2), .val (.int p3), .val (.int (f1 (1 : Int32) (p0 &&& (2147483647 : Int32)))), .val (.long (f2 (1 : Int64) (q1 &&& (9223372036854775807 : Int64)))), .second, .val (.int (p2 &&& (3 : Int32))), .val (.int (((p2.toUInt32 >>> ((2 : Int32) &&& 31).toUInt32).toInt32) &&& (7 : Int32))), .val (.int (((p2.toUInt32 >>> ((5 : Int32) &&& 31).toUInt32).toInt32) &&& (3 : Int32))), .val (.int (((p2.toUInt32 >>> ((7 : Int32) &&& 31).toUInt32).toInt32) &&& (7 : Int32))), .val (.int (((p2.toUInt32 >>> ((10 : Int32) &&& 31).toUInt32).toInt32) &&& (3 : Int32))), .val (.int (((p2.toUInt32 >>> ((12 : Int32) &&& 31).toUInt32).toInt32) &&& (7 : Int32))), .val (.int (((p2.toUInt32 >>> ((15 : Int32) &&& 31).toUInt32).toInt32) &&& (3 : Int32))), .val (.int ((p3 &&& (255 : Int32)).toUInt32.toUInt16.toUInt32.toInt32)), .val (.int ((((p3.toUInt32 >>> ((8 : Int32) &&& 31).toUInt32).toInt32) &&& (255 : Int32)).toUInt32.toUInt16.toUInt32.toInt32)), .val (.ref b105_0), .val (.ref b119_0), .val (.ref b135_0), .val (.ref b140), .val (.long (((0 : Int64) + (f17 (((p2.toUInt32 >>> ((2 : Int32) &&& 31).toUInt32).toInt32) &&& (7 : Int32)) (((p2.toUInt32 >>> ((5 : Int32) &&& 31).toUInt32).toInt32) &&& (3 : Int32)))) + (f17 (((p2.toUInt32 >>> ((7 : Int32) &&& 31).toUInt32).toInt32) &&& (7 : Int32)) (((p2.toUInt32 >>> ((10 : Int32) &&& 31).toUInt32).toInt32) &&& (3 : Int32))))), .second, .unset] [(.int 0)]) _ := fun t k => pre126 t (by
              refine XS.ifYes X123.here hx rfl (pc0 := 242) (pc' := 261) rfl (hb hby at_242) rfl ((if0 _ _).trans (tlt ((lw_gt _ _).mpr hc242_10)).2.2.1) (by decide) (by decide) ?_
              refine XS.iconst X123.here hx rfl (hb hby at_261) ?_
              exact k)
            exact ⟨T123, _, X123, e123, N123, fun t k => pre128 t (by simpa only [v0_262_s0_2, if_pos hc242_10] using k)⟩
          · have pre129 : Go p e below T123 _ (mkF m 254 #[.val (.int p0), .val (.long q1), .second, .val (.int p2), .val (.int p3), .val (.int (f1 (1 : Int32) (p0 &&& (2147483647 : Int32)))), .val (.long (f2 (1 : Int64) (q1 &&& (9223372036854775807 : Int64)))), .second, .val (.int (p2 &&& (3 : Int32))), .val (.int (((p2.toUInt32 >>> ((2 : Int32) &&& 31).toUInt32).toInt32) &&& (7 : Int32))), .val (.int (((p2.toUInt32 >>> ((5 : Int32) &&& 31).toUInt32).toInt32) &&& (3 : Int32))), .val (.int (((p2.toUInt32 >>> ((7 : Int32) &&& 31).toUInt32).toInt32) &&& (7 : Int32))), .val (.int (((p2.toUInt32 >>> ((10 : Int32) &&& 31).toUInt32).toInt32) &&& (3 : Int32))), .val (.int (((p2.toUInt32 >>> ((12 : Int32) &&& 31).toUInt32).toInt32) &&& (7 : Int32))), .val (.int (((p2.toUInt32 >>> ((15 : Int32) &&& 31).toUInt32).toInt32) &&& (3 : Int32))), .val (.int ((p3 &&& (255 : Int32)).toUInt32.toUInt16.toUInt32.toInt32)), .val (.int ((((p3.toUInt32 >>> ((8 : Int32) &&& 31).toUInt32).toInt32) &&& (255 : Int32)).toUInt32.toUInt16.toUInt32.toInt32)), .val (.ref b105_0), .val (.ref b119_0), .val (.ref b135_0), .val (.ref b140), .val (.long (((0 : Int64) + (f17 (((p2.toUInt32 >>> ((2 : Int32) &&& 31).toUInt32).toInt32) &&& (7 : Int32)) (((p2.toUInt32 >>> ((5 : Int32) &&& 31).toUInt32).toInt32) &&& (3 : Int32)))) + (f17 (((p2.toUInt32 >>> ((7 : Int32) &&& 31).toUInt32).toInt32) &&& (7 : Int32)) (((p2.toUInt32 >>> ((10 : Int32) &&& 31).toUInt32).toInt32) &&& (3 : Int32))))), .second, .unset] [(.int (lcmpW ((2 : Int64) * (((0 : Int64) + (f17 (((p2.toUInt32 >>> ((2 : Int32) &&& 31).toUInt32).toInt32) &&& (7 : Int32)) (((p2.toUInt32 >>> ((5 : Int32) &&& 31).toUInt32).toInt32) &&& (3 : Int32)))) + (f17 (((p2.toUInt32 >>> ((7 : Int32) &&& 31).toUInt32).toInt32) &&& (7 : Int32)) (((p2.toUInt32 >>> ((10 : Int32) &&& 31).toUInt32).toInt32) &&& (3 : Int32))))) (f2 (1 : Int64) (q1 &&& (9223372036854775807 : Int64)))))]) _ := fun t k => pre126 t (by
              refine XS.ifNo X123.here hx rfl (hb hby at_242) rfl ((if0 _ _).trans (flt (fun q => hc242_10 ((lw_gt _ _).mp q))).2.2.1) ?_
              refine X123.ldc2Long hx hown (mvT hZ (wq hw 45 rfl)) (g := (mkF m 245 #[.val (.int p0), .val (.long q1), .second, .val (.int p2), .val (.int p3), .val (.int (f1 (1 : Int32) (p0 &&& (2147483647 : Int32)))), .val (.long (f2 (1 : Int64) (q1 &&& (9223372036854775807 : Int64)))), .second, .val (.int (p2 &&& (3 : Int32))), .val (.int (((p2.toUInt32 >>> ((2 : Int32) &&& 31).toUInt32).toInt32) &&& (7 : Int32))), .val (.int (((p2.toUInt32 >>> ((5 : Int32) &&& 31).toUInt32).toInt32) &&& (3 : Int32))), .val (.int (((p2.toUInt32 >>> ((7 : Int32) &&& 31).toUInt32).toInt32) &&& (7 : Int32))), .val (.int (((p2.toUInt32 >>> ((10 : Int32) &&& 31).toUInt32).toInt32) &&& (3 : Int32))), .val (.int (((p2.toUInt32 >>> ((12 : Int32) &&& 31).toUInt32).toInt32) &&& (7 : Int32))), .val (.int (((p2.toUInt32 >>> ((15 : Int32) &&& 31).toUInt32).toInt32) &&& (3 : Int32))), .val (.int ((p3 &&& (255 : Int32)).toUInt32.toUInt16.toUInt32.toInt32)), .val (.int ((((p3.toUInt32 >>> ((8 : Int32) &&& 31).toUInt32).toInt32) &&& (255 : Int32)).toUInt32.toUInt16.toUInt32.toInt32)), .val (.ref b105_0), .val (.ref b119_0), .val (.ref b135_0), .val (.ref b140), .val (.long (((0 : Int64) + (f17 (((p2.toUInt32 >>> ((2 : Int32) &&& 31).toUInt32).toInt32) &&& (7 : Int32)) (((p2.toUInt32 >>> ((5 : Int32) &&& 31).toUInt32).toInt32) &&& (3 : Int32)))) + (f17 (((p2.toUInt32 >>> ((7 : Int32) &&& 31).toUInt32).toInt32) &&& (7 : Int32)) (((p2.toUInt32 >>> ((10 : Int32) &&& 31).toUInt32).toInt32) &&& (3 : Int32))))), .second, .unset] [])) rfl (hb hby at_245) _ ?_
              refine XS.lload X123.here hx rfl (hb hby at_248) rfl ?_
              refine XS.lmul X123.here hx rfl (hb hby at_250) rfl ?_
              refine XS.lload X123.here hx rfl (hb hby at_251) rfl ?_
              refine XS.lcmp X123.here hx rfl (hb hby at_253) rfl ?_
              exact k)
            by_cases hc254_11 : (f2 (1 : Int64) (q1 &&& (9223372036854775807 : Int64))) < ((2 : Int64) * (((0 : Int64) + (f17 (((p2.toUInt32 >>> ((2 : Int32) &&& 31).toUInt32).toInt32) &&& (7 : Int32)) (((p2.toUInt32 >>> ((5 : Int32) &&& 31).toUInt32).toInt32) &&& (3 : Int32)))) + (f17 (((p2.toUInt32 >>> ((7 : Int32) &&& 31).toUInt32).toInt32) &&& (7 : Int32)) (((p2.toUInt32 >>> ((10 : Int32) &&& 31).toUInt32).toInt32) &&& (3 : Int32)))))
            · have pre130 : Go p e below T123 _ (mkF m 262 #[.val (.int p0), .val (.long q1), .second, .val (.int p2), .val (.int p3), .val (.int (f1 (1 : Int32) (p0 &&& (2147483647 : Int32)))), .val (.long (f2 (1 : Int64) (q1 &&& (9223372036854775807 : Int64)))), .second, .val (.int (p2 &&& (3 : Int32))), .val (.int (((p2.toUInt32 >>> ((2 : Int32) &&& 31).toUInt32).toInt32) &&& (7 : Int32))), .val (.int (((p2.toUInt32 >>> ((5 : Int32) &&& 31).toUInt32).toInt32) &&& (3 : Int32))), .val (.int (((p2.toUInt32 >>> ((7 : Int32) &&& 31).toUInt32).toInt32) &&& (7 : Int32))), .val (.int (((p2.toUInt32 >>> ((10 : Int32) &&& 31).toUInt32).toInt32) &&& (3 : Int32))), .val (.int (((p2.toUInt32 >>> ((12 : Int32) &&& 31).toUInt32).toInt32) &&& (7 : Int32))), .val (.int (((p2.toUInt32 >>> ((15 : Int32) &&& 31).toUInt32).toInt32) &&& (3 : Int32))), .val (.int ((p3 &&& (255 : Int32)).toUInt32.toUInt16.toUInt32.toInt32)), .val (.int ((((p3.toUInt32 >>> ((8 : Int32) &&& 31).toUInt32).toInt32) &&& (255 : Int32)).toUInt32.toUInt16.toUInt32.toInt32)), .val (.ref b105_0), .val (.ref b119_0), .val (.ref b135_0), .val (.ref b140), .val (.long (((0 : Int64) + (f17 (((p2.toUInt32 >>> ((2 : Int32) &&& 31).toUInt32).toInt32) &&& (7 : Int32)) (((p2.toUInt32 >>> ((5 : Int32) &&& 31).toUInt32).toInt32) &&& (3 : Int32)))) + (f17 (((p2.toUInt32 >>> ((7 : Int32) &&& 31).toUInt32).toInt32) &&& (7 : Int32)) (((p2.toUInt32 >>> ((10 : Int32) &&& 31).toUInt32).toInt32) &&& (3 : Int32))))), .second, .unset] [(.int 0)]) _ := fun t k => pre129 t (by
                refine XS.ifYes X123.here hx rfl (pc0 := 254) (pc' := 261) rfl (hb hby at_254) rfl ((if0 _ _).trans (tlt ((lw_gt _ _).mpr hc254_11)).2.2.1) (by decide) (by decide) ?_
                refine XS.iconst X123.here hx rfl (hb hby at_261) ?_
                exact k)
              exact ⟨T123, _, X123, e123, N123, fun t k => pre130 t (by simpa only [v0_262_s0_2, if_neg hc242_10, if_pos hc254_11] using k)⟩
            · have pre131 : Go p e below T123 _ (mkF m 262 #[.val (.int p0), .val (.long q1), .second, .val (.int p2), .val (.int p3), .val (.int (f1 (1 : Int32) (p0 &&& (2147483647 : Int32)))), .val (.long (f2 (1 : Int64) (q1 &&& (9223372036854775807 : Int64)))), .second, .val (.int (p2 &&& (3 : Int32))), .val (.int (((p2.toUInt32 >>> ((2 : Int32) &&& 31).toUInt32).toInt32) &&& (7 : Int32))), .val (.int (((p2.toUInt32 >>> ((5 : Int32) &&& 31).toUInt32).toInt32) &&& (3 : Int32))), .val (.int (((p2.toUInt32 >>> ((7 : Int32) &&& 31).toUInt32).toInt32) &&& (7 : Int32))), .val (.int (((p2.toUInt32 >>> ((10 : Int32) &&& 31).toUInt32).toInt32) &&& (3 : Int32))), .val (.int (((p2.toUInt32 >>> ((12 : Int32) &&& 31).toUInt32).toInt32) &&& (7 : Int32))), .val (.int (((p2.toUInt32 >>> ((15 : Int32) &&& 31).toUInt32).toInt32) &&& (3 : Int32))), .val (.int ((p3 &&& (255 : Int32)).toUInt32.toUInt16.toUInt32.toInt32)), .val (.int ((((p3.toUInt32 >>> ((8 : Int32) &&& 31).toUInt32).toInt32) &&& (255 : Int32)).toUInt32.toUInt16.toUInt32.toInt32)), .val (.ref b105_0), .val (.ref b119_0), .val (.ref b135_0), .val (.ref b140), .val (.long (((0 : Int64) + (f17 (((p2.toUInt32 >>> ((2 : Int32) &&& 31).toUInt32).toInt32) &&& (7 : Int32)) (((p2.toUInt32 >>> ((5 : Int32) &&& 31).toUInt32).toInt32) &&& (3 : Int32)))) + (f17 (((p2.toUInt32 >>> ((7 : Int32) &&& 31).toUInt32).toInt32) &&& (7 : Int32)) (((p2.toUInt32 >>> ((10 : Int32) &&& 31).toUInt32).toInt32) &&& (3 : Int32))))), .second, .unset] [(.int 1)]) _ := fun t k => pre129 t (by
                refine XS.ifNo X123.here hx rfl (hb hby at_254) rfl ((if0 _ _).trans (flt (fun q => hc254_11 ((lw_gt _ _).mp q))).2.2.1) ?_
                refine XS.iconst X123.here hx rfl (hb hby at_257) ?_
                refine XS.goto X123.here hx rfl (pc0 := 258) (pc' := 262) rfl (hb hby at_258) (by decide) (by decide) ?_
                exact k)
              exact ⟨T123, _, X123, e123, N123, fun t k => pre131 t (by simpa only [v0_262_s0_2, if_neg hc242_10, if_neg hc254_11] using k)⟩
        have pre132 : Go p e below T127 _ (mkF m 266 #[.val (.int p0), .val (.long q1), .second, .val (.int p2), .val (.int p3), .val (.int (f1 (1 : Int32) (p0 &&& (2147483647 : Int32)))), .val (.long (f2 (1 : Int64) (q1 &&& (9223372036854775807 : Int64)))), .second, .val (.int (p2 &&& (3 : Int32))), .val (.int (((p2.toUInt32 >>> ((2 : Int32) &&& 31).toUInt32).toInt32) &&& (7 : Int32))), .val (.int (((p2.toUInt32 >>> ((5 : Int32) &&& 31).toUInt32).toInt32) &&& (3 : Int32))), .val (.int (((p2.toUInt32 >>> ((7 : Int32) &&& 31).toUInt32).toInt32) &&& (7 : Int32))), .val (.int (((p2.toUInt32 >>> ((10 : Int32) &&& 31).toUInt32).toInt32) &&& (3 : Int32))), .val (.int (((p2.toUInt32 >>> ((12 : Int32) &&& 31).toUInt32).toInt32) &&& (7 : Int32))), .val (.int (((p2.toUInt32 >>> ((15 : Int32) &&& 31).toUInt32).toInt32) &&& (3 : Int32))), .val (.int ((p3 &&& (255 : Int32)).toUInt32.toUInt16.toUInt32.toInt32)), .val (.int ((((p3.toUInt32 >>> ((8 : Int32) &&& 31).toUInt32).toInt32) &&& (255 : Int32)).toUInt32.toUInt16.toUInt32.toInt32)), .val (.ref b105_0), .val (.ref b119_0), .val (.ref b135_0), .val (.ref b140), .val (.long (((0 : Int64) + (f17 (((p2.toUInt32 >>> ((2 : Int32) &&& 31).toUInt32).toInt32) &&& (7 : Int32)) (((p2.toUInt32 >>> ((5 : Int32) &&& 31).toUInt32).toInt32) &&& (3 : Int32)))) + (f17 (((p2.toUInt32 >>> ((7 : Int32) &&& 31).toUInt32).toInt32) &&& (7 : Int32)) (((p2.toUInt32 >>> ((10 : Int32) &&& 31).toUInt32).toInt32) &&& (3 : Int32))))), .second, .val (.int (v0_262_s0_2 p0 q1 p2))] [(.ref b140)]) _ := fun t k => pre127 t (by
          refine XS.istore X127.here hx rfl (hb hby at_262) rfl (l' := #[.val (.int p0), .val (.long q1), .second, .val (.int p2), .val (.int p3), .val (.int (f1 (1 : Int32) (p0 &&& (2147483647 : Int32)))), .val (.long (f2 (1 : Int64) (q1 &&& (9223372036854775807 : Int64)))), .second, .val (.int (p2 &&& (3 : Int32))), .val (.int (((p2.toUInt32 >>> ((2 : Int32) &&& 31).toUInt32).toInt32) &&& (7 : Int32))), .val (.int (((p2.toUInt32 >>> ((5 : Int32) &&& 31).toUInt32).toInt32) &&& (3 : Int32))), .val (.int (((p2.toUInt32 >>> ((7 : Int32) &&& 31).toUInt32).toInt32) &&& (7 : Int32))), .val (.int (((p2.toUInt32 >>> ((10 : Int32) &&& 31).toUInt32).toInt32) &&& (3 : Int32))), .val (.int (((p2.toUInt32 >>> ((12 : Int32) &&& 31).toUInt32).toInt32) &&& (7 : Int32))), .val (.int (((p2.toUInt32 >>> ((15 : Int32) &&& 31).toUInt32).toInt32) &&& (3 : Int32))), .val (.int ((p3 &&& (255 : Int32)).toUInt32.toUInt16.toUInt32.toInt32)), .val (.int ((((p3.toUInt32 >>> ((8 : Int32) &&& 31).toUInt32).toInt32) &&& (255 : Int32)).toUInt32.toUInt16.toUInt32.toInt32)), .val (.ref b105_0), .val (.ref b119_0), .val (.ref b135_0), .val (.ref b140), .val (.long (((0 : Int64) + (f17 (((p2.toUInt32 >>> ((2 : Int32) &&& 31).toUInt32).toInt32) &&& (7 : Int32)) (((p2.toUInt32 >>> ((5 : Int32) &&& 31).toUInt32).toInt32) &&& (3 : Int32)))) + (f17 (((p2.toUInt32 >>> ((7 : Int32) &&& 31).toUInt32).toInt32) &&& (7 : Int32)) (((p2.toUInt32 >>> ((10 : Int32) &&& 31).toUInt32).toInt32) &&& (3 : Int32))))), .second, .val (.int (v0_262_s0_2 p0 q1 p2))]) rfl ?_
          refine XS.aload X127.here hx rfl (hb hby at_264) rfl rfl ?_
          exact k)
        obtain ⟨cq133, kq133, q133a, q133b, q133c⟩ := isOf hZ e127 o110_0
        obtain ⟨_, _, ⟨T133, L133, k133, n133⟩, -, X133, ⟨Lc133, hQ133, l133, y133, z133⟩, st133⟩ := X127.virtualBack hx (y := Nm_25) (z := Nm_25) hown (mvT hZ (wq hw 121 rfl)) (mvT hZ (wq hw 122 rfl)) (notFace_of_selects (args := #[]) (mvT hZ (wq hw 124 rfl))) (mvT hZ (wq hw 124 rfl)) (mvT hZ (wq hw 123 rfl)) (by decide) (backOf (W := 0) (rm18_2 l Z a0 hw [] b140 b148_0 (f1 (1 : Int32) (p0 &&& (2147483647 : Int32))) (f2 (1 : Int64) (q1 &&& (9223372036854775807 : Int64))) (((0 : Int64) + (f17 (((p2.toUInt32 >>> ((2 : Int32) &&& 31).toUInt32).toInt32) &&& (7 : Int32)) (((p2.toUInt32 >>> ((5 : Int32) &&& 31).toUInt32).toInt32) &&& (3 : Int32)))) + (f17 (((p2.toUInt32 >>> ((7 : Int32) &&& 31).toUInt32).toInt32) &&& (7 : Int32)) (((p2.toUInt32 >>> ((10 : Int32) &&& 31).toUInt32).toInt32) &&& (3 : Int32)))) b148_1 _ b119_0 b105_0 T110.heap n0 Z110 o110_1 o110_2 o110_3 o110_4 o110_5 o110_6 o110_7 o110_8 o110_9 o56_10) hZ (wq hw 125 rfl) (wq hw 48 rfl) (by decide) (by decide)) q133a q133c (g := (mkF m 266 #[.val (.int p0), .val (.long q1), .second, .val (.int p2), .val (.int p3), .val (.int (f1 (1 : Int32) (p0 &&& (2147483647 : Int32)))), .val (.long (f2 (1 : Int64) (q1 &&& (9223372036854775807 : Int64)))), .second, .val (.int (p2 &&& (3 : Int32))), .val (.int (((p2.toUInt32 >>> ((2 : Int32) &&& 31).toUInt32).toInt32) &&& (7 : Int32))), .val (.int (((p2.toUInt32 >>> ((5 : Int32) &&& 31).toUInt32).toInt32) &&& (3 : Int32))), .val (.int (((p2.toUInt32 >>> ((7 : Int32) &&& 31).toUInt32).toInt32) &&& (7 : Int32))), .val (.int (((p2.toUInt32 >>> ((10 : Int32) &&& 31).toUInt32).toInt32) &&& (3 : Int32))), .val (.int (((p2.toUInt32 >>> ((12 : Int32) &&& 31).toUInt32).toInt32) &&& (7 : Int32))), .val (.int (((p2.toUInt32 >>> ((15 : Int32) &&& 31).toUInt32).toInt32) &&& (3 : Int32))), .val (.int ((p3 &&& (255 : Int32)).toUInt32.toUInt16.toUInt32.toInt32)), .val (.int ((((p3.toUInt32 >>> ((8 : Int32) &&& 31).toUInt32).toInt32) &&& (255 : Int32)).toUInt32.toUInt16.toUInt32.toInt32)), .val (.ref b105_0), .val (.ref b119_0), .val (.ref b135_0), .val (.ref b140), .val (.long (((0 : Int64) + (f17 (((p2.toUInt32 >>> ((2 : Int32) &&& 31).toUInt32).toInt32) &&& (7 : Int32)) (((p2.toUInt32 >>> ((5 : Int32) &&& 31).toUInt32).toInt32) &&& (3 : Int32)))) + (f17 (((p2.toUInt32 >>> ((7 : Int32) &&& 31).toUInt32).toInt32) &&& (7 : Int32)) (((p2.toUInt32 >>> ((10 : Int32) &&& 31).toUInt32).toInt32) &&& (3 : Int32))))), .second, .val (.int (v0_262_s0_2 p0 q1 p2))] [(.ref b140)])) rfl (by rw [hml]; rfl) (Steps.refl _) (argsL := []) (rest := []) (lenOf pd___Z rfl) rfl (w00 rfl) (hb hby at_266) (fun _ _ => ⟨rfl, e127, (by decide : 27 + 0 ≤ _), (by decide : 108 + 0 ≤ _)⟩)
        dsimp only [Pt.U, Pt.locs, Pt.cells, Pt.slots] at X133 l133 y133 z133 st133 hQ133
        subst l133 y133 z133
        obtain ⟨rfl, Nq133, e133⟩ := hQ133
        have N133 := Fr.app N127 Nq133
        have pre134 := Go.trn pre132 st133
        have pre135 : Go p e below T133 _ (mkF m 271 #[.val (.int p0), .val (.long q1), .second, .val (.int p2), .val (.int p3), .val (.int (f1 (1 : Int32) (p0 &&& (2147483647 : Int32)))), .val (.long (f2 (1 : Int64) (q1 &&& (9223372036854775807 : Int64)))), .second, .val (.int (p2 &&& (3 : Int32))), .val (.int (((p2.toUInt32 >>> ((2 : Int32) &&& 31).toUInt32).toInt32) &&& (7 : Int32))), .val (.int (((p2.toUInt32 >>> ((5 : Int32) &&& 31).toUInt32).toInt32) &&& (3 : Int32))), .val (.int (((p2.toUInt32 >>> ((7 : Int32) &&& 31).toUInt32).toInt32) &&& (7 : Int32))), .val (.int (((p2.toUInt32 >>> ((10 : Int32) &&& 31).toUInt32).toInt32) &&& (3 : Int32))), .val (.int (((p2.toUInt32 >>> ((12 : Int32) &&& 31).toUInt32).toInt32) &&& (7 : Int32))), .val (.int (((p2.toUInt32 >>> ((15 : Int32) &&& 31).toUInt32).toInt32) &&& (3 : Int32))), .val (.int ((p3 &&& (255 : Int32)).toUInt32.toUInt16.toUInt32.toInt32)), .val (.int ((((p3.toUInt32 >>> ((8 : Int32) &&& 31).toUInt32).toInt32) &&& (255 : Int32)).toUInt32.toUInt16.toUInt32.toInt32)), .val (.ref b105_0), .val (.ref b119_0), .val (.ref b135_0), .val (.ref b140), .val (.long (((0 : Int64) + (f17 (((p2.toUInt32 >>> ((2 : Int32) &&& 31).toUInt32).toInt32) &&& (7 : Int32)) (((p2.toUInt32 >>> ((5 : Int32) &&& 31).toUInt32).toInt32) &&& (3 : Int32)))) + (f17 (((p2.toUInt32 >>> ((7 : Int32) &&& 31).toUInt32).toInt32) &&& (7 : Int32)) (((p2.toUInt32 >>> ((10 : Int32) &&& 31).toUInt32).toInt32) &&& (3 : Int32))))), .second, .val (.int (v0_262_s0_2 p0 q1 p2))] [(.int (v0_262_s0_2 p0 q1 p2)), (.int (f18_2 (f1 (1 : Int32) (p0 &&& (2147483647 : Int32))) (f2 (1 : Int64) (q1 &&& (9223372036854775807 : Int64))) (((0 : Int64) + (f17 (((p2.toUInt32 >>> ((2 : Int32) &&& 31).toUInt32).toInt32) &&& (7 : Int32)) (((p2.toUInt32 >>> ((5 : Int32) &&& 31).toUInt32).toInt32) &&& (3 : Int32)))) + (f17 (((p2.toUInt32 >>> ((7 : Int32) &&& 31).toUInt32).toInt32) &&& (7 : Int32)) (((p2.toUInt32 >>> ((10 : Int32) &&& 31).toUInt32).toInt32) &&& (3 : Int32))))))]) _ := fun t k => pre134 t (by
          refine XS.iload X133.here hx rfl (hb hby at_269) rfl ?_
          exact k)
        by_cases hc271_12 : (f18_2 (f1 (1 : Int32) (p0 &&& (2147483647 : Int32))) (f2 (1 : Int64) (q1 &&& (9223372036854775807 : Int64))) (((0 : Int64) + (f17 (((p2.toUInt32 >>> ((2 : Int32) &&& 31).toUInt32).toInt32) &&& (7 : Int32)) (((p2.toUInt32 >>> ((5 : Int32) &&& 31).toUInt32).toInt32) &&& (3 : Int32)))) + (f17 (((p2.toUInt32 >>> ((7 : Int32) &&& 31).toUInt32).toInt32) &&& (7 : Int32)) (((p2.toUInt32 >>> ((10 : Int32) &&& 31).toUInt32).toInt32) &&& (3 : Int32))))) = (v0_262_s0_2 p0 q1 p2)
        · have pre136 : Go p e below T133 _ (mkF m 279 #[.val (.int p0), .val (.long q1), .second, .val (.int p2), .val (.int p3), .val (.int (f1 (1 : Int32) (p0 &&& (2147483647 : Int32)))), .val (.long (f2 (1 : Int64) (q1 &&& (9223372036854775807 : Int64)))), .second, .val (.int (p2 &&& (3 : Int32))), .val (.int (((p2.toUInt32 >>> ((2 : Int32) &&& 31).toUInt32).toInt32) &&& (7 : Int32))), .val (.int (((p2.toUInt32 >>> ((5 : Int32) &&& 31).toUInt32).toInt32) &&& (3 : Int32))), .val (.int (((p2.toUInt32 >>> ((7 : Int32) &&& 31).toUInt32).toInt32) &&& (7 : Int32))), .val (.int (((p2.toUInt32 >>> ((10 : Int32) &&& 31).toUInt32).toInt32) &&& (3 : Int32))), .val (.int (((p2.toUInt32 >>> ((12 : Int32) &&& 31).toUInt32).toInt32) &&& (7 : Int32))), .val (.int (((p2.toUInt32 >>> ((15 : Int32) &&& 31).toUInt32).toInt32) &&& (3 : Int32))), .val (.int ((p3 &&& (255 : Int32)).toUInt32.toUInt16.toUInt32.toInt32)), .val (.int ((((p3.toUInt32 >>> ((8 : Int32) &&& 31).toUInt32).toInt32) &&& (255 : Int32)).toUInt32.toUInt16.toUInt32.toInt32)), .val (.ref b105_0), .val (.ref b119_0), .val (.ref b135_0), .val (.ref b140), .val (.long (((0 : Int64) + (f17 (((p2.toUInt32 >>> ((2 : Int32) &&& 31).toUInt32).toInt32) &&& (7 : Int32)) (((p2.toUInt32 >>> ((5 : Int32) &&& 31).toUInt32).toInt32) &&& (3 : Int32)))) + (f17 (((p2.toUInt32 >>> ((7 : Int32) &&& 31).toUInt32).toInt32) &&& (7 : Int32)) (((p2.toUInt32 >>> ((10 : Int32) &&& 31).toUInt32).toInt32) &&& (3 : Int32))))), .second, .val (.int (v0_262_s0_2 p0 q1 p2))] [(.int 1)]) _ := fun t k => pre135 t (by
            refine XS.icmpNo X133.here hx rfl (hb hby at_271) rfl (teq hc271_12).2 ?_
            refine XS.iconst X133.here hx rfl (hb hby at_274) ?_
            refine XS.goto X133.here hx rfl (pc0 := 275) (pc' := 279) rfl (hb hby at_275) (by decide) (by decide) ?_
            exact k)
          obtain ⟨fs, hr, hrun, hended, hE⟩ := X133.leaveW hS35 (by rw [e133]; exact kS110) (v := some (.int 1)) (fun h => by rw [Bd.returns] at h; cases h)
          refine ⟨_, _, ?_, hrun, hended, _, _, rfl, ?_, hE.1, hE.2.1, hE.2.2.1, hE.2.2.2.mono (by decide) (by decide)⟩
          · exact pre136 _ (retN X133 hx (t := .boolean) Bd.returns (by simp) (hb hby at_279) hr)
          · exact ⟨by simp only [f0, if_neg hc159_1, if_neg hc184_5, if_pos hc209_9, if_pos hc271_12], N133, trivial⟩
        · have pre137 : Go p e below T133 _ (mkF m 279 #[.val (.int p0), .val (.long q1), .second, .val (.int p2), .val (.int p3), .val (.int (f1 (1 : Int32) (p0 &&& (2147483647 : Int32)))), .val (.long (f2 (1 : Int64) (q1 &&& (9223372036854775807 : Int64)))), .second, .val (.int (p2 &&& (3 : Int32))), .val (.int (((p2.toUInt32 >>> ((2 : Int32) &&& 31).toUInt32).toInt32) &&& (7 : Int32))), .val (.int (((p2.toUInt32 >>> ((5 : Int32) &&& 31).toUInt32).toInt32) &&& (3 : Int32))), .val (.int (((p2.toUInt32 >>> ((7 : Int32) &&& 31).toUInt32).toInt32) &&& (7 : Int32))), .val (.int (((p2.toUInt32 >>> ((10 : Int32) &&& 31).toUInt32).toInt32) &&& (3 : Int32))), .val (.int (((p2.toUInt32 >>> ((12 : Int32) &&& 31).toUInt32).toInt32) &&& (7 : Int32))), .val (.int (((p2.toUInt32 >>> ((15 : Int32) &&& 31).toUInt32).toInt32) &&& (3 : Int32))), .val (.int ((p3 &&& (255 : Int32)).toUInt32.toUInt16.toUInt32.toInt32)), .val (.int ((((p3.toUInt32 >>> ((8 : Int32) &&& 31).toUInt32).toInt32) &&& (255 : Int32)).toUInt32.toUInt16.toUInt32.toInt32)), .val (.ref b105_0), .val (.ref b119_0), .val (.ref b135_0), .val (.ref b140), .val (.long (((0 : Int64) + (f17 (((p2.toUInt32 >>> ((2 : Int32) &&& 31).toUInt32).toInt32) &&& (7 : Int32)) (((p2.toUInt32 >>> ((5 : Int32) &&& 31).toUInt32).toInt32) &&& (3 : Int32)))) + (f17 (((p2.toUInt32 >>> ((7 : Int32) &&& 31).toUInt32).toInt32) &&& (7 : Int32)) (((p2.toUInt32 >>> ((10 : Int32) &&& 31).toUInt32).toInt32) &&& (3 : Int32))))), .second, .val (.int (v0_262_s0_2 p0 q1 p2))] [(.int 0)]) _ := fun t k => pre135 t (by
            refine XS.icmpYes X133.here hx rfl (pc0 := 271) (pc' := 278) rfl (hb hby at_271) rfl (feq hc271_12).2 (by decide) (by decide) ?_
            refine XS.iconst X133.here hx rfl (hb hby at_278) ?_
            exact k)
          obtain ⟨fs, hr, hrun, hended, hE⟩ := X133.leaveW hS35 (by rw [e133]; exact kS110) (v := some (.int 0)) (fun h => by rw [Bd.returns] at h; cases h)
          refine ⟨_, _, ?_, hrun, hended, _, _, rfl, ?_, hE.1, hE.2.1, hE.2.2.1, hE.2.2.2.mono (by decide) (by decide)⟩
          · exact pre137 _ (retN X133 hx (t := .boolean) Bd.returns (by simp) (hb hby at_279) hr)
          · exact ⟨by simp only [f0, if_neg hc159_1, if_neg hc184_5, if_pos hc209_9, if_neg hc271_12], N133, trivial⟩
      · have pre138 : Go p e below T123 _ (mkF m 216 #[.val (.int p0), .val (.long q1), .second, .val (.int p2), .val (.int p3), .val (.int (f1 (1 : Int32) (p0 &&& (2147483647 : Int32)))), .val (.long (f2 (1 : Int64) (q1 &&& (9223372036854775807 : Int64)))), .second, .val (.int (p2 &&& (3 : Int32))), .val (.int (((p2.toUInt32 >>> ((2 : Int32) &&& 31).toUInt32).toInt32) &&& (7 : Int32))), .val (.int (((p2.toUInt32 >>> ((5 : Int32) &&& 31).toUInt32).toInt32) &&& (3 : Int32))), .val (.int (((p2.toUInt32 >>> ((7 : Int32) &&& 31).toUInt32).toInt32) &&& (7 : Int32))), .val (.int (((p2.toUInt32 >>> ((10 : Int32) &&& 31).toUInt32).toInt32) &&& (3 : Int32))), .val (.int (((p2.toUInt32 >>> ((12 : Int32) &&& 31).toUInt32).toInt32) &&& (7 : Int32))), .val (.int (((p2.toUInt32 >>> ((15 : Int32) &&& 31).toUInt32).toInt32) &&& (3 : Int32))), .val (.int ((p3 &&& (255 : Int32)).toUInt32.toUInt16.toUInt32.toInt32)), .val (.int ((((p3.toUInt32 >>> ((8 : Int32) &&& 31).toUInt32).toInt32) &&& (255 : Int32)).toUInt32.toUInt16.toUInt32.toInt32)), .val (.ref b105_0), .val (.ref b119_0), .val (.ref b135_0), .val (.ref b140), .val (.long (((0 : Int64) + (f17 (((p2.toUInt32 >>> ((2 : Int32) &&& 31).toUInt32).toInt32) &&& (7 : Int32)) (((p2.toUInt32 >>> ((5 : Int32) &&& 31).toUInt32).toInt32) &&& (3 : Int32)))) + (f17 (((p2.toUInt32 >>> ((7 : Int32) &&& 31).toUInt32).toInt32) &&& (7 : Int32)) (((p2.toUInt32 >>> ((10 : Int32) &&& 31).toUInt32).toInt32) &&& (3 : Int32))))), .second, .unset] [(.ref b135_0), (.ref b140)]) _ := fun t k => pre125 t (by
          refine XS.icmpNo X123.here hx rfl (hb hby at_209) rfl (flt hc209_9).1 ?_
          refine XS.aload X123.here hx rfl (hb hby at_212) rfl rfl ?_
          refine XS.aload X123.here hx rfl (hb hby at_214) rfl rfl ?_
          exact k)
        obtain ⟨cq139, kq139, q139a, q139b, q139c⟩ := isOf hZ e123 o110_0
        obtain ⟨_, _, ⟨T139, L139, k139, n139⟩, -, X139, ⟨Lc139, hQ139, l139, y139, z139⟩, st139⟩ := X123.virtualBack hx (y := Nm_22) (z := Nm_22) hown (mvT hZ (wq hw 76 rfl)) (mvT hZ (wq hw 77 rfl)) (notFace_of_selects (args := #[]) (mvT hZ (wq hw 79 rfl))) (mvT hZ (wq hw 79 rfl)) (mvT hZ (wq hw 78 rfl)) (by decide) (backOf (W := 0) (rm10_2 l Z a0 hw [] b140 b135_0 wcs b148_0 (f1 (1 : Int32) (p0 &&& (2147483647 : Int32))) (f2 (1 : Int64) (q1 &&& (9223372036854775807 : Int64))) (((0 : Int64) + (f17 (((p2.toUInt32 >>> ((2 : Int32) &&& 31).toUInt32).toInt32) &&& (7 : Int32)) (((p2.toUInt32 >>> ((5 : Int32) &&& 31).toUInt32).toInt32) &&& (3 : Int32)))) + (f17 (((p2.toUInt32 >>> ((7 : Int32) &&& 31).toUInt32).toInt32) &&& (7 : Int32)) (((p2.toUInt32 >>> ((10 : Int32) &&& 31).toUInt32).toInt32) &&& (3 : Int32)))) b148_1 _ b119_0 b105_0 (f17 (((p2.toUInt32 >>> ((12 : Int32) &&& 31).toUInt32).toInt32) &&& (7 : Int32)) (((p2.toUInt32 >>> ((15 : Int32) &&& 31).toUInt32).toInt32) &&& (3 : Int32))) T35.heap.size T110.heap n0 Z110 x111 o110_0 o110_1 o110_2 o110_3 o110_4 o110_5 o110_6 o110_7 o110_8 o110_9 o56_10 x117 x118 jl110 (Nat.le_trans (Nat.le_refl _) (Nat.le_of_eq g44.symm)) (Nat.le_trans jl44 gz56_b148_0) (Nat.le_trans jl44 gz56_b148_1) gg44 gg56_b148_0 gg56_b148_1 ne56_b140_b148_0 ne56_b140_b148_1 (own_neH o110_5 o110_9 (wq hw 54 rfl)) hcs) hZ (wq hw 80 rfl) (wq hw 48 rfl) (by decide) (by decide)) q139a q139c (g := (mkF m 216 #[.val (.int p0), .val (.long q1), .second, .val (.int p2), .val (.int p3), .val (.int (f1 (1 : Int32) (p0 &&& (2147483647 : Int32)))), .val (.long (f2 (1 : Int64) (q1 &&& (9223372036854775807 : Int64)))), .second, .val (.int (p2 &&& (3 : Int32))), .val (.int (((p2.toUInt32 >>> ((2 : Int32) &&& 31).toUInt32).toInt32) &&& (7 : Int32))), .val (.int (((p2.toUInt32 >>> ((5 : Int32) &&& 31).toUInt32).toInt32) &&& (3 : Int32))), .val (.int (((p2.toUInt32 >>> ((7 : Int32) &&& 31).toUInt32).toInt32) &&& (7 : Int32))), .val (.int (((p2.toUInt32 >>> ((10 : Int32) &&& 31).toUInt32).toInt32) &&& (3 : Int32))), .val (.int (((p2.toUInt32 >>> ((12 : Int32) &&& 31).toUInt32).toInt32) &&& (7 : Int32))), .val (.int (((p2.toUInt32 >>> ((15 : Int32) &&& 31).toUInt32).toInt32) &&& (3 : Int32))), .val (.int ((p3 &&& (255 : Int32)).toUInt32.toUInt16.toUInt32.toInt32)), .val (.int ((((p3.toUInt32 >>> ((8 : Int32) &&& 31).toUInt32).toInt32) &&& (255 : Int32)).toUInt32.toUInt16.toUInt32.toInt32)), .val (.ref b105_0), .val (.ref b119_0), .val (.ref b135_0), .val (.ref b140), .val (.long (((0 : Int64) + (f17 (((p2.toUInt32 >>> ((2 : Int32) &&& 31).toUInt32).toInt32) &&& (7 : Int32)) (((p2.toUInt32 >>> ((5 : Int32) &&& 31).toUInt32).toInt32) &&& (3 : Int32)))) + (f17 (((p2.toUInt32 >>> ((7 : Int32) &&& 31).toUInt32).toInt32) &&& (7 : Int32)) (((p2.toUInt32 >>> ((10 : Int32) &&& 31).toUInt32).toInt32) &&& (3 : Int32))))), .second, .unset] [(.ref b135_0), (.ref b140)])) rfl (by rw [hml]; rfl) (Steps.refl _) (argsL := [(.ref b135_0)]) (rest := []) (lenOf pd__Lcom_example_oncemark_oncemark_Message__V rfl) rfl (w00 rfl) (hb hby at_216) (fun _ _ => ⟨rfl, e123, (by decide : 27 + 0 ≤ _), (by decide : 108 + 0 ≤ _)⟩)
        dsimp only [Pt.U, Pt.locs, Pt.cells, Pt.slots] at X139 l139 y139 z139 st139 hQ139
        subst l139 y139 z139
        obtain ⟨rfl, Nq139, Kq139, o139_0, o139_1, o139_2, o139_3, o139_4, o139_5, o139_6, o139_7, o139_8, o139_9⟩ := hQ139
        have N139 := Fr.app N123 Nq139
        have K139 : Keep h0 T139.heap [] := K110.trans Kq139 (allS (Or.inr sz44) (allS (Or.inr sz56_b148_0) (allS (Or.inr sz56_b148_1) all0)))
        have Z139 : n0 ≤ T139.heap.size := Nat.le_trans Z110 Kq139.1
        have x140 := own_staK x111 Kq139 (allS (own_plE o110_0) (allS (own_plE o110_5) (allS (own_plH o110_9) all0)))
        have x141 := x112.keep Kq139 (allS (Nat.le_trans (Nat.le_refl _) (Nat.le_of_eq g44.symm)) (allS (Nat.le_trans jl44 gz56_b148_0) (allS (Nat.le_trans jl44 gz56_b148_1) all0)))
        have x142 := x113.keep Kq139
        have x143 := x114.keep Kq139 (allS (Nat.le_trans (Nat.le_refl _) (Nat.le_of_eq g44.symm)) (allS (Nat.le_trans jl44 gz56_b148_0) (allS (Nat.le_trans jl44 gz56_b148_1) all0)))
        have x144 := x115.keep Kq139
        have x145 := x116.keep Kq139 (allS (Nat.le_trans (Nat.le_refl _) (Nat.le_of_eq g44.symm)) (allS (Nat.le_trans jl44 gz56_b148_0) (allS (Nat.le_trans jl44 gz56_b148_1) all0)))
        have x146 := x117.keep Kq139
        have x147 := x118.keep Kq139 (allS (Nat.le_trans (Nat.le_refl _) (Nat.le_of_eq g44.symm)) (allS (Nat.le_trans jl44 gz56_b148_0) (allS (Nat.le_trans jl44 gz56_b148_1) all0)))
        have x148 := o110_0.keep Kq139
        have x149 := o110_5.keep Kq139
        have pre150 := Go.trn pre138 st139
        have jl139 : T35.heap.size ≤ T139.heap.size := Nat.le_trans jl110 Kq139.1
        have kS139 : _ ≤ T139.heap.size := Nat.le_trans kS110 Kq139.1
        have pre151 : Go p e below T139 _ (mkF m 225 #[.val (.int p0), .val (.long q1), .second, .val (.int p2), .val (.int p3), .val (.int (f1 (1 : Int32) (p0 &&& (2147483647 : Int32)))), .val (.long (f2 (1 : Int64) (q1 &&& (9223372036854775807 : Int64)))), .second, .val (.int (p2 &&& (3 : Int32))), .val (.int (((p2.toUInt32 >>> ((2 : Int32) &&& 31).toUInt32).toInt32) &&& (7 : Int32))), .val (.int (((p2.toUInt32 >>> ((5 : Int32) &&& 31).toUInt32).toInt32) &&& (3 : Int32))), .val (.int (((p2.toUInt32 >>> ((7 : Int32) &&& 31).toUInt32).toInt32) &&& (7 : Int32))), .val (.int (((p2.toUInt32 >>> ((10 : Int32) &&& 31).toUInt32).toInt32) &&& (3 : Int32))), .val (.int (((p2.toUInt32 >>> ((12 : Int32) &&& 31).toUInt32).toInt32) &&& (7 : Int32))), .val (.int (((p2.toUInt32 >>> ((15 : Int32) &&& 31).toUInt32).toInt32) &&& (3 : Int32))), .val (.int ((p3 &&& (255 : Int32)).toUInt32.toUInt16.toUInt32.toInt32)), .val (.int ((((p3.toUInt32 >>> ((8 : Int32) &&& 31).toUInt32).toInt32) &&& (255 : Int32)).toUInt32.toUInt16.toUInt32.toInt32)), .val (.ref b105_0), .val (.ref b119_0), .val (.ref b135_0), .val (.ref b140), .val (.long (((0 : Int64) + (f17 (((p2.toUInt32 >>> ((2 : Int32) &&& 31).toUInt32).toInt32) &&& (7 : Int32)) (((p2.toUInt32 >>> ((5 : Int32) &&& 31).toUInt32).toInt32) &&& (3 : Int32)))) + (f17 (((p2.toUInt32 >>> ((7 : Int32) &&& 31).toUInt32).toInt32) &&& (7 : Int32)) (((p2.toUInt32 >>> ((10 : Int32) &&& 31).toUInt32).toInt32) &&& (3 : Int32))))), .second, .unset] [(.int (((p2.toUInt32 >>> ((15 : Int32) &&& 31).toUInt32).toInt32) &&& (3 : Int32))), (.int (((p2.toUInt32 >>> ((12 : Int32) &&& 31).toUInt32).toInt32) &&& (7 : Int32))), (.long (((0 : Int64) + (f17 (((p2.toUInt32 >>> ((2 : Int32) &&& 31).toUInt32).toInt32) &&& (7 : Int32)) (((p2.toUInt32 >>> ((5 : Int32) &&& 31).toUInt32).toInt32) &&& (3 : Int32)))) + (f17 (((p2.toUInt32 >>> ((7 : Int32) &&& 31).toUInt32).toInt32) &&& (7 : Int32)) (((p2.toUInt32 >>> ((10 : Int32) &&& 31).toUInt32).toInt32) &&& (3 : Int32)))))]) _ := fun t k => pre150 t (by
          refine XS.lload X139.here hx rfl (hb hby at_219) rfl ?_
          refine XS.iload X139.here hx rfl (hb hby at_221) rfl ?_
          refine XS.iload X139.here hx rfl (hb hby at_223) rfl ?_
          exact k)
        obtain ⟨_, _, ⟨T152, L152, k152, n152⟩, -, X152, ⟨Lc152, hQ152, l152, y152, z152⟩, st152⟩ := Jvm.LawKit.callS X139 hx (y := Nm_3) hown (mvT hZ (wq hw 118 rfl)) (mvT hZ (wq hw 119 rfl)) (mvT hZ (wq hw 11 rfl)) (mvT hZ (wq hw 120 rfl)) (by decide) (backOf (W := 2) (rm17 l Z a0 hw [] (((p2.toUInt32 >>> ((12 : Int32) &&& 31).toUInt32).toInt32) &&& (7 : Int32)) (((p2.toUInt32 >>> ((15 : Int32) &&& 31).toUInt32).toInt32) &&& (3 : Int32)) T139.heap n0 Z139) hZ (wq hw 120 rfl) (wq hw 11 rfl) (by decide) (by decide)) (g := (mkF m 225 #[.val (.int p0), .val (.long q1), .second, .val (.int p2), .val (.int p3), .val (.int (f1 (1 : Int32) (p0 &&& (2147483647 : Int32)))), .val (.long (f2 (1 : Int64) (q1 &&& (9223372036854775807 : Int64)))), .second, .val (.int (p2 &&& (3 : Int32))), .val (.int (((p2.toUInt32 >>> ((2 : Int32) &&& 31).toUInt32).toInt32) &&& (7 : Int32))), .val (.int (((p2.toUInt32 >>> ((5 : Int32) &&& 31).toUInt32).toInt32) &&& (3 : Int32))), .val (.int (((p2.toUInt32 >>> ((7 : Int32) &&& 31).toUInt32).toInt32) &&& (7 : Int32))), .val (.int (((p2.toUInt32 >>> ((10 : Int32) &&& 31).toUInt32).toInt32) &&& (3 : Int32))), .val (.int (((p2.toUInt32 >>> ((12 : Int32) &&& 31).toUInt32).toInt32) &&& (7 : Int32))), .val (.int (((p2.toUInt32 >>> ((15 : Int32) &&& 31).toUInt32).toInt32) &&& (3 : Int32))), .val (.int ((p3 &&& (255 : Int32)).toUInt32.toUInt16.toUInt32.toInt32)), .val (.int ((((p3.toUInt32 >>> ((8 : Int32) &&& 31).toUInt32).toInt32) &&& (255 : Int32)).toUInt32.toUInt16.toUInt32.toInt32)), .val (.ref b105_0), .val (.ref b119_0), .val (.ref b135_0), .val (.ref b140), .val (.long (((0 : Int64) + (f17 (((p2.toUInt32 >>> ((2 : Int32) &&& 31).toUInt32).toInt32) &&& (7 : Int32)) (((p2.toUInt32 >>> ((5 : Int32) &&& 31).toUInt32).toInt32) &&& (3 : Int32)))) + (f17 (((p2.toUInt32 >>> ((7 : Int32) &&& 31).toUInt32).toInt32) &&& (7 : Int32)) (((p2.toUInt32 >>> ((10 : Int32) &&& 31).toUInt32).toInt32) &&& (3 : Int32))))), .second, .unset] [(.int (((p2.toUInt32 >>> ((15 : Int32) &&& 31).toUInt32).toInt32) &&& (3 : Int32))), (.int (((p2.toUInt32 >>> ((12 : Int32) &&& 31).toUInt32).toInt32) &&& (7 : Int32))), (.long (((0 : Int64) + (f17 (((p2.toUInt32 >>> ((2 : Int32) &&& 31).toUInt32).toInt32) &&& (7 : Int32)) (((p2.toUInt32 >>> ((5 : Int32) &&& 31).toUInt32).toInt32) &&& (3 : Int32)))) + (f17 (((p2.toUInt32 >>> ((7 : Int32) &&& 31).toUInt32).toInt32) &&& (7 : Int32)) (((p2.toUInt32 >>> ((10 : Int32) &&& 31).toUInt32).toInt32) &&& (3 : Int32)))))])) rfl (by rw [hml]; rfl) (argsL := [(.int (((p2.toUInt32 >>> ((12 : Int32) &&& 31).toUInt32).toInt32) &&& (7 : Int32))), (.int (((p2.toUInt32 >>> ((15 : Int32) &&& 31).toUInt32).toInt32) &&& (3 : Int32)))]) (rest := [(.long (((0 : Int64) + (f17 (((p2.toUInt32 >>> ((2 : Int32) &&& 31).toUInt32).toInt32) &&& (7 : Int32)) (((p2.toUInt32 >>> ((5 : Int32) &&& 31).toUInt32).toInt32) &&& (3 : Int32)))) + (f17 (((p2.toUInt32 >>> ((7 : Int32) &&& 31).toUInt32).toInt32) &&& (7 : Int32)) (((p2.toUInt32 >>> ((10 : Int32) &&& 31).toUInt32).toInt32) &&& (3 : Int32)))))]) (lenOf pd__II_J rfl) rfl (w00 rfl) (hb hby at_225) (fun _ _ => ⟨rfl, rfl, (by decide : 27 + 0 ≤ _), (by decide : 108 + 0 ≤ _)⟩)
        dsimp only [Pt.U, Pt.locs, Pt.cells, Pt.slots] at X152 l152 y152 z152 st152 hQ152
        subst l152 y152 z152
        obtain ⟨rfl, Nq152, e152⟩ := hQ152
        have N152 := Fr.app N139 Nq152
        have pre153 := Go.thn pre151 st152
        have pre154 : Go p e below T152 _ (mkF m 242 #[.val (.int p0), .val (.long q1), .second, .val (.int p2), .val (.int p3), .val (.int (f1 (1 : Int32) (p0 &&& (2147483647 : Int32)))), .val (.long (f2 (1 : Int64) (q1 &&& (9223372036854775807 : Int64)))), .second, .val (.int (p2 &&& (3 : Int32))), .val (.int (((p2.toUInt32 >>> ((2 : Int32) &&& 31).toUInt32).toInt32) &&& (7 : Int32))), .val (.int (((p2.toUInt32 >>> ((5 : Int32) &&& 31).toUInt32).toInt32) &&& (3 : Int32))), .val (.int (((p2.toUInt32 >>> ((7 : Int32) &&& 31).toUInt32).toInt32) &&& (7 : Int32))), .val (.int (((p2.toUInt32 >>> ((10 : Int32) &&& 31).toUInt32).toInt32) &&& (3 : Int32))), .val (.int (((p2.toUInt32 >>> ((12 : Int32) &&& 31).toUInt32).toInt32) &&& (7 : Int32))), .val (.int (((p2.toUInt32 >>> ((15 : Int32) &&& 31).toUInt32).toInt32) &&& (3 : Int32))), .val (.int ((p3 &&& (255 : Int32)).toUInt32.toUInt16.toUInt32.toInt32)), .val (.int ((((p3.toUInt32 >>> ((8 : Int32) &&& 31).toUInt32).toInt32) &&& (255 : Int32)).toUInt32.toUInt16.toUInt32.toInt32)), .val (.ref b105_0), .val (.ref b119_0), .val (.ref b135_0), .val (.ref b140), .val (.long ((((0 : Int64) + (f17 (((p2.toUInt32 >>> ((2 : Int32) &&& 31).toUInt32).toInt32) &&& (7 : Int32)) (((p2.toUInt32 >>> ((5 : Int32) &&& 31).toUInt32).toInt32) &&& (3 : Int32)))) + (f17 (((p2.toUInt32 >>> ((7 : Int32) &&& 31).toUInt32).toInt32) &&& (7 : Int32)) (((p2.toUInt32 >>> ((10 : Int32) &&& 31).toUInt32).toInt32) &&& (3 : Int32)))) + (f17 (((p2.toUInt32 >>> ((12 : Int32) &&& 31).toUInt32).toInt32) &&& (7 : Int32)) (((p2.toUInt32 >>> ((15 : Int32) &&& 31).toUInt32).toInt32) &&& (3 : Int32))))), .second, .unset] [(.int (lcmpW ((2 : Int64) * ((p2 &&& (3 : Int32)).toInt64)) ((f1 (1 : Int32) (p0 &&& (2147483647 : Int32))).toInt64)))]) _ := fun t k => pre153 t (by
          refine XS.ladd X152.here hx rfl (hb hby at_228) rfl ?_
          refine XS.lstore X152.here hx rfl (hb hby at_229) rfl (l' := #[.val (.int p0), .val (.long q1), .second, .val (.int p2), .val (.int p3), .val (.int (f1 (1 : Int32) (p0 &&& (2147483647 : Int32)))), .val (.long (f2 (1 : Int64) (q1 &&& (9223372036854775807 : Int64)))), .second, .val (.int (p2 &&& (3 : Int32))), .val (.int (((p2.toUInt32 >>> ((2 : Int32) &&& 31).toUInt32).toInt32) &&& (7 : Int32))), .val (.int (((p2.toUInt32 >>> ((5 : Int32) &&& 31).toUInt32).toInt32) &&& (3 : Int32))), .val (.int (((p2.toUInt32 >>> ((7 : Int32) &&& 31).toUInt32).toInt32) &&& (7 : Int32))), .val (.int (((p2.toUInt32 >>> ((10 : Int32) &&& 31).toUInt32).toInt32) &&& (3 : Int32))), .val (.int (((p2.toUInt32 >>> ((12 : Int32) &&& 31).toUInt32).toInt32) &&& (7 : Int32))), .val (.int (((p2.toUInt32 >>> ((15 : Int32) &&& 31).toUInt32).toInt32) &&& (3 : Int32))), .val (.int ((p3 &&& (255 : Int32)).toUInt32.toUInt16.toUInt32.toInt32)), .val (.int ((((p3.toUInt32 >>> ((8 : Int32) &&& 31).toUInt32).toInt32) &&& (255 : Int32)).toUInt32.toUInt16.toUInt32.toInt32)), .val (.ref b105_0), .val (.ref b119_0), .val (.ref b135_0), .val (.ref b140), .val (.long ((((0 : Int64) + (f17 (((p2.toUInt32 >>> ((2 : Int32) &&& 31).toUInt32).toInt32) &&& (7 : Int32)) (((p2.toUInt32 >>> ((5 : Int32) &&& 31).toUInt32).toInt32) &&& (3 : Int32)))) + (f17 (((p2.toUInt32 >>> ((7 : Int32) &&& 31).toUInt32).toInt32) &&& (7 : Int32)) (((p2.toUInt32 >>> ((10 : Int32) &&& 31).toUInt32).toInt32) &&& (3 : Int32)))) + (f17 (((p2.toUInt32 >>> ((12 : Int32) &&& 31).toUInt32).toInt32) &&& (7 : Int32)) (((p2.toUInt32 >>> ((15 : Int32) &&& 31).toUInt32).toInt32) &&& (3 : Int32))))), .second, .unset]) rfl ?_
          refine X152.ldc2Long hx hown (mvT hZ (wq hw 45 rfl)) (g := (mkF m 231 #[.val (.int p0), .val (.long q1), .second, .val (.int p2), .val (.int p3), .val (.int (f1 (1 : Int32) (p0 &&& (2147483647 : Int32)))), .val (.long (f2 (1 : Int64) (q1 &&& (9223372036854775807 : Int64)))), .second, .val (.int (p2 &&& (3 : Int32))), .val (.int (((p2.toUInt32 >>> ((2 : Int32) &&& 31).toUInt32).toInt32) &&& (7 : Int32))), .val (.int (((p2.toUInt32 >>> ((5 : Int32) &&& 31).toUInt32).toInt32) &&& (3 : Int32))), .val (.int (((p2.toUInt32 >>> ((7 : Int32) &&& 31).toUInt32).toInt32) &&& (7 : Int32))), .val (.int (((p2.toUInt32 >>> ((10 : Int32) &&& 31).toUInt32).toInt32) &&& (3 : Int32))), .val (.int (((p2.toUInt32 >>> ((12 : Int32) &&& 31).toUInt32).toInt32) &&& (7 : Int32))), .val (.int (((p2.toUInt32 >>> ((15 : Int32) &&& 31).toUInt32).toInt32) &&& (3 : Int32))), .val (.int ((p3 &&& (255 : Int32)).toUInt32.toUInt16.toUInt32.toInt32)), .val (.int ((((p3.toUInt32 >>> ((8 : Int32) &&& 31).toUInt32).toInt32) &&& (255 : Int32)).toUInt32.toUInt16.toUInt32.toInt32)), .val (.ref b105_0), .val (.ref b119_0), .val (.ref b135_0), .val (.ref b140), .val (.long ((((0 : Int64) + (f17 (((p2.toUInt32 >>> ((2 : Int32) &&& 31).toUInt32).toInt32) &&& (7 : Int32)) (((p2.toUInt32 >>> ((5 : Int32) &&& 31).toUInt32).toInt32) &&& (3 : Int32)))) + (f17 (((p2.toUInt32 >>> ((7 : Int32) &&& 31).toUInt32).toInt32) &&& (7 : Int32)) (((p2.toUInt32 >>> ((10 : Int32) &&& 31).toUInt32).toInt32) &&& (3 : Int32)))) + (f17 (((p2.toUInt32 >>> ((12 : Int32) &&& 31).toUInt32).toInt32) &&& (7 : Int32)) (((p2.toUInt32 >>> ((15 : Int32) &&& 31).toUInt32).toInt32) &&& (3 : Int32))))), .second, .unset] [])) rfl (hb hby at_231) _ ?_
          refine XS.iload X152.here hx rfl (hb hby at_234) rfl ?_
          refine XS.i2l X152.here hx rfl (hb hby at_236) rfl ?_
          refine XS.lmul X152.here hx rfl (hb hby at_237) rfl ?_
          refine XS.iload X152.here hx rfl (hb hby at_238) rfl ?_
          refine XS.i2l X152.here hx rfl (hb hby at_240) rfl ?_
          refine XS.lcmp X152.here hx rfl (hb hby at_241) rfl ?_
          exact k)
        obtain ⟨T155, L155, X155, e155, N155, pre155⟩ : ∃ (T' : State) (L' : List Loc), Stand p l e room_1 (s.setVm T35.vm) m #[(.int p0), (.long q1), (.int p2), (.int p3)] below meth c T' L' 27 108 ∧ T'.heap = T139.heap ∧ Fr n0 L' ∧ ∀ t, Steps p.tables e below (T'.setTop (mkF m 262 #[.val (.int p0), .val (.long q1), .second, .val (.int p2), .val (.int p3), .val (.int (f1 (1 : Int32) (p0 &&& (2147483647 : Int32)))), .val (.long (f2 (1 : Int64) (q1 &&& (9223372036854775807 : Int64)))), .second, .val (.int (p2 &&& (3 : Int32))), .val (.int (((p2.toUInt32 >>> ((2 : Int32) &&& 31).toUInt32).toInt32) &&& (7 : Int32))), .val (.int (((p2.toUInt32 >>> ((5 : Int32) &&& 31).toUInt32).toInt32) &&& (3 : Int32))), .val (.int (((p2.toUInt32 >>> ((7 : Int32) &&& 31).toUInt32).toInt32) &&& (7 : Int32))), .val (.int (((p2.toUInt32 >>> ((10 : Int32) &&& 31).toUInt32).toInt32) &&& (3 : Int32))), .val (.int (((p2.toUInt32 >>> ((12 : Int32) &&& 31).toUInt32).toInt32) &&& (7 : Int32))), .val (.int (((p2.toUInt32 >>> ((15 : Int32) &&& 31).toUInt32).toInt32) &&& (3 : Int32))), .val (.int ((p3 &&& (255 : Int32)).toUInt32.toUInt16.toUInt32.toInt32)), .val (.int ((((p3.toUInt32 >>> ((8 : Int32) &&& 31).toUInt32).toInt32) &&& (255 : Int32)).toUInt32.toUInt16.toUInt32.toInt32)), .val (.ref b105_0), .val (.ref b119_0), .val (.ref b135_0), .val (.ref b140), .val (.long ((((0 : Int64) + (f17 (((p2.toUInt32 >>> ((2 : Int32) &&& 31).toUInt32).toInt32) &&& (7 : Int32)) (((p2.toUInt32 >>> ((5 : Int32) &&& 31).toUInt32).toInt32) &&& (3 : Int32)))) + (f17 (((p2.toUInt32 >>> ((7 : Int32) &&& 31).toUInt32).toInt32) &&& (7 : Int32)) (((p2.toUInt32 >>> ((10 : Int32) &&& 31).toUInt32).toInt32) &&& (3 : Int32)))) + (f17 (((p2.toUInt32 >>> ((12 : Int32) &&& 31).toUInt32).toInt32) &&& (7 : Int32)) (((p2.toUInt32 >>> ((15 : Int32) &&& 31).toUInt32).toInt32) &&& (3 : Int32))))), .second, .unset] [(.int (v0_262_s0_3 p0 q1 p2))])) t → Steps p.tables e below (s₁.setTop (entryFrame m #[(.int p0), (.long q1), (.int p2), (.int p3)] maxLocals)) t := by
          by_cases hc242_13 : ((f1 (1 : Int32) (p0 &&& (2147483647 : Int32))).toInt64) < ((2 : Int64) * ((p2 &&& (3 : Int32)).toInt64))
          · have pre156 : Go p e below T152 _ (mkF m 262 #[.val (.int p0), .val (.long q1), .second, .val (.int p2), .val (.int p3), .val (.int (f1 (1 : Int32) (p0 &&& (2147483647 : Int32)))), .val (.long (f2 (1 : Int64) (q1 &&& (9223372036854775807 : Int64)))), .second, .val (.int (p2 &&& (3 : Int32))), .val (.int (((p2.toUInt32 >>> ((2 : Int32) &&& 31).toUInt32).toInt32) &&& (7 : Int32))), .val (.int (((p2.toUInt32 >>> ((5 : Int32) &&& 31).toUInt32).toInt32) &&& (3 : Int32))), .val (.int (((p2.toUInt32 >>> ((7 : Int32) &&& 31).toUInt32).toInt32) &&& (7 : Int32))), .val (.int (((p2.toUInt32 >>> ((10 : Int32) &&& 31).toUInt32).toInt32) &&& (3 : Int32))), .val (.int (((p2.toUInt32 >>> ((12 : Int32) &&& 31).toUInt32).toInt32) &&& (7 : Int32))), .val (.int (((p2.toUInt32 >>> ((15 : Int32) &&& 31).toUInt32).toInt32) &&& (3 : Int32))), .val (.int ((p3 &&& (255 : Int32)).toUInt32.toUInt16.toUInt32.toInt32)), .val (.int ((((p3.toUInt32 >>> ((8 : Int32) &&& 31).toUInt32).toInt32) &&& (255 : Int32)).toUInt32.toUInt16.toUInt32.toInt32)), .val (.ref b105_0), .val (.ref b119_0), .val (.ref b135_0), .val (.ref b140), .val (.long ((((0 : Int64) + (f17 (((p2.toUInt32 >>> ((2 : Int32) &&& 31).toUInt32).toInt32) &&& (7 : Int32)) (((p2.toUInt32 >>> ((5 : Int32) &&& 31).toUInt32).toInt32) &&& (3 : Int32)))) + (f17 (((p2.toUInt32 >>> ((7 : Int32) &&& 31).toUInt32).toInt32) &&& (7 : Int32)) (((p2.toUInt32 >>> ((10 : Int32) &&& 31).toUInt32).toInt32) &&& (3 : Int32)))) + (f17 (((p2.toUInt32 >>> ((12 : Int32) &&& 31).toUInt32).toInt32) &&& (7 : Int32)) (((p2.toUInt32 >>> ((15 : Int32) &&& 31).toUInt32).toInt32) &&& (3 : Int32))))), .second, .unset] [(.int 0)]) _ := fun t k => pre154 t (by
              refine XS.ifYes X152.here hx rfl (pc0 := 242) (pc' := 261) rfl (hb hby at_242) rfl ((if0 _ _).trans (tlt ((lw_gt _ _).mpr hc242_13)).2.2.1) (by decide) (by decide) ?_
              refine XS.iconst X152.here hx rfl (hb hby at_261) ?_
              exact k)
            exact ⟨T152, _, X152, e152, N152, fun t k => pre156 t (by simpa only [v0_262_s0_3, if_pos hc242_13] using k)⟩
          · have pre157 : Go p e below T152 _ (mkF m 254 #[.val (.int p0), .val (.long q1), .second, .val (.int p2), .val (.int p3), .val (.int (f1 (1 : Int32) (p0 &&& (2147483647 : Int32)))), .val (.long (f2 (1 : Int64) (q1 &&& (9223372036854775807 : Int64)))), .second, .val (.int (p2 &&& (3 : Int32))), .val (.int (((p2.toUInt32 >>> ((2 : Int32) &&& 31).toUInt32).toInt32) &&& (7 : Int32))), .val (.int (((p2.toUInt32 >>> ((5 : Int32) &&& 31).toUInt32).toInt32) &&& (3 : Int32))), .val (.int (((p2.toUInt32 >>> ((7 : Int32) &&& 31).toUInt32).toInt32) &&& (7 : Int32))), .val (.int (((p2.toUInt32 >>> ((10 : Int32) &&& 31).toUInt32).toInt32) &&& (3 : Int32))), .val (.int (((p2.toUInt32 >>> ((12 : Int32) &&& 31).toUInt32).toInt32) &&& (7 : Int32))), .val (.int (((p2.toUInt32 >>> ((15 : Int32) &&& 31).toUInt32).toInt32) &&& (3 : Int32))), .val (.int ((p3 &&& (255 : Int32)).toUInt32.toUInt16.toUInt32.toInt32)), .val (.int ((((p3.toUInt32 >>> ((8 : Int32) &&& 31).toUInt32).toInt32) &&& (255 : Int32)).toUInt32.toUInt16.toUInt32.toInt32)), .val (.ref b105_0), .val (.ref b119_0), .val (.ref b135_0), .val (.ref b140), .val (.long ((((0 : Int64) + (f17 (((p2.toUInt32 >>> ((2 : Int32) &&& 31).toUInt32).toInt32) &&& (7 : Int32)) (((p2.toUInt32 >>> ((5 : Int32) &&& 31).toUInt32).toInt32) &&& (3 : Int32)))) + (f17 (((p2.toUInt32 >>> ((7 : Int32) &&& 31).toUInt32).toInt32) &&& (7 : Int32)) (((p2.toUInt32 >>> ((10 : Int32) &&& 31).toUInt32).toInt32) &&& (3 : Int32)))) + (f17 (((p2.toUInt32 >>> ((12 : Int32) &&& 31).toUInt32).toInt32) &&& (7 : Int32)) (((p2.toUInt32 >>> ((15 : Int32) &&& 31).toUInt32).toInt32) &&& (3 : Int32))))), .second, .unset] [(.int (lcmpW ((2 : Int64) * ((((0 : Int64) + (f17 (((p2.toUInt32 >>> ((2 : Int32) &&& 31).toUInt32).toInt32) &&& (7 : Int32)) (((p2.toUInt32 >>> ((5 : Int32) &&& 31).toUInt32).toInt32) &&& (3 : Int32)))) + (f17 (((p2.toUInt32 >>> ((7 : Int32) &&& 31).toUInt32).toInt32) &&& (7 : Int32)) (((p2.toUInt32 >>> ((10 : Int32) &&& 31).toUInt32).toInt32) &&& (3 : Int32)))) + (f17 (((p2.toUInt32 >>> ((12 : Int32) &&& 31).toUInt32).toInt32) &&& (7 : Int32)) (((p2.toUInt32 >>> ((15 : Int32) &&& 31).toUInt32).toInt32) &&& (3 : Int32))))) (f2 (1 : Int64) (q1 &&& (9223372036854775807 : Int64)))))]) _ := fun t k => pre154 t (by
              refine XS.ifNo X152.here hx rfl (hb hby at_242) rfl ((if0 _ _).trans (flt (fun q => hc242_13 ((lw_gt _ _).mp q))).2.2.1) ?_
              refine X152.ldc2Long hx hown (mvT hZ (wq hw 45 rfl)) (g := (mkF m 245 #[.val (.int p0), .val (.long q1), .second, .val (.int p2), .val (.int p3), .val (.int (f1 (1 : Int32) (p0 &&& (2147483647 : Int32)))), .val (.long (f2 (1 : Int64) (q1 &&& (9223372036854775807 : Int64)))), .second, .val (.int (p2 &&& (3 : Int32))), .val (.int (((p2.toUInt32 >>> ((2 : Int32) &&& 31).toUInt32).toInt32) &&& (7 : Int32))), .val (.int (((p2.toUInt32 >>> ((5 : Int32) &&& 31).toUInt32).toInt32) &&& (3 : Int32))), .val (.int (((p2.toUInt32 >>> ((7 : Int32) &&& 31).toUInt32).toInt32) &&& (7 : Int32))), .val (.int (((p2.toUInt32 >>> ((10 : Int32) &&& 31).toUInt32).toInt32) &&& (3 : Int32))), .val (.int (((p2.toUInt32 >>> ((12 : Int32) &&& 31).toUInt32).toInt32) &&& (7 : Int32))), .val (.int (((p2.toUInt32 >>> ((15 : Int32) &&& 31).toUInt32).toInt32) &&& (3 : Int32))), .val (.int ((p3 &&& (255 : Int32)).toUInt32.toUInt16.toUInt32.toInt32)), .val (.int ((((p3.toUInt32 >>> ((8 : Int32) &&& 31).toUInt32).toInt32) &&& (255 : Int32)).toUInt32.toUInt16.toUInt32.toInt32)), .val (.ref b105_0), .val (.ref b119_0), .val (.ref b135_0), .val (.ref b140), .val (.long ((((0 : Int64) + (f17 (((p2.toUInt32 >>> ((2 : Int32) &&& 31).toUInt32).toInt32) &&& (7 : Int32)) (((p2.toUInt32 >>> ((5 : Int32) &&& 31).toUInt32).toInt32) &&& (3 : Int32)))) + (f17 (((p2.toUInt32 >>> ((7 : Int32) &&& 31).toUInt32).toInt32) &&& (7 : Int32)) (((p2.toUInt32 >>> ((10 : Int32) &&& 31).toUInt32).toInt32) &&& (3 : Int32)))) + (f17 (((p2.toUInt32 >>> ((12 : Int32) &&& 31).toUInt32).toInt32) &&& (7 : Int32)) (((p2.toUInt32 >>> ((15 : Int32) &&& 31).toUInt32).toInt32) &&& (3 : Int32))))), .second, .unset] [])) rfl (hb hby at_245) _ ?_
              refine XS.lload X152.here hx rfl (hb hby at_248) rfl ?_
              refine XS.lmul X152.here hx rfl (hb hby at_250) rfl ?_
              refine XS.lload X152.here hx rfl (hb hby at_251) rfl ?_
              refine XS.lcmp X152.here hx rfl (hb hby at_253) rfl ?_
              exact k)
            by_cases hc254_14 : (f2 (1 : Int64) (q1 &&& (9223372036854775807 : Int64))) < ((2 : Int64) * ((((0 : Int64) + (f17 (((p2.toUInt32 >>> ((2 : Int32) &&& 31).toUInt32).toInt32) &&& (7 : Int32)) (((p2.toUInt32 >>> ((5 : Int32) &&& 31).toUInt32).toInt32) &&& (3 : Int32)))) + (f17 (((p2.toUInt32 >>> ((7 : Int32) &&& 31).toUInt32).toInt32) &&& (7 : Int32)) (((p2.toUInt32 >>> ((10 : Int32) &&& 31).toUInt32).toInt32) &&& (3 : Int32)))) + (f17 (((p2.toUInt32 >>> ((12 : Int32) &&& 31).toUInt32).toInt32) &&& (7 : Int32)) (((p2.toUInt32 >>> ((15 : Int32) &&& 31).toUInt32).toInt32) &&& (3 : Int32)))))
            · have pre158 : Go p e below T152 _ (mkF m 262 #[.val (.int p0), .val (.long q1), .second, .val (.int p2), .val (.int p3), .val (.int (f1 (1 : Int32) (p0 &&& (2147483647 : Int32)))), .val (.long (f2 (1 : Int64) (q1 &&& (9223372036854775807 : Int64)))), .second, .val (.int (p2 &&& (3 : Int32))), .val (.int (((p2.toUInt32 >>> ((2 : Int32) &&& 31).toUInt32).toInt32) &&& (7 : Int32))), .val (.int (((p2.toUInt32 >>> ((5 : Int32) &&& 31).toUInt32).toInt32) &&& (3 : Int32))), .val (.int (((p2.toUInt32 >>> ((7 : Int32) &&& 31).toUInt32).toInt32) &&& (7 : Int32))), .val (.int (((p2.toUInt32 >>> ((10 : Int32) &&& 31).toUInt32).toInt32) &&& (3 : Int32))), .val (.int (((p2.toUInt32 >>> ((12 : Int32) &&& 31).toUInt32).toInt32) &&& (7 : Int32))), .val (.int (((p2.toUInt32 >>> ((15 : Int32) &&& 31).toUInt32).toInt32) &&& (3 : Int32))), .val (.int ((p3 &&& (255 : Int32)).toUInt32.toUInt16.toUInt32.toInt32)), .val (.int ((((p3.toUInt32 >>> ((8 : Int32) &&& 31).toUInt32).toInt32) &&& (255 : Int32)).toUInt32.toUInt16.toUInt32.toInt32)), .val (.ref b105_0), .val (.ref b119_0), .val (.ref b135_0), .val (.ref b140), .val (.long ((((0 : Int64) + (f17 (((p2.toUInt32 >>> ((2 : Int32) &&& 31).toUInt32).toInt32) &&& (7 : Int32)) (((p2.toUInt32 >>> ((5 : Int32) &&& 31).toUInt32).toInt32) &&& (3 : Int32)))) + (f17 (((p2.toUInt32 >>> ((7 : Int32) &&& 31).toUInt32).toInt32) &&& (7 : Int32)) (((p2.toUInt32 >>> ((10 : Int32) &&& 31).toUInt32).toInt32) &&& (3 : Int32)))) + (f17 (((p2.toUInt32 >>> ((12 : Int32) &&& 31).toUInt32).toInt32) &&& (7 : Int32)) (((p2.toUInt32 >>> ((15 : Int32) &&& 31).toUInt32).toInt32) &&& (3 : Int32))))), .second, .unset] [(.int 0)]) _ := fun t k => pre157 t (by
                refine XS.ifYes X152.here hx rfl (pc0 := 254) (pc' := 261) rfl (hb hby at_254) rfl ((if0 _ _).trans (tlt ((lw_gt _ _).mpr hc254_14)).2.2.1) (by decide) (by decide) ?_
                refine XS.iconst X152.here hx rfl (hb hby at_261) ?_
                exact k)
              exact ⟨T152, _, X152, e152, N152, fun t k => pre158 t (by simpa only [v0_262_s0_3, if_neg hc242_13, if_pos hc254_14] using k)⟩
            · have pre159 : Go p e below T152 _ (mkF m 262 #[.val (.int p0), .val (.long q1), .second, .val (.int p2), .val (.int p3), .val (.int (f1 (1 : Int32) (p0 &&& (2147483647 : Int32)))), .val (.long (f2 (1 : Int64) (q1 &&& (9223372036854775807 : Int64)))), .second, .val (.int (p2 &&& (3 : Int32))), .val (.int (((p2.toUInt32 >>> ((2 : Int32) &&& 31).toUInt32).toInt32) &&& (7 : Int32))), .val (.int (((p2.toUInt32 >>> ((5 : Int32) &&& 31).toUInt32).toInt32) &&& (3 : Int32))), .val (.int (((p2.toUInt32 >>> ((7 : Int32) &&& 31).toUInt32).toInt32) &&& (7 : Int32))), .val (.int (((p2.toUInt32 >>> ((10 : Int32) &&& 31).toUInt32).toInt32) &&& (3 : Int32))), .val (.int (((p2.toUInt32 >>> ((12 : Int32) &&& 31).toUInt32).toInt32) &&& (7 : Int32))), .val (.int (((p2.toUInt32 >>> ((15 : Int32) &&& 31).toUInt32).toInt32) &&& (3 : Int32))), .val (.int ((p3 &&& (255 : Int32)).toUInt32.toUInt16.toUInt32.toInt32)), .val (.int ((((p3.toUInt32 >>> ((8 : Int32) &&& 31).toUInt32).toInt32) &&& (255 : Int32)).toUInt32.toUInt16.toUInt32.toInt32)), .val (.ref b105_0), .val (.ref b119_0), .val (.ref b135_0), .val (.ref b140), .val (.long ((((0 : Int64) + (f17 (((p2.toUInt32 >>> ((2 : Int32) &&& 31).toUInt32).toInt32) &&& (7 : Int32)) (((p2.toUInt32 >>> ((5 : Int32) &&& 31).toUInt32).toInt32) &&& (3 : Int32)))) + (f17 (((p2.toUInt32 >>> ((7 : Int32) &&& 31).toUInt32).toInt32) &&& (7 : Int32)) (((p2.toUInt32 >>> ((10 : Int32) &&& 31).toUInt32).toInt32) &&& (3 : Int32)))) + (f17 (((p2.toUInt32 >>> ((12 : Int32) &&& 31).toUInt32).toInt32) &&& (7 : Int32)) (((p2.toUInt32 >>> ((15 : Int32) &&& 31).toUInt32).toInt32) &&& (3 : Int32))))), .second, .unset] [(.int 1)]) _ := fun t k => pre157 t (by
                refine XS.ifNo X152.here hx rfl (hb hby at_254) rfl ((if0 _ _).trans (flt (fun q => hc254_14 ((lw_gt _ _).mp q))).2.2.1) ?_
                refine XS.iconst X152.here hx rfl (hb hby at_257) ?_
                refine XS.goto X152.here hx rfl (pc0 := 258) (pc' := 262) rfl (hb hby at_258) (by decide) (by decide) ?_
                exact k)
              exact ⟨T152, _, X152, e152, N152, fun t k => pre159 t (by simpa only [v0_262_s0_3, if_neg hc242_13, if_neg hc254_14] using k)⟩
        have pre160 : Go p e below T155 _ (mkF m 266 #[.val (.int p0), .val (.long q1), .second, .val (.int p2), .val (.int p3), .val (.int (f1 (1 : Int32) (p0 &&& (2147483647 : Int32)))), .val (.long (f2 (1 : Int64) (q1 &&& (9223372036854775807 : Int64)))), .second, .val (.int (p2 &&& (3 : Int32))), .val (.int (((p2.toUInt32 >>> ((2 : Int32) &&& 31).toUInt32).toInt32) &&& (7 : Int32))), .val (.int (((p2.toUInt32 >>> ((5 : Int32) &&& 31).toUInt32).toInt32) &&& (3 : Int32))), .val (.int (((p2.toUInt32 >>> ((7 : Int32) &&& 31).toUInt32).toInt32) &&& (7 : Int32))), .val (.int (((p2.toUInt32 >>> ((10 : Int32) &&& 31).toUInt32).toInt32) &&& (3 : Int32))), .val (.int (((p2.toUInt32 >>> ((12 : Int32) &&& 31).toUInt32).toInt32) &&& (7 : Int32))), .val (.int (((p2.toUInt32 >>> ((15 : Int32) &&& 31).toUInt32).toInt32) &&& (3 : Int32))), .val (.int ((p3 &&& (255 : Int32)).toUInt32.toUInt16.toUInt32.toInt32)), .val (.int ((((p3.toUInt32 >>> ((8 : Int32) &&& 31).toUInt32).toInt32) &&& (255 : Int32)).toUInt32.toUInt16.toUInt32.toInt32)), .val (.ref b105_0), .val (.ref b119_0), .val (.ref b135_0), .val (.ref b140), .val (.long ((((0 : Int64) + (f17 (((p2.toUInt32 >>> ((2 : Int32) &&& 31).toUInt32).toInt32) &&& (7 : Int32)) (((p2.toUInt32 >>> ((5 : Int32) &&& 31).toUInt32).toInt32) &&& (3 : Int32)))) + (f17 (((p2.toUInt32 >>> ((7 : Int32) &&& 31).toUInt32).toInt32) &&& (7 : Int32)) (((p2.toUInt32 >>> ((10 : Int32) &&& 31).toUInt32).toInt32) &&& (3 : Int32)))) + (f17 (((p2.toUInt32 >>> ((12 : Int32) &&& 31).toUInt32).toInt32) &&& (7 : Int32)) (((p2.toUInt32 >>> ((15 : Int32) &&& 31).toUInt32).toInt32) &&& (3 : Int32))))), .second, .val (.int (v0_262_s0_3 p0 q1 p2))] [(.ref b140)]) _ := fun t k => pre155 t (by
          refine XS.istore X155.here hx rfl (hb hby at_262) rfl (l' := #[.val (.int p0), .val (.long q1), .second, .val (.int p2), .val (.int p3), .val (.int (f1 (1 : Int32) (p0 &&& (2147483647 : Int32)))), .val (.long (f2 (1 : Int64) (q1 &&& (9223372036854775807 : Int64)))), .second, .val (.int (p2 &&& (3 : Int32))), .val (.int (((p2.toUInt32 >>> ((2 : Int32) &&& 31).toUInt32).toInt32) &&& (7 : Int32))), .val (.int (((p2.toUInt32 >>> ((5 : Int32) &&& 31).toUInt32).toInt32) &&& (3 : Int32))), .val (.int (((p2.toUInt32 >>> ((7 : Int32) &&& 31).toUInt32).toInt32) &&& (7 : Int32))), .val (.int (((p2.toUInt32 >>> ((10 : Int32) &&& 31).toUInt32).toInt32) &&& (3 : Int32))), .val (.int (((p2.toUInt32 >>> ((12 : Int32) &&& 31).toUInt32).toInt32) &&& (7 : Int32))), .val (.int (((p2.toUInt32 >>> ((15 : Int32) &&& 31).toUInt32).toInt32) &&& (3 : Int32))), .val (.int ((p3 &&& (255 : Int32)).toUInt32.toUInt16.toUInt32.toInt32)), .val (.int ((((p3.toUInt32 >>> ((8 : Int32) &&& 31).toUInt32).toInt32) &&& (255 : Int32)).toUInt32.toUInt16.toUInt32.toInt32)), .val (.ref b105_0), .val (.ref b119_0), .val (.ref b135_0), .val (.ref b140), .val (.long ((((0 : Int64) + (f17 (((p2.toUInt32 >>> ((2 : Int32) &&& 31).toUInt32).toInt32) &&& (7 : Int32)) (((p2.toUInt32 >>> ((5 : Int32) &&& 31).toUInt32).toInt32) &&& (3 : Int32)))) + (f17 (((p2.toUInt32 >>> ((7 : Int32) &&& 31).toUInt32).toInt32) &&& (7 : Int32)) (((p2.toUInt32 >>> ((10 : Int32) &&& 31).toUInt32).toInt32) &&& (3 : Int32)))) + (f17 (((p2.toUInt32 >>> ((12 : Int32) &&& 31).toUInt32).toInt32) &&& (7 : Int32)) (((p2.toUInt32 >>> ((15 : Int32) &&& 31).toUInt32).toInt32) &&& (3 : Int32))))), .second, .val (.int (v0_262_s0_3 p0 q1 p2))]) rfl ?_
          refine XS.aload X155.here hx rfl (hb hby at_264) rfl rfl ?_
          exact k)
        obtain ⟨cq161, kq161, q161a, q161b, q161c⟩ := isOf hZ e155 o139_0
        obtain ⟨_, _, ⟨T161, L161, k161, n161⟩, -, X161, ⟨Lc161, hQ161, l161, y161, z161⟩, st161⟩ := X155.virtualBack hx (y := Nm_25) (z := Nm_25) hown (mvT hZ (wq hw 121 rfl)) (mvT hZ (wq hw 122 rfl)) (notFace_of_selects (args := #[]) (mvT hZ (wq hw 124 rfl))) (mvT hZ (wq hw 124 rfl)) (mvT hZ (wq hw 123 rfl)) (by decide) (backOf (W := 0) (rm18_3 l Z a0 hw [] b140 b148_0 (f1 (1 : Int32) (p0 &&& (2147483647 : Int32))) (f2 (1 : Int64) (q1 &&& (9223372036854775807 : Int64))) ((((0 : Int64) + (f17 (((p2.toUInt32 >>> ((2 : Int32) &&& 31).toUInt32).toInt32) &&& (7 : Int32)) (((p2.toUInt32 >>> ((5 : Int32) &&& 31).toUInt32).toInt32) &&& (3 : Int32)))) + (f17 (((p2.toUInt32 >>> ((7 : Int32) &&& 31).toUInt32).toInt32) &&& (7 : Int32)) (((p2.toUInt32 >>> ((10 : Int32) &&& 31).toUInt32).toInt32) &&& (3 : Int32)))) + (f17 (((p2.toUInt32 >>> ((12 : Int32) &&& 31).toUInt32).toInt32) &&& (7 : Int32)) (((p2.toUInt32 >>> ((15 : Int32) &&& 31).toUInt32).toInt32) &&& (3 : Int32)))) b148_1 _ b135_0 b119_0 b105_0 T139.heap n0 Z139 o139_1 o139_2 o139_3 o139_4 o139_5 o139_6 o139_7 o139_8 o139_9 o56_10) hZ (wq hw 125 rfl) (wq hw 48 rfl) (by decide) (by decide)) q161a q161c (g := (mkF m 266 #[.val (.int p0), .val (.long q1), .second, .val (.int p2), .val (.int p3), .val (.int (f1 (1 : Int32) (p0 &&& (2147483647 : Int32)))), .val (.long (f2 (1 : Int64) (q1 &&& (9223372036854775807 : Int64)))), .second, .val (.int (p2 &&& (3 : Int32))), .val (.int (((p2.toUInt32 >>> ((2 : Int32) &&& 31).toUInt32).toInt32) &&& (7 : Int32))), .val (.int (((p2.toUInt32 >>> ((5 : Int32) &&& 31).toUInt32).toInt32) &&& (3 : Int32))), .val (.int (((p2.toUInt32 >>> ((7 : Int32) &&& 31).toUInt32).toInt32) &&& (7 : Int32))), .val (.int (((p2.toUInt32 >>> ((10 : Int32) &&& 31).toUInt32).toInt32) &&& (3 : Int32))), .val (.int (((p2.toUInt32 >>> ((12 : Int32) &&& 31).toUInt32).toInt32) &&& (7 : Int32))), .val (.int (((p2.toUInt32 >>> ((15 : Int32) &&& 31).toUInt32).toInt32) &&& (3 : Int32))), .val (.int ((p3 &&& (255 : Int32)).toUInt32.toUInt16.toUInt32.toInt32)), .val (.int ((((p3.toUInt32 >>> ((8 : Int32) &&& 31).toUInt32).toInt32) &&& (255 : Int32)).toUInt32.toUInt16.toUInt32.toInt32)), .val (.ref b105_0), .val (.ref b119_0), .val (.ref b135_0), .val (.ref b140), .val (.long ((((0 : Int64) + (f17 (((p2.toUInt32 >>> ((2 : Int32) &&& 31).toUInt32).toInt32) &&& (7 : Int32)) (((p2.toUInt32 >>> ((5 : Int32) &&& 31).toUInt32).toInt32) &&& (3 : Int32)))) + (f17 (((p2.toUInt32 >>> ((7 : Int32) &&& 31).toUInt32).toInt32) &&& (7 : Int32)) (((p2.toUInt32 >>> ((10 : Int32) &&& 31).toUInt32).toInt32) &&& (3 : Int32)))) + (f17 (((p2.toUInt32 >>> ((12 : Int32) &&& 31).toUInt32).toInt32) &&& (7 : Int32)) (((p2.toUInt32 >>> ((15 : Int32) &&& 31).toUInt32).toInt32) &&& (3 : Int32))))), .second, .val (.int (v0_262_s0_3 p0 q1 p2))] [(.ref b140)])) rfl (by rw [hml]; rfl) (Steps.refl _) (argsL := []) (rest := []) (lenOf pd___Z rfl) rfl (w00 rfl) (hb hby at_266) (fun _ _ => ⟨rfl, e155, (by decide : 27 + 0 ≤ _), (by decide : 108 + 0 ≤ _)⟩)
        dsimp only [Pt.U, Pt.locs, Pt.cells, Pt.slots] at X161 l161 y161 z161 st161 hQ161
        subst l161 y161 z161
        obtain ⟨rfl, Nq161, e161⟩ := hQ161
        have N161 := Fr.app N155 Nq161
        have pre162 := Go.trn pre160 st161
        have pre163 : Go p e below T161 _ (mkF m 271 #[.val (.int p0), .val (.long q1), .second, .val (.int p2), .val (.int p3), .val (.int (f1 (1 : Int32) (p0 &&& (2147483647 : Int32)))), .val (.long (f2 (1 : Int64) (q1 &&& (9223372036854775807 : Int64)))), .second, .val (.int (p2 &&& (3 : Int32))), .val (.int (((p2.toUInt32 >>> ((2 : Int32) &&& 31).toUInt32).toInt32) &&& (7 : Int32))), .val (.int (((p2.toUInt32 >>> ((5 : Int32) &&& 31).toUInt32).toInt32) &&& (3 : Int32))), .val (.int (((p2.toUInt32 >>> ((7 : Int32) &&& 31).toUInt32).toInt32) &&& (7 : Int32))), .val (.int (((p2.toUInt32 >>> ((10 : Int32) &&& 31).toUInt32).toInt32) &&& (3 : Int32))), .val (.int (((p2.toUInt32 >>> ((12 : Int32) &&& 31).toUInt32).toInt32) &&& (7 : Int32))), .val (.int (((p2.toUInt32 >>> ((15 : Int32) &&& 31).toUInt32).toInt32) &&& (3 : Int32))), .val (.int ((p3 &&& (255 : Int32)).toUInt32.toUInt16.toUInt32.toInt32)), .val (.int ((((p3.toUInt32 >>> ((8 : Int32) &&& 31).toUInt32).toInt32) &&& (255 : Int32)).toUInt32.toUInt16.toUInt32.toInt32)), .val (.ref b105_0), .val (.ref b119_0), .val (.ref b135_0), .val (.ref b140), .val (.long ((((0 : Int64) + (f17 (((p2.toUInt32 >>> ((2 : Int32) &&& 31).toUInt32).toInt32) &&& (7 : Int32)) (((p2.toUInt32 >>> ((5 : Int32) &&& 31).toUInt32).toInt32) &&& (3 : Int32)))) + (f17 (((p2.toUInt32 >>> ((7 : Int32) &&& 31).toUInt32).toInt32) &&& (7 : Int32)) (((p2.toUInt32 >>> ((10 : Int32) &&& 31).toUInt32).toInt32) &&& (3 : Int32)))) + (f17 (((p2.toUInt32 >>> ((12 : Int32) &&& 31).toUInt32).toInt32) &&& (7 : Int32)) (((p2.toUInt32 >>> ((15 : Int32) &&& 31).toUInt32).toInt32) &&& (3 : Int32))))), .second, .val (.int (v0_262_s0_3 p0 q1 p2))] [(.int (v0_262_s0_3 p0 q1 p2)), (.int (f18_3 (f1 (1 : Int32) (p0 &&& (2147483647 : Int32))) (f2 (1 : Int64) (q1 &&& (9223372036854775807 : Int64))) ((((0 : Int64) + (f17 (((p2.toUInt32 >>> ((2 : Int32) &&& 31).toUInt32).toInt32) &&& (7 : Int32)) (((p2.toUInt32 >>> ((5 : Int32) &&& 31).toUInt32).toInt32) &&& (3 : Int32)))) + (f17 (((p2.toUInt32 >>> ((7 : Int32) &&& 31).toUInt32).toInt32) &&& (7 : Int32)) (((p2.toUInt32 >>> ((10 : Int32) &&& 31).toUInt32).toInt32) &&& (3 : Int32)))) + (f17 (((p2.toUInt32 >>> ((12 : Int32) &&& 31).toUInt32).toInt32) &&& (7 : Int32)) (((p2.toUInt32 >>> ((15 : Int32) &&& 31).toUInt32).toInt32) &&& (3 : Int32))))))]) _ := fun t k => pre162 t (by
          refine XS.iload X161.here hx rfl (hb hby at_269) rfl ?_
          exact k)
        by_cases hc271_15 : (f18_3 (f1 (1 : Int32) (p0 &&& (2147483647 : Int32))) (f2 (1 : Int64) (q1 &&& (9223372036854775807 : Int64))) ((((0 : Int64) + (f17 (((p2.toUInt32 >>> ((2 : Int32) &&& 31).toUInt32).toInt32) &&& (7 : Int32)) (((p2.toUInt32 >>> ((5 : Int32) &&& 31).toUInt32).toInt32) &&& (3 : Int32)))) + (f17 (((p2.toUInt32 >>> ((7 : Int32) &&& 31).toUInt32).toInt32) &&& (7 : Int32)) (((p2.toUInt32 >>> ((10 : Int32) &&& 31).toUInt32).toInt32) &&& (3 : Int32)))) + (f17 (((p2.toUInt32 >>> ((12 : Int32) &&& 31).toUInt32).toInt32) &&& (7 : Int32)) (((p2.toUInt32 >>> ((15 : Int32) &&& 31).toUInt32).toInt32) &&& (3 : Int32))))) = (v0_262_s0_3 p0 q1 p2)
        · have pre164 : Go p e below T161 _ (mkF m 279 #[.val (.int p0), .val (.long q1), .second, .val (.int p2), .val (.int p3), .val (.int (f1 (1 : Int32) (p0 &&& (2147483647 : Int32)))), .val (.long (f2 (1 : Int64) (q1 &&& (9223372036854775807 : Int64)))), .second, .val (.int (p2 &&& (3 : Int32))), .val (.int (((p2.toUInt32 >>> ((2 : Int32) &&& 31).toUInt32).toInt32) &&& (7 : Int32))), .val (.int (((p2.toUInt32 >>> ((5 : Int32) &&& 31).toUInt32).toInt32) &&& (3 : Int32))), .val (.int (((p2.toUInt32 >>> ((7 : Int32) &&& 31).toUInt32).toInt32) &&& (7 : Int32))), .val (.int (((p2.toUInt32 >>> ((10 : Int32) &&& 31).toUInt32).toInt32) &&& (3 : Int32))), .val (.int (((p2.toUInt32 >>> ((12 : Int32) &&& 31).toUInt32).toInt32) &&& (7 : Int32))), .val (.int (((p2.toUInt32 >>> ((15 : Int32) &&& 31).toUInt32).toInt32) &&& (3 : Int32))), .val (.int ((p3 &&& (255 : Int32)).toUInt32.toUInt16.toUInt32.toInt32)), .val (.int ((((p3.toUInt32 >>> ((8 : Int32) &&& 31).toUInt32).toInt32) &&& (255 : Int32)).toUInt32.toUInt16.toUInt32.toInt32)), .val (.ref b105_0), .val (.ref b119_0), .val (.ref b135_0), .val (.ref b140), .val (.long ((((0 : Int64) + (f17 (((p2.toUInt32 >>> ((2 : Int32) &&& 31).toUInt32).toInt32) &&& (7 : Int32)) (((p2.toUInt32 >>> ((5 : Int32) &&& 31).toUInt32).toInt32) &&& (3 : Int32)))) + (f17 (((p2.toUInt32 >>> ((7 : Int32) &&& 31).toUInt32).toInt32) &&& (7 : Int32)) (((p2.toUInt32 >>> ((10 : Int32) &&& 31).toUInt32).toInt32) &&& (3 : Int32)))) + (f17 (((p2.toUInt32 >>> ((12 : Int32) &&& 31).toUInt32).toInt32) &&& (7 : Int32)) (((p2.toUInt32 >>> ((15 : Int32) &&& 31).toUInt32).toInt32) &&& (3 : Int32))))), .second, .val (.int (v0_262_s0_3 p0 q1 p2))] [(.int 1)]) _ := fun t k => pre163 t (by
            refine XS.icmpNo X161.here hx rfl (hb hby at_271) rfl (teq hc271_15).2 ?_
            refine XS.iconst X161.here hx rfl (hb hby at_274) ?_
            refine XS.goto X161.here hx rfl (pc0 := 275) (pc' := 279) rfl (hb hby at_275) (by decide) (by decide) ?_
            exact k)
          obtain ⟨fs, hr, hrun, hended, hE⟩ := X161.leaveW hS35 (by rw [e161]; exact kS139) (v := some (.int 1)) (fun h => by rw [Bd.returns] at h; cases h)
          refine ⟨_, _, ?_, hrun, hended, _, _, rfl, ?_, hE.1, hE.2.1, hE.2.2.1, hE.2.2.2.mono (by decide) (by decide)⟩
          · exact pre164 _ (retN X161 hx (t := .boolean) Bd.returns (by simp) (hb hby at_279) hr)
          · exact ⟨by simp only [f0, if_neg hc159_1, if_neg hc184_5, if_neg hc209_9, if_pos hc271_15], N161, trivial⟩
        · have pre165 : Go p e below T161 _ (mkF m 279 #[.val (.int p0), .val (.long q1), .second, .val (.int p2), .val (.int p3), .val (.int (f1 (1 : Int32) (p0 &&& (2147483647 : Int32)))), .val (.long (f2 (1 : Int64) (q1 &&& (9223372036854775807 : Int64)))), .second, .val (.int (p2 &&& (3 : Int32))), .val (.int (((p2.toUInt32 >>> ((2 : Int32) &&& 31).toUInt32).toInt32) &&& (7 : Int32))), .val (.int (((p2.toUInt32 >>> ((5 : Int32) &&& 31).toUInt32).toInt32) &&& (3 : Int32))), .val (.int (((p2.toUInt32 >>> ((7 : Int32) &&& 31).toUInt32).toInt32) &&& (7 : Int32))), .val (.int (((p2.toUInt32 >>> ((10 : Int32) &&& 31).toUInt32).toInt32) &&& (3 : Int32))), .val (.int (((p2.toUInt32 >>> ((12 : Int32) &&& 31).toUInt32).toInt32) &&& (7 : Int32))), .val (.int (((p2.toUInt32 >>> ((15 : Int32) &&& 31).toUInt32).toInt32) &&& (3 : Int32))), .val (.int ((p3 &&& (255 : Int32)).toUInt32.toUInt16.toUInt32.toInt32)), .val (.int ((((p3.toUInt32 >>> ((8 : Int32) &&& 31).toUInt32).toInt32) &&& (255 : Int32)).toUInt32.toUInt16.toUInt32.toInt32)), .val (.ref b105_0), .val (.ref b119_0), .val (.ref b135_0), .val (.ref b140), .val (.long ((((0 : Int64) + (f17 (((p2.toUInt32 >>> ((2 : Int32) &&& 31).toUInt32).toInt32) &&& (7 : Int32)) (((p2.toUInt32 >>> ((5 : Int32) &&& 31).toUInt32).toInt32) &&& (3 : Int32)))) + (f17 (((p2.toUInt32 >>> ((7 : Int32) &&& 31).toUInt32).toInt32) &&& (7 : Int32)) (((p2.toUInt32 >>> ((10 : Int32) &&& 31).toUInt32).toInt32) &&& (3 : Int32)))) + (f17 (((p2.toUInt32 >>> ((12 : Int32) &&& 31).toUInt32).toInt32) &&& (7 : Int32)) (((p2.toUInt32 >>> ((15 : Int32) &&& 31).toUInt32).toInt32) &&& (3 : Int32))))), .second, .val (.int (v0_262_s0_3 p0 q1 p2))] [(.int 0)]) _ := fun t k => pre163 t (by
            refine XS.icmpYes X161.here hx rfl (pc0 := 271) (pc' := 278) rfl (hb hby at_271) rfl (feq hc271_15).2 (by decide) (by decide) ?_
            refine XS.iconst X161.here hx rfl (hb hby at_278) ?_
            exact k)
          obtain ⟨fs, hr, hrun, hended, hE⟩ := X161.leaveW hS35 (by rw [e161]; exact kS139) (v := some (.int 0)) (fun h => by rw [Bd.returns] at h; cases h)
          refine ⟨_, _, ?_, hrun, hended, _, _, rfl, ?_, hE.1, hE.2.1, hE.2.2.1, hE.2.2.2.mono (by decide) (by decide)⟩
          · exact pre165 _ (retN X161 hx (t := .boolean) Bd.returns (by simp) (hb hby at_279) hr)
          · exact ⟨by simp only [f0, if_neg hc159_1, if_neg hc184_5, if_neg hc209_9, if_neg hc271_15], N161, trivial⟩
theorem own_max (x : Int32) : 1 ≤ (f1 (1 : Int32) x).toInt := by
  unfold f1
  split
  · rename_i h; rw [Int32.lt_iff_toInt_lt, show (1 : Int32).toInt = 1 from rfl] at h; omega
  · decide
theorem own_maxL (x : Int64) : 1 ≤ (f2 (1 : Int64) x).toInt := by
  unfold f2
  split
  · rename_i h; rw [Int64.lt_iff_toInt_lt, show (1 : Int64).toInt = 1 from rfl] at h; omega
  · decide
theorem own_hI {M t : Int32} (hM : 1 ≤ M.toInt) (h0 : 0 ≤ t.toInt) (h3 : t.toInt ≤ 3) : (M / 2 < t) ↔ M.toInt64 < 2 * t.toInt64 := by
  have d := (c_idiv M 2 2 rfl (by decide)).1 (by omega)
  have l1 := M.toInt_lt
  rw [Int32.lt_iff_toInt_lt, Int64.lt_iff_toInt_lt, d, Int64.toInt_mul, Int32.toInt_toInt64, Int32.toInt_toInt64, show (2 : Int64).toInt = 2 from rfl, Int.bmod_eq_of_le (by omega) (by omega)]
  omega
theorem own_hL {X V : Int64} (hX : 1 ≤ X.toInt) (h0 : 0 ≤ V.toInt) (h3 : V.toInt ≤ 100) : (X / 2 < V) ↔ X < 2 * V := by
  have d := (c_ldiv X 2 2 rfl (by decide)).1 (by omega)
  rw [Int64.lt_iff_toInt_lt, Int64.lt_iff_toInt_lt, d, Int64.toInt_mul, show (2 : Int64).toInt = 2 from rfl, Int.bmod_eq_of_le (by omega) (by omega)]
  omega
theorem own_f17 (x y : Int32) : 0 ≤ (f17 (x &&& 7) (y &&& 3)).toInt ∧ (f17 (x &&& 7) (y &&& 3)).toInt ≤ 9 := by
  have h : (x &&& (7 : Int32)).toInt = x.toInt % 8 := c_mask x 7 3 (by decide) (by decide)
  unfold f17
  rcases own_m3 y with q | q | q | q <;> rw [q]
  · rw [if_pos rfl, Int32.toInt_toInt64]; omega
  · rw [if_neg (by decide), Int64.toInt_add, Int32.toInt_toInt64, show (((1 : Int32) - 1).toInt64).toInt = 0 from by decide, Int.bmod_eq_of_le (by omega) (by omega)]; omega
  · rw [if_neg (by decide), Int64.toInt_add, Int32.toInt_toInt64, show (((2 : Int32) - 1).toInt64).toInt = 1 from by decide, Int.bmod_eq_of_le (by omega) (by omega)]; omega
  · rw [if_neg (by decide), Int64.toInt_add, Int32.toInt_toInt64, show (((3 : Int32) - 1).toInt64).toInt = 2 from by decide, Int.bmod_eq_of_le (by omega) (by omega)]; omega
theorem own_add {V U : Int64} {a b : Int} (h : 0 ≤ V.toInt ∧ V.toInt ≤ a) (g : 0 ≤ U.toInt ∧ U.toInt ≤ b) (ha : a ≤ 50) (hb : b ≤ 50) : 0 ≤ (V + U).toInt ∧ (V + U).toInt ≤ a + b := by
  rw [Int64.toInt_add, Int.bmod_eq_of_le (by omega) (by omega)]; omega
theorem own_z : 0 ≤ (0 : Int64).toInt ∧ (0 : Int64).toInt ≤ 0 := by decide
theorem own_law (i0 : Int32) (i1 : Int64) (i2 : Int32) : f0 i0 i1 i2 = 1 := by
  have hM := own_max (i0 &&& (2147483647 : Int32))
  have hX := own_maxL (i1 &&& (9223372036854775807 : Int64))
  have a0 := own_f17 ((i2.toUInt32 >>> ((2 : Int32) &&& 31).toUInt32).toInt32) ((i2.toUInt32 >>> ((5 : Int32) &&& 31).toUInt32).toInt32)
  have a1 := own_f17 ((i2.toUInt32 >>> ((7 : Int32) &&& 31).toUInt32).toInt32) ((i2.toUInt32 >>> ((10 : Int32) &&& 31).toUInt32).toInt32)
  have a2 := own_f17 ((i2.toUInt32 >>> ((12 : Int32) &&& 31).toUInt32).toInt32) ((i2.toUInt32 >>> ((15 : Int32) &&& 31).toUInt32).toInt32)
  have s1 := own_add own_z a0 (by decide) (by decide)
  have s2 := own_add s1 a1 (by decide) (by decide)
  have s3 := own_add s2 a2 (by decide) (by decide)
  unfold f0
  rcases own_m3 i2 with q | q | q | q
  · simp only [q, f18_0, v0_262_s0, show f19_0 = 0 from rfl, own_hI hM (t := 0) (by decide) (by decide), own_hL hX (V := 0) (by decide) (by decide), show (2 : Int64) * 0 = 0 from rfl]
    simp
  · simp only [q, f18_1, v0_262_s0_1, show f19_1 = 1 from rfl, own_hI hM (t := 1) (by decide) (by decide), own_hL hX s1.1 (by omega)]
    simp
  · simp only [q, f18_2, v0_262_s0_2, show f19_2 = 2 from rfl, own_hI hM (t := 2) (by decide) (by decide), own_hL hX s2.1 (by omega)]
    simp
  · simp only [q, f18_3, v0_262_s0_3, show f19_3 = 3 from rfl, own_hI hM (t := 3) (by decide) (by decide), own_hL hX s3.1 (by omega)]
    simp
set_option maxRecDepth 65536 in
set_option maxHeartbeats 40000000 in
theorem comes_1 {Post : Tables → Env → Array Value → State → Outcome → State → Prop} (hpost : ∀ tb e args s v u, (limb_1_1.after args s (.returned v) u = true ∧ limb_1_2.after args s (.returned v) u = true ∧ True) → ReturnedEndW s (.returned v) u (Jvm.fieldLocs frame_1_writes args s ++ Jvm.arrayLocs frame_1_arrays args s ++ Jvm.staticLocs frame_1_statics s) 48 2304 → Post tb e args s (.returned v) u) :
    ArmFor flags0 classFile x code maxLocals ret World_1 tables_1 room_1 Calls_1 rest_1 Pre_1 Post := by
  intro l hfl _ _ p e ha hc hk s m args below hf hA hF happ hP
  obtain ⟨hcalls, hrest, hpre⟩ := hP
  obtain ⟨-, -, -, hnamed, -, -, -, hat⟩ := (Spec.applies_iff hf).mp happ
  obtain ⟨hg, hn⟩ := and_e (Cond.before_iff.mp (show (Jvm.Cond.and given_1 narrow_1).before args s = true from hpre))
  obtain ⟨g1, g2⟩ := and_e hg
  obtain ⟨g3, g4⟩ := and_e g2
  obtain ⟨g5, g6⟩ := and_e g4
  obtain ⟨g7, g8⟩ := and_e g6
  obtain ⟨w0, w1, w2, w3, rfl⟩ : ∃ w0 w1 w2 w3 : Value, args = #[w0, w1, w2, w3] := by
    have hs : args.size = 4 := by simpa [Cond.value, given_1] using g1
    obtain ⟨L⟩ := args
    match L, hs with
    | [w0, w1, w2, w3], _ => exact ⟨w0, w1, w2, w3, rfl⟩
  have hw := fun d (hd : d ∈ tables_1) => atoms_spec (ws := Jvm.Cond.code x code maxLocals ret :: tables_1) hat d (List.mem_cons_of_mem _ hd)
  obtain ⟨hsets, hown0⟩ := atoms_of _ (rest_1_c_eq ▸ (show rest_1_c.before _ s = true from hrest))
  have hr0 := Cond.before_iff.mp hown0
  obtain ⟨i0, ei0⟩ := is_v g3
  obtain rfl : w0 = (.int i0) := Option.some.inj ei0
  obtain ⟨i1, ei1⟩ := isL_v g5
  obtain rfl : w1 = (.long i1) := Option.some.inj ei1
  obtain ⟨i2, ei2⟩ := is_v g7
  obtain rfl : w2 = (.int i2) := Option.some.inj ei2
  obtain ⟨i3, ei3⟩ := is_v g8
  obtain rfl : w3 = (.int i3) := Option.some.inj ei3
  have n5 := not_v (Cond.before_iff.mp (hsets _ (List.mem_of_getElem? (i := 2) rfl)))
  obtain ⟨wcs, e10⟩ := is_v (Cond.before_iff.mp (hsets _ (List.mem_of_getElem? (i := 1) rfl)))
  have S12 : Sta s s.heap "java/lang/String" "COMPACT_STRINGS" "Z" (.int wcs) := Sta.start e10 (Or.inl (hsets _ (List.mem_of_getElem? (i := 0) rfl)))
  obtain ⟨wsf, e14, r15⟩ := isR_v (Cond.before_iff.mp (hsets _ (List.mem_of_getElem? (i := 8) rfl)))
  have S16 : Sta s s.heap "jdk/internal/util/Preconditions" "SIOOBE_FORMATTER" "Ljava/util/function/BiFunction;" wsf := Sta.start e14 (Or.inl (hsets _ (List.mem_of_getElem? (i := 7) rfl)))
  have c17 : ¬ (wcs = (0 : Int32)) := gotF (Cond.eq_ints e10 (Term.int_eval (0))) n5
  have hh53 : Jvm.Lit.constHeld s "com/example/oncemark/oncemark/ReceiveQueueNeedsRefillPinLaw" 53 := hcalls.1 ("com/example/oncemark/oncemark/ReceiveQueueNeedsRefillPinLaw", 53) (List.mem_of_getElem? (i := 0) rfl)
  have hh7 : Jvm.Lit.constHeld s "java/lang/String" 7 := hcalls.1 ("java/lang/String", 7) (List.mem_of_getElem? (i := 1) rfl)
  obtain ⟨n, o, h1, h2, h3, _, L, rfl, ⟨rfl, N, -⟩, hq⟩ := rm0 l s _ hw tables_1 i0 i1 i2 i3 wcs s.heap.size s.heap s.heap.size (Nat.le_refl _) S12 ⟨Nat.le_refl _, fun _ _ q => q⟩ (Nat.le_refl _) (hsets _ (List.mem_of_getElem? (i := 2) rfl)) hh53 hh7 c17 p e ha hc hk s m _ below hf ((Spec.applies_iff_loose hf).mp happ).1 ⟨rfl, State.Warmed39.refl s, rfl, own_J.start⟩ trivial
  rw [own_law i0 i1 i2] at h3 hq
  refine ⟨n, _, h1, h2, h3, hpost _ _ _ _ _ _ ⟨Cond.after_iff.mpr rfl, Cond.after_iff.mpr (eq_i res_at (Term.int_eval (1)) rfl), trivial⟩ ⟨hq.1, hq.2.1, hq.2.2.1, (hq.2.2.2.sift fun y hy => Or.inr (N y hy)).mono (by decide) (by decide)⟩⟩
theorem main_1_1 : Claimed_1_1 := comes_1 fun _ _ _ _ _ _ h hF => ⟨h.1, hF⟩
theorem main_1_2 : Claimed_1_2 := comes_1 fun _ _ _ _ _ _ h hF => ⟨h.2.1, hF⟩
end Jvm.Pilot.@@N@@
namespace Jvm.Pilot.@@N@@
open Jvm Jvm.ClassFile Sem Op Lib Jvm.Free Jvm.Stand Jvm.Pilot.@@N@@.Jvm.D
/-! MADE BY PROGRAM (witnessworld.py) out of the Statement's table words and the real class files: 31 classes; the members and pool entries that the words name. The judged class is class 1, her method 1. -/
namespace start1
open Jvm.ClassFile
def u (s : String) : CpInfo := .utf8 (stringToUtf16 s)
/-- a pool by its gaps: so many unusable entries, then the entry; so many at the end -/
def gap : Nat → List CpInfo → List CpInfo
  | 0, r => r
  | n + 1, r => .unusable :: gap n r
def poolList (es : List (Nat × CpInfo)) (last : Nat) : List CpInfo := es.foldr (fun e r => gap e.1 (e.2 :: r)) (gap last [])
def pool (es : List (Nat × CpInfo)) (last : Nat) : Array CpInfo := ⟨poolList es last⟩
def fileOf (pool : Array CpInfo) (this : Nat) (attrs : Array Attribute := #[]) (ms : Array MethodInfo := #[]) (fl : Nat := 33) (sup : Nat := 0) (ifs : Array Nat := #[]) (fds : Array FieldInfo := #[]) : ClassFile where
  minorVersion := 0
  majorVersion := 65
  constantPool := pool
  accessFlags := fl
  thisClass := this
  superClass := sup
  interfaces := ifs
  fields := fds
  methods := ms
  attributes := attrs
def plain (name : String) (sup : Option ClassId) : Class where
  name := name
  kind := .ordinary
  loader := none
  accessFlags := 33
  super := sup
  interfaces := #[]
  cf := none
  fields := #[]
  methods := #[]
  instanceTypes := #[]
  staticTypes := #[]
  resolved := #[]
  callSites := []
  init := .initialized
  statics := none
  mirror := none

def pool0 : Array CpInfo := pool [(5, u "<init>"), (0, u "()V"), (1, .class_ 10), (1, u "java/lang/Object")] 113

def k0c0 : Code := { maxStack := 0, maxLocals := 1, code := object_method_1_code, exceptionTable := #[], attributes := #[] }
def k0m0 : Method := { name := "<init>", desc := "()V", sig := { parameters := [], returnType := none }, accessFlags := 1, code := some k0c0 }
/-- java/lang/Object -/
def k0 : Class := { plain "java/lang/Object" none with
  accessFlags := 33
  interfaces := #[]
  cf := some (fileOf pool0 8 #[] #[{ accessFlags := 1, nameIndex := 5, descriptorIndex := 6, attributes := #[] }] 33 0 #[] #[])
  fields := #[]
  methods := #[k0m0]
  instanceTypes := #[]
  staticTypes := #[]
  resolved := Array.replicate 124 none
  statics := none }

def pool1 : Array CpInfo := pool [(2, .class_ 4), (1, u "java/lang/Object"), (0, u "<init>"), (0, u "()V"), (0, .integer 2147483647), (0, .methodref 9 10), (0, .class_ 11), (0, .nameAndType 12 13), (0, u "java/lang/Math"), (0, u "max"), (0, u "(II)I"), (2, .long 9223372036854775807), (1, .methodref 9 19), (0, .nameAndType 12 20), (0, u "(JJ)J"), (0, .methodref 22 23), (0, .class_ 24), (0, .nameAndType 25 26), (0, u "com/example/oncemark/oncemark/ReceiveQueueNeedsRefillPinLaw"), (0, u "message"), (0, u "(JIICC)Lcom/example/oncemark/oncemark/Message;"), (0, .long 2), (1, .class_ 30), (0, u "com/example/oncemark/oncemark/ReceiveQueue"), (0, .methodref 29 32), (0, .nameAndType 5 33), (0, u "(IJ)V"), (0, .methodref 29 35), (0, .nameAndType 36 37), (0, u "add"), (0, u "(Lcom/example/oncemark/oncemark/Message;)V"), (0, .methodref 22 39), (0, .nameAndType 40 41), (0, u "cost"), (0, u "(II)J"), (0, .methodref 29 43), (0, .nameAndType 44 45), (0, u "needsRefill"), (0, u "()Z"), (0, .class_ 47), (0, u "java/lang/String"), (0, .methodref 46 49), (0, .nameAndType 5 50), (0, u "([C)V"), (0, .class_ 52), (0, u "com/example/oncemark/oncemark/Message"), (0, .string 54), (0, u "p"), (0, .methodref 51 56), (0, .nameAndType 5 57), (0, u "(JLjava/lang/String;JLjava/lang/String;[B)V"), (2, u "law"), (0, u "(IJII)Z")] 7

def k1m0 : Method := { name := "<init>", desc := "()V", sig := { parameters := [], returnType := none }, accessFlags := 1, code := none }
def k1c1 : Code := { maxStack := 6, maxLocals := 24, code := code, exceptionTable := #[], attributes := #[] }
def k1m1 : Method := { name := "law", desc := "(IJII)Z", sig := { parameters := [.int, .long, .int, .int], returnType := some .boolean }, accessFlags := 9, code := some k1c1 }
def k1c2 : Code := { maxStack := 4, maxLocals := 2, code := method_3_code, exceptionTable := #[], attributes := #[] }
def k1m2 : Method := { name := "cost", desc := "(II)J", sig := { parameters := [.int, .int], returnType := some .long }, accessFlags := 10, code := some k1c2 }
def k1c3 : Code := { maxStack := 9, maxLocals := 9, code := method_4_code, exceptionTable := #[], attributes := #[] }
def k1m3 : Method := { name := "message", desc := "(JIICC)Lcom/example/oncemark/oncemark/Message;", sig := { parameters := [.long, .int, .int, .char, .char], returnType := some (.object "com/example/oncemark/oncemark/Message") }, accessFlags := 10, code := some k1c3 }
/-- com/example/oncemark/oncemark/ReceiveQueueNeedsRefillPinLaw -/
def k1 : Class := { plain "com/example/oncemark/oncemark/ReceiveQueueNeedsRefillPinLaw" (some 0) with
  accessFlags := 49
  interfaces := #[]
  cf := some (fileOf pool1 22 #[] #[{ accessFlags := 1, nameIndex := 5, descriptorIndex := 6, attributes := #[] }, { accessFlags := 9, nameIndex := 60, descriptorIndex := 61, attributes := #[] }, { accessFlags := 10, nameIndex := 40, descriptorIndex := 41, attributes := #[] }, { accessFlags := 10, nameIndex := 25, descriptorIndex := 26, attributes := #[] }] 49 2 #[] #[])
  fields := #[]
  methods := #[k1m0, k1m1, k1m2, k1m3]
  instanceTypes := #[]
  staticTypes := #[]
  resolved := Array.replicate 69 none
  statics := none }

def pool2 : Array CpInfo := pool [(1, .class_ 2), (0, u "java/lang/Math"), (1, .class_ 6), (1, u "java/lang/Object"), (0, u "<init>"), (0, u "()V"), (89, .class_ 100), (1, u "java/lang/Math$RandomNumberGeneratorHolder"), (20, u "(JJ)J"), (50, u "negativeZeroFloatBits"), (0, u "J"), (2, u "negativeZeroDoubleBits"), (21, u "max"), (46, u "$assertionsDisabled"), (0, u "Z"), (88, u "(II)I"), (2, u "twoToTheDoubleScaleDown"), (0, u "D"), (4, u "twoToTheDoubleScaleUp"), (9, u "E"), (3, u "PI"), (2, u "TAU"), (2, u "DEGREES_TO_RADIANS"), (0, u "RADIANS_TO_DEGREES")] 94

def k2m0 : Method := { name := "<init>", desc := "()V", sig := { parameters := [], returnType := none }, accessFlags := 2, code := none }
def k2c1 : Code := { maxStack := 2, maxLocals := 2, code := jdk_29_method_65_code, exceptionTable := #[], attributes := #[] }
def k2m1 : Method := { name := "max", desc := "(II)I", sig := { parameters := [.int, .int], returnType := some .int }, accessFlags := 9, code := some k2c1 }
def k2c2 : Code := { maxStack := 4, maxLocals := 4, code := jdk_29_method_66_code, exceptionTable := #[], attributes := #[] }
def k2m2 : Method := { name := "max", desc := "(JJ)J", sig := { parameters := [.long, .long], returnType := some .long }, accessFlags := 9, code := some k2c2 }
/-- java/lang/Math -/
def k2 : Class := { plain "java/lang/Math" (some 0) with
  accessFlags := 49
  interfaces := #[]
  cf := some (fileOf pool2 1 #[.nestMembers #[98]] #[{ accessFlags := 2, nameIndex := 7, descriptorIndex := 8, attributes := #[] }, { accessFlags := 9, nameIndex := 198, descriptorIndex := 335, attributes := #[] }, { accessFlags := 9, nameIndex := 198, descriptorIndex := 121, attributes := #[] }] 49 4 #[] #[{ accessFlags := 25, nameIndex := 354, descriptorIndex := 339, attributes := #[] }, { accessFlags := 25, nameIndex := 358, descriptorIndex := 339, attributes := #[] }, { accessFlags := 25, nameIndex := 361, descriptorIndex := 339, attributes := #[] }, { accessFlags := 26, nameIndex := 364, descriptorIndex := 339, attributes := #[] }, { accessFlags := 26, nameIndex := 365, descriptorIndex := 339, attributes := #[] }, { accessFlags := 26, nameIndex := 172, descriptorIndex := 173, attributes := #[] }, { accessFlags := 26, nameIndex := 176, descriptorIndex := 173, attributes := #[] }, { accessFlags := 8, nameIndex := 344, descriptorIndex := 339, attributes := #[] }, { accessFlags := 8, nameIndex := 338, descriptorIndex := 339, attributes := #[] }, { accessFlags := 4120, nameIndex := 245, descriptorIndex := 246, attributes := #[] }])
  fields := #[{ name := "E", type := .double, accessFlags := 25, slot := 0, constantValue := 0 }, { name := "PI", type := .double, accessFlags := 25, slot := 1, constantValue := 0 }, { name := "TAU", type := .double, accessFlags := 25, slot := 2, constantValue := 0 }, { name := "DEGREES_TO_RADIANS", type := .double, accessFlags := 26, slot := 3, constantValue := 0 }, { name := "RADIANS_TO_DEGREES", type := .double, accessFlags := 26, slot := 4, constantValue := 0 }, { name := "negativeZeroFloatBits", type := .long, accessFlags := 26, slot := 5, constantValue := 0 }, { name := "negativeZeroDoubleBits", type := .long, accessFlags := 26, slot := 6, constantValue := 0 }, { name := "twoToTheDoubleScaleUp", type := .double, accessFlags := 8, slot := 7, constantValue := 0 }, { name := "twoToTheDoubleScaleDown", type := .double, accessFlags := 8, slot := 8, constantValue := 0 }, { name := "$assertionsDisabled", type := .boolean, accessFlags := 4120, slot := 9, constantValue := 0 }]
  methods := #[k2m0, k2m1, k2m2]
  instanceTypes := #[]
  staticTypes := #[.double, .double, .double, .double, .double, .long, .long, .double, .double, .boolean]
  resolved := Array.replicate 460 none
  statics := none }

def pool3 : Array CpInfo := pool [(1, .methodref 2 3), (0, .class_ 4), (0, .nameAndType 5 6), (0, u "java/lang/Object"), (0, u "<init>"), (0, u "()V"), (0, .class_ 8), (0, u "java/lang/Record")] 13

def k3c0 : Code := { maxStack := 1, maxLocals := 1, code := jdk_30_method_1_code, exceptionTable := #[], attributes := #[] }
def k3m0 : Method := { name := "<init>", desc := "()V", sig := { parameters := [], returnType := none }, accessFlags := 4, code := some k3c0 }
/-- java/lang/Record -/
def k3 : Class := { plain "java/lang/Record" (some 0) with
  accessFlags := 1057
  interfaces := #[]
  cf := some (fileOf pool3 7 #[] #[{ accessFlags := 4, nameIndex := 5, descriptorIndex := 6, attributes := #[] }] 1057 2 #[] #[])
  fields := #[]
  methods := #[k3m0]
  instanceTypes := #[]
  staticTypes := #[]
  resolved := Array.replicate 22 none
  statics := none }

def pool4 : Array CpInfo := pool [(1, .methodref 2 3), (0, .class_ 4), (0, .nameAndType 5 6), (0, u "java/lang/Record"), (0, u "<init>"), (0, u "()V"), (0, .fieldref 8 9), (0, .class_ 10), (0, .nameAndType 11 12), (0, u "com/example/oncemark/oncemark/Message"), (0, u "id"), (0, u "J"), (0, .fieldref 8 14), (0, .nameAndType 15 16), (0, u "producer"), (0, u "Ljava/lang/String;"), (0, .fieldref 8 18), (0, .nameAndType 19 12), (0, u "sequenceId"), (0, .fieldref 8 21), (0, .nameAndType 22 16), (0, u "key"), (0, .fieldref 8 24), (0, .nameAndType 25 26), (0, u "payload"), (0, u "[B"), (12, u "(JLjava/lang/String;JLjava/lang/String;[B)V"), (3, u "()Ljava/lang/String;"), (3, u "()[B")] 24

def k4c0 : Code := { maxStack := 3, maxLocals := 8, code := prog_15_method_1_code, exceptionTable := #[], attributes := #[] }
def k4m0 : Method := { name := "<init>", desc := "(JLjava/lang/String;JLjava/lang/String;[B)V", sig := { parameters := [.long, (.object "java/lang/String"), .long, (.object "java/lang/String"), (.array .byte)], returnType := none }, accessFlags := 1, code := some k4c0 }
def k4c1 : Code := { maxStack := 1, maxLocals := 1, code := prog_15_method_8_code, exceptionTable := #[], attributes := #[] }
def k4m1 : Method := { name := "key", desc := "()Ljava/lang/String;", sig := { parameters := [], returnType := some (.object "java/lang/String") }, accessFlags := 1, code := some k4c1 }
def k4c2 : Code := { maxStack := 1, maxLocals := 1, code := prog_15_method_9_code, exceptionTable := #[], attributes := #[] }
def k4m2 : Method := { name := "payload", desc := "()[B", sig := { parameters := [], returnType := some (.array .byte) }, accessFlags := 1, code := some k4c2 }
/-- com/example/oncemark/oncemark/Message -/
def k4 : Class := { plain "com/example/oncemark/oncemark/Message" (some 3) with
  accessFlags := 49
  interfaces := #[]
  cf := some (fileOf pool4 8 #[] #[{ accessFlags := 1, nameIndex := 5, descriptorIndex := 39, attributes := #[] }, { accessFlags := 1, nameIndex := 22, descriptorIndex := 43, attributes := #[] }, { accessFlags := 1, nameIndex := 25, descriptorIndex := 47, attributes := #[] }] 49 2 #[] #[{ accessFlags := 18, nameIndex := 11, descriptorIndex := 12, attributes := #[] }, { accessFlags := 18, nameIndex := 15, descriptorIndex := 16, attributes := #[] }, { accessFlags := 18, nameIndex := 19, descriptorIndex := 12, attributes := #[] }, { accessFlags := 18, nameIndex := 22, descriptorIndex := 16, attributes := #[] }, { accessFlags := 18, nameIndex := 25, descriptorIndex := 26, attributes := #[] }])
  fields := #[{ name := "id", type := .long, accessFlags := 18, slot := 0, constantValue := 0 }, { name := "producer", type := (.object "java/lang/String"), accessFlags := 18, slot := 1, constantValue := 0 }, { name := "sequenceId", type := .long, accessFlags := 18, slot := 2, constantValue := 0 }, { name := "key", type := (.object "java/lang/String"), accessFlags := 18, slot := 3, constantValue := 0 }, { name := "payload", type := (.array .byte), accessFlags := 18, slot := 4, constantValue := 0 }]
  methods := #[k4m0, k4m1, k4m2]
  instanceTypes := #[.long, (.object "java/lang/String"), .long, (.object "java/lang/String"), (.array .byte)]
  staticTypes := #[]
  resolved := Array.replicate 72 none
  statics := none }

def pool5 : Array CpInfo := pool [(1, .class_ 2), (0, u "java/io/Serializable"), (0, .class_ 4), (0, u "java/lang/Object")] 2

/-- java/io/Serializable -/
def k5 : Class := { plain "java/io/Serializable" (some 0) with
  accessFlags := 1537
  interfaces := #[]
  cf := some (fileOf pool5 1 #[] #[] 1537 3 #[] #[])
  fields := #[]
  methods := #[]
  instanceTypes := #[]
  staticTypes := #[]
  resolved := Array.replicate 7 none
  statics := none }

def pool6 : Array CpInfo := pool [(1, .class_ 2), (0, u "java/lang/Comparable"), (0, .class_ 4), (0, u "java/lang/Object")] 7

/-- java/lang/Comparable -/
def k6 : Class := { plain "java/lang/Comparable" (some 0) with
  accessFlags := 1537
  interfaces := #[]
  cf := some (fileOf pool6 1 #[] #[] 1537 3 #[] #[])
  fields := #[]
  methods := #[]
  instanceTypes := #[]
  staticTypes := #[]
  resolved := Array.replicate 12 none
  statics := none }

def pool7 : Array CpInfo := pool [(2, .class_ 4), (1, u "java/lang/CharSequence"), (42, .class_ 48), (0, u "java/lang/CharSequence$1CodePointIterator"), (10, .class_ 60), (0, u "java/lang/CharSequence$1CharIterator"), (5, .class_ 67), (0, u "java/lang/Object")] 63

/-- java/lang/CharSequence -/
def k7 : Class := { plain "java/lang/CharSequence" (some 0) with
  accessFlags := 1537
  interfaces := #[]
  cf := some (fileOf pool7 2 #[.nestMembers #[47, 59]] #[] 1537 66 #[] #[])
  fields := #[]
  methods := #[]
  instanceTypes := #[]
  staticTypes := #[]
  resolved := Array.replicate 131 none
  statics := none }

def pool8 : Array CpInfo := pool [(1, .class_ 2), (0, u "java/lang/constant/Constable"), (0, .class_ 4), (0, u "java/lang/Object")] 6

/-- java/lang/constant/Constable -/
def k8 : Class := { plain "java/lang/constant/Constable" (some 0) with
  accessFlags := 1537
  interfaces := #[]
  cf := some (fileOf pool8 1 #[] #[] 1537 3 #[] #[])
  fields := #[]
  methods := #[]
  instanceTypes := #[]
  staticTypes := #[]
  resolved := Array.replicate 11 none
  statics := none }

def pool9 : Array CpInfo := pool [(1, .class_ 2), (0, u "java/lang/constant/ConstantDesc"), (0, .class_ 4), (0, u "java/lang/Object")] 32

/-- java/lang/constant/ConstantDesc -/
def k9 : Class := { plain "java/lang/constant/ConstantDesc" (some 0) with
  accessFlags := 1537
  interfaces := #[]
  cf := some (fileOf pool9 1 #[] #[] 1537 3 #[] #[])
  fields := #[]
  methods := #[]
  instanceTypes := #[]
  staticTypes := #[]
  resolved := Array.replicate 37 none
  statics := none }

def pool10 : Array CpInfo := pool [(1, .methodref 2 3), (0, .class_ 4), (0, .nameAndType 5 6), (0, u "java/lang/Object"), (0, u "<init>"), (0, u "()V"), (0, .string 8), (0, u ""), (0, .fieldref 10 11), (0, .class_ 12), (0, .nameAndType 13 14), (0, u "java/lang/String"), (0, u "value"), (0, u "[B"), (0, .fieldref 10 16), (0, .nameAndType 17 18), (0, u "coder"), (0, u "B"), (2, u "hash"), (0, u "I"), (2, u "hashIsZero"), (0, u "Z"), (0, .methodref 10 28), (0, .nameAndType 5 29), (0, u "([CIILjava/lang/Void;)V"), (8, .fieldref 10 39), (0, .nameAndType 40 26), (0, u "COMPACT_STRINGS"), (1, .class_ 44), (1, u "java/lang/StringUTF16"), (0, u "compress"), (1, .methodref 42 48), (0, .nameAndType 49 50), (0, u "coderFromArrayLen"), (0, u "([BI)B"), (126, .methodref 42 178), (0, .nameAndType 45 179), (0, u "([CII)[B"), (154, u "()I"), (0, .methodref 10 336), (0, .nameAndType 17 337), (0, u "()B"), (169, u "length"), (67, .class_ 576), (0, u "java/lang/CharSequence"), (22, u "CASE_INSENSITIVE_ORDER"), (0, u "Ljava/util/Comparator;"), (409, u "([C)V"), (90, u "serialPersistentFields"), (0, u "[Ljava/io/ObjectStreamField;"), (0, .class_ 1104), (0, u "java/lang/String$CaseInsensitiveComparator"), (1, .class_ 1107), (0, u "java/io/Serializable"), (0, .class_ 1109), (0, u "java/lang/Comparable"), (0, .class_ 1111), (0, u "java/lang/constant/Constable"), (0, .class_ 1113), (0, u "java/lang/constant/ConstantDesc"), (2, u "serialVersionUID"), (0, u "J"), (3, u "REPL"), (0, u "C"), (2, u "LATIN1"), (1, u "UTF16")] 323

def k10m0 : Method := { name := "<init>", desc := "()V", sig := { parameters := [], returnType := none }, accessFlags := 1, code := none }
def k10c1 : Code := { maxStack := 5, maxLocals := 2, code := jdk_42_method_3_code, exceptionTable := #[], attributes := #[] }
def k10m1 : Method := { name := "<init>", desc := "([C)V", sig := { parameters := [(.array .char)], returnType := none }, accessFlags := 1, code := some k10c1 }
def k10c2 : Code := { maxStack := 2, maxLocals := 1, code := jdk_42_method_54_code, exceptionTable := #[], attributes := #[] }
def k10m2 : Method := { name := "length", desc := "()I", sig := { parameters := [], returnType := some .int }, accessFlags := 1, code := some k10c2 }
def k10c3 : Code := { maxStack := 4, maxLocals := 6, code := jdk_42_method_149_code, exceptionTable := #[], attributes := #[] }
def k10m3 : Method := { name := "<init>", desc := "([CIILjava/lang/Void;)V", sig := { parameters := [(.array .char), .int, .int, (.object "java/lang/Void")], returnType := none }, accessFlags := 2, code := some k10c3 }
def k10c4 : Code := { maxStack := 1, maxLocals := 1, code := jdk_42_method_152_code, exceptionTable := #[], attributes := #[] }
def k10m4 : Method := { name := "coder", desc := "()B", sig := { parameters := [], returnType := some .byte }, accessFlags := 0, code := some k10c4 }
/-- java/lang/String -/
def k10 : Class := { plain "java/lang/String" (some 0) with
  accessFlags := 49
  interfaces := #[5, 6, 7, 8, 9]
  cf := some (fileOf pool10 10 #[.nestMembers #[1103]] #[{ accessFlags := 1, nameIndex := 5, descriptorIndex := 6, attributes := #[] }, { accessFlags := 1, nameIndex := 5, descriptorIndex := 1010, attributes := #[] }, { accessFlags := 1, nameIndex := 507, descriptorIndex := 334, attributes := #[] }, { accessFlags := 2, nameIndex := 5, descriptorIndex := 29, attributes := #[] }, { accessFlags := 0, nameIndex := 17, descriptorIndex := 337, attributes := #[] }] 49 2 #[1106, 1108, 575, 1110, 1112] #[{ accessFlags := 18, nameIndex := 13, descriptorIndex := 14, attributes := #[] }, { accessFlags := 18, nameIndex := 17, descriptorIndex := 18, attributes := #[] }, { accessFlags := 2, nameIndex := 21, descriptorIndex := 22, attributes := #[] }, { accessFlags := 2, nameIndex := 25, descriptorIndex := 26, attributes := #[] }, { accessFlags := 26, nameIndex := 1116, descriptorIndex := 1117, attributes := #[] }, { accessFlags := 24, nameIndex := 40, descriptorIndex := 26, attributes := #[] }, { accessFlags := 26, nameIndex := 1101, descriptorIndex := 1102, attributes := #[] }, { accessFlags := 26, nameIndex := 1121, descriptorIndex := 1122, attributes := #[] }, { accessFlags := 25, nameIndex := 599, descriptorIndex := 600, attributes := #[] }, { accessFlags := 24, nameIndex := 1125, descriptorIndex := 18, attributes := #[] }, { accessFlags := 24, nameIndex := 1127, descriptorIndex := 18, attributes := #[] }])
  fields := #[{ name := "value", type := (.array .byte), accessFlags := 18, slot := 0, constantValue := 0 }, { name := "coder", type := .byte, accessFlags := 18, slot := 1, constantValue := 0 }, { name := "hash", type := .int, accessFlags := 2, slot := 2, constantValue := 0 }, { name := "hashIsZero", type := .boolean, accessFlags := 2, slot := 3, constantValue := 0 }, { name := "serialVersionUID", type := .long, accessFlags := 26, slot := 0, constantValue := 0 }, { name := "COMPACT_STRINGS", type := .boolean, accessFlags := 24, slot := 1, constantValue := 0 }, { name := "serialPersistentFields", type := (.array (.object "java/io/ObjectStreamField")), accessFlags := 26, slot := 2, constantValue := 0 }, { name := "REPL", type := .char, accessFlags := 26, slot := 3, constantValue := 0 }, { name := "CASE_INSENSITIVE_ORDER", type := (.object "java/util/Comparator"), accessFlags := 25, slot := 4, constantValue := 0 }, { name := "LATIN1", type := .byte, accessFlags := 24, slot := 5, constantValue := 0 }, { name := "UTF16", type := .byte, accessFlags := 24, slot := 6, constantValue := 0 }]
  methods := #[k10m0, k10m1, k10m2, k10m3, k10m4]
  instanceTypes := #[(.array .byte), .byte, .int, .boolean]
  staticTypes := #[.long, .boolean, (.array (.object "java/io/ObjectStreamField")), .char, (.object "java/util/Comparator"), .byte, .byte]
  resolved := Array.replicate 1451 none
  statics := some 0 }

def pool11 : Array CpInfo := pool [(1, .methodref 2 3), (0, .class_ 4), (0, .nameAndType 5 6), (0, u "java/lang/Object"), (0, u "<init>"), (0, u "()V"), (0, .class_ 8), (0, u "java/util/ArrayDeque"), (0, .methodref 7 3), (0, .fieldref 11 12), (0, .class_ 13), (0, .nameAndType 14 15), (0, u "com/example/oncemark/oncemark/ReceiveQueue"), (0, u "messages"), (0, u "Ljava/util/Deque;"), (0, .fieldref 11 17), (0, .nameAndType 18 19), (0, u "maxMessages"), (0, u "I"), (0, .fieldref 11 21), (0, .nameAndType 22 23), (0, u "maxBytes"), (0, u "J"), (0, .methodref 25 26), (0, .class_ 27), (0, .nameAndType 28 29), (0, u "com/example/oncemark/oncemark/Message"), (0, u "key"), (0, u "()Ljava/lang/String;"), (0, .methodref 25 31), (0, .nameAndType 32 33), (0, u "payload"), (0, u "()[B"), (0, .methodref 35 36), (0, .class_ 37), (0, .nameAndType 38 39), (0, u "java/lang/String"), (0, u "length"), (0, u "()I"), (0, .interfaceMethodref 41 42), (0, .class_ 43), (0, .nameAndType 44 39), (0, u "java/util/Deque"), (0, u "size"), (0, .fieldref 11 46), (0, .nameAndType 47 23), (0, u "bytes"), (0, .long 2), (1, .interfaceMethodref 41 51), (0, .nameAndType 52 53), (0, u "add"), (0, u "(Ljava/lang/Object;)Z"), (0, .methodref 11 55), (0, .nameAndType 47 56), (0, u "(Lcom/example/oncemark/oncemark/Message;)J"), (13, u "()Z"), (21, u "(IJ)V"), (3, u "needsRefill"), (2, u "(Lcom/example/oncemark/oncemark/Message;)V")] 5

def k11c0 : Code := { maxStack := 3, maxLocals := 4, code := prog_24_method_1_code, exceptionTable := #[], attributes := #[] }
def k11m0 : Method := { name := "<init>", desc := "(IJ)V", sig := { parameters := [.int, .long], returnType := none }, accessFlags := 0, code := some k11c0 }
def k11c1 : Code := { maxStack := 2, maxLocals := 2, code := prog_24_method_2_code, exceptionTable := #[], attributes := #[] }
def k11m1 : Method := { name := "bytes", desc := "(Lcom/example/oncemark/oncemark/Message;)J", sig := { parameters := [(.object "com/example/oncemark/oncemark/Message")], returnType := some .long }, accessFlags := 8, code := some k11c1 }
def k11c2 : Code := { maxStack := 6, maxLocals := 1, code := prog_24_method_4_code, exceptionTable := #[], attributes := #[] }
def k11m2 : Method := { name := "needsRefill", desc := "()Z", sig := { parameters := [], returnType := some .boolean }, accessFlags := 0, code := some k11c2 }
def k11c3 : Code := { maxStack := 5, maxLocals := 2, code := prog_24_method_7_code, exceptionTable := #[], attributes := #[] }
def k11m3 : Method := { name := "add", desc := "(Lcom/example/oncemark/oncemark/Message;)V", sig := { parameters := [(.object "com/example/oncemark/oncemark/Message")], returnType := none }, accessFlags := 0, code := some k11c3 }
/-- com/example/oncemark/oncemark/ReceiveQueue -/
def k11 : Class := { plain "com/example/oncemark/oncemark/ReceiveQueue" (some 0) with
  accessFlags := 48
  interfaces := #[]
  cf := some (fileOf pool11 11 #[] #[{ accessFlags := 0, nameIndex := 5, descriptorIndex := 92, attributes := #[] }, { accessFlags := 8, nameIndex := 47, descriptorIndex := 56, attributes := #[] }, { accessFlags := 0, nameIndex := 96, descriptorIndex := 70, attributes := #[] }, { accessFlags := 0, nameIndex := 52, descriptorIndex := 99, attributes := #[] }] 48 2 #[] #[{ accessFlags := 18, nameIndex := 14, descriptorIndex := 15, attributes := #[] }, { accessFlags := 18, nameIndex := 18, descriptorIndex := 19, attributes := #[] }, { accessFlags := 18, nameIndex := 22, descriptorIndex := 23, attributes := #[] }, { accessFlags := 2, nameIndex := 47, descriptorIndex := 23, attributes := #[] }])
  fields := #[{ name := "messages", type := (.object "java/util/Deque"), accessFlags := 18, slot := 0, constantValue := 0 }, { name := "maxMessages", type := .int, accessFlags := 18, slot := 1, constantValue := 0 }, { name := "maxBytes", type := .long, accessFlags := 18, slot := 2, constantValue := 0 }, { name := "bytes", type := .long, accessFlags := 2, slot := 3, constantValue := 0 }]
  methods := #[k11m0, k11m1, k11m2, k11m3]
  instanceTypes := #[(.object "java/util/Deque"), .int, .long, .long]
  staticTypes := #[]
  resolved := Array.replicate 105 none
  statics := none }

def pool12 : Array CpInfo := pool [(8, .class_ 10), (1, u "java/lang/Iterable"), (24, .class_ 36), (0, u "java/lang/Object")] 25

/-- java/lang/Iterable -/
def k12 : Class := { plain "java/lang/Iterable" (some 0) with
  accessFlags := 1537
  interfaces := #[]
  cf := some (fileOf pool12 8 #[] #[] 1537 35 #[] #[])
  fields := #[]
  methods := #[]
  instanceTypes := #[]
  staticTypes := #[]
  resolved := Array.replicate 62 none
  statics := none }

def pool13 : Array CpInfo := pool [(10, .class_ 12), (1, u "java/util/Collection"), (47, .class_ 61), (0, u "java/lang/Object"), (0, .class_ 63), (0, u "java/lang/Iterable")] 51

/-- java/util/Collection -/
def k13 : Class := { plain "java/util/Collection" (some 0) with
  accessFlags := 1537
  interfaces := #[12]
  cf := some (fileOf pool13 10 #[] #[] 1537 60 #[62] #[])
  fields := #[]
  methods := #[]
  instanceTypes := #[]
  staticTypes := #[]
  resolved := Array.replicate 115 none
  statics := none }

def pool14 : Array CpInfo := pool [(1, .methodref 2 3), (0, .class_ 4), (0, .nameAndType 5 6), (0, u "java/lang/Object"), (0, u "<init>"), (0, u "()V"), (1, .class_ 10), (1, u "java/util/AbstractCollection"), (66, .class_ 78), (0, u "java/util/Collection")] 81

def k14c0 : Code := { maxStack := 1, maxLocals := 1, code := jdk_22_method_1_code, exceptionTable := #[], attributes := #[] }
def k14m0 : Method := { name := "<init>", desc := "()V", sig := { parameters := [], returnType := none }, accessFlags := 4, code := some k14c0 }
/-- java/util/AbstractCollection -/
def k14 : Class := { plain "java/util/AbstractCollection" (some 0) with
  accessFlags := 1057
  interfaces := #[13]
  cf := some (fileOf pool14 8 #[] #[{ accessFlags := 4, nameIndex := 5, descriptorIndex := 6, attributes := #[] }] 1057 2 #[77] #[])
  fields := #[]
  methods := #[k14m0]
  instanceTypes := #[]
  staticTypes := #[]
  resolved := Array.replicate 160 none
  statics := none }

def pool15 : Array CpInfo := pool [(1, .class_ 2), (0, u "java/util/Queue"), (0, .class_ 4), (0, u "java/lang/Object"), (0, .class_ 6), (0, u "java/util/Collection")] 14

/-- java/util/Queue -/
def k15 : Class := { plain "java/util/Queue" (some 0) with
  accessFlags := 1537
  interfaces := #[13]
  cf := some (fileOf pool15 1 #[] #[] 1537 3 #[5] #[])
  fields := #[]
  methods := #[]
  instanceTypes := #[]
  staticTypes := #[]
  resolved := Array.replicate 21 none
  statics := none }

def pool16 : Array CpInfo := pool [(8, .class_ 10), (1, u "java/util/SequencedCollection"), (15, .class_ 27), (0, u "java/lang/Object"), (0, .class_ 29), (0, u "java/util/Collection")] 27

/-- java/util/SequencedCollection -/
def k16 : Class := { plain "java/util/SequencedCollection" (some 0) with
  accessFlags := 1537
  interfaces := #[13]
  cf := some (fileOf pool16 8 #[] #[] 1537 26 #[28] #[])
  fields := #[]
  methods := #[]
  instanceTypes := #[]
  staticTypes := #[]
  resolved := Array.replicate 57 none
  statics := none }

def pool17 : Array CpInfo := pool [(8, .class_ 10), (1, u "java/util/Deque"), (2, .class_ 14), (0, u "java/lang/Object"), (0, .class_ 16), (0, u "java/util/Queue"), (0, .class_ 18), (0, u "java/util/SequencedCollection"), (6, u "(Ljava/lang/Object;)Z"), (14, u "add"), (11, u "size"), (0, u "()I")] 16

def k17m0 : Method := { name := "add", desc := "(Ljava/lang/Object;)Z", sig := { parameters := [(.object "java/lang/Object")], returnType := some .boolean }, accessFlags := 1025, code := none }
def k17m1 : Method := { name := "size", desc := "()I", sig := { parameters := [], returnType := some .int }, accessFlags := 1025, code := none }
/-- java/util/Deque -/
def k17 : Class := { plain "java/util/Deque" (some 0) with
  accessFlags := 1537
  interfaces := #[15, 16]
  cf := some (fileOf pool17 8 #[] #[{ accessFlags := 1025, nameIndex := 40, descriptorIndex := 25, attributes := #[] }, { accessFlags := 1025, nameIndex := 52, descriptorIndex := 53, attributes := #[] }] 1537 13 #[15, 17] #[])
  fields := #[]
  methods := #[k17m0, k17m1]
  instanceTypes := #[]
  staticTypes := #[]
  resolved := Array.replicate 70 none
  statics := none }

def pool18 : Array CpInfo := pool [(1, .class_ 2), (0, u "java/lang/Cloneable"), (0, .class_ 4), (0, u "java/lang/Object")] 2

/-- java/lang/Cloneable -/
def k18 : Class := { plain "java/lang/Cloneable" (some 0) with
  accessFlags := 1537
  interfaces := #[]
  cf := some (fileOf pool18 1 #[] #[] 1537 3 #[] #[])
  fields := #[]
  methods := #[]
  instanceTypes := #[]
  staticTypes := #[]
  resolved := Array.replicate 7 none
  statics := none }

def pool19 : Array CpInfo := pool [(3, .fieldref 4 5), (0, .class_ 6), (0, .nameAndType 7 8), (0, u "java/util/ArrayDeque"), (0, u "elements"), (0, u "[Ljava/lang/Object;"), (4, u "(II)I"), (6, .fieldref 4 21), (0, .nameAndType 22 23), (0, u "tail"), (0, u "I"), (0, .fieldref 4 25), (0, .nameAndType 26 23), (0, u "head"), (12, u "<init>"), (2, .methodref 43 44), (0, .class_ 45), (0, .nameAndType 39 46), (0, u "java/util/AbstractCollection"), (0, u "()V"), (0, .class_ 48), (0, u "java/lang/Object"), (4, u "size"), (0, u "()I"), (19, .methodref 4 75), (0, .nameAndType 76 13), (0, u "inc"), (12, u "(Ljava/lang/Object;)V"), (0, .methodref 4 91), (0, .nameAndType 92 89), (0, u "addLast"), (17, u "(Ljava/lang/Object;)Z"), (16, .methodref 4 128), (0, .nameAndType 129 130), (0, u "sub"), (0, u "(III)I"), (0, .class_ 132), (0, u "java/util/ArrayDeque$DeqIterator"), (3, .class_ 137), (0, u "java/util/ArrayDeque$DescendingIterator"), (1, .class_ 140), (0, u "java/util/ArrayDeque$DeqSpliterator"), (137, .class_ 279), (0, u "java/util/Deque"), (0, .class_ 281), (0, u "java/lang/Cloneable"), (0, .class_ 283), (0, u "java/io/Serializable"), (0, u "MAX_ARRAY_SIZE"), (1, u "serialVersionUID"), (0, u "J"), (48, u "add")] 101

def k19c0 : Code := { maxStack := 2, maxLocals := 1, code := jdk_21_method_3_code, exceptionTable := #[], attributes := #[] }
def k19m0 : Method := { name := "<init>", desc := "()V", sig := { parameters := [], returnType := none }, accessFlags := 1, code := some k19c0 }
def k19c1 : Code := { maxStack := 2, maxLocals := 2, code := jdk_21_method_6_code, exceptionTable := #[], attributes := #[] }
def k19m1 : Method := { name := "inc", desc := "(II)I", sig := { parameters := [.int, .int], returnType := some .int }, accessFlags := 24, code := some k19c1 }
def k19c2 : Code := { maxStack := 2, maxLocals := 3, code := jdk_21_method_9_code, exceptionTable := #[], attributes := #[] }
def k19m2 : Method := { name := "sub", desc := "(III)I", sig := { parameters := [.int, .int, .int], returnType := some .int }, accessFlags := 24, code := some k19c2 }
def k19c3 : Code := { maxStack := 4, maxLocals := 3, code := jdk_21_method_13_code, exceptionTable := #[], attributes := #[] }
def k19m3 : Method := { name := "addLast", desc := "(Ljava/lang/Object;)V", sig := { parameters := [(.object "java/lang/Object")], returnType := none }, accessFlags := 1, code := some k19c3 }
def k19c4 : Code := { maxStack := 2, maxLocals := 2, code := jdk_21_method_28_code, exceptionTable := #[], attributes := #[] }
def k19m4 : Method := { name := "add", desc := "(Ljava/lang/Object;)Z", sig := { parameters := [(.object "java/lang/Object")], returnType := some .boolean }, accessFlags := 1, code := some k19c4 }
def k19c5 : Code := { maxStack := 3, maxLocals := 1, code := jdk_21_method_37_code, exceptionTable := #[], attributes := #[] }
def k19m5 : Method := { name := "size", desc := "()I", sig := { parameters := [], returnType := some .int }, accessFlags := 1, code := some k19c5 }
/-- java/util/ArrayDeque -/
def k19 : Class := { plain "java/util/ArrayDeque" (some 14) with
  accessFlags := 33
  interfaces := #[17, 18, 5]
  cf := some (fileOf pool19 4 #[.nestMembers #[139, 136, 131]] #[{ accessFlags := 1, nameIndex := 39, descriptorIndex := 46, attributes := #[] }, { accessFlags := 24, nameIndex := 76, descriptorIndex := 13, attributes := #[] }, { accessFlags := 24, nameIndex := 129, descriptorIndex := 130, attributes := #[] }, { accessFlags := 1, nameIndex := 92, descriptorIndex := 89, attributes := #[] }, { accessFlags := 1, nameIndex := 336, descriptorIndex := 110, attributes := #[] }, { accessFlags := 1, nameIndex := 53, descriptorIndex := 54, attributes := #[] }] 33 43 #[278, 280, 282] #[{ accessFlags := 128, nameIndex := 7, descriptorIndex := 8, attributes := #[] }, { accessFlags := 128, nameIndex := 26, descriptorIndex := 23, attributes := #[] }, { accessFlags := 128, nameIndex := 22, descriptorIndex := 23, attributes := #[] }, { accessFlags := 26, nameIndex := 284, descriptorIndex := 23, attributes := #[] }, { accessFlags := 26, nameIndex := 286, descriptorIndex := 287, attributes := #[] }])
  fields := #[{ name := "elements", type := (.array (.object "java/lang/Object")), accessFlags := 128, slot := 0, constantValue := 0 }, { name := "head", type := .int, accessFlags := 128, slot := 1, constantValue := 0 }, { name := "tail", type := .int, accessFlags := 128, slot := 2, constantValue := 0 }, { name := "MAX_ARRAY_SIZE", type := .int, accessFlags := 26, slot := 0, constantValue := 0 }, { name := "serialVersionUID", type := .long, accessFlags := 26, slot := 1, constantValue := 0 }]
  methods := #[k19m0, k19m1, k19m2, k19m3, k19m4, k19m5]
  instanceTypes := #[(.array (.object "java/lang/Object")), .int, .int]
  staticTypes := #[.int, .long]
  resolved := Array.replicate 438 none
  statics := none }

def pool20 : Array CpInfo := pool [(6, .class_ 8), (1, u "java/lang/Object"), (0, u "<init>"), (0, u "()V"), (1, .class_ 14), (1, u "java/lang/StringUTF16"), (31, u "$assertionsDisabled"), (0, u "Z"), (13, u "HI_BYTE_SHIFT"), (0, u "I"), (2, u "LO_BYTE_SHIFT"), (49, .methodref 12 116), (0, .nameAndType 117 118), (0, u "compress"), (0, u "([CI[BII)I"), (3, u "([CII)[B"), (138, u "coderFromArrayLen"), (0, u "([BI)B"), (106, .class_ 371), (1, u "java/lang/StringUTF16$LinesSpliterator"), (58, u "MAX_LENGTH"), (196, .class_ 628), (0, u "java/lang/StringUTF16$CodePointsSpliterator"), (0, .class_ 630), (0, u "java/lang/StringUTF16$CharsSpliterator")] 4

def k20m0 : Method := { name := "<init>", desc := "()V", sig := { parameters := [], returnType := none }, accessFlags := 0, code := none }
def k20c1 : Code := { maxStack := 2, maxLocals := 2, code := jdk_52_method_15_code, exceptionTable := #[], attributes := #[] }
def k20m1 : Method := { name := "coderFromArrayLen", desc := "([BI)B", sig := { parameters := [(.array .byte), .int], returnType := some .byte }, accessFlags := 8, code := some k20c1 }
def k20c2 : Code := { maxStack := 5, maxLocals := 6, code := jdk_52_method_16_code, exceptionTable := #[], attributes := #[] }
def k20m2 : Method := { name := "compress", desc := "([CII)[B", sig := { parameters := [(.array .char), .int, .int], returnType := some (.array .byte) }, accessFlags := 9, code := some k20c2 }
def k20c3 : Code := { maxStack := 3, maxLocals := 7, code := jdk_52_method_21_code, exceptionTable := #[], attributes := #[] }
def k20m3 : Method := { name := "compress", desc := "([CI[BII)I", sig := { parameters := [(.array .char), .int, (.array .byte), .int, .int], returnType := some .int }, accessFlags := 9, code := some k20c3 }
/-- java/lang/StringUTF16 -/
def k20 : Class := { plain "java/lang/StringUTF16" (some 0) with
  accessFlags := 48
  interfaces := #[]
  cf := some (fileOf pool20 12 #[.nestMembers #[627, 629, 369]] #[{ accessFlags := 0, nameIndex := 9, descriptorIndex := 10, attributes := #[] }, { accessFlags := 8, nameIndex := 261, descriptorIndex := 262, attributes := #[] }, { accessFlags := 9, nameIndex := 117, descriptorIndex := 122, attributes := #[] }, { accessFlags := 9, nameIndex := 117, descriptorIndex := 118, attributes := #[] }] 48 6 #[] #[{ accessFlags := 26, nameIndex := 61, descriptorIndex := 62, attributes := #[] }, { accessFlags := 26, nameIndex := 65, descriptorIndex := 62, attributes := #[] }, { accessFlags := 24, nameIndex := 430, descriptorIndex := 62, attributes := #[] }, { accessFlags := 4120, nameIndex := 46, descriptorIndex := 47, attributes := #[] }])
  fields := #[{ name := "HI_BYTE_SHIFT", type := .int, accessFlags := 26, slot := 0, constantValue := 0 }, { name := "LO_BYTE_SHIFT", type := .int, accessFlags := 26, slot := 1, constantValue := 0 }, { name := "MAX_LENGTH", type := .int, accessFlags := 24, slot := 2, constantValue := 0 }, { name := "$assertionsDisabled", type := .boolean, accessFlags := 4120, slot := 3, constantValue := 0 }]
  methods := #[k20m0, k20m1, k20m2, k20m3]
  instanceTypes := #[]
  staticTypes := #[.int, .int, .int, .boolean]
  resolved := Array.replicate 635 none
  statics := none }

def pool21 : Array CpInfo := pool [(4, .class_ 6), (1, u "java/lang/Object"), (0, u "<init>"), (0, u "()V"), (5, .class_ 16), (1, u "java/lang/StringLatin1"), (104, u "$assertionsDisabled"), (0, u "Z"), (98, .class_ 223), (1, u "java/lang/StringLatin1$LinesSpliterator"), (166, .class_ 391), (0, u "java/lang/StringLatin1$CharsSpliterator")] 3

def k21m0 : Method := { name := "<init>", desc := "()V", sig := { parameters := [], returnType := none }, accessFlags := 0, code := none }
/-- java/lang/StringLatin1 -/
def k21 : Class := { plain "java/lang/StringLatin1" (some 0) with
  accessFlags := 48
  interfaces := #[]
  cf := some (fileOf pool21 14 #[.nestMembers #[390, 221]] #[{ accessFlags := 0, nameIndex := 7, descriptorIndex := 8, attributes := #[] }] 48 4 #[] #[{ accessFlags := 4120, nameIndex := 121, descriptorIndex := 122, attributes := #[] }])
  fields := #[{ name := "$assertionsDisabled", type := .boolean, accessFlags := 4120, slot := 0, constantValue := 0 }]
  methods := #[k21m0]
  instanceTypes := #[]
  staticTypes := #[.boolean]
  resolved := Array.replicate 395 none
  statics := none }

def pool22 : Array CpInfo := pool [(2, .class_ 4), (1, u "java/lang/Object"), (0, u "<init>"), (0, u "()V"), (17, .class_ 26), (1, u "jdk/internal/util/Preconditions"), (28, .class_ 56), (0, u "jdk/internal/util/Preconditions$4"), (57, .class_ 115), (0, u "jdk/internal/util/Preconditions$1"), (7, u "SIOOBE_FORMATTER"), (0, u "Ljava/util/function/BiFunction;"), (0, .class_ 126), (0, u "jdk/internal/util/Preconditions$2"), (3, u "AIOOBE_FORMATTER"), (0, .class_ 132), (0, u "jdk/internal/util/Preconditions$3"), (3, u "IOOBE_FORMATTER")] 57

def k22m0 : Method := { name := "<init>", desc := "()V", sig := { parameters := [], returnType := none }, accessFlags := 1, code := none }
/-- jdk/internal/util/Preconditions -/
def k22 : Class := { plain "jdk/internal/util/Preconditions" (some 0) with
  accessFlags := 33
  interfaces := #[]
  cf := some (fileOf pool22 24 #[.nestMembers #[55, 131, 125, 114]] #[{ accessFlags := 1, nameIndex := 5, descriptorIndex := 6, attributes := #[] }] 33 2 #[] #[{ accessFlags := 25, nameIndex := 123, descriptorIndex := 124, attributes := #[] }, { accessFlags := 25, nameIndex := 130, descriptorIndex := 124, attributes := #[] }, { accessFlags := 25, nameIndex := 136, descriptorIndex := 124, attributes := #[] }])
  fields := #[{ name := "SIOOBE_FORMATTER", type := (.object "java/util/function/BiFunction"), accessFlags := 25, slot := 0, constantValue := 0 }, { name := "AIOOBE_FORMATTER", type := (.object "java/util/function/BiFunction"), accessFlags := 25, slot := 1, constantValue := 0 }, { name := "IOOBE_FORMATTER", type := (.object "java/util/function/BiFunction"), accessFlags := 25, slot := 2, constantValue := 0 }]
  methods := #[k22m0]
  instanceTypes := #[]
  staticTypes := #[(.object "java/util/function/BiFunction"), (.object "java/util/function/BiFunction"), (.object "java/util/function/BiFunction")]
  resolved := Array.replicate 194 none
  statics := some 1 }

def pool23 : Array CpInfo := pool [(9, u "<init>"), (6, .class_ 18), (1, u "java/lang/Object"), (0, u "()V"), (1, .class_ 23), (1, u "jdk/internal/util/ArraysSupport"), (0, u "LOG2_ARRAY_LONG_INDEX_SCALE"), (0, u "I"), (2, u "U"), (0, u "Ljdk/internal/misc/Unsafe;"), (8, u "BIG_ENDIAN"), (0, u "Z"), (8, u "LOG2_BYTE_BIT_SIZE"), (4, u "LOG2_ARRAY_INT_INDEX_SCALE"), (54, u "JLA"), (0, u "Ljdk/internal/access/JavaLangAccess;"), (11, u "LOG2_ARRAY_BOOLEAN_INDEX_SCALE"), (9, u "LOG2_ARRAY_BYTE_INDEX_SCALE"), (5, u "LOG2_ARRAY_CHAR_INDEX_SCALE"), (5, u "LOG2_ARRAY_SHORT_INDEX_SCALE"), (18, u "LOG2_ARRAY_FLOAT_INDEX_SCALE"), (24, u "LOG2_ARRAY_DOUBLE_INDEX_SCALE"), (89, u "T_BOOLEAN"), (2, u "T_CHAR"), (1, u "T_FLOAT"), (1, u "T_DOUBLE"), (1, u "T_BYTE"), (1, u "T_SHORT"), (1, u "T_INT"), (1, u "T_LONG"), (1, u "SOFT_MAX_ARRAY_LENGTH")] 83

def k23m0 : Method := { name := "<init>", desc := "()V", sig := { parameters := [], returnType := none }, accessFlags := 2, code := none }
/-- jdk/internal/util/ArraysSupport -/
def k23 : Class := { plain "jdk/internal/util/ArraysSupport" (some 0) with
  accessFlags := 33
  interfaces := #[]
  cf := some (fileOf pool23 21 #[] #[{ accessFlags := 2, nameIndex := 9, descriptorIndex := 19, attributes := #[] }] 33 16 #[] #[{ accessFlags := 24, nameIndex := 28, descriptorIndex := 29, attributes := #[] }, { accessFlags := 26, nameIndex := 38, descriptorIndex := 39, attributes := #[] }, { accessFlags := 25, nameIndex := 121, descriptorIndex := 25, attributes := #[] }, { accessFlags := 25, nameIndex := 131, descriptorIndex := 25, attributes := #[] }, { accessFlags := 25, nameIndex := 137, descriptorIndex := 25, attributes := #[] }, { accessFlags := 25, nameIndex := 143, descriptorIndex := 25, attributes := #[] }, { accessFlags := 25, nameIndex := 53, descriptorIndex := 25, attributes := #[] }, { accessFlags := 25, nameIndex := 24, descriptorIndex := 25, attributes := #[] }, { accessFlags := 25, nameIndex := 162, descriptorIndex := 25, attributes := #[] }, { accessFlags := 25, nameIndex := 187, descriptorIndex := 25, attributes := #[] }, { accessFlags := 26, nameIndex := 48, descriptorIndex := 25, attributes := #[] }, { accessFlags := 25, nameIndex := 277, descriptorIndex := 25, attributes := #[] }, { accessFlags := 25, nameIndex := 280, descriptorIndex := 25, attributes := #[] }, { accessFlags := 25, nameIndex := 282, descriptorIndex := 25, attributes := #[] }, { accessFlags := 25, nameIndex := 284, descriptorIndex := 25, attributes := #[] }, { accessFlags := 25, nameIndex := 286, descriptorIndex := 25, attributes := #[] }, { accessFlags := 25, nameIndex := 288, descriptorIndex := 25, attributes := #[] }, { accessFlags := 25, nameIndex := 290, descriptorIndex := 25, attributes := #[] }, { accessFlags := 25, nameIndex := 292, descriptorIndex := 25, attributes := #[] }, { accessFlags := 26, nameIndex := 108, descriptorIndex := 109, attributes := #[] }, { accessFlags := 25, nameIndex := 294, descriptorIndex := 25, attributes := #[] }])
  fields := #[{ name := "U", type := (.object "jdk/internal/misc/Unsafe"), accessFlags := 24, slot := 0, constantValue := 0 }, { name := "BIG_ENDIAN", type := .boolean, accessFlags := 26, slot := 1, constantValue := 0 }, { name := "LOG2_ARRAY_BOOLEAN_INDEX_SCALE", type := .int, accessFlags := 25, slot := 2, constantValue := 0 }, { name := "LOG2_ARRAY_BYTE_INDEX_SCALE", type := .int, accessFlags := 25, slot := 3, constantValue := 0 }, { name := "LOG2_ARRAY_CHAR_INDEX_SCALE", type := .int, accessFlags := 25, slot := 4, constantValue := 0 }, { name := "LOG2_ARRAY_SHORT_INDEX_SCALE", type := .int, accessFlags := 25, slot := 5, constantValue := 0 }, { name := "LOG2_ARRAY_INT_INDEX_SCALE", type := .int, accessFlags := 25, slot := 6, constantValue := 0 }, { name := "LOG2_ARRAY_LONG_INDEX_SCALE", type := .int, accessFlags := 25, slot := 7, constantValue := 0 }, { name := "LOG2_ARRAY_FLOAT_INDEX_SCALE", type := .int, accessFlags := 25, slot := 8, constantValue := 0 }, { name := "LOG2_ARRAY_DOUBLE_INDEX_SCALE", type := .int, accessFlags := 25, slot := 9, constantValue := 0 }, { name := "LOG2_BYTE_BIT_SIZE", type := .int, accessFlags := 26, slot := 10, constantValue := 0 }, { name := "T_BOOLEAN", type := .int, accessFlags := 25, slot := 11, constantValue := 0 }, { name := "T_CHAR", type := .int, accessFlags := 25, slot := 12, constantValue := 0 }, { name := "T_FLOAT", type := .int, accessFlags := 25, slot := 13, constantValue := 0 }, { name := "T_DOUBLE", type := .int, accessFlags := 25, slot := 14, constantValue := 0 }, { name := "T_BYTE", type := .int, accessFlags := 25, slot := 15, constantValue := 0 }, { name := "T_SHORT", type := .int, accessFlags := 25, slot := 16, constantValue := 0 }, { name := "T_INT", type := .int, accessFlags := 25, slot := 17, constantValue := 0 }, { name := "T_LONG", type := .int, accessFlags := 25, slot := 18, constantValue := 0 }, { name := "JLA", type := (.object "jdk/internal/access/JavaLangAccess"), accessFlags := 26, slot := 19, constantValue := 0 }, { name := "SOFT_MAX_ARRAY_LENGTH", type := .int, accessFlags := 25, slot := 20, constantValue := 0 }]
  methods := #[k23m0]
  instanceTypes := #[]
  staticTypes := #[(.object "jdk/internal/misc/Unsafe"), .boolean, .int, .int, .int, .int, .int, .int, .int, .int, .int, .int, .int, .int, .int, .int, .int, .int, .int, (.object "jdk/internal/access/JavaLangAccess"), .int]
  resolved := Array.replicate 378 none
  statics := none }

/-- the primitive byte -/
def k24 : Class := { plain "byte" none with kind := .primitive 'B', accessFlags := 0x411 }
/-- [B -/
def k25 : Class := { plain "[B" (some 0) with kind := .array 24 .byte, interfaces := #[18, 5], accessFlags := 1041 }

/-- the primitive char -/
def k26 : Class := { plain "char" none with kind := .primitive 'C', accessFlags := 0x411 }
/-- [C -/
def k27 : Class := { plain "[C" (some 0) with kind := .array 26 .char, interfaces := #[18, 5], accessFlags := 1041 }

/-- the primitive int -/
def k28 : Class := { plain "int" none with kind := .primitive 'I', accessFlags := 0x411 }
/-- [I -/
def k29 : Class := { plain "[I" (some 0) with kind := .array 28 .int, interfaces := #[18, 5], accessFlags := 1041 }

/-- [Ljava/lang/Object; -/
def k30 : Class := { plain "[Ljava/lang/Object;" (some 0) with kind := .array 0 (.object "java/lang/Object"), interfaces := #[18, 5], accessFlags := 1041 }

def heap : Heap := #[{ cls := 10, slots := #[.long 0, .int 1, .null, .int 0, .null, .int 0, .int 0], vm := .statics 10 },
  { cls := 22, slots := #[.null, .null, .null], vm := .statics 22 }]
def classes : Array Class := #[k0, k1, k2, k3, k4, k5, k6, k7, k8, k9, k10, k11, k12, k13, k14, k15, k16, k17, k18, k19, k20, k21, k22, k23, k24, k25, k26, k27, k28, k29, k30]
def interned : List (Array UInt16 × Addr) := []
def slotsUsed : Nat := 10
def theMethod : MethodId := ⟨1, 1⟩
def args0 : Array Value := #[.int 3, .long 7, .int 9, .int 65]
def aboutOver (below : List Frame) : State where
  vm := { classes := classes, interned := interned.toArray }
  heap := heap
  slotsUsed := slotsUsed
  threads := #[{ frames := .invoking theMethod args0 :: below }]
def below0 : List Frame := [.native { method := ⟨0, 0⟩, args := #[] }]
def about1 : State := aboutOver below0
def p0 : Program := .bare "" "" ""
def e0 : Env := launch0.env 0 0 0
theorem w_frames : about1.frames = Frame.invoking theMethod args0 :: below0 := rfl
set_option maxRecDepth 65536 in
theorem w_args : argsFit about1.vm theMethod args0 = true := by decide +kernel
set_option maxRecDepth 65536 in
theorem w_heap : heapFits about1 = true := by decide +kernel
set_option maxRecDepth 65536 in
theorem w_runnable : about1.curStatus? = some .runnable := by decide +kernel
set_option maxRecDepth 65536 in
theorem w_alone : about1.alone = true := by decide +kernel
set_option maxRecDepth 65536 in
theorem w_named : about1.methodNamed? x = some theMethod := by decide +kernel
set_option maxRecDepth 65536 in
theorem w_hears : about1.hears theMethod below0 = true := by decide +kernel
set_option maxRecDepth 65536 in
theorem w_ripe : about1.ripe theMethod args0 below0 = true := by decide +kernel
theorem w_running : about1.status = .running := rfl
set_option maxRecDepth 65536 in
theorem w_room : about1.hasRoom e0.platform room_1 = true :=
  launch0.hasRoom_least _ room_1 (by decide +kernel) (by decide +kernel) (by decide +kernel) (by decide +kernel) (by decide +kernel) (by decide +kernel)
theorem allAtoms_all (ts : List Jvm.Cond) (a : Array Jvm.Value) (st : Jvm.State) : (allAtoms ts).before a st = ts.all (fun c => c.before a st) := by
  induction ts with
  | nil => rfl
  | cons c t ih =>
    show (Jvm.Cond.and c (allAtoms t)).before a st = _
    rw [Jvm.Cond.before_and, ih, List.all_cons]
def words1 : List Jvm.Cond := Jvm.Cond.code x code maxLocals ret :: tables_1
/-- a 'code' word, met by the world's own term for the bytes: nothing is compared byte by byte -/
theorem code_word {y : MethodName} {bytes : ByteArray} {mx : Nat} {rt : Option FieldType} {a : Array Value} {s : State} {m : MethodId} {meth : Method} {c : Code} (h1 : s.methodNamed? y = some m) (h2 : s.vm.method? m = some meth) (h3 : meth.code = some c) (h4 : c.code = bytes)
    (h5 : (c.maxLocals == mx && c.exceptionTable.isEmpty && decide (c.maxStack ≤ mostOperands) && decide (meth.sig.returnType = rt) && !meth.locks && decide (parseMethodDescriptor y.desc = some meth.sig)) = true) : (Jvm.Cond.code y bytes mx rt).before a s = true := by
  simp only [Bool.and_eq_true, beq_iff_eq, Bool.not_eq_true', decide_eq_true_eq] at h5
  obtain ⟨⟨⟨⟨⟨g1, g2⟩, g3⟩, g4⟩, g5⟩, g6⟩ := h5
  simp [Cond.before, Cond.holds, Cond.value, h1, h2, h3, h4, g1, g2, g3, g4, g5, g6]
def isCode : Jvm.Cond → Bool
  | .code _ _ _ _ => true
  | _ => false
theorem all_split {L : List Jvm.Cond} {P : Jvm.Cond → Bool} (h1 : L.all (fun c => isCode c || P c) = true) (h2 : ∀ c ∈ L.filter isCode, P c = true) : L.all P = true := by
  refine List.all_eq_true.mpr fun c hc => ?_
  have h := List.all_eq_true.mp h1 c hc
  rcases Bool.eq_false_or_eq_true (isCode c) with hi | hi
  · exact h2 c (List.mem_filter.mpr ⟨hc, hi⟩)
  · simpa [hi] using h
set_option maxRecDepth 65536 in
theorem w_c0 : (Jvm.Cond.code x code maxLocals ret).before args0 about1 = true := code_word (m := ⟨1, 1⟩) (meth := k1m1) (c := k1c1) (by decide +kernel) rfl rfl rfl (by decide +kernel)
set_option maxRecDepth 65536 in
theorem w_c1 : (Jvm.Cond.code ({ cls := "java/lang/Math", name := "max", desc := "(II)I" } : Jvm.MethodName) jdk_29_method_65_code (2 : Nat) (Option.some Jvm.ClassFile.FieldType.int)).before args0 about1 = true := code_word (m := ⟨2, 1⟩) (meth := k2m1) (c := k2c1) (by decide +kernel) rfl rfl rfl (by decide +kernel)
set_option maxRecDepth 65536 in
theorem w_c2 : (Jvm.Cond.code ({ cls := "java/lang/Math", name := "max", desc := "(JJ)J" } : Jvm.MethodName) jdk_29_method_66_code (4 : Nat) (Option.some Jvm.ClassFile.FieldType.long)).before args0 about1 = true := code_word (m := ⟨2, 2⟩) (meth := k2m2) (c := k2c2) (by decide +kernel) rfl rfl rfl (by decide +kernel)
set_option maxRecDepth 65536 in
theorem w_c3 : (Jvm.Cond.code ({ cls := "com/example/oncemark/oncemark/ReceiveQueueNeedsRefillPinLaw", name := "message", desc := "(JIICC)Lcom/example/oncemark/oncemark/Message;" } : Jvm.MethodName) method_4_code (9 : Nat) (Option.some (Jvm.ClassFile.FieldType.object "com/example/oncemark/oncemark/Message"))).before args0 about1 = true := code_word (m := ⟨1, 3⟩) (meth := k1m3) (c := k1c3) (by decide +kernel) rfl rfl rfl (by decide +kernel)
set_option maxRecDepth 65536 in
theorem w_c4 : (Jvm.Cond.code ({ cls := "com/example/oncemark/oncemark/Message", name := "<init>", desc := "(JLjava/lang/String;JLjava/lang/String;[B)V" } : Jvm.MethodName) prog_15_method_1_code (8 : Nat) (Option.none : Option Jvm.ClassFile.FieldType)).before args0 about1 = true := code_word (m := ⟨4, 0⟩) (meth := k4m0) (c := k4c0) (by decide +kernel) rfl rfl rfl (by decide +kernel)
set_option maxRecDepth 65536 in
theorem w_c5 : (Jvm.Cond.code ({ cls := "java/lang/Record", name := "<init>", desc := "()V" } : Jvm.MethodName) jdk_30_method_1_code (1 : Nat) (Option.none : Option Jvm.ClassFile.FieldType)).before args0 about1 = true := code_word (m := ⟨3, 0⟩) (meth := k3m0) (c := k3c0) (by decide +kernel) rfl rfl rfl (by decide +kernel)
set_option maxRecDepth 65536 in
theorem w_c6 : (Jvm.Cond.code ({ cls := "java/lang/Object", name := "<init>", desc := "()V" } : Jvm.MethodName) object_method_1_code (1 : Nat) (Option.none : Option Jvm.ClassFile.FieldType)).before args0 about1 = true := code_word (m := ⟨0, 0⟩) (meth := k0m0) (c := k0c0) (by decide +kernel) rfl rfl rfl (by decide +kernel)
set_option maxRecDepth 65536 in
theorem w_c7 : (Jvm.Cond.code ({ cls := "com/example/oncemark/oncemark/ReceiveQueue", name := "<init>", desc := "(IJ)V" } : Jvm.MethodName) prog_24_method_1_code (4 : Nat) (Option.none : Option Jvm.ClassFile.FieldType)).before args0 about1 = true := code_word (m := ⟨11, 0⟩) (meth := k11m0) (c := k11c0) (by decide +kernel) rfl rfl rfl (by decide +kernel)
set_option maxRecDepth 65536 in
theorem w_c8 : (Jvm.Cond.code ({ cls := "java/util/ArrayDeque", name := "<init>", desc := "()V" } : Jvm.MethodName) jdk_21_method_3_code (1 : Nat) (Option.none : Option Jvm.ClassFile.FieldType)).before args0 about1 = true := code_word (m := ⟨19, 0⟩) (meth := k19m0) (c := k19c0) (by decide +kernel) rfl rfl rfl (by decide +kernel)
set_option maxRecDepth 65536 in
theorem w_c9 : (Jvm.Cond.code ({ cls := "java/util/AbstractCollection", name := "<init>", desc := "()V" } : Jvm.MethodName) jdk_22_method_1_code (1 : Nat) (Option.none : Option Jvm.ClassFile.FieldType)).before args0 about1 = true := code_word (m := ⟨14, 0⟩) (meth := k14m0) (c := k14c0) (by decide +kernel) rfl rfl rfl (by decide +kernel)
set_option maxRecDepth 65536 in
theorem w_c10 : (Jvm.Cond.code ({ cls := "com/example/oncemark/oncemark/ReceiveQueue", name := "add", desc := "(Lcom/example/oncemark/oncemark/Message;)V" } : Jvm.MethodName) prog_24_method_7_code (2 : Nat) (Option.none : Option Jvm.ClassFile.FieldType)).before args0 about1 = true := code_word (m := ⟨11, 3⟩) (meth := k11m3) (c := k11c3) (by decide +kernel) rfl rfl rfl (by decide +kernel)
set_option maxRecDepth 65536 in
theorem w_c11 : (Jvm.Cond.code ({ cls := "java/util/ArrayDeque", name := "add", desc := "(Ljava/lang/Object;)Z" } : Jvm.MethodName) jdk_21_method_28_code (2 : Nat) (Option.some Jvm.ClassFile.FieldType.boolean)).before args0 about1 = true := code_word (m := ⟨19, 4⟩) (meth := k19m4) (c := k19c4) (by decide +kernel) rfl rfl rfl (by decide +kernel)
set_option maxRecDepth 65536 in
theorem w_c12 : (Jvm.Cond.code ({ cls := "java/util/ArrayDeque", name := "addLast", desc := "(Ljava/lang/Object;)V" } : Jvm.MethodName) jdk_21_method_13_code (3 : Nat) (Option.none : Option Jvm.ClassFile.FieldType)).before args0 about1 = true := code_word (m := ⟨19, 3⟩) (meth := k19m3) (c := k19c3) (by decide +kernel) rfl rfl rfl (by decide +kernel)
set_option maxRecDepth 65536 in
theorem w_c13 : (Jvm.Cond.code ({ cls := "java/util/ArrayDeque", name := "inc", desc := "(II)I" } : Jvm.MethodName) jdk_21_method_6_code (2 : Nat) (Option.some Jvm.ClassFile.FieldType.int)).before args0 about1 = true := code_word (m := ⟨19, 1⟩) (meth := k19m1) (c := k19c1) (by decide +kernel) rfl rfl rfl (by decide +kernel)
set_option maxRecDepth 65536 in
theorem w_c14 : (Jvm.Cond.code ({ cls := "com/example/oncemark/oncemark/ReceiveQueue", name := "bytes", desc := "(Lcom/example/oncemark/oncemark/Message;)J" } : Jvm.MethodName) prog_24_method_2_code (2 : Nat) (Option.some Jvm.ClassFile.FieldType.long)).before args0 about1 = true := code_word (m := ⟨11, 1⟩) (meth := k11m1) (c := k11c1) (by decide +kernel) rfl rfl rfl (by decide +kernel)
set_option maxRecDepth 65536 in
theorem w_c15 : (Jvm.Cond.code ({ cls := "com/example/oncemark/oncemark/Message", name := "key", desc := "()Ljava/lang/String;" } : Jvm.MethodName) prog_15_method_8_code (1 : Nat) (Option.some (Jvm.ClassFile.FieldType.object "java/lang/String"))).before args0 about1 = true := code_word (m := ⟨4, 1⟩) (meth := k4m1) (c := k4c1) (by decide +kernel) rfl rfl rfl (by decide +kernel)
set_option maxRecDepth 65536 in
theorem w_c16 : (Jvm.Cond.code ({ cls := "com/example/oncemark/oncemark/Message", name := "payload", desc := "()[B" } : Jvm.MethodName) prog_15_method_9_code (1 : Nat) (Option.some (Jvm.ClassFile.FieldType.array Jvm.ClassFile.FieldType.byte))).before args0 about1 = true := code_word (m := ⟨4, 2⟩) (meth := k4m2) (c := k4c2) (by decide +kernel) rfl rfl rfl (by decide +kernel)
set_option maxRecDepth 65536 in
theorem w_c17 : (Jvm.Cond.code ({ cls := "com/example/oncemark/oncemark/ReceiveQueueNeedsRefillPinLaw", name := "cost", desc := "(II)J" } : Jvm.MethodName) method_3_code (2 : Nat) (Option.some Jvm.ClassFile.FieldType.long)).before args0 about1 = true := code_word (m := ⟨1, 2⟩) (meth := k1m2) (c := k1c2) (by decide +kernel) rfl rfl rfl (by decide +kernel)
set_option maxRecDepth 65536 in
theorem w_c18 : (Jvm.Cond.code ({ cls := "com/example/oncemark/oncemark/ReceiveQueue", name := "needsRefill", desc := "()Z" } : Jvm.MethodName) prog_24_method_4_code (1 : Nat) (Option.some Jvm.ClassFile.FieldType.boolean)).before args0 about1 = true := code_word (m := ⟨11, 2⟩) (meth := k11m2) (c := k11c2) (by decide +kernel) rfl rfl rfl (by decide +kernel)
set_option maxRecDepth 65536 in
theorem w_c19 : (Jvm.Cond.code ({ cls := "java/util/ArrayDeque", name := "size", desc := "()I" } : Jvm.MethodName) jdk_21_method_37_code (1 : Nat) (Option.some Jvm.ClassFile.FieldType.int)).before args0 about1 = true := code_word (m := ⟨19, 5⟩) (meth := k19m5) (c := k19c5) (by decide +kernel) rfl rfl rfl (by decide +kernel)
set_option maxRecDepth 65536 in
theorem w_c20 : (Jvm.Cond.code ({ cls := "java/util/ArrayDeque", name := "sub", desc := "(III)I" } : Jvm.MethodName) jdk_21_method_9_code (3 : Nat) (Option.some Jvm.ClassFile.FieldType.int)).before args0 about1 = true := code_word (m := ⟨19, 2⟩) (meth := k19m2) (c := k19c2) (by decide +kernel) rfl rfl rfl (by decide +kernel)
set_option maxRecDepth 65536 in
theorem w_c21 : (Jvm.Cond.code ({ cls := "java/lang/String", name := "<init>", desc := "([C)V" } : Jvm.MethodName) jdk_42_method_3_code (2 : Nat) (Option.none : Option Jvm.ClassFile.FieldType)).before args0 about1 = true := code_word (m := ⟨10, 1⟩) (meth := k10m1) (c := k10c1) (by decide +kernel) rfl rfl rfl (by decide +kernel)
set_option maxRecDepth 65536 in
theorem w_c22 : (Jvm.Cond.code ({ cls := "java/lang/String", name := "<init>", desc := "([CIILjava/lang/Void;)V" } : Jvm.MethodName) jdk_42_method_149_code (6 : Nat) (Option.none : Option Jvm.ClassFile.FieldType)).before args0 about1 = true := code_word (m := ⟨10, 3⟩) (meth := k10m3) (c := k10c3) (by decide +kernel) rfl rfl rfl (by decide +kernel)
set_option maxRecDepth 65536 in
theorem w_c23 : (Jvm.Cond.code ({ cls := "java/lang/String", name := "length", desc := "()I" } : Jvm.MethodName) jdk_42_method_54_code (1 : Nat) (Option.some Jvm.ClassFile.FieldType.int)).before args0 about1 = true := code_word (m := ⟨10, 2⟩) (meth := k10m2) (c := k10c2) (by decide +kernel) rfl rfl rfl (by decide +kernel)
set_option maxRecDepth 65536 in
theorem w_c24 : (Jvm.Cond.code ({ cls := "java/lang/String", name := "coder", desc := "()B" } : Jvm.MethodName) jdk_42_method_152_code (1 : Nat) (Option.some Jvm.ClassFile.FieldType.byte)).before args0 about1 = true := code_word (m := ⟨10, 4⟩) (meth := k10m4) (c := k10c4) (by decide +kernel) rfl rfl rfl (by decide +kernel)
set_option maxRecDepth 65536 in
theorem w_c25 : (Jvm.Cond.code ({ cls := "java/lang/StringUTF16", name := "compress", desc := "([CII)[B" } : Jvm.MethodName) jdk_52_method_16_code (6 : Nat) (Option.some (Jvm.ClassFile.FieldType.array Jvm.ClassFile.FieldType.byte))).before args0 about1 = true := code_word (m := ⟨20, 2⟩) (meth := k20m2) (c := k20c2) (by decide +kernel) rfl rfl rfl (by decide +kernel)
set_option maxRecDepth 65536 in
theorem w_c26 : (Jvm.Cond.code ({ cls := "java/lang/StringUTF16", name := "compress", desc := "([CI[BII)I" } : Jvm.MethodName) jdk_52_method_21_code (7 : Nat) (Option.some Jvm.ClassFile.FieldType.int)).before args0 about1 = true := code_word (m := ⟨20, 3⟩) (meth := k20m3) (c := k20c3) (by decide +kernel) rfl rfl rfl (by decide +kernel)
set_option maxRecDepth 65536 in
theorem w_c27 : (Jvm.Cond.code ({ cls := "java/lang/StringUTF16", name := "coderFromArrayLen", desc := "([BI)B" } : Jvm.MethodName) jdk_52_method_15_code (2 : Nat) (Option.some Jvm.ClassFile.FieldType.byte)).before args0 about1 = true := code_word (m := ⟨20, 1⟩) (meth := k20m1) (c := k20c1) (by decide +kernel) rfl rfl rfl (by decide +kernel)
def codes1 : List Jvm.Cond := [Jvm.Cond.code x code maxLocals ret, Jvm.Cond.code ({ cls := "java/lang/Math", name := "max", desc := "(II)I" } : Jvm.MethodName) jdk_29_method_65_code (2 : Nat) (Option.some Jvm.ClassFile.FieldType.int), Jvm.Cond.code ({ cls := "java/lang/Math", name := "max", desc := "(JJ)J" } : Jvm.MethodName) jdk_29_method_66_code (4 : Nat) (Option.some Jvm.ClassFile.FieldType.long), Jvm.Cond.code ({ cls := "com/example/oncemark/oncemark/ReceiveQueueNeedsRefillPinLaw", name := "message", desc := "(JIICC)Lcom/example/oncemark/oncemark/Message;" } : Jvm.MethodName) method_4_code (9 : Nat) (Option.some (Jvm.ClassFile.FieldType.object "com/example/oncemark/oncemark/Message")), Jvm.Cond.code ({ cls := "com/example/oncemark/oncemark/Message", name := "<init>", desc := "(JLjava/lang/String;JLjava/lang/String;[B)V" } : Jvm.MethodName) prog_15_method_1_code (8 : Nat) (Option.none : Option Jvm.ClassFile.FieldType), Jvm.Cond.code ({ cls := "java/lang/Record", name := "<init>", desc := "()V" } : Jvm.MethodName) jdk_30_method_1_code (1 : Nat) (Option.none : Option Jvm.ClassFile.FieldType), Jvm.Cond.code ({ cls := "java/lang/Object", name := "<init>", desc := "()V" } : Jvm.MethodName) object_method_1_code (1 : Nat) (Option.none : Option Jvm.ClassFile.FieldType), Jvm.Cond.code ({ cls := "com/example/oncemark/oncemark/ReceiveQueue", name := "<init>", desc := "(IJ)V" } : Jvm.MethodName) prog_24_method_1_code (4 : Nat) (Option.none : Option Jvm.ClassFile.FieldType), Jvm.Cond.code ({ cls := "java/util/ArrayDeque", name := "<init>", desc := "()V" } : Jvm.MethodName) jdk_21_method_3_code (1 : Nat) (Option.none : Option Jvm.ClassFile.FieldType), Jvm.Cond.code ({ cls := "java/util/AbstractCollection", name := "<init>", desc := "()V" } : Jvm.MethodName) jdk_22_method_1_code (1 : Nat) (Option.none : Option Jvm.ClassFile.FieldType), Jvm.Cond.code ({ cls := "com/example/oncemark/oncemark/ReceiveQueue", name := "add", desc := "(Lcom/example/oncemark/oncemark/Message;)V" } : Jvm.MethodName) prog_24_method_7_code (2 : Nat) (Option.none : Option Jvm.ClassFile.FieldType), Jvm.Cond.code ({ cls := "java/util/ArrayDeque", name := "add", desc := "(Ljava/lang/Object;)Z" } : Jvm.MethodName) jdk_21_method_28_code (2 : Nat) (Option.some Jvm.ClassFile.FieldType.boolean), Jvm.Cond.code ({ cls := "java/util/ArrayDeque", name := "addLast", desc := "(Ljava/lang/Object;)V" } : Jvm.MethodName) jdk_21_method_13_code (3 : Nat) (Option.none : Option Jvm.ClassFile.FieldType), Jvm.Cond.code ({ cls := "java/util/ArrayDeque", name := "inc", desc := "(II)I" } : Jvm.MethodName) jdk_21_method_6_code (2 : Nat) (Option.some Jvm.ClassFile.FieldType.int), Jvm.Cond.code ({ cls := "com/example/oncemark/oncemark/ReceiveQueue", name := "bytes", desc := "(Lcom/example/oncemark/oncemark/Message;)J" } : Jvm.MethodName) prog_24_method_2_code (2 : Nat) (Option.some Jvm.ClassFile.FieldType.long), Jvm.Cond.code ({ cls := "com/example/oncemark/oncemark/Message", name := "key", desc := "()Ljava/lang/String;" } : Jvm.MethodName) prog_15_method_8_code (1 : Nat) (Option.some (Jvm.ClassFile.FieldType.object "java/lang/String")), Jvm.Cond.code ({ cls := "com/example/oncemark/oncemark/Message", name := "payload", desc := "()[B" } : Jvm.MethodName) prog_15_method_9_code (1 : Nat) (Option.some (Jvm.ClassFile.FieldType.array Jvm.ClassFile.FieldType.byte)), Jvm.Cond.code ({ cls := "com/example/oncemark/oncemark/ReceiveQueueNeedsRefillPinLaw", name := "cost", desc := "(II)J" } : Jvm.MethodName) method_3_code (2 : Nat) (Option.some Jvm.ClassFile.FieldType.long), Jvm.Cond.code ({ cls := "com/example/oncemark/oncemark/ReceiveQueue", name := "needsRefill", desc := "()Z" } : Jvm.MethodName) prog_24_method_4_code (1 : Nat) (Option.some Jvm.ClassFile.FieldType.boolean), Jvm.Cond.code ({ cls := "java/util/ArrayDeque", name := "size", desc := "()I" } : Jvm.MethodName) jdk_21_method_37_code (1 : Nat) (Option.some Jvm.ClassFile.FieldType.int), Jvm.Cond.code ({ cls := "java/util/ArrayDeque", name := "sub", desc := "(III)I" } : Jvm.MethodName) jdk_21_method_9_code (3 : Nat) (Option.some Jvm.ClassFile.FieldType.int), Jvm.Cond.code ({ cls := "java/lang/String", name := "<init>", desc := "([C)V" } : Jvm.MethodName) jdk_42_method_3_code (2 : Nat) (Option.none : Option Jvm.ClassFile.FieldType), Jvm.Cond.code ({ cls := "java/lang/String", name := "<init>", desc := "([CIILjava/lang/Void;)V" } : Jvm.MethodName) jdk_42_method_149_code (6 : Nat) (Option.none : Option Jvm.ClassFile.FieldType), Jvm.Cond.code ({ cls := "java/lang/String", name := "length", desc := "()I" } : Jvm.MethodName) jdk_42_method_54_code (1 : Nat) (Option.some Jvm.ClassFile.FieldType.int), Jvm.Cond.code ({ cls := "java/lang/String", name := "coder", desc := "()B" } : Jvm.MethodName) jdk_42_method_152_code (1 : Nat) (Option.some Jvm.ClassFile.FieldType.byte), Jvm.Cond.code ({ cls := "java/lang/StringUTF16", name := "compress", desc := "([CII)[B" } : Jvm.MethodName) jdk_52_method_16_code (6 : Nat) (Option.some (Jvm.ClassFile.FieldType.array Jvm.ClassFile.FieldType.byte)), Jvm.Cond.code ({ cls := "java/lang/StringUTF16", name := "compress", desc := "([CI[BII)I" } : Jvm.MethodName) jdk_52_method_21_code (7 : Nat) (Option.some Jvm.ClassFile.FieldType.int), Jvm.Cond.code ({ cls := "java/lang/StringUTF16", name := "coderFromArrayLen", desc := "([BI)B" } : Jvm.MethodName) jdk_52_method_15_code (2 : Nat) (Option.some Jvm.ClassFile.FieldType.byte)]
set_option maxRecDepth 65536 in
theorem codes_eq : words1.filter isCode = codes1 := rfl
theorem w_codes : ∀ c ∈ words1.filter isCode, c.before args0 about1 = true := by
  rw [codes_eq]
  intro c hc
  simp only [codes1, List.mem_cons, List.not_mem_nil, or_false] at hc
  rcases hc with rfl | rfl | rfl | rfl | rfl | rfl | rfl | rfl | rfl | rfl | rfl | rfl | rfl | rfl | rfl | rfl | rfl | rfl | rfl | rfl | rfl | rfl | rfl | rfl | rfl | rfl | rfl | rfl
  · exact w_c0
  · exact w_c1
  · exact w_c2
  · exact w_c3
  · exact w_c4
  · exact w_c5
  · exact w_c6
  · exact w_c7
  · exact w_c8
  · exact w_c9
  · exact w_c10
  · exact w_c11
  · exact w_c12
  · exact w_c13
  · exact w_c14
  · exact w_c15
  · exact w_c16
  · exact w_c17
  · exact w_c18
  · exact w_c19
  · exact w_c20
  · exact w_c21
  · exact w_c22
  · exact w_c23
  · exact w_c24
  · exact w_c25
  · exact w_c26
  · exact w_c27
set_option maxRecDepth 65536 in
theorem w_t1 : (words1.take 24).all (fun c => isCode c || c.before args0 about1) = true := by decide +kernel
set_option maxRecDepth 65536 in
theorem w_t2 : ((words1.drop 24).take 24).all (fun c => isCode c || c.before args0 about1) = true := by decide +kernel
set_option maxRecDepth 65536 in
theorem w_t3 : (((words1.drop 24).drop 24).take 24).all (fun c => isCode c || c.before args0 about1) = true := by decide +kernel
set_option maxRecDepth 65536 in
theorem w_t4 : ((((words1.drop 24).drop 24).drop 24).take 24).all (fun c => isCode c || c.before args0 about1) = true := by decide +kernel
set_option maxRecDepth 65536 in
theorem w_t5 : (((((words1.drop 24).drop 24).drop 24).drop 24).take 24).all (fun c => isCode c || c.before args0 about1) = true := by decide +kernel
set_option maxRecDepth 65536 in
theorem w_t6 : ((((((words1.drop 24).drop 24).drop 24).drop 24).drop 24).take 24).all (fun c => isCode c || c.before args0 about1) = true := by decide +kernel
set_option maxRecDepth 65536 in
theorem w_t7 : (((((((words1.drop 24).drop 24).drop 24).drop 24).drop 24).drop 24).take 24).all (fun c => isCode c || c.before args0 about1) = true := by decide +kernel
set_option maxRecDepth 65536 in
theorem w_t8 : (((((((words1.drop 24).drop 24).drop 24).drop 24).drop 24).drop 24).drop 24).all (fun c => isCode c || c.before args0 about1) = true := by decide +kernel
theorem w_tables : (allAtoms (Jvm.Cond.code x code maxLocals ret :: tables_1)).before args0 about1 = true := by
  rw [allAtoms_all]
  show words1.all (fun c => c.before args0 about1) = true
  refine all_split ?_ w_codes
  rw [← List.take_append_drop 24 words1, List.all_append, w_t1, ← List.take_append_drop 24 (words1.drop 24), List.all_append, w_t2, ← List.take_append_drop 24 ((words1.drop 24).drop 24), List.all_append, w_t3, ← List.take_append_drop 24 (((words1.drop 24).drop 24).drop 24), List.all_append, w_t4, ← List.take_append_drop 24 ((((words1.drop 24).drop 24).drop 24).drop 24), List.all_append, w_t5, ← List.take_append_drop 24 (((((words1.drop 24).drop 24).drop 24).drop 24).drop 24), List.all_append, w_t6, ← List.take_append_drop 24 ((((((words1.drop 24).drop 24).drop 24).drop 24).drop 24).drop 24), List.all_append, w_t7, w_t8]
  rfl
set_option maxRecDepth 65536 in
theorem w_rest : rest_1_c.before args0 about1 = true := by decide +kernel
set_option maxRecDepth 65536 in
theorem w_case : (Jvm.Cond.and given_1 narrow_1).before args0 about1 = true := by decide +kernel
set_option maxRecDepth 65536 in
theorem w_consts : constsHeld consts_1 about1 := Jvm.Lit.constsHeldB_iff.mp (by decide +kernel)
theorem w_applies : (headSpec (Jvm.Cond.code x code maxLocals ret :: tables_1) room_1).applies x e0.platform about1 = true :=
  (Spec.applies_iff w_frames).mpr ⟨w_running, w_runnable, w_alone, w_named, w_hears, w_ripe, w_room, w_tables⟩
theorem atStart : AtStart classFile x code maxLocals ret World_1 tables_1 room_1 Calls_1 rest_1 Pre_1 launch0 p0 e0 about1 theMethod args0 below0 :=
  ⟨lists_1, trivial, launch0.admits_env _ _ _, launch0.least_env, fairChoices_fair.cas, fairChoices_fair.clock, w_frames, w_args, w_heap, w_applies, ⟨w_consts, trivial⟩, w_rest, w_case⟩
end start1
theorem witness_1 : WitnessClaimed_1 := ⟨start1.p0, start1.e0, start1.about1, start1.theMethod, start1.args0, start1.below0, start1.atStart⟩
end Jvm.Pilot.@@N@@
