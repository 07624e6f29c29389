import JvmDerived
import JvmDerived.Pilot.@@N@@Statement
import JvmDerived.Pilot.@@N@@Code
set_option linter.unusedVariables false
set_option linter.unusedSimpArgs false
namespace Jvm.RoadKit
open Sem ClassFile Op Lib Jvm.Stand Jvm.Free Jvm.LawKit
section New
variable {p : Program} {l : Launch} {e : Env} {R : Room} {s : State} {m : MethodId} {args : Array Value} {below : List Frame} {meth : Method} {c : Code} {T : State} {locs : List Loc} {cells slots : Nat}
theorem retI (X : Stand p l e R s m args below meth c T locs cells slots) (hx : p.tables.exec = Jvm.exec) {pc : Nat} {Ls : Array Slot} {z : Int32} {rest : List Value} (hret : meth.sig.returnType = some .int) (hd : decode c.code pc = .ok (.ireturn, 1)) {fs : List Frame}
    (hl : ∀ (f : JFrame) (acts : List Action), f.method = m → f.locked = none → f.entered = [] → (doReturn e (T.setTop f) acts (some (.int z))).1 = T.setFrames fs) : Steps p.tables e below (T.setTop (mkF m pc Ls (.int z :: rest))) (T.setFrames fs) := by
  have hm' : T.vm.method? m = some meth := X.method'
  have hn : narrow .int (.int z) = .int z := rfl
  show Steps p.tables e below (T.setTop { method := m, pc := pc, locals := Ls, stack := _ :: rest, locked := none }) _
  jvm_step X.here [X.here.top, hx, hd, hm', hret, hn]
  first | (intro acts; rw [hl _ acts rfl rfl rfl]) | rw [hl _ _ rfl rfl rfl]
  exact Steps.refl _
end New
end Jvm.RoadKit
namespace Jvm.Pilot.@@N@@
open Jvm Jvm.ClassFile Sem Op Lib Jvm.Free Jvm.Stand Jvm.LawKit Jvm.RoadKit Bundle Jvm.Pilot.@@N@@.Jvm.D
theorem wq {a0 : Array Value} {Z : State} (hw : ∀ d ∈ tables_1, d.before a0 Z = true) (i : Nat) {d : Jvm.Cond} (h : tables_1[i]? = some d) : d.before a0 Z = true := hw _ (List.mem_of_getElem? h)
theorem FrE {n0 : Nat} {L A B : List Loc} (l : L = A ++ B) (N : Fr n0 A) (M : Fr n0 B) : Fr n0 L := l ▸ N.app M
set_option maxRecDepth 65536
set_option maxHeartbeats 40000000
abbrev vi (z : Int32) : Slot := .val (.int z)
abbrev vr (a : Addr) : Slot := .val (.ref a)
abbrev DK (b : ByteArray) (pc : Nat) (i : Instr) (n : Nat) : Prop := decode b pc = .ok (i, n)
theorem zz {n : Nat} : 0 + 0 ≤ n := Nat.zero_le _
theorem mq {s Z : State} {a0 args : Array Value} (hZ : Z.Warmed39 s.vm) (hw : ∀ d ∈ tables_1, d.before a0 Z = true) (i : Nat) {d : Jvm.Cond} (h : tables_1[i]? = some d) (hd : (d.onTables && d.keepsFace) = true := by first | rfl | simp [Cond.onTables, Cond.keepsFace, Cond.keeps, Cond.steady]) : d.before args s = true := mvT hZ (wq hw i h) hd
theorem pq {s Z : State} {a0 : Array Value} (hZ : Z.Warmed39 s.vm) (hw : ∀ d ∈ tables_1, d.before a0 Z = true) (i : Nat) {y : MethodName} (h : tables_1[i]? = some (Jvm.Cond.privateMethod y)) : s.PrivateAt y := Cond.privateMethod_at (mvP hZ (wq hw i h) (args := #[]))
abbrev cd1 := prog_5_method_2_code
abbrev cd2 := object_method_1_code
abbrev cd3 := prog_7_method_1_code
abbrev cd4 := prog_5_method_59_code
abbrev cd5 := jdk_65_method_103_code
abbrev cd6 := prog_5_method_60_code
abbrev cd7 := jdk_33_method_45_code
abbrev cd8 := jdk_33_method_47_code
abbrev cd9 := jdk_29_method_69_code
abbrev cd10 := prog_5_method_61_code
abbrev cd11 := prog_5_method_33_code
abbrev cd12 := prog_5_method_7_code
abbrev cd13 := prog_5_method_11_code
abbrev cd14 := prog_5_method_56_code
abbrev cd15 := prog_7_method_6_code
abbrev cd16 := prog_5_method_55_code
abbrev cd17 := prog_5_method_65_code
abbrev cd18 := prog_5_method_66_code
abbrev cd19 := prog_5_method_12_code
abbrev cd20 := prog_5_method_14_code
abbrev cd21 := prog_5_method_16_code
abbrev cd22 := jdk_29_method_65_code
abbrev cd23 := prog_4_method_1_code
abbrev cd24 := prog_5_method_18_code
abbrev cd25 := prog_5_method_36_code
abbrev cd26 := prog_5_method_42_code
abbrev cd27 := prog_5_method_62_code
abbrev cd28 := prog_5_method_64_code
abbrev cd29 := prog_5_method_43_code
abbrev cd30 := prog_5_method_63_code
abbrev cd31 := prog_5_method_17_code
abbrev cd32 := prog_5_method_35_code
abbrev cd33 := prog_5_method_48_code
abbrev cd34 := prog_7_method_2_code
abbrev cd35 := prog_7_method_4_code
abbrev cd36 := prog_7_method_3_code
abbrev cd37 := prog_7_method_10_code
abbrev cd38 := prog_7_method_11_code
abbrev cd39 := prog_7_method_12_code
abbrev cd40 := prog_7_method_7_code
abbrev cd41 := prog_7_method_8_code
abbrev cd42 := prog_5_method_53_code
abbrev cd43 := prog_7_method_9_code
abbrev cd44 := prog_7_method_5_code
abbrev cd45 := prog_5_method_47_code
abbrev Go (p : Program) (e : Env) (below : List Frame) (T B : State) (F E : JFrame) : Prop := ∀ t, Steps p.tables e below (T.setTop F) t → Steps p.tables e below (B.setTop E) t
theorem Go.thn {p : Program} {e : Env} {below : List Frame} {T T2 B : State} {F F2 E : JFrame} (G : Go p e below T B F E) (h : ∀ t, Steps p.tables e below (T2.setTop F2) t → Steps p.tables e below (T.setTop F) t) : Go p e below T2 B F2 E := fun t k => G t (h t k)
theorem Go.trn {p : Program} {e : Env} {below : List Frame} {T T2 B : State} {F F2 E : JFrame} (G : Go p e below T B F E) (h : Steps p.tables e below (T.setTop F) (T2.setTop F2)) : Go p e below T2 B F2 E := fun t k => G t (h.trans k)
theorem w00 {a b : Nat} (h : a = b) : 2 * 0 + a ≤ b := by omega
abbrev Met1 (l : Launch) (y : MethodName) (co : Jvm.Cond) (ws : List Jvm.Cond) (rm : Room) (as : Array Value) (Z : State) (h0 : Heap) (Q : Option Value → Heap → List Loc → Prop) : Prop := MetFree l y (head1 (co :: ws) rm) (fun a U => a = as ∧ Z.Warmed39 U.vm ∧ U.heap = h0) (fun _ _ _ _ _ => True) (fun _ U o U' => ∃ v L, o = .returned v ∧ Q v U'.heap L ∧ FrameEnd U o U' L rm.cells rm.slots)
abbrev rom (a b c d : Nat) : Room := { frames := a, cells := b, slots := c, locals := d }
abbrev Nm_0 : MethodName := (⟨"com/example/slim_kripke/slimkripke/bdd/BddManager", "hash", "(IIII)I"⟩ : MethodName)
abbrev Nm_1 : MethodName := (⟨"com/example/slim_kripke/slimkripke/bdd/BddManager", "hash", "(III)I"⟩ : MethodName)
abbrev Nm_2 : MethodName := (⟨"java/lang/Math", "min", "(II)I"⟩ : MethodName)
abbrev Nm_3 : MethodName := (⟨"java/lang/Math", "max", "(II)I"⟩ : MethodName)
abbrev Nm_4 : MethodName := (⟨"java/lang/Integer", "numberOfLeadingZeros", "(I)I"⟩ : MethodName)
abbrev Nm_5 : MethodName := (⟨"java/lang/Integer", "highestOneBit", "(I)I"⟩ : MethodName)
abbrev Nm_6 : MethodName := (⟨"com/example/slim_kripke/slimkripke/bdd/BddManager", "terminalCase", "(III)I"⟩ : MethodName)
abbrev Nm_7 : MethodName := (⟨"java/util/Arrays", "fill", "([II)V"⟩ : MethodName)
abbrev Nm_8 : MethodName := (⟨"com/example/slim_kripke/slimkripke/bdd/BddManager", "forgetCache", "()V"⟩ : MethodName)
abbrev Nm_9 : MethodName := (⟨"com/example/slim_kripke/slimkripke/bdd/BddManager", "allocateCache", "(I)V"⟩ : MethodName)
abbrev Nm_10 : MethodName := (⟨"com/example/slim_kripke/slimkripke/bdd/BddManager", "allocate", "(I)V"⟩ : MethodName)
abbrev Nm_11 : MethodName := (⟨"com/example/slim_kripke/slimkripke/bdd/CallStack", "<init>", "()V"⟩ : MethodName)
abbrev Nm_12 : MethodName := (⟨"com/example/slim_kripke/slimkripke/bdd/BddManager", "<init>", "(II)V"⟩ : MethodName)
abbrev Nm_13 : MethodName := (⟨"com/example/slim_kripke/slimkripke/bdd/CallStack", "clear", "()V"⟩ : MethodName)
abbrev Nm_14 : MethodName := (⟨"com/example/slim_kripke/slimkripke/bdd/BddManager", "beginOperation", "()V"⟩ : MethodName)
abbrev Nm_15 : MethodName := (⟨"com/example/slim_kripke/slimkripke/bdd/BddManager", "level", "(I)I"⟩ : MethodName)
abbrev Nm_16 : MethodName := (⟨"com/example/slim_kripke/slimkripke/bdd/BddManager", "requireVariable", "(I)V"⟩ : MethodName)
abbrev Nm_17 : MethodName := (⟨"com/example/slim_kripke/slimkripke/bdd/BddManager", "entry", "(IIII)I"⟩ : MethodName)
abbrev Nm_18 : MethodName := (⟨"com/example/slim_kripke/slimkripke/bdd/BddManager", "cached", "(IIII)I"⟩ : MethodName)
abbrev Nm_19 : MethodName := (⟨"com/example/slim_kripke/slimkripke/bdd/BddManager", "cofactor", "(IIZ)I"⟩ : MethodName)
abbrev Nm_20 : MethodName := (⟨"com/example/slim_kripke/slimkripke/bdd/BddManager", "remember", "(IIIII)V"⟩ : MethodName)
abbrev Nm_21 : MethodName := (⟨"com/example/slim_kripke/slimkripke/bdd/BddManager", "pend", "(II)I"⟩ : MethodName)
abbrev Nm_22 : MethodName := (⟨"com/example/slim_kripke/slimkripke/bdd/BddManager", "reference", "(I)V"⟩ : MethodName)
abbrev Nm_23 : MethodName := (⟨"com/example/slim_kripke/slimkripke/bdd/Bdd", "<init>", "(Lcom/example/slim_kripke/slimkripke/bdd/BddManager;I)V"⟩ : MethodName)
abbrev Nm_24 : MethodName := (⟨"com/example/slim_kripke/slimkripke/bdd/BddManager", "hold", "(I)Lcom/example/slim_kripke/slimkripke/bdd/Bdd;"⟩ : MethodName)
abbrev Nm_25 : MethodName := (⟨"com/example/slim_kripke/slimkripke/bdd/BddManager", "node", "(III)I"⟩ : MethodName)
abbrev Nm_26 : MethodName := (⟨"com/example/slim_kripke/slimkripke/bdd/BddManager", "variable", "(I)Lcom/example/slim_kripke/slimkripke/bdd/Bdd;"⟩ : MethodName)
abbrev Nm_27 : MethodName := (⟨"com/example/slim_kripke/slimkripke/bdd/CallStack", "size", "()I"⟩ : MethodName)
abbrev Nm_28 : MethodName := (⟨"com/example/slim_kripke/slimkripke/bdd/CallStack", "top", "()I"⟩ : MethodName)
abbrev Nm_29 : MethodName := (⟨"com/example/slim_kripke/slimkripke/bdd/CallStack", "push", "(IIIII)V"⟩ : MethodName)
abbrev Nm_30 : MethodName := (⟨"com/example/slim_kripke/slimkripke/bdd/CallStack", "level", "(I)I"⟩ : MethodName)
abbrev Nm_31 : MethodName := (⟨"com/example/slim_kripke/slimkripke/bdd/CallStack", "low", "(I)I"⟩ : MethodName)
abbrev Nm_32 : MethodName := (⟨"com/example/slim_kripke/slimkripke/bdd/CallStack", "first", "(I)I"⟩ : MethodName)
abbrev Nm_33 : MethodName := (⟨"com/example/slim_kripke/slimkripke/bdd/CallStack", "second", "(I)I"⟩ : MethodName)
abbrev Nm_34 : MethodName := (⟨"com/example/slim_kripke/slimkripke/bdd/CallStack", "third", "(I)I"⟩ : MethodName)
abbrev Nm_35 : MethodName := (⟨"com/example/slim_kripke/slimkripke/bdd/CallStack", "setLow", "(II)V"⟩ : MethodName)
abbrev Nm_36 : MethodName := (⟨"com/example/slim_kripke/slimkripke/bdd/CallStack", "pop", "()V"⟩ : MethodName)
abbrev Nm_37 : MethodName := (⟨"com/example/slim_kripke/slimkripke/bdd/BddManager", "finish", "(III)I"⟩ : MethodName)
abbrev Nm_38 : MethodName := (⟨"com/example/slim_kripke/slimkripke/bdd/BddManager", "apply", "(III)I"⟩ : MethodName)
abbrev Nm_39 : MethodName := (⟨"com/example/slim_kripke/slimkripke/bdd/BddManager", "applyOnStack", "(III)I"⟩ : MethodName)
abbrev Nm_40 : MethodName := (⟨"com/example/slim_kripke/slimkripke/bdd/BddManager", "and", "(II)I"⟩ : MethodName)
abbrev Nm_41 : MethodName := (⟨"com/example/slim_kripke/slimkripke/bdd/BddManager", "negation", "(I)I"⟩ : MethodName)
abbrev Nm_42 : MethodName := (⟨"com/example/slim_kripke/slimkripke/bdd/BddManager", "negationOnStack", "(I)I"⟩ : MethodName)
abbrev Nm_43 : MethodName := (⟨"com/example/slim_kripke/slimkripke/bdd/BddManager", "not", "(I)I"⟩ : MethodName)
def QP (w : Option Value) (h0 : Heap) (n0 : Nat) (v : Option Value) (h : Heap) (L : List Loc) : Prop := v = w ∧ Fr n0 L ∧ h = h0
def QL (w : Option Value) (n0 : Nat) (v : Option Value) (h : Heap) (L : List Loc) : Prop := v = w ∧ Fr n0 L ∧ True
theorem own_selp {s : State} {args : Array Value} {C : String} {y y0 : MethodName} (hc : y0.cls = y.cls) (hs : (Jvm.Cond.selects C y0 y0).before args s = true) (hp : s.PrivateAt y) (hi : (Jvm.Cond.instanceMethod y).before args s = true) (hy : y.cls ≠ "java/lang/invoke/MethodHandle" ∧ y.cls ≠ "java/lang/invoke/VarHandle") : (Jvm.Cond.selects y.cls y y).before args s = true := by
  obtain ⟨c2, r2, m2, q1, q2, q3, q4, kP, hkP, hkPi⟩ := Cond.selects_spec hs
  exact selects_self_of_private (by rw [← hc]; exact findClass_of_methodNamed q3) hkP hkPi hp hi hy
theorem own_seli {s : State} {args : Array Value} {n : Nat} {y : MethodName} (hs : (Jvm.Cond.instantiable y.cls n).before args s = true) (hp : s.PrivateAt y) (hi : (Jvm.Cond.instanceMethod y).before args s = true) (hy : y.cls ≠ "java/lang/invoke/MethodHandle" ∧ y.cls ≠ "java/lang/invoke/VarHandle") : (Jvm.Cond.selects y.cls y y).before args s = true := by
  obtain ⟨c, k, hc, hk, -, hniab, -, -⟩ := Cond.instantiable_spec hs
  exact selects_self_of_private hc hk (Bool.or_eq_false_iff.mp hniab).1 hp hi hy
def own_up (f : Int32 → Int32) (j v : Int32) : Int32 → Int32 := fun i => if i = j then v else f i
def own_z : Int32 → Int32 := fun _ => 0
def own_k (v : Int32) : Int32 → Int32 := fun _ => v
def own_ff (i : Int32) : Int32 := if i.toInt = 4095 then -1 else i + 1
def own_ch0 (j : Int32) : Int32 := if j.toInt ≤ 1 then 0 else own_ff j
def own_ca0 (j : Int32) : Int32 := if j.toInt % 5 = 0 then -1 else 0
theorem own_up_s (f : Int32 → Int32) (j v : Int32) : own_up f j v j = v := by unfold own_up; rw [if_pos rfl]
theorem own_up_n (f : Int32 → Int32) (j v i : Int32) (h : ¬ i = j) : own_up f j v i = f i := by unfold own_up; rw [if_neg h]
theorem own_msk (h : Int32) : 0 ≤ (h &&& (4095 : Int32)).toInt ∧ (h &&& (4095 : Int32)).toInt < 4096 := by
  have e : (h &&& (4095 : Int32)).toBitVec = h.toBitVec &&& 4095#32 := rfl
  have l : (h.toBitVec &&& 4095#32).toNat ≤ 4095 := by rw [BitVec.toNat_and]; exact Nat.and_le_right
  have i : (h &&& (4095 : Int32)).toInt = ((h.toBitVec &&& 4095#32).toNat : Int) := by
    show (h &&& (4095 : Int32)).toBitVec.toInt = _
    rw [e, BitVec.toInt_eq_toNat_of_lt (by omega)]
  omega
theorem own_bu (h : Int32) : ¬ (h &&& (4095 : Int32)) < 0 ∧ (h &&& (4095 : Int32)) < 4096 := by
  have := own_msk h
  rw [Int32.lt_iff_toInt_lt, Int32.lt_iff_toInt_lt, show (0 : Int32).toInt = 0 from rfl, show (4096 : Int32).toInt = 4096 from rfl]; omega
theorem own_en0 (h : Int32) : (((h &&& (((20480 : Int32) / (5 : Int32)) - (1 : Int32))) * (5 : Int32))).toInt = 5 * (h &&& (4095 : Int32)).toInt := by
  have e : ((20480 : Int32) / (5 : Int32)) - (1 : Int32) = 4095 := by decide
  have := own_msk h
  rw [e, Int32.toInt_mul, show (5 : Int32).toInt = 5 from rfl, Int.bmod_eq_of_le (by omega) (by omega)]; omega
theorem own_en (h c : Int32) (hc : 0 ≤ c.toInt) (hc' : c.toInt ≤ 4) : ¬ (((h &&& (((20480 : Int32) / (5 : Int32)) - (1 : Int32))) * (5 : Int32)) + c) < 0 ∧ (((h &&& (((20480 : Int32) / (5 : Int32)) - (1 : Int32))) * (5 : Int32)) + c) < 20480 := by
  have q := own_en0 h
  have := own_msk h
  rw [Int32.lt_iff_toInt_lt, Int32.lt_iff_toInt_lt, Int32.toInt_add, q, Int.bmod_eq_of_le (by omega) (by omega), show (0 : Int32).toInt = 0 from rfl, show (20480 : Int32).toInt = 20480 from rfl]; omega
theorem own_en5 (h : Int32) : own_ca0 (((h &&& (((20480 : Int32) / (5 : Int32)) - (1 : Int32))) * (5 : Int32)) + (0 : Int32)) = -1 := by
  have q := own_en0 h
  unfold own_ca0
  rw [Int32.add_zero, q, if_pos (by omega)]
def own_walk (lv lo hi ch : Int32 → Int32) (a b c : Int32) : Nat → Int32 → Prop
  | 0, v => v = -1
  | k + 1, v => v = -1 ∨ (¬ v < 0 ∧ v < 4096 ∧ ¬ (lv v = a ∧ lo v = b ∧ hi v = c) ∧ own_walk lv lo hi ch a b c k (ch v))
theorem own_w0 (lv lo hi ch : Int32 → Int32) (a b c v : Int32) (h : v = -1) : ∀ k, own_walk lv lo hi ch a b c k v
  | 0 => h
  | _ + 1 => Or.inl h
theorem own_wk {lv lo hi ch : Int32 → Int32} {a b c v w : Int32} {k : Nat} (h1 : ¬ v < 0) (h2 : v < 4096) (h3 : ¬ (lv v = a ∧ lo v = b ∧ hi v = c)) (e : ch v = w) (h4 : own_walk lv lo hi ch a b c k w) : own_walk lv lo hi ch a b c (k + 1) v := Or.inr ⟨h1, h2, h3, e.symm ▸ h4⟩
theorem own_upc (f : Int32 → Int32) (j v i : Int32) : own_up f j v i = v ∨ own_up f j v i = f i := by
  unfold own_up; by_cases h : i = j
  · exact Or.inl (if_pos h)
  · exact Or.inr (if_neg h)
theorem own_w1 {lv lo hi ch : Int32 → Int32} {a b c h i : Int32} (c2 : ch 2 = -1) (n2 : ¬ (lv 2 = a ∧ lo 2 = b ∧ hi 2 = c)) : own_walk lv lo hi ch a b c 3 (own_up (own_k (-1)) h 2 i) := by
  rcases own_upc (own_k (-1)) h 2 i with q | q <;> rw [q]
  · exact own_wk (by decide) (by decide) n2 c2 (own_w0 _ _ _ _ _ _ _ _ rfl _)
  · exact own_w0 _ _ _ _ _ _ _ _ rfl _
theorem own_w2 {lv lo hi ch : Int32 → Int32} {a b c h h' i : Int32} (c2 : ch 2 = -1) (c3 : ch 3 = 2 ∨ ch 3 = -1) (n2 : ¬ (lv 2 = a ∧ lo 2 = b ∧ hi 2 = c)) (n3 : ¬ (lv 3 = a ∧ lo 3 = b ∧ hi 3 = c)) : own_walk lv lo hi ch a b c 3 (own_up (own_up (own_k (-1)) h 2) h' 3 i) := by
  have w2 : ∀ k, own_walk lv lo hi ch a b c (k + 1) 2 := fun k => own_wk (by decide) (by decide) n2 c2 (own_w0 _ _ _ _ _ _ _ _ rfl _)
  rcases own_upc (own_up (own_k (-1)) h 2) h' 3 i with q | q <;> rw [q]
  · rcases c3 with c3 | c3
    · exact own_wk (by decide) (by decide) n3 c3 (w2 _)
    · exact own_wk (by decide) (by decide) n3 c3 (own_w0 _ _ _ _ _ _ _ _ rfl _)
  · rcases own_upc (own_k (-1)) h 2 i with q | q <;> rw [q]
    · exact w2 _
    · exact own_w0 _ _ _ _ _ _ _ _ rfl _
theorem own_w3 {lv lo hi ch : Int32 → Int32} {a b c h h' h'' i : Int32} (c2 : ch 2 = -1) (c3 : ch 3 = 2 ∨ ch 3 = -1) (c4 : ch 4 = 3 ∨ ch 4 = 2 ∨ ch 4 = -1) (n2 : ¬ (lv 2 = a ∧ lo 2 = b ∧ hi 2 = c)) (n3 : ¬ (lv 3 = a ∧ lo 3 = b ∧ hi 3 = c)) (n4 : ¬ (lv 4 = a ∧ lo 4 = b ∧ hi 4 = c)) : own_walk lv lo hi ch a b c 3 (own_up (own_up (own_up (own_k (-1)) h 2) h' 3) h'' 4 i) := by
  have w2 : ∀ k, own_walk lv lo hi ch a b c (k + 1) 2 := fun k => own_wk (by decide) (by decide) n2 c2 (own_w0 _ _ _ _ _ _ _ _ rfl _)
  have w3 : ∀ k, own_walk lv lo hi ch a b c (k + 2) 3 := fun k => by
    rcases c3 with c3 | c3
    · exact own_wk (by decide) (by decide) n3 c3 (w2 _)
    · exact own_wk (by decide) (by decide) n3 c3 (own_w0 _ _ _ _ _ _ _ _ rfl _)
  rcases own_upc (own_up (own_up (own_k (-1)) h 2) h' 3) h'' 4 i with q | q <;> rw [q]
  · rcases c4 with c4 | c4 | c4
    · exact own_wk (by decide) (by decide) n4 c4 (w3 _)
    · exact own_wk (by decide) (by decide) n4 c4 (w2 _)
    · exact own_wk (by decide) (by decide) n4 c4 (own_w0 _ _ _ _ _ _ _ _ rfl _)
  · rcases own_upc (own_up (own_k (-1)) h 2) h' 3 i with q | q <;> rw [q]
    · exact w3 _
    · rcases own_upc (own_k (-1)) h 2 i with q | q <;> rw [q]
      · exact w2 _
      · exact own_w0 _ _ _ _ _ _ _ _ rfl _
theorem own_c3 (x y : Int32) : own_up (own_k (-1)) x 2 y = 2 ∨ own_up (own_k (-1)) x 2 y = -1 := own_upc _ _ _ _
theorem own_c4 (x x' y : Int32) : own_up (own_up (own_k (-1)) x 2) x' 3 y = 3 ∨ own_up (own_up (own_k (-1)) x 2) x' 3 y = 2 ∨ own_up (own_up (own_k (-1)) x 2) x' 3 y = -1 := by
  rcases own_upc (own_up (own_k (-1)) x 2) x' 3 y with q | q
  · exact Or.inl q
  · rw [q]; exact Or.inr (own_c3 _ _)
theorem own_w1s {lv lo hi F : Int32 → Int32} {a b c h i : Int32} (n2 : ¬ (lv 2 = a ∧ lo 2 = b ∧ hi 2 = c)) : own_walk lv lo hi (own_up F 2 (-1)) a b c 3 (own_up (own_k (-1)) h 2 i) := own_w1 (own_up_s _ _ _) n2
theorem own_w2s {lv lo hi F : Int32 → Int32} {a b c h h' i x y : Int32} (n2 : ¬ (lv 2 = a ∧ lo 2 = b ∧ hi 2 = c)) (n3 : ¬ (lv 3 = a ∧ lo 3 = b ∧ hi 3 = c)) : own_walk lv lo hi (own_up (own_up F 2 (-1)) 3 (own_up (own_k (-1)) x 2 y)) a b c 3 (own_up (own_up (own_k (-1)) h 2) h' 3 i) := own_w2 (by rw [own_up_n _ _ _ _ (by decide), own_up_s]) (by rw [own_up_s]; exact own_c3 _ _) n2 n3
theorem own_w3s {lv lo hi F : Int32 → Int32} {a b c h h' h'' i x y x1 x2 y' : Int32} (n2 : ¬ (lv 2 = a ∧ lo 2 = b ∧ hi 2 = c)) (n3 : ¬ (lv 3 = a ∧ lo 3 = b ∧ hi 3 = c)) (n4 : ¬ (lv 4 = a ∧ lo 4 = b ∧ hi 4 = c)) : own_walk lv lo hi (own_up (own_up (own_up F 2 (-1)) 3 (own_up (own_k (-1)) x 2 y)) 4 (own_up (own_up (own_k (-1)) x1 2) x2 3 y')) a b c 3 (own_up (own_up (own_up (own_k (-1)) h 2) h' 3) h'' 4 i) := own_w3 (by rw [own_up_n _ _ _ _ (by decide), own_up_n _ _ _ _ (by decide), own_up_s]) (by rw [own_up_n _ _ _ _ (by decide), own_up_s]; exact own_c3 _ _) (by rw [own_up_s]; exact own_c4 _ _ _) n2 n3 n4
theorem own_ab {F : Int32 → Int32} {a b : Int32} (h : ¬ a = b) : ¬ own_up (own_up F 2 a) 3 b 2 = own_up (own_up F 2 a) 3 b 3 := by rw [own_up_n _ _ _ _ (by decide), own_up_s, own_up_s]; exact h
theorem own_dupX2 {tb : Tables} [Ours tb] {e : Env} {below : List Frame} {T target : State} {m : MethodId} {c : Code} {g : JFrame} (h : At T m c below) (hx : tb.exec = Jvm.exec) (hg : g.method = m) {x y z : Value} {rest : List Value} (hd : decode c.code g.pc = .ok (.dup_x2, 1)) (hs : g.stack = x :: y :: z :: rest) (hc : x.category = 1) (hc' : y.category = 1) (hc'' : z.category = 1)
    (hr : Steps tb e below (T.setTop { g with pc := g.pc + 1, stack := x :: y :: z :: x :: rest }) target) : Steps tb e below (T.setTop g) target := by
  subst hg
  jvm_step h [h.top, hx, hd, hs, hc, hc', hc'']
  exact hr
def own_A (Z : State) (h : Heap) (a : Addr) (n : Int32) (f : Int32 → Int32) : Prop := ∃ c : Cell, Arr Z h a c .int ∧ c.slots.size = n.toNatClampNeg ∧ ¬ n < 0 ∧ ∀ j : Int32, ¬ j < 0 ∧ j < n → c.slots[j.toNatClampNeg]? = some (.int (f j))
section OwnA
variable {Z : State} {h h' : Heap} {a b : Addr} {n j v : Int32} {f g : Int32 → Int32} {ws : List Addr} {sl : Nat} {w : Value}
theorem own_A.lt (F : own_A Z h a n f) : a < h.size := by obtain ⟨c, A, -⟩ := F; exact A.lt
theorem own_A.ext (F : own_A Z h a n f) (E : Ext h h') : own_A Z h' a n f := by obtain ⟨c, A, r⟩ := F; exact ⟨c, A.ext E, r⟩
theorem own_A.other (F : own_A Z h b n f) (W : Wr h h' a sl w) (q : b ≠ a) : own_A Z h' b n f := by obtain ⟨c, A, r⟩ := F; exact ⟨c, A.other W q, r⟩
theorem own_A.keep (F : own_A Z h a n f) (K : Keep h h' ws) (q : a ∉ ws) : own_A Z h' a n f := by obtain ⟨c, A, r⟩ := F; exact ⟨c, ⟨K.2.1 a c A.1 q, A.2⟩, r⟩
theorem own_A.congr (F : own_A Z h a n f) (q : ∀ j, ¬ j < 0 ∧ j < n → f j = g j) : own_A Z h a n g := by
  obtain ⟨c, A, S, r, H⟩ := F
  exact ⟨c, A, S, r, fun j hj => by rw [← q j hj]; exact H j hj⟩
theorem own_A.new {k : ClassId} (A : Arr Z h a (newA k .int n) .int) (q : ¬ n < 0) : own_A Z h a n own_z := ⟨_, A, sz_new _ _ _, q, fun j hj => by
  have u := inb_of (sz_new k .int n) hj
  have u2 : j.toNatClampNeg < n.toNatClampNeg := by
    have := Nat.lt_of_not_le fun y => u (Or.inr y)
    rw [sz_new] at this; exact this
  simp only [newA]
  rw [Array.getElem?_replicate, if_pos u2]; rfl⟩
theorem own_A.set (F : own_A Z h a n f) (W : Wr h h' a j.toNatClampNeg (.int v)) (q : ¬ j < 0 ∧ j < n) : own_A Z h' a n (own_up f j v) := by
  obtain ⟨c, A, S, r, H⟩ := F
  refine ⟨_, A.same W, by rw [sz_set]; exact S, r, fun i hi => ?_⟩
  have u := Nat.lt_of_not_le fun y => inb_of S q (Or.inr y)
  by_cases e : i = j
  · subst e; rw [own_up_s]; simp [Cell.setSlot, u]
  · rw [own_up_n _ _ _ _ e]
    have ne : j.toNatClampNeg ≠ i.toNatClampNeg := fun y => e (Int32.toInt_inj.mp (by rw [nat_of hi.1, nat_of q.1, y]))
    simp only [Cell.setSlot]; rw [Array.getElem?_setIfInBounds_ne ne]; exact H i hi
end OwnA
def Mg (Z : State) (n0 : Nat) (h : Heap) (oa qcs qcf qpe qlv qlo qhi qrf qch qbk qca : Nat) (xn xs xff xfc xdp xcz xli xpk : Int32) (xlv xlo xhi xrf xch xbk xca xcf xpe : Int32 → Int32) : Prop := (n0 ≤ oa) ∧ (oa < qcs ∧ qcs < qcf ∧ qcf < qpe ∧ qpe < qlv ∧ qlv < qlo ∧ qlo < qhi ∧ qhi < qrf ∧ qrf < qch ∧ qch < qbk ∧ qbk < qca) ∧ (Exa Z h oa "com/example/slim_kripke/slimkripke/bdd/BddManager") ∧ (Exa Z h qcs "com/example/slim_kripke/slimkripke/bdd/CallStack") ∧ (Fld Z h oa "com/example/slim_kripke/slimkripke/bdd/BddManager" "variableCount" "I" (.int xn)) ∧ (Fld Z h oa "com/example/slim_kripke/slimkripke/bdd/BddManager" "recursionLimit" "I" (.int xs)) ∧ (Fld Z h oa "com/example/slim_kripke/slimkripke/bdd/BddManager" "firstFree" "I" (.int xff)) ∧ (Fld Z h oa "com/example/slim_kripke/slimkripke/bdd/BddManager" "freeCount" "I" (.int xfc)) ∧ (Fld Z h oa "com/example/slim_kripke/slimkripke/bdd/BddManager" "depth" "I" (.int xdp)) ∧ (Fld Z h oa "com/example/slim_kripke/slimkripke/bdd/BddManager" "liveNodes" "I" (.int xli)) ∧ (Fld Z h oa "com/example/slim_kripke/slimkripke/bdd/BddManager" "peakLiveNodes" "I" (.int xpk)) ∧ (Fld Z h oa "com/example/slim_kripke/slimkripke/bdd/BddManager" "levels" "[I" (.ref qlv)) ∧ (Fld Z h oa "com/example/slim_kripke/slimkripke/bdd/BddManager" "lows" "[I" (.ref qlo)) ∧ (Fld Z h oa "com/example/slim_kripke/slimkripke/bdd/BddManager" "highs" "[I" (.ref qhi)) ∧ (Fld Z h oa "com/example/slim_kripke/slimkripke/bdd/BddManager" "references" "[I" (.ref qrf)) ∧ (Fld Z h oa "com/example/slim_kripke/slimkripke/bdd/BddManager" "chains" "[I" (.ref qch)) ∧ (Fld Z h oa "com/example/slim_kripke/slimkripke/bdd/BddManager" "buckets" "[I" (.ref qbk)) ∧ (Fld Z h oa "com/example/slim_kripke/slimkripke/bdd/BddManager" "cache" "[I" (.ref qca)) ∧ (Fld Z h oa "com/example/slim_kripke/slimkripke/bdd/BddManager" "pending" "[I" (.ref qpe)) ∧ (Fld Z h oa "com/example/slim_kripke/slimkripke/bdd/BddManager" "calls" "Lcom/example/slim_kripke/slimkripke/bdd/CallStack;" (.ref qcs)) ∧ (Fld Z h qcs "com/example/slim_kripke/slimkripke/bdd/CallStack" "fields" "[I" (.ref qcf)) ∧ (Fld Z h qcs "com/example/slim_kripke/slimkripke/bdd/CallStack" "size" "I" (.int xcz)) ∧ (own_A Z h qlv 4096 xlv) ∧ (own_A Z h qlo 4096 xlo) ∧ (own_A Z h qhi 4096 xhi) ∧ (own_A Z h qrf 4096 xrf) ∧ (own_A Z h qch 4096 xch) ∧ (own_A Z h qbk 4096 xbk) ∧ (own_A Z h qca 20480 xca) ∧ (own_A Z h qcf 320 xcf) ∧ (own_A Z h qpe 64 xpe)
section OwnM
variable {Z : State} {n0 : Nat} {h h' : Heap} {oa qcs qcf qpe qlv qlo qhi qrf qch qbk qca : Nat} {xn xs xff xfc xdp xcz xli xpk v j : Int32} {xlv xlo xhi xrf xch xbk xca xcf xpe : Int32 → Int32} {a0 : Array Value}
theorem Mg.g0 (M : Mg Z n0 h oa qcs qcf qpe qlv qlo qhi qrf qch qbk qca xn xs xff xfc xdp xcz xli xpk xlv xlo xhi xrf xch xbk xca xcf xpe) : n0 ≤ oa := M.1
theorem Mg.od (M : Mg Z n0 h oa qcs qcf qpe qlv qlo qhi qrf qch qbk qca xn xs xff xfc xdp xcz xli xpk xlv xlo xhi xrf xch xbk xca xcf xpe) : oa < qcs ∧ qcs < qcf ∧ qcf < qpe ∧ qpe < qlv ∧ qlv < qlo ∧ qlo < qhi ∧ qhi < qrf ∧ qrf < qch ∧ qch < qbk ∧ qbk < qca := M.2.1
theorem Mg.e (M : Mg Z n0 h oa qcs qcf qpe qlv qlo qhi qrf qch qbk qca xn xs xff xfc xdp xcz xli xpk xlv xlo xhi xrf xch xbk xca xcf xpe) : Exa Z h oa "com/example/slim_kripke/slimkripke/bdd/BddManager" := M.2.2.1
theorem Mg.ec (M : Mg Z n0 h oa qcs qcf qpe qlv qlo qhi qrf qch qbk qca xn xs xff xfc xdp xcz xli xpk xlv xlo xhi xrf xch xbk xca xcf xpe) : Exa Z h qcs "com/example/slim_kripke/slimkripke/bdd/CallStack" := M.2.2.2.1
theorem Mg.f_n (M : Mg Z n0 h oa qcs qcf qpe qlv qlo qhi qrf qch qbk qca xn xs xff xfc xdp xcz xli xpk xlv xlo xhi xrf xch xbk xca xcf xpe) : Fld Z h oa "com/example/slim_kripke/slimkripke/bdd/BddManager" "variableCount" "I" (.int xn) := M.2.2.2.2.1
theorem Mg.f_s (M : Mg Z n0 h oa qcs qcf qpe qlv qlo qhi qrf qch qbk qca xn xs xff xfc xdp xcz xli xpk xlv xlo xhi xrf xch xbk xca xcf xpe) : Fld Z h oa "com/example/slim_kripke/slimkripke/bdd/BddManager" "recursionLimit" "I" (.int xs) := M.2.2.2.2.2.1
theorem Mg.f_ff (M : Mg Z n0 h oa qcs qcf qpe qlv qlo qhi qrf qch qbk qca xn xs xff xfc xdp xcz xli xpk xlv xlo xhi xrf xch xbk xca xcf xpe) : Fld Z h oa "com/example/slim_kripke/slimkripke/bdd/BddManager" "firstFree" "I" (.int xff) := M.2.2.2.2.2.2.1
theorem Mg.f_fc (M : Mg Z n0 h oa qcs qcf qpe qlv qlo qhi qrf qch qbk qca xn xs xff xfc xdp xcz xli xpk xlv xlo xhi xrf xch xbk xca xcf xpe) : Fld Z h oa "com/example/slim_kripke/slimkripke/bdd/BddManager" "freeCount" "I" (.int xfc) := M.2.2.2.2.2.2.2.1
theorem Mg.f_dp (M : Mg Z n0 h oa qcs qcf qpe qlv qlo qhi qrf qch qbk qca xn xs xff xfc xdp xcz xli xpk xlv xlo xhi xrf xch xbk xca xcf xpe) : Fld Z h oa "com/example/slim_kripke/slimkripke/bdd/BddManager" "depth" "I" (.int xdp) := M.2.2.2.2.2.2.2.2.1
theorem Mg.f_li (M : Mg Z n0 h oa qcs qcf qpe qlv qlo qhi qrf qch qbk qca xn xs xff xfc xdp xcz xli xpk xlv xlo xhi xrf xch xbk xca xcf xpe) : Fld Z h oa "com/example/slim_kripke/slimkripke/bdd/BddManager" "liveNodes" "I" (.int xli) := M.2.2.2.2.2.2.2.2.2.1
theorem Mg.f_pk (M : Mg Z n0 h oa qcs qcf qpe qlv qlo qhi qrf qch qbk qca xn xs xff xfc xdp xcz xli xpk xlv xlo xhi xrf xch xbk xca xcf xpe) : Fld Z h oa "com/example/slim_kripke/slimkripke/bdd/BddManager" "peakLiveNodes" "I" (.int xpk) := M.2.2.2.2.2.2.2.2.2.2.1
theorem Mg.f_lv (M : Mg Z n0 h oa qcs qcf qpe qlv qlo qhi qrf qch qbk qca xn xs xff xfc xdp xcz xli xpk xlv xlo xhi xrf xch xbk xca xcf xpe) : Fld Z h oa "com/example/slim_kripke/slimkripke/bdd/BddManager" "levels" "[I" (.ref qlv) := M.2.2.2.2.2.2.2.2.2.2.2.1
theorem Mg.f_lo (M : Mg Z n0 h oa qcs qcf qpe qlv qlo qhi qrf qch qbk qca xn xs xff xfc xdp xcz xli xpk xlv xlo xhi xrf xch xbk xca xcf xpe) : Fld Z h oa "com/example/slim_kripke/slimkripke/bdd/BddManager" "lows" "[I" (.ref qlo) := M.2.2.2.2.2.2.2.2.2.2.2.2.1
theorem Mg.f_hi (M : Mg Z n0 h oa qcs qcf qpe qlv qlo qhi qrf qch qbk qca xn xs xff xfc xdp xcz xli xpk xlv xlo xhi xrf xch xbk xca xcf xpe) : Fld Z h oa "com/example/slim_kripke/slimkripke/bdd/BddManager" "highs" "[I" (.ref qhi) := M.2.2.2.2.2.2.2.2.2.2.2.2.2.1
theorem Mg.f_rf (M : Mg Z n0 h oa qcs qcf qpe qlv qlo qhi qrf qch qbk qca xn xs xff xfc xdp xcz xli xpk xlv xlo xhi xrf xch xbk xca xcf xpe) : Fld Z h oa "com/example/slim_kripke/slimkripke/bdd/BddManager" "references" "[I" (.ref qrf) := M.2.2.2.2.2.2.2.2.2.2.2.2.2.2.1
theorem Mg.f_ch (M : Mg Z n0 h oa qcs qcf qpe qlv qlo qhi qrf qch qbk qca xn xs xff xfc xdp xcz xli xpk xlv xlo xhi xrf xch xbk xca xcf xpe) : Fld Z h oa "com/example/slim_kripke/slimkripke/bdd/BddManager" "chains" "[I" (.ref qch) := M.2.2.2.2.2.2.2.2.2.2.2.2.2.2.2.1
theorem Mg.f_bk (M : Mg Z n0 h oa qcs qcf qpe qlv qlo qhi qrf qch qbk qca xn xs xff xfc xdp xcz xli xpk xlv xlo xhi xrf xch xbk xca xcf xpe) : Fld Z h oa "com/example/slim_kripke/slimkripke/bdd/BddManager" "buckets" "[I" (.ref qbk) := M.2.2.2.2.2.2.2.2.2.2.2.2.2.2.2.2.1
theorem Mg.f_ca (M : Mg Z n0 h oa qcs qcf qpe qlv qlo qhi qrf qch qbk qca xn xs xff xfc xdp xcz xli xpk xlv xlo xhi xrf xch xbk xca xcf xpe) : Fld Z h oa "com/example/slim_kripke/slimkripke/bdd/BddManager" "cache" "[I" (.ref qca) := M.2.2.2.2.2.2.2.2.2.2.2.2.2.2.2.2.2.1
theorem Mg.f_pe (M : Mg Z n0 h oa qcs qcf qpe qlv qlo qhi qrf qch qbk qca xn xs xff xfc xdp xcz xli xpk xlv xlo xhi xrf xch xbk xca xcf xpe) : Fld Z h oa "com/example/slim_kripke/slimkripke/bdd/BddManager" "pending" "[I" (.ref qpe) := M.2.2.2.2.2.2.2.2.2.2.2.2.2.2.2.2.2.2.1
theorem Mg.f_cs (M : Mg Z n0 h oa qcs qcf qpe qlv qlo qhi qrf qch qbk qca xn xs xff xfc xdp xcz xli xpk xlv xlo xhi xrf xch xbk xca xcf xpe) : Fld Z h oa "com/example/slim_kripke/slimkripke/bdd/BddManager" "calls" "Lcom/example/slim_kripke/slimkripke/bdd/CallStack;" (.ref qcs) := M.2.2.2.2.2.2.2.2.2.2.2.2.2.2.2.2.2.2.2.1
theorem Mg.f_cf (M : Mg Z n0 h oa qcs qcf qpe qlv qlo qhi qrf qch qbk qca xn xs xff xfc xdp xcz xli xpk xlv xlo xhi xrf xch xbk xca xcf xpe) : Fld Z h qcs "com/example/slim_kripke/slimkripke/bdd/CallStack" "fields" "[I" (.ref qcf) := M.2.2.2.2.2.2.2.2.2.2.2.2.2.2.2.2.2.2.2.2.1
theorem Mg.f_cz (M : Mg Z n0 h oa qcs qcf qpe qlv qlo qhi qrf qch qbk qca xn xs xff xfc xdp xcz xli xpk xlv xlo xhi xrf xch xbk xca xcf xpe) : Fld Z h qcs "com/example/slim_kripke/slimkripke/bdd/CallStack" "size" "I" (.int xcz) := M.2.2.2.2.2.2.2.2.2.2.2.2.2.2.2.2.2.2.2.2.2.1
theorem Mg.a_lv (M : Mg Z n0 h oa qcs qcf qpe qlv qlo qhi qrf qch qbk qca xn xs xff xfc xdp xcz xli xpk xlv xlo xhi xrf xch xbk xca xcf xpe) : own_A Z h qlv 4096 xlv := M.2.2.2.2.2.2.2.2.2.2.2.2.2.2.2.2.2.2.2.2.2.2.1
theorem Mg.a_lo (M : Mg Z n0 h oa qcs qcf qpe qlv qlo qhi qrf qch qbk qca xn xs xff xfc xdp xcz xli xpk xlv xlo xhi xrf xch xbk xca xcf xpe) : own_A Z h qlo 4096 xlo := M.2.2.2.2.2.2.2.2.2.2.2.2.2.2.2.2.2.2.2.2.2.2.2.1
theorem Mg.a_hi (M : Mg Z n0 h oa qcs qcf qpe qlv qlo qhi qrf qch qbk qca xn xs xff xfc xdp xcz xli xpk xlv xlo xhi xrf xch xbk xca xcf xpe) : own_A Z h qhi 4096 xhi := M.2.2.2.2.2.2.2.2.2.2.2.2.2.2.2.2.2.2.2.2.2.2.2.2.1
theorem Mg.a_rf (M : Mg Z n0 h oa qcs qcf qpe qlv qlo qhi qrf qch qbk qca xn xs xff xfc xdp xcz xli xpk xlv xlo xhi xrf xch xbk xca xcf xpe) : own_A Z h qrf 4096 xrf := M.2.2.2.2.2.2.2.2.2.2.2.2.2.2.2.2.2.2.2.2.2.2.2.2.2.1
theorem Mg.a_ch (M : Mg Z n0 h oa qcs qcf qpe qlv qlo qhi qrf qch qbk qca xn xs xff xfc xdp xcz xli xpk xlv xlo xhi xrf xch xbk xca xcf xpe) : own_A Z h qch 4096 xch := M.2.2.2.2.2.2.2.2.2.2.2.2.2.2.2.2.2.2.2.2.2.2.2.2.2.2.1
theorem Mg.a_bk (M : Mg Z n0 h oa qcs qcf qpe qlv qlo qhi qrf qch qbk qca xn xs xff xfc xdp xcz xli xpk xlv xlo xhi xrf xch xbk xca xcf xpe) : own_A Z h qbk 4096 xbk := M.2.2.2.2.2.2.2.2.2.2.2.2.2.2.2.2.2.2.2.2.2.2.2.2.2.2.2.1
theorem Mg.a_ca (M : Mg Z n0 h oa qcs qcf qpe qlv qlo qhi qrf qch qbk qca xn xs xff xfc xdp xcz xli xpk xlv xlo xhi xrf xch xbk xca xcf xpe) : own_A Z h qca 20480 xca := M.2.2.2.2.2.2.2.2.2.2.2.2.2.2.2.2.2.2.2.2.2.2.2.2.2.2.2.2.1
theorem Mg.a_cf (M : Mg Z n0 h oa qcs qcf qpe qlv qlo qhi qrf qch qbk qca xn xs xff xfc xdp xcz xli xpk xlv xlo xhi xrf xch xbk xca xcf xpe) : own_A Z h qcf 320 xcf := M.2.2.2.2.2.2.2.2.2.2.2.2.2.2.2.2.2.2.2.2.2.2.2.2.2.2.2.2.2.1
theorem Mg.a_pe (M : Mg Z n0 h oa qcs qcf qpe qlv qlo qhi qrf qch qbk qca xn xs xff xfc xdp xcz xli xpk xlv xlo xhi xrf xch xbk xca xcf xpe) : own_A Z h qpe 64 xpe := M.2.2.2.2.2.2.2.2.2.2.2.2.2.2.2.2.2.2.2.2.2.2.2.2.2.2.2.2.2.2
theorem Mg.z (M : Mg Z n0 h oa qcs qcf qpe qlv qlo qhi qrf qch qbk qca xn xs xff xfc xdp xcz xli xpk xlv xlo xhi xrf xch xbk xca xcf xpe) : n0 ≤ h.size := Nat.le_trans M.g0 (Nat.le_of_lt M.e.lt)
theorem Mg.top (M : Mg Z n0 h oa qcs qcf qpe qlv qlo qhi qrf qch qbk qca xn xs xff xfc xdp xcz xli xpk xlv xlo xhi xrf xch xbk xca xcf xpe) : qca < h.size := M.a_ca.lt
theorem Mg.g_cs (M : Mg Z n0 h oa qcs qcf qpe qlv qlo qhi qrf qch qbk qca xn xs xff xfc xdp xcz xli xpk xlv xlo xhi xrf xch xbk xca xcf xpe) : n0 ≤ qcs := by have := M.g0; have := M.od; omega
theorem Mg.g_cf (M : Mg Z n0 h oa qcs qcf qpe qlv qlo qhi qrf qch qbk qca xn xs xff xfc xdp xcz xli xpk xlv xlo xhi xrf xch xbk xca xcf xpe) : n0 ≤ qcf := by have := M.g0; have := M.od; omega
theorem Mg.g_pe (M : Mg Z n0 h oa qcs qcf qpe qlv qlo qhi qrf qch qbk qca xn xs xff xfc xdp xcz xli xpk xlv xlo xhi xrf xch xbk xca xcf xpe) : n0 ≤ qpe := by have := M.g0; have := M.od; omega
theorem Mg.g_lv (M : Mg Z n0 h oa qcs qcf qpe qlv qlo qhi qrf qch qbk qca xn xs xff xfc xdp xcz xli xpk xlv xlo xhi xrf xch xbk xca xcf xpe) : n0 ≤ qlv := by have := M.g0; have := M.od; omega
theorem Mg.g_lo (M : Mg Z n0 h oa qcs qcf qpe qlv qlo qhi qrf qch qbk qca xn xs xff xfc xdp xcz xli xpk xlv xlo xhi xrf xch xbk xca xcf xpe) : n0 ≤ qlo := by have := M.g0; have := M.od; omega
theorem Mg.g_hi (M : Mg Z n0 h oa qcs qcf qpe qlv qlo qhi qrf qch qbk qca xn xs xff xfc xdp xcz xli xpk xlv xlo xhi xrf xch xbk xca xcf xpe) : n0 ≤ qhi := by have := M.g0; have := M.od; omega
theorem Mg.g_rf (M : Mg Z n0 h oa qcs qcf qpe qlv qlo qhi qrf qch qbk qca xn xs xff xfc xdp xcz xli xpk xlv xlo xhi xrf xch xbk xca xcf xpe) : n0 ≤ qrf := by have := M.g0; have := M.od; omega
theorem Mg.g_ch (M : Mg Z n0 h oa qcs qcf qpe qlv qlo qhi qrf qch qbk qca xn xs xff xfc xdp xcz xli xpk xlv xlo xhi xrf xch xbk xca xcf xpe) : n0 ≤ qch := by have := M.g0; have := M.od; omega
theorem Mg.g_bk (M : Mg Z n0 h oa qcs qcf qpe qlv qlo qhi qrf qch qbk qca xn xs xff xfc xdp xcz xli xpk xlv xlo xhi xrf xch xbk xca xcf xpe) : n0 ≤ qbk := by have := M.g0; have := M.od; omega
theorem Mg.g_ca (M : Mg Z n0 h oa qcs qcf qpe qlv qlo qhi qrf qch qbk qca xn xs xff xfc xdp xcz xli xpk xlv xlo xhi xrf xch xbk xca xcf xpe) : n0 ≤ qca := by have := M.g0; have := M.od; omega
theorem own_ne {a b : Nat} (h : a < b ∨ b < a) : a ≠ b := by omega
theorem Mg.ext (M : Mg Z n0 h oa qcs qcf qpe qlv qlo qhi qrf qch qbk qca xn xs xff xfc xdp xcz xli xpk xlv xlo xhi xrf xch xbk xca xcf xpe) (E : Ext h h') : Mg Z n0 h' oa qcs qcf qpe qlv qlo qhi qrf qch qbk qca xn xs xff xfc xdp xcz xli xpk xlv xlo xhi xrf xch xbk xca xcf xpe := ⟨M.g0, M.od, M.e.ext E, M.ec.ext E, M.f_n.ext E, M.f_s.ext E, M.f_ff.ext E, M.f_fc.ext E, M.f_dp.ext E, M.f_li.ext E, M.f_pk.ext E, M.f_lv.ext E, M.f_lo.ext E, M.f_hi.ext E, M.f_rf.ext E, M.f_ch.ext E, M.f_bk.ext E, M.f_ca.ext E, M.f_pe.ext E, M.f_cs.ext E, M.f_cf.ext E, M.f_cz.ext E, M.a_lv.ext E, M.a_lo.ext E, M.a_hi.ext E, M.a_rf.ext E, M.a_ch.ext E, M.a_bk.ext E, M.a_ca.ext E, M.a_cf.ext E, M.a_pe.ext E⟩
theorem Mg.keepn {x : Nat} (M : Mg Z n0 h oa qcs qcf qpe qlv qlo qhi qrf qch qbk qca xn xs xff xfc xdp xcz xli xpk xlv xlo xhi xrf xch xbk xca xcf xpe) (K : Keep h h' [x]) (q : qca < x) : Mg Z n0 h' oa qcs qcf qpe qlv qlo qhi qrf qch qbk qca xn xs xff xfc xdp xcz xli xpk xlv xlo xhi xrf xch xbk xca xcf xpe := ⟨M.g0, M.od, M.e.keep K, M.ec.keep K, M.f_n.keep K (ninS (own_ne (by have := M.od; omega)) nin0), M.f_s.keep K (ninS (own_ne (by have := M.od; omega)) nin0), M.f_ff.keep K (ninS (own_ne (by have := M.od; omega)) nin0), M.f_fc.keep K (ninS (own_ne (by have := M.od; omega)) nin0), M.f_dp.keep K (ninS (own_ne (by have := M.od; omega)) nin0), M.f_li.keep K (ninS (own_ne (by have := M.od; omega)) nin0), M.f_pk.keep K (ninS (own_ne (by have := M.od; omega)) nin0), M.f_lv.keep K (ninS (own_ne (by have := M.od; omega)) nin0), M.f_lo.keep K (ninS (own_ne (by have := M.od; omega)) nin0), M.f_hi.keep K (ninS (own_ne (by have := M.od; omega)) nin0), M.f_rf.keep K (ninS (own_ne (by have := M.od; omega)) nin0), M.f_ch.keep K (ninS (own_ne (by have := M.od; omega)) nin0), M.f_bk.keep K (ninS (own_ne (by have := M.od; omega)) nin0), M.f_ca.keep K (ninS (own_ne (by have := M.od; omega)) nin0), M.f_pe.keep K (ninS (own_ne (by have := M.od; omega)) nin0), M.f_cs.keep K (ninS (own_ne (by have := M.od; omega)) nin0), M.f_cf.keep K (ninS (own_ne (by have := M.od; omega)) nin0), M.f_cz.keep K (ninS (own_ne (by have := M.od; omega)) nin0), M.a_lv.keep K (ninS (own_ne (by have := M.od; omega)) nin0), M.a_lo.keep K (ninS (own_ne (by have := M.od; omega)) nin0), M.a_hi.keep K (ninS (own_ne (by have := M.od; omega)) nin0), M.a_rf.keep K (ninS (own_ne (by have := M.od; omega)) nin0), M.a_ch.keep K (ninS (own_ne (by have := M.od; omega)) nin0), M.a_bk.keep K (ninS (own_ne (by have := M.od; omega)) nin0), M.a_ca.keep K (ninS (own_ne (by have := M.od; omega)) nin0), M.a_cf.keep K (ninS (own_ne (by have := M.od; omega)) nin0), M.a_pe.keep K (ninS (own_ne (by have := M.od; omega)) nin0)⟩
theorem Mg.w_ff (M : Mg Z n0 h oa qcs qcf qpe qlv qlo qhi qrf qch qbk qca xn xs xff xfc xdp xcz xli xpk xlv xlo xhi xrf xch xbk xca xcf xpe) (hw : ∀ d ∈ tables_1, d.before a0 Z = true) (W : Wr h h' oa (Jvm.RoadKit.slotOf Z "com/example/slim_kripke/slimkripke/bdd/BddManager" "firstFree" "I") (.int v)) : Mg Z n0 h' oa qcs qcf qpe qlv qlo qhi qrf qch qbk qca xn xs v xfc xdp xcz xli xpk xlv xlo xhi xrf xch xbk xca xcf xpe := ⟨M.g0, M.od, M.e.wr W, M.ec.wr W, M.f_n.other W (Or.inr (slot_ne (Or.inr (wq hw 29 rfl)) (Or.inl (wq hw 53 rfl)) (by decide) (t := .int) (t' := .int) (by decide) (by decide))), M.f_s.other W (Or.inr (slot_ne (Or.inr (wq hw 31 rfl)) (Or.inl (wq hw 53 rfl)) (by decide) (t := .int) (t' := .int) (by decide) (by decide))), M.f_ff.same W, M.f_fc.other W (Or.inr (slot_ne (Or.inl (wq hw 55 rfl)) (Or.inl (wq hw 53 rfl)) (by decide) (t := .int) (t' := .int) (by decide) (by decide))), M.f_dp.other W (Or.inr (slot_ne (Or.inl (wq hw 99 rfl)) (Or.inl (wq hw 53 rfl)) (by decide) (t := .int) (t' := .int) (by decide) (by decide))), M.f_li.other W (Or.inr (slot_ne (Or.inl (wq hw 25 rfl)) (Or.inl (wq hw 53 rfl)) (by decide) (t := .int) (t' := .int) (by decide) (by decide))), M.f_pk.other W (Or.inr (slot_ne (Or.inl (wq hw 27 rfl)) (Or.inl (wq hw 53 rfl)) (by decide) (t := .int) (t' := .int) (by decide) (by decide))), M.f_lv.other W (Or.inr (slot_ne (Or.inl (wq hw 37 rfl)) (Or.inl (wq hw 53 rfl)) (by decide) (t := (.array .int)) (t' := .int) (by decide) (by decide))), M.f_lo.other W (Or.inr (slot_ne (Or.inl (wq hw 39 rfl)) (Or.inl (wq hw 53 rfl)) (by decide) (t := (.array .int)) (t' := .int) (by decide) (by decide))), M.f_hi.other W (Or.inr (slot_ne (Or.inl (wq hw 41 rfl)) (Or.inl (wq hw 53 rfl)) (by decide) (t := (.array .int)) (t' := .int) (by decide) (by decide))), M.f_rf.other W (Or.inr (slot_ne (Or.inl (wq hw 43 rfl)) (Or.inl (wq hw 53 rfl)) (by decide) (t := (.array .int)) (t' := .int) (by decide) (by decide))), M.f_ch.other W (Or.inr (slot_ne (Or.inl (wq hw 45 rfl)) (Or.inl (wq hw 53 rfl)) (by decide) (t := (.array .int)) (t' := .int) (by decide) (by decide))), M.f_bk.other W (Or.inr (slot_ne (Or.inl (wq hw 47 rfl)) (Or.inl (wq hw 53 rfl)) (by decide) (t := (.array .int)) (t' := .int) (by decide) (by decide))), M.f_ca.other W (Or.inr (slot_ne (Or.inl (wq hw 75 rfl)) (Or.inl (wq hw 53 rfl)) (by decide) (t := (.array .int)) (t' := .int) (by decide) (by decide))), M.f_pe.other W (Or.inr (slot_ne (Or.inl (wq hw 23 rfl)) (Or.inl (wq hw 53 rfl)) (by decide) (t := (.array .int)) (t' := .int) (by decide) (by decide))), M.f_cs.other W (Or.inr (slot_ne (Or.inr (wq hw 21 rfl)) (Or.inl (wq hw 53 rfl)) (by decide) (t := (.object "com/example/slim_kripke/slimkripke/bdd/CallStack")) (t' := .int) (by decide) (by decide))), M.f_cf.other W (Or.inl (own_ne (by have := M.od; omega))), M.f_cz.other W (Or.inl (own_ne (by have := M.od; omega))), M.a_lv.other W (own_ne (by have := M.od; omega)), M.a_lo.other W (own_ne (by have := M.od; omega)), M.a_hi.other W (own_ne (by have := M.od; omega)), M.a_rf.other W (own_ne (by have := M.od; omega)), M.a_ch.other W (own_ne (by have := M.od; omega)), M.a_bk.other W (own_ne (by have := M.od; omega)), M.a_ca.other W (own_ne (by have := M.od; omega)), M.a_cf.other W (own_ne (by have := M.od; omega)), M.a_pe.other W (own_ne (by have := M.od; omega))⟩
theorem Mg.w_fc (M : Mg Z n0 h oa qcs qcf qpe qlv qlo qhi qrf qch qbk qca xn xs xff xfc xdp xcz xli xpk xlv xlo xhi xrf xch xbk xca xcf xpe) (hw : ∀ d ∈ tables_1, d.before a0 Z = true) (W : Wr h h' oa (Jvm.RoadKit.slotOf Z "com/example/slim_kripke/slimkripke/bdd/BddManager" "freeCount" "I") (.int v)) : Mg Z n0 h' oa qcs qcf qpe qlv qlo qhi qrf qch qbk qca xn xs xff v xdp xcz xli xpk xlv xlo xhi xrf xch xbk xca xcf xpe := ⟨M.g0, M.od, M.e.wr W, M.ec.wr W, M.f_n.other W (Or.inr (slot_ne (Or.inr (wq hw 29 rfl)) (Or.inl (wq hw 55 rfl)) (by decide) (t := .int) (t' := .int) (by decide) (by decide))), M.f_s.other W (Or.inr (slot_ne (Or.inr (wq hw 31 rfl)) (Or.inl (wq hw 55 rfl)) (by decide) (t := .int) (t' := .int) (by decide) (by decide))), M.f_ff.other W (Or.inr (slot_ne (Or.inl (wq hw 53 rfl)) (Or.inl (wq hw 55 rfl)) (by decide) (t := .int) (t' := .int) (by decide) (by decide))), M.f_fc.same W, M.f_dp.other W (Or.inr (slot_ne (Or.inl (wq hw 99 rfl)) (Or.inl (wq hw 55 rfl)) (by decide) (t := .int) (t' := .int) (by decide) (by decide))), M.f_li.other W (Or.inr (slot_ne (Or.inl (wq hw 25 rfl)) (Or.inl (wq hw 55 rfl)) (by decide) (t := .int) (t' := .int) (by decide) (by decide))), M.f_pk.other W (Or.inr (slot_ne (Or.inl (wq hw 27 rfl)) (Or.inl (wq hw 55 rfl)) (by decide) (t := .int) (t' := .int) (by decide) (by decide))), M.f_lv.other W (Or.inr (slot_ne (Or.inl (wq hw 37 rfl)) (Or.inl (wq hw 55 rfl)) (by decide) (t := (.array .int)) (t' := .int) (by decide) (by decide))), M.f_lo.other W (Or.inr (slot_ne (Or.inl (wq hw 39 rfl)) (Or.inl (wq hw 55 rfl)) (by decide) (t := (.array .int)) (t' := .int) (by decide) (by decide))), M.f_hi.other W (Or.inr (slot_ne (Or.inl (wq hw 41 rfl)) (Or.inl (wq hw 55 rfl)) (by decide) (t := (.array .int)) (t' := .int) (by decide) (by decide))), M.f_rf.other W (Or.inr (slot_ne (Or.inl (wq hw 43 rfl)) (Or.inl (wq hw 55 rfl)) (by decide) (t := (.array .int)) (t' := .int) (by decide) (by decide))), M.f_ch.other W (Or.inr (slot_ne (Or.inl (wq hw 45 rfl)) (Or.inl (wq hw 55 rfl)) (by decide) (t := (.array .int)) (t' := .int) (by decide) (by decide))), M.f_bk.other W (Or.inr (slot_ne (Or.inl (wq hw 47 rfl)) (Or.inl (wq hw 55 rfl)) (by decide) (t := (.array .int)) (t' := .int) (by decide) (by decide))), M.f_ca.other W (Or.inr (slot_ne (Or.inl (wq hw 75 rfl)) (Or.inl (wq hw 55 rfl)) (by decide) (t := (.array .int)) (t' := .int) (by decide) (by decide))), M.f_pe.other W (Or.inr (slot_ne (Or.inl (wq hw 23 rfl)) (Or.inl (wq hw 55 rfl)) (by decide) (t := (.array .int)) (t' := .int) (by decide) (by decide))), M.f_cs.other W (Or.inr (slot_ne (Or.inr (wq hw 21 rfl)) (Or.inl (wq hw 55 rfl)) (by decide) (t := (.object "com/example/slim_kripke/slimkripke/bdd/CallStack")) (t' := .int) (by decide) (by decide))), M.f_cf.other W (Or.inl (own_ne (by have := M.od; omega))), M.f_cz.other W (Or.inl (own_ne (by have := M.od; omega))), M.a_lv.other W (own_ne (by have := M.od; omega)), M.a_lo.other W (own_ne (by have := M.od; omega)), M.a_hi.other W (own_ne (by have := M.od; omega)), M.a_rf.other W (own_ne (by have := M.od; omega)), M.a_ch.other W (own_ne (by have := M.od; omega)), M.a_bk.other W (own_ne (by have := M.od; omega)), M.a_ca.other W (own_ne (by have := M.od; omega)), M.a_cf.other W (own_ne (by have := M.od; omega)), M.a_pe.other W (own_ne (by have := M.od; omega))⟩
theorem Mg.w_dp (M : Mg Z n0 h oa qcs qcf qpe qlv qlo qhi qrf qch qbk qca xn xs xff xfc xdp xcz xli xpk xlv xlo xhi xrf xch xbk xca xcf xpe) (hw : ∀ d ∈ tables_1, d.before a0 Z = true) (W : Wr h h' oa (Jvm.RoadKit.slotOf Z "com/example/slim_kripke/slimkripke/bdd/BddManager" "depth" "I") (.int v)) : Mg Z n0 h' oa qcs qcf qpe qlv qlo qhi qrf qch qbk qca xn xs xff xfc v xcz xli xpk xlv xlo xhi xrf xch xbk xca xcf xpe := ⟨M.g0, M.od, M.e.wr W, M.ec.wr W, M.f_n.other W (Or.inr (slot_ne (Or.inr (wq hw 29 rfl)) (Or.inl (wq hw 99 rfl)) (by decide) (t := .int) (t' := .int) (by decide) (by decide))), M.f_s.other W (Or.inr (slot_ne (Or.inr (wq hw 31 rfl)) (Or.inl (wq hw 99 rfl)) (by decide) (t := .int) (t' := .int) (by decide) (by decide))), M.f_ff.other W (Or.inr (slot_ne (Or.inl (wq hw 53 rfl)) (Or.inl (wq hw 99 rfl)) (by decide) (t := .int) (t' := .int) (by decide) (by decide))), M.f_fc.other W (Or.inr (slot_ne (Or.inl (wq hw 55 rfl)) (Or.inl (wq hw 99 rfl)) (by decide) (t := .int) (t' := .int) (by decide) (by decide))), M.f_dp.same W, M.f_li.other W (Or.inr (slot_ne (Or.inl (wq hw 25 rfl)) (Or.inl (wq hw 99 rfl)) (by decide) (t := .int) (t' := .int) (by decide) (by decide))), M.f_pk.other W (Or.inr (slot_ne (Or.inl (wq hw 27 rfl)) (Or.inl (wq hw 99 rfl)) (by decide) (t := .int) (t' := .int) (by decide) (by decide))), M.f_lv.other W (Or.inr (slot_ne (Or.inl (wq hw 37 rfl)) (Or.inl (wq hw 99 rfl)) (by decide) (t := (.array .int)) (t' := .int) (by decide) (by decide))), M.f_lo.other W (Or.inr (slot_ne (Or.inl (wq hw 39 rfl)) (Or.inl (wq hw 99 rfl)) (by decide) (t := (.array .int)) (t' := .int) (by decide) (by decide))), M.f_hi.other W (Or.inr (slot_ne (Or.inl (wq hw 41 rfl)) (Or.inl (wq hw 99 rfl)) (by decide) (t := (.array .int)) (t' := .int) (by decide) (by decide))), M.f_rf.other W (Or.inr (slot_ne (Or.inl (wq hw 43 rfl)) (Or.inl (wq hw 99 rfl)) (by decide) (t := (.array .int)) (t' := .int) (by decide) (by decide))), M.f_ch.other W (Or.inr (slot_ne (Or.inl (wq hw 45 rfl)) (Or.inl (wq hw 99 rfl)) (by decide) (t := (.array .int)) (t' := .int) (by decide) (by decide))), M.f_bk.other W (Or.inr (slot_ne (Or.inl (wq hw 47 rfl)) (Or.inl (wq hw 99 rfl)) (by decide) (t := (.array .int)) (t' := .int) (by decide) (by decide))), M.f_ca.other W (Or.inr (slot_ne (Or.inl (wq hw 75 rfl)) (Or.inl (wq hw 99 rfl)) (by decide) (t := (.array .int)) (t' := .int) (by decide) (by decide))), M.f_pe.other W (Or.inr (slot_ne (Or.inl (wq hw 23 rfl)) (Or.inl (wq hw 99 rfl)) (by decide) (t := (.array .int)) (t' := .int) (by decide) (by decide))), M.f_cs.other W (Or.inr (slot_ne (Or.inr (wq hw 21 rfl)) (Or.inl (wq hw 99 rfl)) (by decide) (t := (.object "com/example/slim_kripke/slimkripke/bdd/CallStack")) (t' := .int) (by decide) (by decide))), M.f_cf.other W (Or.inl (own_ne (by have := M.od; omega))), M.f_cz.other W (Or.inl (own_ne (by have := M.od; omega))), M.a_lv.other W (own_ne (by have := M.od; omega)), M.a_lo.other W (own_ne (by have := M.od; omega)), M.a_hi.other W (own_ne (by have := M.od; omega)), M.a_rf.other W (own_ne (by have := M.od; omega)), M.a_ch.other W (own_ne (by have := M.od; omega)), M.a_bk.other W (own_ne (by have := M.od; omega)), M.a_ca.other W (own_ne (by have := M.od; omega)), M.a_cf.other W (own_ne (by have := M.od; omega)), M.a_pe.other W (own_ne (by have := M.od; omega))⟩
theorem Mg.w_li (M : Mg Z n0 h oa qcs qcf qpe qlv qlo qhi qrf qch qbk qca xn xs xff xfc xdp xcz xli xpk xlv xlo xhi xrf xch xbk xca xcf xpe) (hw : ∀ d ∈ tables_1, d.before a0 Z = true) (W : Wr h h' oa (Jvm.RoadKit.slotOf Z "com/example/slim_kripke/slimkripke/bdd/BddManager" "liveNodes" "I") (.int v)) : Mg Z n0 h' oa qcs qcf qpe qlv qlo qhi qrf qch qbk qca xn xs xff xfc xdp xcz v xpk xlv xlo xhi xrf xch xbk xca xcf xpe := ⟨M.g0, M.od, M.e.wr W, M.ec.wr W, M.f_n.other W (Or.inr (slot_ne (Or.inr (wq hw 29 rfl)) (Or.inl (wq hw 25 rfl)) (by decide) (t := .int) (t' := .int) (by decide) (by decide))), M.f_s.other W (Or.inr (slot_ne (Or.inr (wq hw 31 rfl)) (Or.inl (wq hw 25 rfl)) (by decide) (t := .int) (t' := .int) (by decide) (by decide))), M.f_ff.other W (Or.inr (slot_ne (Or.inl (wq hw 53 rfl)) (Or.inl (wq hw 25 rfl)) (by decide) (t := .int) (t' := .int) (by decide) (by decide))), M.f_fc.other W (Or.inr (slot_ne (Or.inl (wq hw 55 rfl)) (Or.inl (wq hw 25 rfl)) (by decide) (t := .int) (t' := .int) (by decide) (by decide))), M.f_dp.other W (Or.inr (slot_ne (Or.inl (wq hw 99 rfl)) (Or.inl (wq hw 25 rfl)) (by decide) (t := .int) (t' := .int) (by decide) (by decide))), M.f_li.same W, M.f_pk.other W (Or.inr (slot_ne (Or.inl (wq hw 27 rfl)) (Or.inl (wq hw 25 rfl)) (by decide) (t := .int) (t' := .int) (by decide) (by decide))), M.f_lv.other W (Or.inr (slot_ne (Or.inl (wq hw 37 rfl)) (Or.inl (wq hw 25 rfl)) (by decide) (t := (.array .int)) (t' := .int) (by decide) (by decide))), M.f_lo.other W (Or.inr (slot_ne (Or.inl (wq hw 39 rfl)) (Or.inl (wq hw 25 rfl)) (by decide) (t := (.array .int)) (t' := .int) (by decide) (by decide))), M.f_hi.other W (Or.inr (slot_ne (Or.inl (wq hw 41 rfl)) (Or.inl (wq hw 25 rfl)) (by decide) (t := (.array .int)) (t' := .int) (by decide) (by decide))), M.f_rf.other W (Or.inr (slot_ne (Or.inl (wq hw 43 rfl)) (Or.inl (wq hw 25 rfl)) (by decide) (t := (.array .int)) (t' := .int) (by decide) (by decide))), M.f_ch.other W (Or.inr (slot_ne (Or.inl (wq hw 45 rfl)) (Or.inl (wq hw 25 rfl)) (by decide) (t := (.array .int)) (t' := .int) (by decide) (by decide))), M.f_bk.other W (Or.inr (slot_ne (Or.inl (wq hw 47 rfl)) (Or.inl (wq hw 25 rfl)) (by decide) (t := (.array .int)) (t' := .int) (by decide) (by decide))), M.f_ca.other W (Or.inr (slot_ne (Or.inl (wq hw 75 rfl)) (Or.inl (wq hw 25 rfl)) (by decide) (t := (.array .int)) (t' := .int) (by decide) (by decide))), M.f_pe.other W (Or.inr (slot_ne (Or.inl (wq hw 23 rfl)) (Or.inl (wq hw 25 rfl)) (by decide) (t := (.array .int)) (t' := .int) (by decide) (by decide))), M.f_cs.other W (Or.inr (slot_ne (Or.inr (wq hw 21 rfl)) (Or.inl (wq hw 25 rfl)) (by decide) (t := (.object "com/example/slim_kripke/slimkripke/bdd/CallStack")) (t' := .int) (by decide) (by decide))), M.f_cf.other W (Or.inl (own_ne (by have := M.od; omega))), M.f_cz.other W (Or.inl (own_ne (by have := M.od; omega))), M.a_lv.other W (own_ne (by have := M.od; omega)), M.a_lo.other W (own_ne (by have := M.od; omega)), M.a_hi.other W (own_ne (by have := M.od; omega)), M.a_rf.other W (own_ne (by have := M.od; omega)), M.a_ch.other W (own_ne (by have := M.od; omega)), M.a_bk.other W (own_ne (by have := M.od; omega)), M.a_ca.other W (own_ne (by have := M.od; omega)), M.a_cf.other W (own_ne (by have := M.od; omega)), M.a_pe.other W (own_ne (by have := M.od; omega))⟩
theorem Mg.w_pk (M : Mg Z n0 h oa qcs qcf qpe qlv qlo qhi qrf qch qbk qca xn xs xff xfc xdp xcz xli xpk xlv xlo xhi xrf xch xbk xca xcf xpe) (hw : ∀ d ∈ tables_1, d.before a0 Z = true) (W : Wr h h' oa (Jvm.RoadKit.slotOf Z "com/example/slim_kripke/slimkripke/bdd/BddManager" "peakLiveNodes" "I") (.int v)) : Mg Z n0 h' oa qcs qcf qpe qlv qlo qhi qrf qch qbk qca xn xs xff xfc xdp xcz xli v xlv xlo xhi xrf xch xbk xca xcf xpe := ⟨M.g0, M.od, M.e.wr W, M.ec.wr W, M.f_n.other W (Or.inr (slot_ne (Or.inr (wq hw 29 rfl)) (Or.inl (wq hw 27 rfl)) (by decide) (t := .int) (t' := .int) (by decide) (by decide))), M.f_s.other W (Or.inr (slot_ne (Or.inr (wq hw 31 rfl)) (Or.inl (wq hw 27 rfl)) (by decide) (t := .int) (t' := .int) (by decide) (by decide))), M.f_ff.other W (Or.inr (slot_ne (Or.inl (wq hw 53 rfl)) (Or.inl (wq hw 27 rfl)) (by decide) (t := .int) (t' := .int) (by decide) (by decide))), M.f_fc.other W (Or.inr (slot_ne (Or.inl (wq hw 55 rfl)) (Or.inl (wq hw 27 rfl)) (by decide) (t := .int) (t' := .int) (by decide) (by decide))), M.f_dp.other W (Or.inr (slot_ne (Or.inl (wq hw 99 rfl)) (Or.inl (wq hw 27 rfl)) (by decide) (t := .int) (t' := .int) (by decide) (by decide))), M.f_li.other W (Or.inr (slot_ne (Or.inl (wq hw 25 rfl)) (Or.inl (wq hw 27 rfl)) (by decide) (t := .int) (t' := .int) (by decide) (by decide))), M.f_pk.same W, M.f_lv.other W (Or.inr (slot_ne (Or.inl (wq hw 37 rfl)) (Or.inl (wq hw 27 rfl)) (by decide) (t := (.array .int)) (t' := .int) (by decide) (by decide))), M.f_lo.other W (Or.inr (slot_ne (Or.inl (wq hw 39 rfl)) (Or.inl (wq hw 27 rfl)) (by decide) (t := (.array .int)) (t' := .int) (by decide) (by decide))), M.f_hi.other W (Or.inr (slot_ne (Or.inl (wq hw 41 rfl)) (Or.inl (wq hw 27 rfl)) (by decide) (t := (.array .int)) (t' := .int) (by decide) (by decide))), M.f_rf.other W (Or.inr (slot_ne (Or.inl (wq hw 43 rfl)) (Or.inl (wq hw 27 rfl)) (by decide) (t := (.array .int)) (t' := .int) (by decide) (by decide))), M.f_ch.other W (Or.inr (slot_ne (Or.inl (wq hw 45 rfl)) (Or.inl (wq hw 27 rfl)) (by decide) (t := (.array .int)) (t' := .int) (by decide) (by decide))), M.f_bk.other W (Or.inr (slot_ne (Or.inl (wq hw 47 rfl)) (Or.inl (wq hw 27 rfl)) (by decide) (t := (.array .int)) (t' := .int) (by decide) (by decide))), M.f_ca.other W (Or.inr (slot_ne (Or.inl (wq hw 75 rfl)) (Or.inl (wq hw 27 rfl)) (by decide) (t := (.array .int)) (t' := .int) (by decide) (by decide))), M.f_pe.other W (Or.inr (slot_ne (Or.inl (wq hw 23 rfl)) (Or.inl (wq hw 27 rfl)) (by decide) (t := (.array .int)) (t' := .int) (by decide) (by decide))), M.f_cs.other W (Or.inr (slot_ne (Or.inr (wq hw 21 rfl)) (Or.inl (wq hw 27 rfl)) (by decide) (t := (.object "com/example/slim_kripke/slimkripke/bdd/CallStack")) (t' := .int) (by decide) (by decide))), M.f_cf.other W (Or.inl (own_ne (by have := M.od; omega))), M.f_cz.other W (Or.inl (own_ne (by have := M.od; omega))), M.a_lv.other W (own_ne (by have := M.od; omega)), M.a_lo.other W (own_ne (by have := M.od; omega)), M.a_hi.other W (own_ne (by have := M.od; omega)), M.a_rf.other W (own_ne (by have := M.od; omega)), M.a_ch.other W (own_ne (by have := M.od; omega)), M.a_bk.other W (own_ne (by have := M.od; omega)), M.a_ca.other W (own_ne (by have := M.od; omega)), M.a_cf.other W (own_ne (by have := M.od; omega)), M.a_pe.other W (own_ne (by have := M.od; omega))⟩
theorem Mg.w_cz (M : Mg Z n0 h oa qcs qcf qpe qlv qlo qhi qrf qch qbk qca xn xs xff xfc xdp xcz xli xpk xlv xlo xhi xrf xch xbk xca xcf xpe) (hw : ∀ d ∈ tables_1, d.before a0 Z = true) (W : Wr h h' qcs (Jvm.RoadKit.slotOf Z "com/example/slim_kripke/slimkripke/bdd/CallStack" "size" "I") (.int v)) : Mg Z n0 h' oa qcs qcf qpe qlv qlo qhi qrf qch qbk qca xn xs xff xfc xdp v xli xpk xlv xlo xhi xrf xch xbk xca xcf xpe := ⟨M.g0, M.od, M.e.wr W, M.ec.wr W, M.f_n.other W (Or.inl (own_ne (by have := M.od; omega))), M.f_s.other W (Or.inl (own_ne (by have := M.od; omega))), M.f_ff.other W (Or.inl (own_ne (by have := M.od; omega))), M.f_fc.other W (Or.inl (own_ne (by have := M.od; omega))), M.f_dp.other W (Or.inl (own_ne (by have := M.od; omega))), M.f_li.other W (Or.inl (own_ne (by have := M.od; omega))), M.f_pk.other W (Or.inl (own_ne (by have := M.od; omega))), M.f_lv.other W (Or.inl (own_ne (by have := M.od; omega))), M.f_lo.other W (Or.inl (own_ne (by have := M.od; omega))), M.f_hi.other W (Or.inl (own_ne (by have := M.od; omega))), M.f_rf.other W (Or.inl (own_ne (by have := M.od; omega))), M.f_ch.other W (Or.inl (own_ne (by have := M.od; omega))), M.f_bk.other W (Or.inl (own_ne (by have := M.od; omega))), M.f_ca.other W (Or.inl (own_ne (by have := M.od; omega))), M.f_pe.other W (Or.inl (own_ne (by have := M.od; omega))), M.f_cs.other W (Or.inl (own_ne (by have := M.od; omega))), M.f_cf.other W (Or.inr (slot_ne (Or.inl (wq hw 19 rfl)) (Or.inl (wq hw 106 rfl)) (by decide) (t := (.array .int)) (t' := .int) (by decide) (by decide))), M.f_cz.same W, M.a_lv.other W (own_ne (by have := M.od; omega)), M.a_lo.other W (own_ne (by have := M.od; omega)), M.a_hi.other W (own_ne (by have := M.od; omega)), M.a_rf.other W (own_ne (by have := M.od; omega)), M.a_ch.other W (own_ne (by have := M.od; omega)), M.a_bk.other W (own_ne (by have := M.od; omega)), M.a_ca.other W (own_ne (by have := M.od; omega)), M.a_cf.other W (own_ne (by have := M.od; omega)), M.a_pe.other W (own_ne (by have := M.od; omega))⟩
theorem Mg.t_lv (M : Mg Z n0 h oa qcs qcf qpe qlv qlo qhi qrf qch qbk qca xn xs xff xfc xdp xcz xli xpk xlv xlo xhi xrf xch xbk xca xcf xpe) (W : Wr h h' qlv j.toNatClampNeg (.int v)) (q : ¬ j < 0 ∧ j < 4096) : Mg Z n0 h' oa qcs qcf qpe qlv qlo qhi qrf qch qbk qca xn xs xff xfc xdp xcz xli xpk (own_up xlv j v) xlo xhi xrf xch xbk xca xcf xpe := ⟨M.g0, M.od, M.e.wr W, M.ec.wr W, M.f_n.other W (Or.inl (own_ne (by have := M.od; omega))), M.f_s.other W (Or.inl (own_ne (by have := M.od; omega))), M.f_ff.other W (Or.inl (own_ne (by have := M.od; omega))), M.f_fc.other W (Or.inl (own_ne (by have := M.od; omega))), M.f_dp.other W (Or.inl (own_ne (by have := M.od; omega))), M.f_li.other W (Or.inl (own_ne (by have := M.od; omega))), M.f_pk.other W (Or.inl (own_ne (by have := M.od; omega))), M.f_lv.other W (Or.inl (own_ne (by have := M.od; omega))), M.f_lo.other W (Or.inl (own_ne (by have := M.od; omega))), M.f_hi.other W (Or.inl (own_ne (by have := M.od; omega))), M.f_rf.other W (Or.inl (own_ne (by have := M.od; omega))), M.f_ch.other W (Or.inl (own_ne (by have := M.od; omega))), M.f_bk.other W (Or.inl (own_ne (by have := M.od; omega))), M.f_ca.other W (Or.inl (own_ne (by have := M.od; omega))), M.f_pe.other W (Or.inl (own_ne (by have := M.od; omega))), M.f_cs.other W (Or.inl (own_ne (by have := M.od; omega))), M.f_cf.other W (Or.inl (own_ne (by have := M.od; omega))), M.f_cz.other W (Or.inl (own_ne (by have := M.od; omega))), M.a_lv.set W q, M.a_lo.other W (own_ne (by have := M.od; omega)), M.a_hi.other W (own_ne (by have := M.od; omega)), M.a_rf.other W (own_ne (by have := M.od; omega)), M.a_ch.other W (own_ne (by have := M.od; omega)), M.a_bk.other W (own_ne (by have := M.od; omega)), M.a_ca.other W (own_ne (by have := M.od; omega)), M.a_cf.other W (own_ne (by have := M.od; omega)), M.a_pe.other W (own_ne (by have := M.od; omega))⟩
theorem Mg.t_lo (M : Mg Z n0 h oa qcs qcf qpe qlv qlo qhi qrf qch qbk qca xn xs xff xfc xdp xcz xli xpk xlv xlo xhi xrf xch xbk xca xcf xpe) (W : Wr h h' qlo j.toNatClampNeg (.int v)) (q : ¬ j < 0 ∧ j < 4096) : Mg Z n0 h' oa qcs qcf qpe qlv qlo qhi qrf qch qbk qca xn xs xff xfc xdp xcz xli xpk xlv (own_up xlo j v) xhi xrf xch xbk xca xcf xpe := ⟨M.g0, M.od, M.e.wr W, M.ec.wr W, M.f_n.other W (Or.inl (own_ne (by have := M.od; omega))), M.f_s.other W (Or.inl (own_ne (by have := M.od; omega))), M.f_ff.other W (Or.inl (own_ne (by have := M.od; omega))), M.f_fc.other W (Or.inl (own_ne (by have := M.od; omega))), M.f_dp.other W (Or.inl (own_ne (by have := M.od; omega))), M.f_li.other W (Or.inl (own_ne (by have := M.od; omega))), M.f_pk.other W (Or.inl (own_ne (by have := M.od; omega))), M.f_lv.other W (Or.inl (own_ne (by have := M.od; omega))), M.f_lo.other W (Or.inl (own_ne (by have := M.od; omega))), M.f_hi.other W (Or.inl (own_ne (by have := M.od; omega))), M.f_rf.other W (Or.inl (own_ne (by have := M.od; omega))), M.f_ch.other W (Or.inl (own_ne (by have := M.od; omega))), M.f_bk.other W (Or.inl (own_ne (by have := M.od; omega))), M.f_ca.other W (Or.inl (own_ne (by have := M.od; omega))), M.f_pe.other W (Or.inl (own_ne (by have := M.od; omega))), M.f_cs.other W (Or.inl (own_ne (by have := M.od; omega))), M.f_cf.other W (Or.inl (own_ne (by have := M.od; omega))), M.f_cz.other W (Or.inl (own_ne (by have := M.od; omega))), M.a_lv.other W (own_ne (by have := M.od; omega)), M.a_lo.set W q, M.a_hi.other W (own_ne (by have := M.od; omega)), M.a_rf.other W (own_ne (by have := M.od; omega)), M.a_ch.other W (own_ne (by have := M.od; omega)), M.a_bk.other W (own_ne (by have := M.od; omega)), M.a_ca.other W (own_ne (by have := M.od; omega)), M.a_cf.other W (own_ne (by have := M.od; omega)), M.a_pe.other W (own_ne (by have := M.od; omega))⟩
theorem Mg.t_hi (M : Mg Z n0 h oa qcs qcf qpe qlv qlo qhi qrf qch qbk qca xn xs xff xfc xdp xcz xli xpk xlv xlo xhi xrf xch xbk xca xcf xpe) (W : Wr h h' qhi j.toNatClampNeg (.int v)) (q : ¬ j < 0 ∧ j < 4096) : Mg Z n0 h' oa qcs qcf qpe qlv qlo qhi qrf qch qbk qca xn xs xff xfc xdp xcz xli xpk xlv xlo (own_up xhi j v) xrf xch xbk xca xcf xpe := ⟨M.g0, M.od, M.e.wr W, M.ec.wr W, M.f_n.other W (Or.inl (own_ne (by have := M.od; omega))), M.f_s.other W (Or.inl (own_ne (by have := M.od; omega))), M.f_ff.other W (Or.inl (own_ne (by have := M.od; omega))), M.f_fc.other W (Or.inl (own_ne (by have := M.od; omega))), M.f_dp.other W (Or.inl (own_ne (by have := M.od; omega))), M.f_li.other W (Or.inl (own_ne (by have := M.od; omega))), M.f_pk.other W (Or.inl (own_ne (by have := M.od; omega))), M.f_lv.other W (Or.inl (own_ne (by have := M.od; omega))), M.f_lo.other W (Or.inl (own_ne (by have := M.od; omega))), M.f_hi.other W (Or.inl (own_ne (by have := M.od; omega))), M.f_rf.other W (Or.inl (own_ne (by have := M.od; omega))), M.f_ch.other W (Or.inl (own_ne (by have := M.od; omega))), M.f_bk.other W (Or.inl (own_ne (by have := M.od; omega))), M.f_ca.other W (Or.inl (own_ne (by have := M.od; omega))), M.f_pe.other W (Or.inl (own_ne (by have := M.od; omega))), M.f_cs.other W (Or.inl (own_ne (by have := M.od; omega))), M.f_cf.other W (Or.inl (own_ne (by have := M.od; omega))), M.f_cz.other W (Or.inl (own_ne (by have := M.od; omega))), M.a_lv.other W (own_ne (by have := M.od; omega)), M.a_lo.other W (own_ne (by have := M.od; omega)), M.a_hi.set W q, M.a_rf.other W (own_ne (by have := M.od; omega)), M.a_ch.other W (own_ne (by have := M.od; omega)), M.a_bk.other W (own_ne (by have := M.od; omega)), M.a_ca.other W (own_ne (by have := M.od; omega)), M.a_cf.other W (own_ne (by have := M.od; omega)), M.a_pe.other W (own_ne (by have := M.od; omega))⟩
theorem Mg.t_rf (M : Mg Z n0 h oa qcs qcf qpe qlv qlo qhi qrf qch qbk qca xn xs xff xfc xdp xcz xli xpk xlv xlo xhi xrf xch xbk xca xcf xpe) (W : Wr h h' qrf j.toNatClampNeg (.int v)) (q : ¬ j < 0 ∧ j < 4096) : Mg Z n0 h' oa qcs qcf qpe qlv qlo qhi qrf qch qbk qca xn xs xff xfc xdp xcz xli xpk xlv xlo xhi (own_up xrf j v) xch xbk xca xcf xpe := ⟨M.g0, M.od, M.e.wr W, M.ec.wr W, M.f_n.other W (Or.inl (own_ne (by have := M.od; omega))), M.f_s.other W (Or.inl (own_ne (by have := M.od; omega))), M.f_ff.other W (Or.inl (own_ne (by have := M.od; omega))), M.f_fc.other W (Or.inl (own_ne (by have := M.od; omega))), M.f_dp.other W (Or.inl (own_ne (by have := M.od; omega))), M.f_li.other W (Or.inl (own_ne (by have := M.od; omega))), M.f_pk.other W (Or.inl (own_ne (by have := M.od; omega))), M.f_lv.other W (Or.inl (own_ne (by have := M.od; omega))), M.f_lo.other W (Or.inl (own_ne (by have := M.od; omega))), M.f_hi.other W (Or.inl (own_ne (by have := M.od; omega))), M.f_rf.other W (Or.inl (own_ne (by have := M.od; omega))), M.f_ch.other W (Or.inl (own_ne (by have := M.od; omega))), M.f_bk.other W (Or.inl (own_ne (by have := M.od; omega))), M.f_ca.other W (Or.inl (own_ne (by have := M.od; omega))), M.f_pe.other W (Or.inl (own_ne (by have := M.od; omega))), M.f_cs.other W (Or.inl (own_ne (by have := M.od; omega))), M.f_cf.other W (Or.inl (own_ne (by have := M.od; omega))), M.f_cz.other W (Or.inl (own_ne (by have := M.od; omega))), M.a_lv.other W (own_ne (by have := M.od; omega)), M.a_lo.other W (own_ne (by have := M.od; omega)), M.a_hi.other W (own_ne (by have := M.od; omega)), M.a_rf.set W q, M.a_ch.other W (own_ne (by have := M.od; omega)), M.a_bk.other W (own_ne (by have := M.od; omega)), M.a_ca.other W (own_ne (by have := M.od; omega)), M.a_cf.other W (own_ne (by have := M.od; omega)), M.a_pe.other W (own_ne (by have := M.od; omega))⟩
theorem Mg.t_ch (M : Mg Z n0 h oa qcs qcf qpe qlv qlo qhi qrf qch qbk qca xn xs xff xfc xdp xcz xli xpk xlv xlo xhi xrf xch xbk xca xcf xpe) (W : Wr h h' qch j.toNatClampNeg (.int v)) (q : ¬ j < 0 ∧ j < 4096) : Mg Z n0 h' oa qcs qcf qpe qlv qlo qhi qrf qch qbk qca xn xs xff xfc xdp xcz xli xpk xlv xlo xhi xrf (own_up xch j v) xbk xca xcf xpe := ⟨M.g0, M.od, M.e.wr W, M.ec.wr W, M.f_n.other W (Or.inl (own_ne (by have := M.od; omega))), M.f_s.other W (Or.inl (own_ne (by have := M.od; omega))), M.f_ff.other W (Or.inl (own_ne (by have := M.od; omega))), M.f_fc.other W (Or.inl (own_ne (by have := M.od; omega))), M.f_dp.other W (Or.inl (own_ne (by have := M.od; omega))), M.f_li.other W (Or.inl (own_ne (by have := M.od; omega))), M.f_pk.other W (Or.inl (own_ne (by have := M.od; omega))), M.f_lv.other W (Or.inl (own_ne (by have := M.od; omega))), M.f_lo.other W (Or.inl (own_ne (by have := M.od; omega))), M.f_hi.other W (Or.inl (own_ne (by have := M.od; omega))), M.f_rf.other W (Or.inl (own_ne (by have := M.od; omega))), M.f_ch.other W (Or.inl (own_ne (by have := M.od; omega))), M.f_bk.other W (Or.inl (own_ne (by have := M.od; omega))), M.f_ca.other W (Or.inl (own_ne (by have := M.od; omega))), M.f_pe.other W (Or.inl (own_ne (by have := M.od; omega))), M.f_cs.other W (Or.inl (own_ne (by have := M.od; omega))), M.f_cf.other W (Or.inl (own_ne (by have := M.od; omega))), M.f_cz.other W (Or.inl (own_ne (by have := M.od; omega))), M.a_lv.other W (own_ne (by have := M.od; omega)), M.a_lo.other W (own_ne (by have := M.od; omega)), M.a_hi.other W (own_ne (by have := M.od; omega)), M.a_rf.other W (own_ne (by have := M.od; omega)), M.a_ch.set W q, M.a_bk.other W (own_ne (by have := M.od; omega)), M.a_ca.other W (own_ne (by have := M.od; omega)), M.a_cf.other W (own_ne (by have := M.od; omega)), M.a_pe.other W (own_ne (by have := M.od; omega))⟩
theorem Mg.t_bk (M : Mg Z n0 h oa qcs qcf qpe qlv qlo qhi qrf qch qbk qca xn xs xff xfc xdp xcz xli xpk xlv xlo xhi xrf xch xbk xca xcf xpe) (W : Wr h h' qbk j.toNatClampNeg (.int v)) (q : ¬ j < 0 ∧ j < 4096) : Mg Z n0 h' oa qcs qcf qpe qlv qlo qhi qrf qch qbk qca xn xs xff xfc xdp xcz xli xpk xlv xlo xhi xrf xch (own_up xbk j v) xca xcf xpe := ⟨M.g0, M.od, M.e.wr W, M.ec.wr W, M.f_n.other W (Or.inl (own_ne (by have := M.od; omega))), M.f_s.other W (Or.inl (own_ne (by have := M.od; omega))), M.f_ff.other W (Or.inl (own_ne (by have := M.od; omega))), M.f_fc.other W (Or.inl (own_ne (by have := M.od; omega))), M.f_dp.other W (Or.inl (own_ne (by have := M.od; omega))), M.f_li.other W (Or.inl (own_ne (by have := M.od; omega))), M.f_pk.other W (Or.inl (own_ne (by have := M.od; omega))), M.f_lv.other W (Or.inl (own_ne (by have := M.od; omega))), M.f_lo.other W (Or.inl (own_ne (by have := M.od; omega))), M.f_hi.other W (Or.inl (own_ne (by have := M.od; omega))), M.f_rf.other W (Or.inl (own_ne (by have := M.od; omega))), M.f_ch.other W (Or.inl (own_ne (by have := M.od; omega))), M.f_bk.other W (Or.inl (own_ne (by have := M.od; omega))), M.f_ca.other W (Or.inl (own_ne (by have := M.od; omega))), M.f_pe.other W (Or.inl (own_ne (by have := M.od; omega))), M.f_cs.other W (Or.inl (own_ne (by have := M.od; omega))), M.f_cf.other W (Or.inl (own_ne (by have := M.od; omega))), M.f_cz.other W (Or.inl (own_ne (by have := M.od; omega))), M.a_lv.other W (own_ne (by have := M.od; omega)), M.a_lo.other W (own_ne (by have := M.od; omega)), M.a_hi.other W (own_ne (by have := M.od; omega)), M.a_rf.other W (own_ne (by have := M.od; omega)), M.a_ch.other W (own_ne (by have := M.od; omega)), M.a_bk.set W q, M.a_ca.other W (own_ne (by have := M.od; omega)), M.a_cf.other W (own_ne (by have := M.od; omega)), M.a_pe.other W (own_ne (by have := M.od; omega))⟩
theorem Mg.t_ca (M : Mg Z n0 h oa qcs qcf qpe qlv qlo qhi qrf qch qbk qca xn xs xff xfc xdp xcz xli xpk xlv xlo xhi xrf xch xbk xca xcf xpe) (W : Wr h h' qca j.toNatClampNeg (.int v)) (q : ¬ j < 0 ∧ j < 20480) : Mg Z n0 h' oa qcs qcf qpe qlv qlo qhi qrf qch qbk qca xn xs xff xfc xdp xcz xli xpk xlv xlo xhi xrf xch xbk (own_up xca j v) xcf xpe := ⟨M.g0, M.od, M.e.wr W, M.ec.wr W, M.f_n.other W (Or.inl (own_ne (by have := M.od; omega))), M.f_s.other W (Or.inl (own_ne (by have := M.od; omega))), M.f_ff.other W (Or.inl (own_ne (by have := M.od; omega))), M.f_fc.other W (Or.inl (own_ne (by have := M.od; omega))), M.f_dp.other W (Or.inl (own_ne (by have := M.od; omega))), M.f_li.other W (Or.inl (own_ne (by have := M.od; omega))), M.f_pk.other W (Or.inl (own_ne (by have := M.od; omega))), M.f_lv.other W (Or.inl (own_ne (by have := M.od; omega))), M.f_lo.other W (Or.inl (own_ne (by have := M.od; omega))), M.f_hi.other W (Or.inl (own_ne (by have := M.od; omega))), M.f_rf.other W (Or.inl (own_ne (by have := M.od; omega))), M.f_ch.other W (Or.inl (own_ne (by have := M.od; omega))), M.f_bk.other W (Or.inl (own_ne (by have := M.od; omega))), M.f_ca.other W (Or.inl (own_ne (by have := M.od; omega))), M.f_pe.other W (Or.inl (own_ne (by have := M.od; omega))), M.f_cs.other W (Or.inl (own_ne (by have := M.od; omega))), M.f_cf.other W (Or.inl (own_ne (by have := M.od; omega))), M.f_cz.other W (Or.inl (own_ne (by have := M.od; omega))), M.a_lv.other W (own_ne (by have := M.od; omega)), M.a_lo.other W (own_ne (by have := M.od; omega)), M.a_hi.other W (own_ne (by have := M.od; omega)), M.a_rf.other W (own_ne (by have := M.od; omega)), M.a_ch.other W (own_ne (by have := M.od; omega)), M.a_bk.other W (own_ne (by have := M.od; omega)), M.a_ca.set W q, M.a_cf.other W (own_ne (by have := M.od; omega)), M.a_pe.other W (own_ne (by have := M.od; omega))⟩
theorem Mg.t_cf (M : Mg Z n0 h oa qcs qcf qpe qlv qlo qhi qrf qch qbk qca xn xs xff xfc xdp xcz xli xpk xlv xlo xhi xrf xch xbk xca xcf xpe) (W : Wr h h' qcf j.toNatClampNeg (.int v)) (q : ¬ j < 0 ∧ j < 320) : Mg Z n0 h' oa qcs qcf qpe qlv qlo qhi qrf qch qbk qca xn xs xff xfc xdp xcz xli xpk xlv xlo xhi xrf xch xbk xca (own_up xcf j v) xpe := ⟨M.g0, M.od, M.e.wr W, M.ec.wr W, M.f_n.other W (Or.inl (own_ne (by have := M.od; omega))), M.f_s.other W (Or.inl (own_ne (by have := M.od; omega))), M.f_ff.other W (Or.inl (own_ne (by have := M.od; omega))), M.f_fc.other W (Or.inl (own_ne (by have := M.od; omega))), M.f_dp.other W (Or.inl (own_ne (by have := M.od; omega))), M.f_li.other W (Or.inl (own_ne (by have := M.od; omega))), M.f_pk.other W (Or.inl (own_ne (by have := M.od; omega))), M.f_lv.other W (Or.inl (own_ne (by have := M.od; omega))), M.f_lo.other W (Or.inl (own_ne (by have := M.od; omega))), M.f_hi.other W (Or.inl (own_ne (by have := M.od; omega))), M.f_rf.other W (Or.inl (own_ne (by have := M.od; omega))), M.f_ch.other W (Or.inl (own_ne (by have := M.od; omega))), M.f_bk.other W (Or.inl (own_ne (by have := M.od; omega))), M.f_ca.other W (Or.inl (own_ne (by have := M.od; omega))), M.f_pe.other W (Or.inl (own_ne (by have := M.od; omega))), M.f_cs.other W (Or.inl (own_ne (by have := M.od; omega))), M.f_cf.other W (Or.inl (own_ne (by have := M.od; omega))), M.f_cz.other W (Or.inl (own_ne (by have := M.od; omega))), M.a_lv.other W (own_ne (by have := M.od; omega)), M.a_lo.other W (own_ne (by have := M.od; omega)), M.a_hi.other W (own_ne (by have := M.od; omega)), M.a_rf.other W (own_ne (by have := M.od; omega)), M.a_ch.other W (own_ne (by have := M.od; omega)), M.a_bk.other W (own_ne (by have := M.od; omega)), M.a_ca.other W (own_ne (by have := M.od; omega)), M.a_cf.set W q, M.a_pe.other W (own_ne (by have := M.od; omega))⟩
theorem Mg.t_pe (M : Mg Z n0 h oa qcs qcf qpe qlv qlo qhi qrf qch qbk qca xn xs xff xfc xdp xcz xli xpk xlv xlo xhi xrf xch xbk xca xcf xpe) (W : Wr h h' qpe j.toNatClampNeg (.int v)) (q : ¬ j < 0 ∧ j < 64) : Mg Z n0 h' oa qcs qcf qpe qlv qlo qhi qrf qch qbk qca xn xs xff xfc xdp xcz xli xpk xlv xlo xhi xrf xch xbk xca xcf (own_up xpe j v) := ⟨M.g0, M.od, M.e.wr W, M.ec.wr W, M.f_n.other W (Or.inl (own_ne (by have := M.od; omega))), M.f_s.other W (Or.inl (own_ne (by have := M.od; omega))), M.f_ff.other W (Or.inl (own_ne (by have := M.od; omega))), M.f_fc.other W (Or.inl (own_ne (by have := M.od; omega))), M.f_dp.other W (Or.inl (own_ne (by have := M.od; omega))), M.f_li.other W (Or.inl (own_ne (by have := M.od; omega))), M.f_pk.other W (Or.inl (own_ne (by have := M.od; omega))), M.f_lv.other W (Or.inl (own_ne (by have := M.od; omega))), M.f_lo.other W (Or.inl (own_ne (by have := M.od; omega))), M.f_hi.other W (Or.inl (own_ne (by have := M.od; omega))), M.f_rf.other W (Or.inl (own_ne (by have := M.od; omega))), M.f_ch.other W (Or.inl (own_ne (by have := M.od; omega))), M.f_bk.other W (Or.inl (own_ne (by have := M.od; omega))), M.f_ca.other W (Or.inl (own_ne (by have := M.od; omega))), M.f_pe.other W (Or.inl (own_ne (by have := M.od; omega))), M.f_cs.other W (Or.inl (own_ne (by have := M.od; omega))), M.f_cf.other W (Or.inl (own_ne (by have := M.od; omega))), M.f_cz.other W (Or.inl (own_ne (by have := M.od; omega))), M.a_lv.other W (own_ne (by have := M.od; omega)), M.a_lo.other W (own_ne (by have := M.od; omega)), M.a_hi.other W (own_ne (by have := M.od; omega)), M.a_rf.other W (own_ne (by have := M.od; omega)), M.a_ch.other W (own_ne (by have := M.od; omega)), M.a_bk.other W (own_ne (by have := M.od; omega)), M.a_ca.other W (own_ne (by have := M.od; omega)), M.a_cf.other W (own_ne (by have := M.od; omega)), M.a_pe.set W q⟩
end OwnM
def QB (w : Option Value) (n0 : Nat) (M : Heap → Prop) (v : Option Value) (h : Heap) (L : List Loc) : Prop := v = w ∧ Fr n0 L ∧ M h
def QR (n0 : Nat) (M : Heap → Prop) (v : Option Value) (h : Heap) (L : List Loc) : Prop := ∃ b : Addr, v = some (.ref b) ∧ Fr n0 L ∧ M h
theorem d18_0 : DK cd18 0 (.iload_n 0) 1 := by decide +kernel
theorem d18_1 : DK cd18 1 .i2l 1 := by decide +kernel
theorem d18_2 : DK cd18 2 (.ldc2_w 427) 3 := by decide +kernel
theorem d18_5 : DK cd18 5 .lmul 1 := by decide +kernel
theorem d18_6 : DK cd18 6 (.lstore 4) 2 := by decide +kernel
theorem d18_8 : DK cd18 8 (.lload 4) 2 := by decide +kernel
theorem d18_10 : DK cd18 10 (.iload_n 1) 1 := by decide +kernel
theorem d18_11 : DK cd18 11 .i2l 1 := by decide +kernel
theorem d18_12 : DK cd18 12 .lxor 1 := by decide +kernel
theorem d18_13 : DK cd18 13 (.ldc2_w 429) 3 := by decide +kernel
theorem d18_16 : DK cd18 16 .lmul 1 := by decide +kernel
theorem d18_17 : DK cd18 17 (.lstore 4) 2 := by decide +kernel
theorem d18_19 : DK cd18 19 (.lload 4) 2 := by decide +kernel
theorem d18_21 : DK cd18 21 (.iload_n 2) 1 := by decide +kernel
theorem d18_22 : DK cd18 22 .i2l 1 := by decide +kernel
theorem d18_23 : DK cd18 23 .lxor 1 := by decide +kernel
theorem d18_24 : DK cd18 24 (.ldc2_w 431) 3 := by decide +kernel
theorem d18_27 : DK cd18 27 .lmul 1 := by decide +kernel
theorem d18_28 : DK cd18 28 (.lstore 4) 2 := by decide +kernel
theorem d18_30 : DK cd18 30 (.lload 4) 2 := by decide +kernel
theorem d18_32 : DK cd18 32 (.iload_n 3) 1 := by decide +kernel
theorem d18_33 : DK cd18 33 .i2l 1 := by decide +kernel
theorem d18_34 : DK cd18 34 .lxor 1 := by decide +kernel
theorem d18_35 : DK cd18 35 (.ldc2_w 427) 3 := by decide +kernel
theorem d18_38 : DK cd18 38 .lmul 1 := by decide +kernel
theorem d18_39 : DK cd18 39 (.lstore 4) 2 := by decide +kernel
theorem d18_41 : DK cd18 41 (.lload 4) 2 := by decide +kernel
theorem d18_43 : DK cd18 43 (.lload 4) 2 := by decide +kernel
theorem d18_45 : DK cd18 45 (.bipush 32) 2 := by decide +kernel
theorem d18_47 : DK cd18 47 .lushr 1 := by decide +kernel
theorem d18_48 : DK cd18 48 .lxor 1 := by decide +kernel
theorem d18_49 : DK cd18 49 .l2i 1 := by decide +kernel
theorem d18_50 : DK cd18 50 .ireturn 1 := by decide +kernel
theorem pn_18 : plainName "com/example/slim_kripke/slimkripke/bdd/BddManager" = true := by first | (simp [plainName, overriddenIn]; done) | decide +kernel
theorem ef_18 (m : MethodId) (x0 : Int32) (x1 : Int32) (x2 : Int32) (x3 : Int32) : entryFrame m #[(.int x0), (.int x1), (.int x2), (.int x3)] 6 = mkF m 0 #[.val (.int x0), .val (.int x1), .val (.int x2), .val (.int x3), .unset, .unset] [] := by first | (simp [entryFrame, mkF, argsToLocals, Value.category]; done) | rfl
def v18_6 (p0 : Int32) : Int64 := ((p0.toInt64) * (-7046029254386353131 : Int64))
def v18_17 (p0 : Int32) (p1 : Int32) : Int64 := (((v18_6 p0) ^^^ (p1.toInt64)) * (-4417276706812531889 : Int64))
def v18_28 (p0 : Int32) (p1 : Int32) (p2 : Int32) : Int64 := (((v18_17 p0 p1) ^^^ (p2.toInt64)) * (1609587929392839161 : Int64))
def v18_39 (p0 : Int32) (p1 : Int32) (p2 : Int32) (p3 : Int32) : Int64 := (((v18_28 p0 p1 p2) ^^^ (p3.toInt64)) * (-7046029254386353131 : Int64))
def f18 (p0 : Int32) (p1 : Int32) (p2 : Int32) (p3 : Int32) : Int32 := (((v18_39 p0 p1 p2 p3) ^^^ (((v18_39 p0 p1 p2 p3).toUInt64 >>> ((32 : Int32) &&& 0x3f).toInt64.toUInt64).toInt64)).toInt32)
theorem rm18 (l : Launch) (Z : State) (a0 : Array Value) (hw : ∀ d ∈ tables_1, d.before a0 Z = true) (ws : List Jvm.Cond) (p0 : Int32) (p1 : Int32) (p2 : Int32) (p3 : Int32) (h0 : Heap) (n0 : Nat) (Z0 : n0 ≤ h0.size) :
    Met1 l Nm_0 (Jvm.Cond.code Nm_0 prog_5_method_66_code 6 (some .int)) ws (rom 0 0 0 0) #[(.int p0), (.int p1), (.int p2), (.int p3)] Z h0 (QP (some (.int (f18 p0 p1 p2 p3))) h0 n0) := by
  refine MetFree.of_bodySF (plainFor_of_name pn_18) hisR ?_
  intro p e s m args below meth c s₁ Bd hml0 hP hK
  obtain ⟨rfl, hZ, hh⟩ := hP
  have hx := Bd.exec
  have hby := Bd.bytes
  have hml : c.maxLocals = 6 := hml0
  have hown : s.vm.findClass "com/example/slim_kripke/slimkripke/bdd/BddManager" = some m.cls := findClass_of_methodNamed Bd.named
  have X0 : Stand p l e (rom 0 0 0 0) s m _ _ _ _ _ [] 0 0 := Stand.of_body Bd
  have e0 : s₁.heap = h0 := by rw [← hh, Bd.state]; rfl
  have N0 := Fr.nil n0
  have K0 : Keep h0 h0 [] := Keep.refl _ _
  have pre0 : Go p e below s₁ _ (mkF m 0 #[(vi p0), (vi p1), (vi p2), (vi p3), .unset, .unset] []) _ := fun t k => castTop (ef_18 m p0 p1 p2 p3) k
  have pre1 : Go p e below s₁ _ (mkF m 50 #[(vi p0), (vi p1), (vi p2), (vi p3), .val (.long (v18_39 p0 p1 p2 p3)), .second] [(.int (((v18_39 p0 p1 p2 p3) ^^^ (((v18_39 p0 p1 p2 p3).toUInt64 >>> ((32 : Int32) &&& 0x3f).toInt64.toUInt64).toInt64)).toInt32))]) _ := fun t k => pre0 t (by
    refine XS.iloadN X0.here hx rfl (hb hby d18_0) rfl ?_
    refine XS.i2l X0.here hx rfl (hb hby d18_1) rfl ?_
    refine X0.ldc2Long hx hown (mq hZ hw 117 rfl) (g := (mkF m 2 #[(vi p0), (vi p1), (vi p2), (vi p3), .unset, .unset] [(.long (p0.toInt64))])) rfl (hb hby d18_2) _ ?_
    refine XS.lmul X0.here hx rfl (hb hby d18_5) rfl ?_
    refine XS.lstore X0.here hx rfl (hb hby d18_6) rfl (l' := #[(vi p0), (vi p1), (vi p2), (vi p3), .val (.long (v18_6 p0)), .second]) rfl ?_
    refine XS.lload X0.here hx rfl (hb hby d18_8) rfl ?_
    refine XS.iloadN X0.here hx rfl (hb hby d18_10) rfl ?_
    refine XS.i2l X0.here hx rfl (hb hby d18_11) rfl ?_
    refine XS.lxor X0.here hx rfl (hb hby d18_12) rfl ?_
    refine X0.ldc2Long hx hown (mq hZ hw 118 rfl) (g := (mkF m 13 #[(vi p0), (vi p1), (vi p2), (vi p3), .val (.long (v18_6 p0)), .second] [(.long ((v18_6 p0) ^^^ (p1.toInt64)))])) rfl (hb hby d18_13) _ ?_
    refine XS.lmul X0.here hx rfl (hb hby d18_16) rfl ?_
    refine XS.lstore X0.here hx rfl (hb hby d18_17) rfl (l' := #[(vi p0), (vi p1), (vi p2), (vi p3), .val (.long (v18_17 p0 p1)), .second]) rfl ?_
    refine XS.lload X0.here hx rfl (hb hby d18_19) rfl ?_
    refine XS.iloadN X0.here hx rfl (hb hby d18_21) rfl ?_
    refine XS.i2l X0.here hx rfl (hb hby d18_22) rfl ?_
    refine XS.lxor X0.here hx rfl (hb hby d18_23) rfl ?_
    refine X0.ldc2Long hx hown (mq hZ hw 119 rfl) (g := (mkF m 24 #[(vi p0), (vi p1), (vi p2), (vi p3), .val (.long (v18_17 p0 p1)), .second] [(.long ((v18_17 p0 p1) ^^^ (p2.toInt64)))])) rfl (hb hby d18_24) _ ?_
    refine XS.lmul X0.here hx rfl (hb hby d18_27) rfl ?_
    refine XS.lstore X0.here hx rfl (hb hby d18_28) rfl (l' := #[(vi p0), (vi p1), (vi p2), (vi p3), .val (.long (v18_28 p0 p1 p2)), .second]) rfl ?_
    refine XS.lload X0.here hx rfl (hb hby d18_30) rfl ?_
    refine XS.iloadN X0.here hx rfl (hb hby d18_32) rfl ?_
    refine XS.i2l X0.here hx rfl (hb hby d18_33) rfl ?_
    refine XS.lxor X0.here hx rfl (hb hby d18_34) rfl ?_
    refine X0.ldc2Long hx hown (mq hZ hw 117 rfl) (g := (mkF m 35 #[(vi p0), (vi p1), (vi p2), (vi p3), .val (.long (v18_28 p0 p1 p2)), .second] [(.long ((v18_28 p0 p1 p2) ^^^ (p3.toInt64)))])) rfl (hb hby d18_35) _ ?_
    refine XS.lmul X0.here hx rfl (hb hby d18_38) rfl ?_
    refine XS.lstore X0.here hx rfl (hb hby d18_39) rfl (l' := #[(vi p0), (vi p1), (vi p2), (vi p3), .val (.long (v18_39 p0 p1 p2 p3)), .second]) rfl ?_
    refine XS.lload X0.here hx rfl (hb hby d18_41) rfl ?_
    refine XS.lload X0.here hx rfl (hb hby d18_43) rfl ?_
    refine XS.bipush X0.here hx rfl (hb hby d18_45) ?_
    refine XS.lushr X0.here hx rfl (hb hby d18_47) rfl ?_
    refine XS.lxor X0.here hx rfl (hb hby d18_48) rfl ?_
    refine XS.l2i X0.here hx rfl (hb hby d18_49) rfl ?_
    exact k)
  obtain ⟨fs, hr, hrun, hended, hW, hsame⟩ := X0.leave (v := some (.int (((v18_39 p0 p1 p2 p3) ^^^ (((v18_39 p0 p1 p2 p3).toUInt64 >>> ((32 : Int32) &&& 0x3f).toInt64.toUInt64).toInt64)).toInt32))) (fun h => by rw [Bd.returns] at h; cases h)
  refine ⟨_, _, ?_, hrun, hended, _, _, rfl, ?_, ⟨_, rfl⟩, hW, hsame.mono (by decide) (by decide)⟩
  · exact pre1 _ (retI X0 hx Bd.returns (hb hby d18_50) hr)
  · exact ⟨by simp only [f18], N0, e0⟩
theorem d17_0 : DK cd17 0 (.iload_n 0) 1 := by decide +kernel
theorem d17_1 : DK cd17 1 (.iload_n 1) 1 := by decide +kernel
theorem d17_2 : DK cd17 2 (.iload_n 2) 1 := by decide +kernel
theorem d17_3 : DK cd17 3 (.iconst 0) 1 := by decide +kernel
theorem d17_4 : DK cd17 4 (.invokestatic 425) 3 := by decide +kernel
theorem d17_7 : DK cd17 7 .ireturn 1 := by decide +kernel
theorem pn_17 : plainName "com/example/slim_kripke/slimkripke/bdd/BddManager" = true := by first | (simp [plainName, overriddenIn]; done) | decide +kernel
theorem pd__IIII_I : parseMethodDescriptor "(IIII)I" = some ⟨[.int, .int, .int, .int], some .int⟩ := by decide +kernel
theorem ef_17 (m : MethodId) (x0 : Int32) (x1 : Int32) (x2 : Int32) : entryFrame m #[(.int x0), (.int x1), (.int x2)] 3 = mkF m 0 #[.val (.int x0), .val (.int x1), .val (.int x2)] [] := by first | (simp [entryFrame, mkF, argsToLocals, Value.category]; done) | rfl
def f17 (p0 : Int32) (p1 : Int32) (p2 : Int32) : Int32 := (f18 p0 p1 p2 (0 : Int32))
theorem rm17 (l : Launch) (Z : State) (a0 : Array Value) (hw : ∀ d ∈ tables_1, d.before a0 Z = true) (ws : List Jvm.Cond) (p0 : Int32) (p1 : Int32) (p2 : Int32) (h0 : Heap) (n0 : Nat) (Z0 : n0 ≤ h0.size) :
    Met1 l Nm_1 (Jvm.Cond.code Nm_1 prog_5_method_65_code 3 (some .int)) ws (rom 1 0 0 17) #[(.int p0), (.int p1), (.int p2)] Z h0 (QP (some (.int (f17 p0 p1 p2))) h0 n0) := by
  refine MetFree.of_bodySF (plainFor_of_name pn_17) hisR ?_
  intro p e s m args below meth c s₁ Bd hml0 hP hK
  obtain ⟨rfl, hZ, hh⟩ := hP
  have hx := Bd.exec
  have hby := Bd.bytes
  have hml : c.maxLocals = 3 := hml0
  have hown : s.vm.findClass "com/example/slim_kripke/slimkripke/bdd/BddManager" = some m.cls := findClass_of_methodNamed Bd.named
  have X0 : Stand p l e (rom 1 0 0 17) s m _ _ _ _ _ [] 0 0 := Stand.of_body Bd
  have e0 : s₁.heap = h0 := by rw [← hh, Bd.state]; rfl
  have N0 := Fr.nil n0
  have K0 : Keep h0 h0 [] := Keep.refl _ _
  have pre0 : Go p e below s₁ _ (mkF m 0 #[(vi p0), (vi p1), (vi p2)] []) _ := fun t k => castTop (ef_17 m p0 p1 p2) k
  have pre1 : Go p e below s₁ _ (mkF m 4 #[(vi p0), (vi p1), (vi p2)] [(.int 0), (.int p2), (.int p1), (.int p0)]) _ := fun t k => pre0 t (by
    refine XS.iloadN X0.here hx rfl (hb hby d17_0) rfl ?_
    refine XS.iloadN X0.here hx rfl (hb hby d17_1) rfl ?_
    refine XS.iloadN X0.here hx rfl (hb hby d17_2) rfl ?_
    refine XS.iconst X0.here hx rfl (hb hby d17_3) ?_
    exact k)
  obtain ⟨_, _, ⟨T2, L2, k2, n2⟩, -, X2, ⟨Lc2, hQ2, l2, y2, z2⟩, st2⟩ := Jvm.LawKit.callS X0 hx (y := Nm_0) hown (mq hZ hw 114 rfl) (mq hZ hw 115 rfl) (mq hZ hw 3 rfl) (mq hZ hw 116 rfl) (by decide) (backOf (W := 0) (rm18 l Z a0 hw [] p0 p1 p2 (0 : Int32) h0 n0 Z0) hZ (wq hw 116 rfl) (wq hw 3 rfl) (by decide) (by decide)) (g := (mkF m 4 #[(vi p0), (vi p1), (vi p2)] [(.int 0), (.int p2), (.int p1), (.int p0)])) rfl (by rw [hml]; rfl) (argsL := [(.int p0), (.int p1), (.int p2), (.int 0)]) (rest := []) (lenOf pd__IIII_I rfl) rfl (w00 rfl) (hb hby d17_4) (fun _ _ => ⟨rfl, e0, zz, zz⟩)
  dsimp only [Pt.U, Pt.locs, Pt.cells, Pt.slots] at X2 l2 y2 z2 st2 hQ2
  subst y2 z2
  obtain ⟨rfl, Nq2, e2⟩ := hQ2
  have N2 := FrE l2 N0 Nq2
  have pre3 := Go.thn pre1 st2
  obtain ⟨fs, hr, hrun, hended, hW, hsame⟩ := X2.leave (v := some (.int (f18 p0 p1 p2 (0 : Int32)))) (fun h => by rw [Bd.returns] at h; cases h)
  refine ⟨_, _, ?_, hrun, hended, _, _, rfl, ?_, ⟨_, rfl⟩, hW, hsame.mono (by decide) (by decide)⟩
  · exact pre3 _ (retI X2 hx Bd.returns (hb hby d17_7) hr)
  · exact ⟨by simp only [f17], N2, e2⟩
theorem d9_0 : DK cd9 0 (.iload_n 0) 1 := by decide +kernel
theorem d9_1 : DK cd9 1 (.iload_n 1) 1 := by decide +kernel
theorem d9_2 : DK cd9 2 (.if_icmp .gt 7) 3 := by decide +kernel
theorem d9_5 : DK cd9 5 (.iload_n 0) 1 := by decide +kernel
theorem d9_6 : DK cd9 6 (.goto 4) 3 := by decide +kernel
theorem d9_9 : DK cd9 9 (.iload_n 1) 1 := by decide +kernel
theorem d9_10 : DK cd9 10 .ireturn 1 := by decide +kernel
theorem ef_9 (m : MethodId) (x0 : Int32) (x1 : Int32) : entryFrame m #[(.int x0), (.int x1)] 2 = mkF m 0 #[.val (.int x0), .val (.int x1)] [] := by first | (simp [entryFrame, mkF, argsToLocals, Value.category]; done) | rfl
def f9 (p0 : Int32) (p1 : Int32) : Int32 := (if p1 < p0 then p1 else p0)
theorem rm9 (l : Launch) (Z : State) (a0 : Array Value) (hw : ∀ d ∈ tables_1, d.before a0 Z = true) (ws : List Jvm.Cond) (p0 : Int32) (p1 : Int32) (h0 : Heap) (n0 : Nat) (Z0 : n0 ≤ h0.size) :
    Met1 l Nm_2 (Jvm.Cond.code Nm_2 jdk_29_method_69_code 2 (some .int)) ws (rom 0 0 0 0) #[(.int p0), (.int p1)] Z h0 (QP (some (.int (f9 p0 p1))) h0 n0) := by
  refine MetFree.of_bodySF (Jvm.Free.JP.mathPlain rfl (by decide +kernel)) hisR ?_
  intro p e s m args below meth c s₁ Bd hml0 hP hK
  obtain ⟨rfl, hZ, hh⟩ := hP
  have hx := Bd.exec
  have hby := Bd.bytes
  have hml : c.maxLocals = 2 := hml0
  have hown : s.vm.findClass "java/lang/Math" = some m.cls := findClass_of_methodNamed Bd.named
  have X0 : Stand p l e (rom 0 0 0 0) s m _ _ _ _ _ [] 0 0 := Stand.of_body Bd
  have e0 : s₁.heap = h0 := by rw [← hh, Bd.state]; rfl
  have N0 := Fr.nil n0
  have K0 : Keep h0 h0 [] := Keep.refl _ _
  have pre0 : Go p e below s₁ _ (mkF m 0 #[(vi p0), (vi p1)] []) _ := fun t k => castTop (ef_9 m p0 p1) k
  have pre2 : Go p e below s₁ _ (mkF m 2 #[(vi p0), (vi p1)] [(.int p1), (.int p0)]) _ := fun t k => pre0 t (by
    refine XS.iloadN X0.here hx rfl (hb hby d9_0) rfl ?_
    refine XS.iloadN X0.here hx rfl (hb hby d9_1) rfl ?_
    exact k)
  by_cases hc2_1 : p1 < p0
  · have pre3 : Go p e below s₁ _ (mkF m 10 #[(vi p0), (vi p1)] [(.int p1)]) _ := fun t k => pre2 t (by
      refine XS.icmpYes X0.here hx rfl (pc0 := 2) (pc' := 9) rfl (hb hby d9_2) rfl (tlt hc2_1).2.2.1 (by decide) (by decide) ?_
      refine XS.iloadN X0.here hx rfl (hb hby d9_9) rfl ?_
      exact k)
    obtain ⟨fs, hr, hrun, hended, hW, hsame⟩ := X0.leave (v := some (.int p1)) (fun h => by rw [Bd.returns] at h; cases h)
    refine ⟨_, _, ?_, hrun, hended, _, _, rfl, ?_, ⟨_, rfl⟩, hW, hsame.mono (by decide) (by decide)⟩
    · exact pre3 _ (retI X0 hx Bd.returns (hb hby d9_10) hr)
    · exact ⟨by simp only [f9, if_pos hc2_1], N0, e0⟩
  · have pre4 : Go p e below s₁ _ (mkF m 10 #[(vi p0), (vi p1)] [(.int p0)]) _ := fun t k => pre2 t (by
      refine XS.icmpNo X0.here hx rfl (hb hby d9_2) rfl (flt hc2_1).2.2.1 ?_
      refine XS.iloadN X0.here hx rfl (hb hby d9_5) rfl ?_
      refine XS.goto X0.here hx rfl (pc0 := 6) (pc' := 10) rfl (hb hby d9_6) (by decide) (by decide) ?_
      exact k)
    obtain ⟨fs, hr, hrun, hended, hW, hsame⟩ := X0.leave (v := some (.int p0)) (fun h => by rw [Bd.returns] at h; cases h)
    refine ⟨_, _, ?_, hrun, hended, _, _, rfl, ?_, ⟨_, rfl⟩, hW, hsame.mono (by decide) (by decide)⟩
    · exact pre4 _ (retI X0 hx Bd.returns (hb hby d9_10) hr)
    · exact ⟨by simp only [f9, if_neg hc2_1], N0, e0⟩
theorem d22_0 : DK cd22 0 (.iload_n 0) 1 := by decide +kernel
theorem d22_1 : DK cd22 1 (.iload_n 1) 1 := by decide +kernel
theorem d22_2 : DK cd22 2 (.if_icmp .lt 7) 3 := by decide +kernel
theorem d22_5 : DK cd22 5 (.iload_n 0) 1 := by decide +kernel
theorem d22_6 : DK cd22 6 (.goto 4) 3 := by decide +kernel
theorem d22_9 : DK cd22 9 (.iload_n 1) 1 := by decide +kernel
theorem d22_10 : DK cd22 10 .ireturn 1 := by decide +kernel
theorem ef_22 (m : MethodId) (x0 : Int32) (x1 : Int32) : entryFrame m #[(.int x0), (.int x1)] 2 = mkF m 0 #[.val (.int x0), .val (.int x1)] [] := by first | (simp [entryFrame, mkF, argsToLocals, Value.category]; done) | rfl
def f22 (p0 : Int32) (p1 : Int32) : Int32 := (if p0 < p1 then p1 else p0)
theorem rm22 (l : Launch) (Z : State) (a0 : Array Value) (hw : ∀ d ∈ tables_1, d.before a0 Z = true) (ws : List Jvm.Cond) (p0 : Int32) (p1 : Int32) (h0 : Heap) (n0 : Nat) (Z0 : n0 ≤ h0.size) :
    Met1 l Nm_3 (Jvm.Cond.code Nm_3 jdk_29_method_65_code 2 (some .int)) ws (rom 0 0 0 0) #[(.int p0), (.int p1)] Z h0 (QP (some (.int (f22 p0 p1))) h0 n0) := by
  refine MetFree.of_bodySF (Jvm.Free.JP.mathPlain rfl (by decide +kernel)) hisR ?_
  intro p e s m args below meth c s₁ Bd hml0 hP hK
  obtain ⟨rfl, hZ, hh⟩ := hP
  have hx := Bd.exec
  have hby := Bd.bytes
  have hml : c.maxLocals = 2 := hml0
  have hown : s.vm.findClass "java/lang/Math" = some m.cls := findClass_of_methodNamed Bd.named
  have X0 : Stand p l e (rom 0 0 0 0) s m _ _ _ _ _ [] 0 0 := Stand.of_body Bd
  have e0 : s₁.heap = h0 := by rw [← hh, Bd.state]; rfl
  have N0 := Fr.nil n0
  have K0 : Keep h0 h0 [] := Keep.refl _ _
  have pre0 : Go p e below s₁ _ (mkF m 0 #[(vi p0), (vi p1)] []) _ := fun t k => castTop (ef_22 m p0 p1) k
  have pre2 : Go p e below s₁ _ (mkF m 2 #[(vi p0), (vi p1)] [(.int p1), (.int p0)]) _ := fun t k => pre0 t (by
    refine XS.iloadN X0.here hx rfl (hb hby d22_0) rfl ?_
    refine XS.iloadN X0.here hx rfl (hb hby d22_1) rfl ?_
    exact k)
  by_cases hc2_1 : p0 < p1
  · have pre3 : Go p e below s₁ _ (mkF m 10 #[(vi p0), (vi p1)] [(.int p1)]) _ := fun t k => pre2 t (by
      refine XS.icmpYes X0.here hx rfl (pc0 := 2) (pc' := 9) rfl (hb hby d22_2) rfl (tlt hc2_1).1 (by decide) (by decide) ?_
      refine XS.iloadN X0.here hx rfl (hb hby d22_9) rfl ?_
      exact k)
    obtain ⟨fs, hr, hrun, hended, hW, hsame⟩ := X0.leave (v := some (.int p1)) (fun h => by rw [Bd.returns] at h; cases h)
    refine ⟨_, _, ?_, hrun, hended, _, _, rfl, ?_, ⟨_, rfl⟩, hW, hsame.mono (by decide) (by decide)⟩
    · exact pre3 _ (retI X0 hx Bd.returns (hb hby d22_10) hr)
    · exact ⟨by simp only [f22, if_pos hc2_1], N0, e0⟩
  · have pre4 : Go p e below s₁ _ (mkF m 10 #[(vi p0), (vi p1)] [(.int p0)]) _ := fun t k => pre2 t (by
      refine XS.icmpNo X0.here hx rfl (hb hby d22_2) rfl (flt hc2_1).1 ?_
      refine XS.iloadN X0.here hx rfl (hb hby d22_5) rfl ?_
      refine XS.goto X0.here hx rfl (pc0 := 6) (pc' := 10) rfl (hb hby d22_6) (by decide) (by decide) ?_
      exact k)
    obtain ⟨fs, hr, hrun, hended, hW, hsame⟩ := X0.leave (v := some (.int p0)) (fun h => by rw [Bd.returns] at h; cases h)
    refine ⟨_, _, ?_, hrun, hended, _, _, rfl, ?_, ⟨_, rfl⟩, hW, hsame.mono (by decide) (by decide)⟩
    · exact pre4 _ (retI X0 hx Bd.returns (hb hby d22_10) hr)
    · exact ⟨by simp only [f22, if_neg hc2_1], N0, e0⟩
theorem d8_0 : DK cd8 0 (.iload_n 0) 1 := by decide +kernel
theorem d8_1 : DK cd8 1 (.ifCond .gt 14) 3 := by decide +kernel
theorem d8_15 : DK cd8 15 (.bipush 31) 2 := by decide +kernel
theorem d8_17 : DK cd8 17 (.istore_n 1) 1 := by decide +kernel
theorem d8_18 : DK cd8 18 (.iload_n 0) 1 := by decide +kernel
theorem d8_19 : DK cd8 19 (.ldc_w 264) 3 := by decide +kernel
theorem d8_22 : DK cd8 22 (.if_icmp .lt 11) 3 := by decide +kernel
theorem d8_25 : DK cd8 25 (.iinc 1 (-16)) 3 := by decide +kernel
theorem d8_28 : DK cd8 28 (.iload_n 0) 1 := by decide +kernel
theorem d8_29 : DK cd8 29 (.bipush 16) 2 := by decide +kernel
theorem d8_31 : DK cd8 31 .iushr 1 := by decide +kernel
theorem d8_32 : DK cd8 32 (.istore_n 0) 1 := by decide +kernel
theorem d8_33 : DK cd8 33 (.iload_n 0) 1 := by decide +kernel
theorem d8_34 : DK cd8 34 (.sipush 256) 3 := by decide +kernel
theorem d8_37 : DK cd8 37 (.if_icmp .lt 11) 3 := by decide +kernel
theorem d8_40 : DK cd8 40 (.iinc 1 (-8)) 3 := by decide +kernel
theorem d8_43 : DK cd8 43 (.iload_n 0) 1 := by decide +kernel
theorem d8_44 : DK cd8 44 (.bipush 8) 2 := by decide +kernel
theorem d8_46 : DK cd8 46 .iushr 1 := by decide +kernel
theorem d8_47 : DK cd8 47 (.istore_n 0) 1 := by decide +kernel
theorem d8_48 : DK cd8 48 (.iload_n 0) 1 := by decide +kernel
theorem d8_49 : DK cd8 49 (.bipush 16) 2 := by decide +kernel
theorem d8_51 : DK cd8 51 (.if_icmp .lt 10) 3 := by decide +kernel
theorem d8_54 : DK cd8 54 (.iinc 1 (-4)) 3 := by decide +kernel
theorem d8_57 : DK cd8 57 (.iload_n 0) 1 := by decide +kernel
theorem d8_58 : DK cd8 58 (.iconst 4) 1 := by decide +kernel
theorem d8_59 : DK cd8 59 .iushr 1 := by decide +kernel
theorem d8_60 : DK cd8 60 (.istore_n 0) 1 := by decide +kernel
theorem d8_61 : DK cd8 61 (.iload_n 0) 1 := by decide +kernel
theorem d8_62 : DK cd8 62 (.iconst 4) 1 := by decide +kernel
theorem d8_63 : DK cd8 63 (.if_icmp .lt 10) 3 := by decide +kernel
theorem d8_73 : DK cd8 73 (.iload_n 1) 1 := by decide +kernel
theorem d8_74 : DK cd8 74 (.iload_n 0) 1 := by decide +kernel
theorem d8_75 : DK cd8 75 (.iconst 1) 1 := by decide +kernel
theorem d8_76 : DK cd8 76 .iushr 1 := by decide +kernel
theorem d8_77 : DK cd8 77 .isub 1 := by decide +kernel
theorem d8_78 : DK cd8 78 .ireturn 1 := by decide +kernel
theorem pn_8 : plainName "java/lang/Integer" = true := by first | (simp [plainName, overriddenIn]; done) | decide +kernel
theorem ef_8 (m : MethodId)  : entryFrame m #[(.int 429496729)] 2 = mkF m 0 #[.val (.int 429496729), .unset] [] := by first | (simp [entryFrame, mkF, argsToLocals, Value.category]; done) | rfl
def f8 : Int32 := (3 : Int32)
theorem rm8 (l : Launch) (Z : State) (a0 : Array Value) (hw : ∀ d ∈ tables_1, d.before a0 Z = true) (ws : List Jvm.Cond)  (h0 : Heap) (n0 : Nat) (Z0 : n0 ≤ h0.size) :
    Met1 l Nm_4 (Jvm.Cond.code Nm_4 jdk_33_method_47_code 2 (some .int)) ws (rom 0 0 0 0) #[(.int 429496729)] Z h0 (QP (some (.int (f8))) h0 n0) := by
  refine MetFree.of_bodySF (plainFor_of_name pn_8) hisR ?_
  intro p e s m args below meth c s₁ Bd hml0 hP hK
  obtain ⟨rfl, hZ, hh⟩ := hP
  have hx := Bd.exec
  have hby := Bd.bytes
  have hml : c.maxLocals = 2 := hml0
  have hown : s.vm.findClass "java/lang/Integer" = some m.cls := findClass_of_methodNamed Bd.named
  have X0 : Stand p l e (rom 0 0 0 0) s m _ _ _ _ _ [] 0 0 := Stand.of_body Bd
  have e0 : s₁.heap = h0 := by rw [← hh, Bd.state]; rfl
  have N0 := Fr.nil n0
  have K0 : Keep h0 h0 [] := Keep.refl _ _
  have pre0 : Go p e below s₁ _ (mkF m 0 #[(vi 429496729), .unset] []) _ := fun t k => castTop (ef_8 m ) k
  have pre1 : Go p e below s₁ _ (mkF m 78 #[(vi 1), (vi 3)] [(.int 3)]) _ := fun t k => pre0 t (by
    refine XS.iloadN X0.here hx rfl (hb hby d8_0) rfl ?_
    refine XS.ifYes X0.here hx rfl (pc0 := 1) (pc' := 15) rfl (hb hby d8_1) rfl (by decide) (by decide) (by decide) ?_
    refine XS.bipush X0.here hx rfl (hb hby d8_15) ?_
    refine XS.istoreN X0.here hx rfl (hb hby d8_17) rfl (l' := #[(vi 429496729), (vi 31)]) rfl ?_
    refine XS.iloadN X0.here hx rfl (hb hby d8_18) rfl ?_
    refine X0.ldcwInt hx hown (mq hZ hw 69 rfl) (g := (mkF m 19 #[(vi 429496729), (vi 31)] [(.int 429496729)])) rfl (hb hby d8_19) _ ?_
    refine XS.icmpNo X0.here hx rfl (hb hby d8_22) rfl (by decide) ?_
    refine XS.iinc X0.here hx rfl (hb hby d8_25) rfl (l' := #[(vi 429496729), (vi 15)]) rfl ?_
    refine XS.iloadN X0.here hx rfl (hb hby d8_28) rfl ?_
    refine XS.bipush X0.here hx rfl (hb hby d8_29) ?_
    refine XS.iushr X0.here hx rfl (hb hby d8_31) rfl ?_
    refine XS.istoreN X0.here hx rfl (hb hby d8_32) rfl (l' := #[(vi 6553), (vi 15)]) rfl ?_
    refine XS.iloadN X0.here hx rfl (hb hby d8_33) rfl ?_
    refine XS.sipush X0.here hx rfl (hb hby d8_34) ?_
    refine XS.icmpNo X0.here hx rfl (hb hby d8_37) rfl (by decide) ?_
    refine XS.iinc X0.here hx rfl (hb hby d8_40) rfl (l' := #[(vi 6553), (vi 7)]) rfl ?_
    refine XS.iloadN X0.here hx rfl (hb hby d8_43) rfl ?_
    refine XS.bipush X0.here hx rfl (hb hby d8_44) ?_
    refine XS.iushr X0.here hx rfl (hb hby d8_46) rfl ?_
    refine XS.istoreN X0.here hx rfl (hb hby d8_47) rfl (l' := #[(vi 25), (vi 7)]) rfl ?_
    refine XS.iloadN X0.here hx rfl (hb hby d8_48) rfl ?_
    refine XS.bipush X0.here hx rfl (hb hby d8_49) ?_
    refine XS.icmpNo X0.here hx rfl (hb hby d8_51) rfl (by decide) ?_
    refine XS.iinc X0.here hx rfl (hb hby d8_54) rfl (l' := #[(vi 25), (vi 3)]) rfl ?_
    refine XS.iloadN X0.here hx rfl (hb hby d8_57) rfl ?_
    refine XS.iconst X0.here hx rfl (hb hby d8_58) ?_
    refine XS.iushr X0.here hx rfl (hb hby d8_59) rfl ?_
    refine XS.istoreN X0.here hx rfl (hb hby d8_60) rfl (l' := #[(vi 1), (vi 3)]) rfl ?_
    refine XS.iloadN X0.here hx rfl (hb hby d8_61) rfl ?_
    refine XS.iconst X0.here hx rfl (hb hby d8_62) ?_
    refine XS.icmpYes X0.here hx rfl (pc0 := 63) (pc' := 73) rfl (hb hby d8_63) rfl (by decide) (by decide) (by decide) ?_
    refine XS.iloadN X0.here hx rfl (hb hby d8_73) rfl ?_
    refine XS.iloadN X0.here hx rfl (hb hby d8_74) rfl ?_
    refine XS.iconst X0.here hx rfl (hb hby d8_75) ?_
    refine XS.iushr X0.here hx rfl (hb hby d8_76) rfl ?_
    refine XS.isub X0.here hx rfl (hb hby d8_77) rfl ?_
    exact k)
  obtain ⟨fs, hr, hrun, hended, hW, hsame⟩ := X0.leave (v := some (.int 3)) (fun h => by rw [Bd.returns] at h; cases h)
  refine ⟨_, _, ?_, hrun, hended, _, _, rfl, ?_, ⟨_, rfl⟩, hW, hsame.mono (by decide) (by decide)⟩
  · exact pre1 _ (retI X0 hx Bd.returns (hb hby d8_78) hr)
  · exact ⟨by simp only [f8], N0, e0⟩
theorem d7_0 : DK cd7 0 (.iload_n 0) 1 := by decide +kernel
theorem d7_1 : DK cd7 1 (.ldc 127) 2 := by decide +kernel
theorem d7_3 : DK cd7 3 (.iload_n 0) 1 := by decide +kernel
theorem d7_4 : DK cd7 4 (.invokestatic 51) 3 := by decide +kernel
theorem d7_7 : DK cd7 7 .iushr 1 := by decide +kernel
theorem d7_8 : DK cd7 8 .iand 1 := by decide +kernel
theorem d7_9 : DK cd7 9 .ireturn 1 := by decide +kernel
theorem pn_7 : plainName "java/lang/Integer" = true := by first | (simp [plainName, overriddenIn]; done) | decide +kernel
theorem pd__I_I : parseMethodDescriptor "(I)I" = some ⟨[.int], some .int⟩ := by decide +kernel
theorem ef_7 (m : MethodId)  : entryFrame m #[(.int 429496729)] 1 = mkF m 0 #[.val (.int 429496729)] [] := by first | (simp [entryFrame, mkF, argsToLocals, Value.category]; done) | rfl
def f7 : Int32 := (268435456 : Int32)
theorem rm7 (l : Launch) (Z : State) (a0 : Array Value) (hw : ∀ d ∈ tables_1, d.before a0 Z = true) (ws : List Jvm.Cond)  (h0 : Heap) (n0 : Nat) (Z0 : n0 ≤ h0.size) :
    Met1 l Nm_5 (Jvm.Cond.code Nm_5 jdk_33_method_45_code 1 (some .int)) ws (rom 1 0 0 15) #[(.int 429496729)] Z h0 (QP (some (.int (f7))) h0 n0) := by
  refine MetFree.of_bodySF (plainFor_of_name pn_7) hisR ?_
  intro p e s m args below meth c s₁ Bd hml0 hP hK
  obtain ⟨rfl, hZ, hh⟩ := hP
  have hx := Bd.exec
  have hby := Bd.bytes
  have hml : c.maxLocals = 1 := hml0
  have hown : s.vm.findClass "java/lang/Integer" = some m.cls := findClass_of_methodNamed Bd.named
  have X0 : Stand p l e (rom 1 0 0 15) s m _ _ _ _ _ [] 0 0 := Stand.of_body Bd
  have e0 : s₁.heap = h0 := by rw [← hh, Bd.state]; rfl
  have N0 := Fr.nil n0
  have K0 : Keep h0 h0 [] := Keep.refl _ _
  have pre0 : Go p e below s₁ _ (mkF m 0 #[(vi 429496729)] []) _ := fun t k => castTop (ef_7 m ) k
  have pre1 : Go p e below s₁ _ (mkF m 4 #[(vi 429496729)] [(.int 429496729), (.int (-2147483648 : Int32)), (.int 429496729)]) _ := fun t k => pre0 t (by
    refine XS.iloadN X0.here hx rfl (hb hby d7_0) rfl ?_
    refine X0.ldcInt hx hown (mq hZ hw 65 rfl) (g := (mkF m 1 #[(vi 429496729)] [(.int 429496729)])) rfl (hb hby d7_1) _ ?_
    refine XS.iloadN X0.here hx rfl (hb hby d7_3) rfl ?_
    exact k)
  obtain ⟨_, _, ⟨T2, L2, k2, n2⟩, -, X2, ⟨Lc2, hQ2, l2, y2, z2⟩, st2⟩ := Jvm.LawKit.callS X0 hx (y := Nm_4) hown (mq hZ hw 66 rfl) (mq hZ hw 67 rfl) (mq hZ hw 63 rfl) (mq hZ hw 68 rfl) (by decide) (backOf (W := 2) (rm8 l Z a0 hw []  h0 n0 Z0) hZ (wq hw 68 rfl) (wq hw 63 rfl) (by decide) (by decide)) (g := (mkF m 4 #[(vi 429496729)] [(.int 429496729), (.int (-2147483648 : Int32)), (.int 429496729)])) rfl (by rw [hml]; rfl) (argsL := [(.int 429496729)]) (rest := [(.int (-2147483648 : Int32)), (.int 429496729)]) (lenOf pd__I_I rfl) rfl (w00 rfl) (hb hby d7_4) (fun _ _ => ⟨rfl, e0, zz, zz⟩)
  dsimp only [Pt.U, Pt.locs, Pt.cells, Pt.slots] at X2 l2 y2 z2 st2 hQ2
  subst y2 z2
  obtain ⟨rfl, Nq2, e2⟩ := hQ2
  have N2 := FrE l2 N0 Nq2
  have pre3 := Go.thn pre1 st2
  have pre4 : Go p e below T2 _ (mkF m 9 #[(vi 429496729)] [(.int 268435456)]) _ := fun t k => pre3 t (by
    refine XS.iushr X2.here hx rfl (hb hby d7_7) rfl ?_
    refine XS.iand X2.here hx rfl (hb hby d7_8) rfl ?_
    exact k)
  obtain ⟨fs, hr, hrun, hended, hW, hsame⟩ := X2.leave (v := some (.int 268435456)) (fun h => by rw [Bd.returns] at h; cases h)
  refine ⟨_, _, ?_, hrun, hended, _, _, rfl, ?_, ⟨_, rfl⟩, hW, hsame.mono (by decide) (by decide)⟩
  · exact pre4 _ (retI X2 hx Bd.returns (hb hby d7_9) hr)
  · exact ⟨by simp only [f7], N2, e2⟩
theorem d26_0 : DK cd26 0 (.iconst (-1)) 1 := by decide +kernel
theorem d26_1 : DK cd26 1 (.istore_n 3) 1 := by decide +kernel
theorem d26_2 : DK cd26 2 (.iload_n 0) 1 := by decide +kernel
theorem d26_3 : DK cd26 3 (.tableswitch 228 0 5 #[37, 75, 113, 141, 169, 198]) 37 := by decide +kernel
theorem d26_40 : DK cd26 40 (.iload_n 1) 1 := by decide +kernel
theorem d26_41 : DK cd26 41 (.ifCond .eq 7) 3 := by decide +kernel
theorem d26_44 : DK cd26 44 (.iload_n 2) 1 := by decide +kernel
theorem d26_45 : DK cd26 45 (.ifCond .ne 8) 3 := by decide +kernel
theorem d26_48 : DK cd26 48 (.iconst 0) 1 := by decide +kernel
theorem d26_49 : DK cd26 49 (.istore_n 3) 1 := by decide +kernel
theorem d26_50 : DK cd26 50 (.goto 195) 3 := by decide +kernel
theorem d26_53 : DK cd26 53 (.iload_n 1) 1 := by decide +kernel
theorem d26_54 : DK cd26 54 (.iconst 1) 1 := by decide +kernel
theorem d26_55 : DK cd26 55 (.if_icmp .eq 8) 3 := by decide +kernel
theorem d26_58 : DK cd26 58 (.iload_n 1) 1 := by decide +kernel
theorem d26_59 : DK cd26 59 (.iload_n 2) 1 := by decide +kernel
theorem d26_60 : DK cd26 60 (.if_icmp .ne 8) 3 := by decide +kernel
theorem d26_63 : DK cd26 63 (.iload_n 2) 1 := by decide +kernel
theorem d26_64 : DK cd26 64 (.istore_n 3) 1 := by decide +kernel
theorem d26_65 : DK cd26 65 (.goto 180) 3 := by decide +kernel
theorem d26_68 : DK cd26 68 (.iload_n 2) 1 := by decide +kernel
theorem d26_69 : DK cd26 69 (.iconst 1) 1 := by decide +kernel
theorem d26_70 : DK cd26 70 (.if_icmp .ne 175) 3 := by decide +kernel
theorem d26_73 : DK cd26 73 (.iload_n 1) 1 := by decide +kernel
theorem d26_74 : DK cd26 74 (.istore_n 3) 1 := by decide +kernel
theorem d26_75 : DK cd26 75 (.goto 170) 3 := by decide +kernel
theorem d26_245 : DK cd26 245 (.iload_n 3) 1 := by decide +kernel
theorem d26_246 : DK cd26 246 .ireturn 1 := by decide +kernel
theorem pn_26 : plainName "com/example/slim_kripke/slimkripke/bdd/BddManager" = true := by first | (simp [plainName, overriddenIn]; done) | decide +kernel
theorem ef_26 (m : MethodId) (x1 : Int32) (x2 : Int32) : entryFrame m #[(.int 0), (.int x1), (.int x2)] 4 = mkF m 0 #[.val (.int 0), .val (.int x1), .val (.int x2), .unset] [] := by first | (simp [entryFrame, mkF, argsToLocals, Value.category]; done) | rfl
def v26_245_l3 (p1 : Int32) (p2 : Int32) : Int32 := (if p1 = (0 : Int32) then (0 : Int32) else (if p2 = (0 : Int32) then (0 : Int32) else (if p1 = (1 : Int32) then p2 else (if p1 = p2 then p2 else (if p2 = (1 : Int32) then p1 else (-1 : Int32))))))
def f26 (p1 : Int32) (p2 : Int32) : Int32 := (v26_245_l3 p1 p2)
theorem rm26 (l : Launch) (Z : State) (a0 : Array Value) (hw : ∀ d ∈ tables_1, d.before a0 Z = true) (ws : List Jvm.Cond) (p1 : Int32) (p2 : Int32) (h0 : Heap) (n0 : Nat) (Z0 : n0 ≤ h0.size) :
    Met1 l Nm_6 (Jvm.Cond.code Nm_6 prog_5_method_42_code 4 (some .int)) ws (rom 0 0 0 0) #[(.int 0), (.int p1), (.int p2)] Z h0 (QP (some (.int (f26 p1 p2))) h0 n0) := by
  refine MetFree.of_bodySF (plainFor_of_name pn_26) hisR ?_
  intro p e s m args below meth c s₁ Bd hml0 hP hK
  obtain ⟨rfl, hZ, hh⟩ := hP
  have hx := Bd.exec
  have hby := Bd.bytes
  have hml : c.maxLocals = 4 := hml0
  have hown : s.vm.findClass "com/example/slim_kripke/slimkripke/bdd/BddManager" = some m.cls := findClass_of_methodNamed Bd.named
  have X0 : Stand p l e (rom 0 0 0 0) s m _ _ _ _ _ [] 0 0 := Stand.of_body Bd
  have e0 : s₁.heap = h0 := by rw [← hh, Bd.state]; rfl
  have N0 := Fr.nil n0
  have K0 : Keep h0 h0 [] := Keep.refl _ _
  have pre0 : Go p e below s₁ _ (mkF m 0 #[(vi 0), (vi p1), (vi p2), .unset] []) _ := fun t k => castTop (ef_26 m p1 p2) k
  have pre6 : Go p e below s₁ _ (mkF m 41 #[(vi 0), (vi p1), (vi p2), (vi (-1))] [(.int p1)]) _ := fun t k => pre0 t (by
    refine XS.iconst X0.here hx rfl (hb hby d26_0) ?_
    refine XS.istoreN X0.here hx rfl (hb hby d26_1) rfl (l' := #[(vi 0), (vi p1), (vi p2), (vi (-1))]) rfl ?_
    refine XS.iloadN X0.here hx rfl (hb hby d26_2) rfl ?_
    refine X0.tableswitchIn hx (g := (mkF m 3 #[(vi 0), (vi p1), (vi p2), (vi (-1))] [(.int 0)])) rfl (k := (0 : Int32)) (rest := []) rfl (hb hby d26_3) (by decide) (off := 37) rfl (by show (0 : Int) ≤ 3 + 37; decide) _ ?_
    show Steps p.tables e below (s₁.setTop (mkF m 40 #[(vi 0), (vi p1), (vi p2), (vi (-1))] [])) _
    refine XS.iloadN X0.here hx rfl (hb hby d26_40) rfl ?_
    exact k)
  obtain ⟨T7, L7, X7, e7, N7, pre7⟩ : ∃ (T' : State) (L' : List Loc), Stand p l e (rom 0 0 0 0) s m #[(.int 0), (.int p1), (.int p2)] below meth c T' L' 0 0 ∧ T'.heap = h0 ∧ Fr n0 L' ∧ ∀ t, Steps p.tables e below (T'.setTop (mkF m 245 #[(vi 0), (vi p1), (vi p2), (vi (v26_245_l3 p1 p2))] [])) t → Steps p.tables e below (s₁.setTop (entryFrame m #[(.int 0), (.int p1), (.int p2)] 4)) t := by
    by_cases hc41_1 : p1 = (0 : Int32)
    · have pre8 : Go p e below s₁ _ (mkF m 245 #[(vi 0), (vi p1), (vi p2), (vi 0)] []) _ := fun t k => pre6 t (by
        refine XS.ifYes X0.here hx rfl (pc0 := 41) (pc' := 48) rfl (hb hby d26_41) rfl ((if0 _ _).trans (teq hc41_1).1) (by decide) (by decide) ?_
        refine XS.iconst X0.here hx rfl (hb hby d26_48) ?_
        refine XS.istoreN X0.here hx rfl (hb hby d26_49) rfl (l' := #[(vi 0), (vi p1), (vi p2), (vi 0)]) rfl ?_
        refine XS.goto X0.here hx rfl (pc0 := 50) (pc' := 245) rfl (hb hby d26_50) (by decide) (by decide) ?_
        exact k)
      exact ⟨s₁, _, X0, e0, N0, fun t k => pre8 t (by simpa only [v26_245_l3, if_pos hc41_1] using k)⟩
    · have pre9 : Go p e below s₁ _ (mkF m 45 #[(vi 0), (vi p1), (vi p2), (vi (-1))] [(.int p2)]) _ := fun t k => pre6 t (by
        refine XS.ifNo X0.here hx rfl (hb hby d26_41) rfl ((if0 _ _).trans (feq hc41_1).1) ?_
        refine XS.iloadN X0.here hx rfl (hb hby d26_44) rfl ?_
        exact k)
      by_cases hc45_2 : p2 = (0 : Int32)
      · have pre10 : Go p e below s₁ _ (mkF m 245 #[(vi 0), (vi p1), (vi p2), (vi 0)] []) _ := fun t k => pre9 t (by
          refine XS.ifNo X0.here hx rfl (hb hby d26_45) rfl ((if0 _ _).trans (teq hc45_2).2) ?_
          refine XS.iconst X0.here hx rfl (hb hby d26_48) ?_
          refine XS.istoreN X0.here hx rfl (hb hby d26_49) rfl (l' := #[(vi 0), (vi p1), (vi p2), (vi 0)]) rfl ?_
          refine XS.goto X0.here hx rfl (pc0 := 50) (pc' := 245) rfl (hb hby d26_50) (by decide) (by decide) ?_
          exact k)
        exact ⟨s₁, _, X0, e0, N0, fun t k => pre10 t (by simpa only [v26_245_l3, if_neg hc41_1, if_pos hc45_2] using k)⟩
      · have pre11 : Go p e below s₁ _ (mkF m 55 #[(vi 0), (vi p1), (vi p2), (vi (-1))] [(.int 1), (.int p1)]) _ := fun t k => pre9 t (by
          refine XS.ifYes X0.here hx rfl (pc0 := 45) (pc' := 53) rfl (hb hby d26_45) rfl ((if0 _ _).trans (feq hc45_2).2) (by decide) (by decide) ?_
          refine XS.iloadN X0.here hx rfl (hb hby d26_53) rfl ?_
          refine XS.iconst X0.here hx rfl (hb hby d26_54) ?_
          exact k)
        by_cases hc55_3 : p1 = (1 : Int32)
        · have pre12 : Go p e below s₁ _ (mkF m 245 #[(vi 0), (vi p1), (vi p2), (vi p2)] []) _ := fun t k => pre11 t (by
            refine XS.icmpYes X0.here hx rfl (pc0 := 55) (pc' := 63) rfl (hb hby d26_55) rfl (teq hc55_3).1 (by decide) (by decide) ?_
            refine XS.iloadN X0.here hx rfl (hb hby d26_63) rfl ?_
            refine XS.istoreN X0.here hx rfl (hb hby d26_64) rfl (l' := #[(vi 0), (vi p1), (vi p2), (vi p2)]) rfl ?_
            refine XS.goto X0.here hx rfl (pc0 := 65) (pc' := 245) rfl (hb hby d26_65) (by decide) (by decide) ?_
            exact k)
          exact ⟨s₁, _, X0, e0, N0, fun t k => pre12 t (by simpa only [v26_245_l3, if_neg hc41_1, if_neg hc45_2, if_pos hc55_3] using k)⟩
        · have pre13 : Go p e below s₁ _ (mkF m 60 #[(vi 0), (vi p1), (vi p2), (vi (-1))] [(.int p2), (.int p1)]) _ := fun t k => pre11 t (by
            refine XS.icmpNo X0.here hx rfl (hb hby d26_55) rfl (feq hc55_3).1 ?_
            refine XS.iloadN X0.here hx rfl (hb hby d26_58) rfl ?_
            refine XS.iloadN X0.here hx rfl (hb hby d26_59) rfl ?_
            exact k)
          by_cases hc60_4 : p1 = p2
          · have pre14 : Go p e below s₁ _ (mkF m 245 #[(vi 0), (vi p1), (vi p2), (vi p2)] []) _ := fun t k => pre13 t (by
              refine XS.icmpNo X0.here hx rfl (hb hby d26_60) rfl (teq hc60_4).2 ?_
              refine XS.iloadN X0.here hx rfl (hb hby d26_63) rfl ?_
              refine XS.istoreN X0.here hx rfl (hb hby d26_64) rfl (l' := #[(vi 0), (vi p1), (vi p2), (vi p2)]) rfl ?_
              refine XS.goto X0.here hx rfl (pc0 := 65) (pc' := 245) rfl (hb hby d26_65) (by decide) (by decide) ?_
              exact k)
            exact ⟨s₁, _, X0, e0, N0, fun t k => pre14 t (by simpa only [v26_245_l3, if_neg hc41_1, if_neg hc45_2, if_neg hc55_3, if_pos hc60_4] using k)⟩
          · have pre15 : Go p e below s₁ _ (mkF m 70 #[(vi 0), (vi p1), (vi p2), (vi (-1))] [(.int 1), (.int p2)]) _ := fun t k => pre13 t (by
              refine XS.icmpYes X0.here hx rfl (pc0 := 60) (pc' := 68) rfl (hb hby d26_60) rfl (feq hc60_4).2 (by decide) (by decide) ?_
              refine XS.iloadN X0.here hx rfl (hb hby d26_68) rfl ?_
              refine XS.iconst X0.here hx rfl (hb hby d26_69) ?_
              exact k)
            by_cases hc70_5 : p2 = (1 : Int32)
            · have pre16 : Go p e below s₁ _ (mkF m 245 #[(vi 0), (vi p1), (vi p2), (vi p1)] []) _ := fun t k => pre15 t (by
                refine XS.icmpNo X0.here hx rfl (hb hby d26_70) rfl (teq hc70_5).2 ?_
                refine XS.iloadN X0.here hx rfl (hb hby d26_73) rfl ?_
                refine XS.istoreN X0.here hx rfl (hb hby d26_74) rfl (l' := #[(vi 0), (vi p1), (vi p2), (vi p1)]) rfl ?_
                refine XS.goto X0.here hx rfl (pc0 := 75) (pc' := 245) rfl (hb hby d26_75) (by decide) (by decide) ?_
                exact k)
              exact ⟨s₁, _, X0, e0, N0, fun t k => pre16 t (by simpa only [v26_245_l3, if_neg hc41_1, if_neg hc45_2, if_neg hc55_3, if_neg hc60_4, if_pos hc70_5] using k)⟩
            · have pre17 : Go p e below s₁ _ (mkF m 245 #[(vi 0), (vi p1), (vi p2), (vi (-1))] []) _ := fun t k => pre15 t (by
                refine XS.icmpYes X0.here hx rfl (pc0 := 70) (pc' := 245) rfl (hb hby d26_70) rfl (feq hc70_5).2 (by decide) (by decide) ?_
                exact k)
              exact ⟨s₁, _, X0, e0, N0, fun t k => pre17 t (by simpa only [v26_245_l3, if_neg hc41_1, if_neg hc45_2, if_neg hc55_3, if_neg hc60_4, if_neg hc70_5] using k)⟩
  have pre18 : Go p e below T7 _ (mkF m 246 #[(vi 0), (vi p1), (vi p2), (vi (v26_245_l3 p1 p2))] [(.int (v26_245_l3 p1 p2))]) _ := fun t k => pre7 t (by
    refine XS.iloadN X7.here hx rfl (hb hby d26_245) rfl ?_
    exact k)
  obtain ⟨fs, hr, hrun, hended, hW, hsame⟩ := X7.leave (v := some (.int (v26_245_l3 p1 p2))) (fun h => by rw [Bd.returns] at h; cases h)
  refine ⟨_, _, ?_, hrun, hended, _, _, rfl, ?_, ⟨_, rfl⟩, hW, hsame.mono (by decide) (by decide)⟩
  · exact pre18 _ (retI X7 hx Bd.returns (hb hby d26_246) hr)
  · exact ⟨by simp only [f26], N7, e7⟩
theorem own_i1 {i n : Int32} {k : Nat} (h0 : 0 ≤ i.toInt) (h : i.toInt + (k + 1 : Nat) = n.toInt) : ¬ i < 0 ∧ i < n ∧ (i + (1 : Int32)).toInt = i.toInt + 1 := by
  have a := c_iadd i 1
  have b := rng32 (i + 1)
  have d := rng32 n
  rw [show (1 : Int32).toInt = 1 from rfl] at a
  rw [Int32.lt_iff_toInt_lt, Int32.lt_iff_toInt_lt, show (0 : Int32).toInt = 0 from rfl]
  omega
theorem own_i5 {i : Int32} {k : Nat} (h0 : 0 ≤ i.toInt) (h : i.toInt + 5 * (k + 1 : Nat) = 20480) : i < 20480 ∧ ¬ (i + (0 : Int32)) < 0 ∧ (i + (0 : Int32)) < 20480 ∧ (i + (5 : Int32)).toInt = i.toInt + 5 := by
  have a := c_iadd i 5
  have b := rng32 (i + 5)
  rw [show (5 : Int32).toInt = 5 from rfl] at a
  rw [Int32.add_zero, Int32.lt_iff_toInt_lt, Int32.lt_iff_toInt_lt, show (0 : Int32).toInt = 0 from rfl, show (20480 : Int32).toInt = 20480 from rfl]
  omega
theorem own_im {i : Int32} {k : Nat} (h : i.toInt = 1 + (k + 1 : Nat)) (h' : i.toInt ≤ 4095) : (1 : Int32) < i ∧ ¬ i < 0 ∧ i < 4096 ∧ (i + (-1 : Int32)).toInt = i.toInt - 1 := by
  have a := c_iadd i (-1)
  have b := rng32 (i + (-1))
  rw [show (-1 : Int32).toInt = -1 from rfl] at a
  rw [Int32.lt_iff_toInt_lt, Int32.lt_iff_toInt_lt, Int32.lt_iff_toInt_lt, show (0 : Int32).toInt = 0 from rfl, show (1 : Int32).toInt = 1 from rfl, show (4096 : Int32).toInt = 4096 from rfl]
  omega
theorem own_rng {j n : Int32} (q : ¬ j < 0 ∧ j < n) : 0 ≤ j.toInt ∧ j.toInt < n.toInt := by
  obtain ⟨a, b⟩ := q
  rw [Int32.lt_iff_toInt_lt, show (0 : Int32).toInt = 0 from rfl] at a
  rw [Int32.lt_iff_toInt_lt] at b
  omega
theorem d5_5 : DK cd5 5 (.iload_n 2) 1 := by decide +kernel
theorem d5_6 : DK cd5 6 (.iload_n 3) 1 := by decide +kernel
theorem d5_7 : DK cd5 7 (.if_icmp .ge 13) 3 := by decide +kernel
theorem d5_10 : DK cd5 10 (.aload_n 0) 1 := by decide +kernel
theorem d5_11 : DK cd5 11 (.iload_n 2) 1 := by decide +kernel
theorem d5_12 : DK cd5 12 (.iload_n 1) 1 := by decide +kernel
theorem d5_13 : DK cd5 13 .iastore 1 := by decide +kernel
theorem d5_14 : DK cd5 14 (.iinc 2 1) 3 := by decide +kernel
theorem d5_17 : DK cd5 17 (.goto (-12)) 3 := by decide +kernel
theorem tnF {p : Program} {l : Launch} {e : Env} {s : State} {m : MethodId} {args : Array Value} {below : List Frame} {meth : Method} {c : Code} {T0 : State} {locs : List Loc} {Z : State} {a0 : Array Value} {h0 : Heap} {n0 : Nat} {o0 : Addr} {p1 : Int32} {i : Int32} {zn : Int32} {f : Int32 → Int32}
    (X0 : Stand p l e (rom 0 0 0 0) s m args below meth c T0 locs 0 0) (hx : p.tables.exec = Jvm.exec) (hZ : Z.Warmed39 s.vm) (hw : ∀ d ∈ tables_1, d.before a0 Z = true) (hby : c.code = jdk_65_method_103_code) (hml : c.maxLocals = 4) (hown : s.vm.findClass "java/util/Arrays" = some m.cls) (e0 : T0.heap = h0) (N0 : Fr n0 locs) (Z0 : n0 ≤ h0.size) (I0 : own_A Z h0 o0 zn f) (gw_o0 : n0 ≤ o0) (hi0 : ¬ i < 0) (hlt : i < zn) :
    ∃ (T' : State) (L' : List Loc) (hh1 : Heap), Stand p l e (rom 0 0 0 0) s m args below meth c T' L' 0 0 ∧ T'.heap = hh1 ∧ Fr n0 L' ∧ Wr h0 hh1 o0 (i).toNatClampNeg (.int p1) ∧ ∀ t, Steps p.tables e below (T'.setTop (mkF m 5 #[(vr o0), (vi p1), (vi (i + (1 : Int32))), (vi zn)] [])) t → Steps p.tables e below (T0.setTop (mkF m 5 #[(vr o0), (vi p1), (vi i), (vi zn)] [])) t := by
  have pre0 : ∀ t, Steps p.tables e below (T0.setTop (mkF m 5 #[(vr o0), (vi p1), (vi i), (vi zn)] [])) t → Steps p.tables e below (T0.setTop (mkF m 5 #[(vr o0), (vi p1), (vi i), (vi zn)] [])) t := fun t k => k
  have pre1 : ∀ t, Steps p.tables e below (T0.setTop (mkF m 13 #[(vr o0), (vi p1), (vi i), (vi zn)] [(.int p1), (.int i), (.ref o0)])) t → Steps p.tables e below (T0.setTop (mkF m 5 #[(vr o0), (vi p1), (vi i), (vi zn)] [])) t := fun t k => pre0 t (by
    refine XS.iloadN X0.here hx rfl (hb hby d5_5) rfl ?_
    refine XS.iloadN X0.here hx rfl (hb hby d5_6) rfl ?_
    refine XS.icmpNo X0.here hx rfl (hb hby d5_7) rfl (tlt hlt).2.1 ?_
    refine XS.aloadN X0.here hx rfl (hb hby d5_10) rfl rfl ?_
    refine XS.iloadN X0.here hx rfl (hb hby d5_11) rfl ?_
    refine XS.iloadN X0.here hx rfl (hb hby d5_12) rfl ?_
    exact k)
  have ib2 : ¬ i < 0 ∧ i < zn := ⟨hi0, hlt⟩
  obtain ⟨cl2, Ar2, Sz2, -, -⟩ := id I0
  obtain ⟨T2, h2, X2, e2, W2, st2⟩ := stI X0 hx hZ e0 Ar2 (j := i) (inb_of Sz2 ib2) (g := (mkF m 13 #[(vr o0), (vi p1), (vi i), (vi zn)] [(.int p1), (.int i), (.ref o0)])) rfl rfl (hb hby d5_13)
  have V2 := own_A.set I0 W2 ib2
  have N2 := Fr.snoc X2 N0 gw_o0
  have Z2 : n0 ≤ h2.size := Nat.le_trans Z0 (Keep.of_wr W2).1
  have pre3 : ∀ t, Steps p.tables e below (T2.setTop (mkF m 14 #[(vr o0), (vi p1), (vi i), (vi zn)] [])) t → Steps p.tables e below (T0.setTop (mkF m 5 #[(vr o0), (vi p1), (vi i), (vi zn)] [])) t := fun t k => pre1 t (st2 _ k)
  have pre4 : ∀ t, Steps p.tables e below (T2.setTop (mkF m 5 #[(vr o0), (vi p1), (vi (i + (1 : Int32))), (vi zn)] [])) t → Steps p.tables e below (T0.setTop (mkF m 5 #[(vr o0), (vi p1), (vi i), (vi zn)] [])) t := fun t k => pre3 t (by
    refine XS.iinc X2.here hx rfl (hb hby d5_14) rfl (l' := #[(vr o0), (vi p1), (vi (i + (1 : Int32))), (vi zn)]) rfl ?_
    refine XS.goto X2.here hx rfl (pc0 := 17) (pc' := 5) rfl (hb hby d5_17) (by decide) (by decide) ?_
    exact k)
  exact ⟨T2, _, h2, X2, e2, N2, W2, fun t k => pre4 t k⟩
theorem teF {p : Program} {l : Launch} {e : Env} {s : State} {m : MethodId} {args : Array Value} {below : List Frame} {meth : Method} {c : Code} {T0 : State} {locs : List Loc} {Z : State} {a0 : Array Value} {h0 : Heap} {n0 : Nat} {o0 : Addr} {p1 : Int32} {i : Int32} {zn : Int32}
    (X0 : Stand p l e (rom 0 0 0 0) s m args below meth c T0 locs 0 0) (hx : p.tables.exec = Jvm.exec) (hZ : Z.Warmed39 s.vm) (hw : ∀ d ∈ tables_1, d.before a0 Z = true) (hby : c.code = jdk_65_method_103_code) (hml : c.maxLocals = 4) (hown : s.vm.findClass "java/util/Arrays" = some m.cls) (e0 : T0.heap = h0) (N0 : Fr n0 locs) (Z0 : n0 ≤ h0.size) (hlt : ¬ (i < zn)) :
    ∃ (T' : State) (L' : List Loc), Stand p l e (rom 0 0 0 0) s m args below meth c T' L' 0 0 ∧ T'.heap = h0 ∧ Fr n0 L' ∧ ∀ t, Steps p.tables e below (T'.setTop (mkF m 20 #[(vr o0), (vi p1), (vi i), (vi zn)] [])) t → Steps p.tables e below (T0.setTop (mkF m 5 #[(vr o0), (vi p1), (vi i), (vi zn)] [])) t := by
  have pre0 : ∀ t, Steps p.tables e below (T0.setTop (mkF m 5 #[(vr o0), (vi p1), (vi i), (vi zn)] [])) t → Steps p.tables e below (T0.setTop (mkF m 5 #[(vr o0), (vi p1), (vi i), (vi zn)] [])) t := fun t k => k
  have pre1 : ∀ t, Steps p.tables e below (T0.setTop (mkF m 20 #[(vr o0), (vi p1), (vi i), (vi zn)] [])) t → Steps p.tables e below (T0.setTop (mkF m 5 #[(vr o0), (vi p1), (vi i), (vi zn)] [])) t := fun t k => pre0 t (by
    refine XS.iloadN X0.here hx rfl (hb hby d5_5) rfl ?_
    refine XS.iloadN X0.here hx rfl (hb hby d5_6) rfl ?_
    refine XS.icmpYes X0.here hx rfl (pc0 := 7) (pc' := 20) rfl (hb hby d5_7) rfl (flt hlt).2.1 (by decide) (by decide) ?_
    exact k)
  exact ⟨T0, _, X0, e0, N0, fun t k => pre1 t k⟩
theorem own_fillL {p : Program} {l : Launch} {e : Env} {s : State} {m : MethodId} {args : Array Value} {below : List Frame} {meth : Method} {c : Code} {Z : State} {a0 : Array Value} {n0 : Nat} {o0 : Addr} {p1 zn : Int32} (gw : n0 ≤ o0) (hx : p.tables.exec = Jvm.exec) (hZ : Z.Warmed39 s.vm) (hw : ∀ d ∈ tables_1, d.before a0 Z = true) (hby : c.code = jdk_65_method_103_code) (hml : c.maxLocals = 4) (hown : s.vm.findClass "java/util/Arrays" = some m.cls) :
    ∀ (k : Nat) (i : Int32) (T0 : State) (locs : List Loc) (h0 : Heap) (f : Int32 → Int32), 0 ≤ i.toInt → i.toInt + k = zn.toInt → Stand p l e (rom 0 0 0 0) s m args below meth c T0 locs 0 0 → T0.heap = h0 → Fr n0 locs → n0 ≤ h0.size → own_A Z h0 o0 zn f → ∃ (T' : State) (L' : List Loc) (h' : Heap) (f' : Int32 → Int32), Stand p l e (rom 0 0 0 0) s m args below meth c T' L' 0 0 ∧ T'.heap = h' ∧ Fr n0 L' ∧ Keep h0 h' [o0] ∧ own_A Z h' o0 zn f' ∧ (∀ j : Int32, j.toInt < i.toInt → f' j = f j) ∧ (∀ j : Int32, i.toInt ≤ j.toInt → j.toInt < zn.toInt → f' j = p1) ∧ ∀ t, Steps p.tables e below (T'.setTop (mkF m 20 #[(vr o0), (vi p1), (vi zn), (vi zn)] [])) t → Steps p.tables e below (T0.setTop (mkF m 5 #[(vr o0), (vi p1), (vi i), (vi zn)] [])) t := by
  intro k
  induction k with
  | zero =>
    intro i T0 locs h0 f h0i hk X e0 N Z0 A
    have e2 : i = zn := Int32.toInt_inj.mp (by omega)
    obtain ⟨T1, L1, X1, e1, N1, st1⟩ := teF (p1 := p1) (o0 := o0) (i := i) (zn := zn) X hx hZ hw hby hml hown e0 N Z0 (by rw [Int32.lt_iff_toInt_lt]; omega)
    subst e2
    exact ⟨T1, L1, h0, f, X1, e1, N1, Keep.refl _ _, A, fun _ _ => rfl, fun j (a : i.toInt ≤ j.toInt) (b : j.toInt < i.toInt) => absurd b (by omega), st1⟩
  | succ k ih =>
    intro i T0 locs h0 f h0i hk X e0 N Z0 A
    obtain ⟨q1, q2, q3⟩ := own_i1 h0i hk
    obtain ⟨T1, L1, h1, X1, e1, N1, W1, st1⟩ := tnF (p1 := p1) X hx hZ hw hby hml hown e0 N Z0 A gw q1 q2
    have A1 := A.set W1 ⟨q1, q2⟩
    obtain ⟨T2, L2, h2, f2, X2, e2, N2, K2, A2, u, v, st2⟩ := ih (i + 1) T1 L1 h1 _ (by omega) (by omega) X1 e1 N1 (Nat.le_trans Z0 (Keep.of_wr W1).1) A1
    refine ⟨T2, L2, h2, f2, X2, e2, N2, (Keep.of_wr W1).trans K2 (fun x hx => Or.inl hx), A2, fun j hj => ?_, fun j a b => ?_, fun t k => st1 t (st2 t k)⟩
    · rw [u j (by omega), own_up_n _ _ _ _ (fun q => by subst q; omega)]
    · by_cases q : j = i
      · subst q; rw [u j (by omega), own_up_s]
      · exact v j (by have : j.toInt ≠ i.toInt := fun r => q (Int32.toInt_inj.mp r); omega) b
theorem own_fill {p : Program} {l : Launch} {e : Env} {s : State} {m : MethodId} {args : Array Value} {below : List Frame} {meth : Method} {c : Code} {Z : State} {a0 : Array Value} {n0 : Nat} {o0 : Addr} {p1 zn : Int32} (gw : n0 ≤ o0) (hx : p.tables.exec = Jvm.exec) (hZ : Z.Warmed39 s.vm) (hw : ∀ d ∈ tables_1, d.before a0 Z = true) (hby : c.code = jdk_65_method_103_code) (hml : c.maxLocals = 4) (hown : s.vm.findClass "java/util/Arrays" = some m.cls) {T0 : State} {locs : List Loc} {h0 : Heap} {f : Int32 → Int32} (X : Stand p l e (rom 0 0 0 0) s m args below meth c T0 locs 0 0) (e0 : T0.heap = h0) (N : Fr n0 locs) (Z0 : n0 ≤ h0.size) (A : own_A Z h0 o0 zn f) : ∃ (T' : State) (L' : List Loc) (h' : Heap), Stand p l e (rom 0 0 0 0) s m args below meth c T' L' 0 0 ∧ T'.heap = h' ∧ Fr n0 L' ∧ Keep h0 h' [o0] ∧ own_A Z h' o0 zn (own_k p1) ∧ ∀ t, Steps p.tables e below (T'.setTop (mkF m 20 #[(vr o0), (vi p1), (vi zn), (vi zn)] [])) t → Steps p.tables e below (T0.setTop (mkF m 5 #[(vr o0), (vi p1), (vi 0), (vi zn)] [])) t := by
  have hz : ¬ zn < 0 := by obtain ⟨c, -, -, q, -⟩ := A; exact q
  have hz' : 0 ≤ zn.toInt := by rw [Int32.lt_iff_toInt_lt, show (0 : Int32).toInt = 0 from rfl] at hz; omega
  obtain ⟨T2, L2, h2, f2, X2, e2, N2, K2, A2, u, v, st2⟩ := own_fillL (p1 := p1) gw hx hZ hw hby hml hown zn.toInt.toNat 0 T0 locs h0 f (by decide) (by rw [show (0 : Int32).toInt = 0 from rfl]; omega) X e0 N Z0 A
  exact ⟨T2, L2, h2, X2, e2, N2, K2, A2.congr (fun j hj => v j (own_rng hj).1 (own_rng hj).2), st2⟩
theorem d5_0 : DK cd5 0 (.iconst 0) 1 := by decide +kernel
theorem d5_1 : DK cd5 1 (.istore_n 2) 1 := by decide +kernel
theorem d5_2 : DK cd5 2 (.aload_n 0) 1 := by decide +kernel
theorem d5_3 : DK cd5 3 .arraylength 1 := by decide +kernel
theorem d5_4 : DK cd5 4 (.istore_n 3) 1 := by decide +kernel
theorem d5_20 : DK cd5 20 .return_ 1 := by decide +kernel
theorem pn_5 : plainName "java/util/Arrays" = true := by first | (simp [plainName, overriddenIn]; done) | decide +kernel
theorem ef_5 (m : MethodId) (x0 : Addr) (x1 : Int32) : entryFrame m #[(.ref x0), (.int x1)] 4 = mkF m 0 #[.val (.ref x0), .val (.int x1), .unset, .unset] [] := by first | (simp [entryFrame, mkF, argsToLocals, Value.category]; done) | rfl
def Q5 (Z : State) (o0 : Addr) (p1 : Int32) (zn : Int32) (f : Int32 → Int32) (h0 : Heap) (n0 : Nat) (v : Option Value) (h : Heap) (L : List Loc) : Prop := v = none ∧ Fr n0 L ∧ Keep h0 h [o0] ∧ own_A Z h o0 zn (own_k p1)
theorem rm5 (l : Launch) (Z : State) (a0 : Array Value) (hw : ∀ d ∈ tables_1, d.before a0 Z = true) (ws : List Jvm.Cond) (o0 : Addr) (p1 : Int32) (zn : Int32) (f : Int32 → Int32) (h0 : Heap) (n0 : Nat) (Z0 : n0 ≤ h0.size) (I0 : own_A Z h0 o0 zn f) (gw_o0 : n0 ≤ o0) :
    Met1 l Nm_7 (Jvm.Cond.code Nm_7 jdk_65_method_103_code 4 none) ws (rom 0 0 0 0) #[(.ref o0), (.int p1)] Z h0 (Q5 Z o0 p1 zn f h0 n0) := by
  refine MetFree.of_bodySF (plainFor_of_name pn_5) hisR ?_
  intro p e s m args below meth c s₁ Bd hml0 hP hK
  obtain ⟨rfl, hZ, hh⟩ := hP
  have hx := Bd.exec
  have hby := Bd.bytes
  have hml : c.maxLocals = 4 := hml0
  have hown : s.vm.findClass "java/util/Arrays" = some m.cls := findClass_of_methodNamed Bd.named
  have X0 : Stand p l e (rom 0 0 0 0) s m _ _ _ _ _ [] 0 0 := Stand.of_body Bd
  have e0 : s₁.heap = h0 := by rw [← hh, Bd.state]; rfl
  have N0 := Fr.nil n0
  have K0 : Keep h0 h0 [o0] := Keep.refl _ _
  have pre0 : Go p e below s₁ _ (mkF m 0 #[(vr o0), (vi p1), .unset, .unset] []) _ := fun t k => castTop (ef_5 m o0 p1) k
  have pre1 : Go p e below s₁ _ (mkF m 3 #[(vr o0), (vi p1), (vi 0), .unset] [(.ref o0)]) _ := fun t k => pre0 t (by
    refine XS.iconst X0.here hx rfl (hb hby d5_0) ?_
    refine XS.istoreN X0.here hx rfl (hb hby d5_1) rfl (l' := #[(vr o0), (vi p1), (vi 0), .unset]) rfl ?_
    refine XS.aloadN X0.here hx rfl (hb hby d5_2) rfl rfl ?_
    exact k)
  obtain ⟨cl2, Ar2, Sz2, Mn2, Hs2⟩ := id I0
  have pre3 : Go p e below s₁ _ (mkF m 4 #[(vr o0), (vi p1), (vi 0), .unset] [(.int zn)]) _ := fun t k => pre1 t (by
    show Steps p.tables e below (s₁.setTop (mkF m 3 #[(vr o0), (vi p1), (vi 0), .unset] [(.ref o0)])) _
    refine X0.arraylength hx (by rw [e0]; exact Ar2.1) (State.isArrayOf_alike hZ.alike Ar2.2.1) (g := (mkF m 3 #[(vr o0), (vi p1), (vi 0), .unset] [(.ref o0)])) rfl rfl (hb hby d5_3) _ ?_
    rw [len_of Sz2 Mn2]
    exact k)
  have pre4 : Go p e below s₁ _ (mkF m 5 #[(vr o0), (vi p1), (vi 0), (vi zn)] []) _ := fun t k => pre3 t (by
    refine XS.istoreN X0.here hx rfl (hb hby d5_4) rfl (l' := #[(vr o0), (vi p1), (vi 0), (vi zn)]) rfl ?_
    exact k)
  obtain ⟨T5, L5, h5, X5, e5, N5, Kq5, V5, st5⟩ := own_fill (p1 := p1) gw_o0 hx hZ hw hby hml hown X0 e0 N0 Z0 I0
  have K5 : Keep h0 h5 [o0] := K0.trans Kq5 (allS (Or.inl (List.mem_of_getElem? (i := 0) rfl)) all0)
  have Z5 : n0 ≤ h5.size := Nat.le_trans Z0 Kq5.1
  have pre6 := Go.thn pre4 st5
  obtain ⟨fs, hr, hrun, hended, hW, hsame⟩ := X5.leave (v := none) (fun _ => rfl)
  refine ⟨_, _, ?_, hrun, hended, _, _, rfl, ?_, ⟨_, rfl⟩, hW, hsame.mono (by decide) (by decide)⟩
  · exact pre6 _ (X5.returnOut hx Bd.returns (hb hby d5_20) hr)
  · show Q5 Z o0 p1 zn f h0 n0 _ T5.heap _
    rw [e5]
    exact ⟨rfl, N5, K5, V5⟩
theorem d10_2 : DK cd10 2 (.iload_n 1) 1 := by decide +kernel
theorem d10_3 : DK cd10 3 (.aload_n 0) 1 := by decide +kernel
theorem d10_4 : DK cd10 4 (.getfield 419) 3 := by decide +kernel
theorem d10_7 : DK cd10 7 .arraylength 1 := by decide +kernel
theorem d10_8 : DK cd10 8 (.if_icmp .ge 18) 3 := by decide +kernel
theorem d10_11 : DK cd10 11 (.aload_n 0) 1 := by decide +kernel
theorem d10_12 : DK cd10 12 (.getfield 419) 3 := by decide +kernel
theorem d10_15 : DK cd10 15 (.iload_n 1) 1 := by decide +kernel
theorem d10_16 : DK cd10 16 (.iconst 0) 1 := by decide +kernel
theorem d10_17 : DK cd10 17 .iadd 1 := by decide +kernel
theorem d10_18 : DK cd10 18 (.iconst (-1)) 1 := by decide +kernel
theorem d10_19 : DK cd10 19 .iastore 1 := by decide +kernel
theorem d10_20 : DK cd10 20 (.iinc 1 5) 3 := by decide +kernel
theorem d10_23 : DK cd10 23 (.goto (-21)) 3 := by decide +kernel
theorem tnG {p : Program} {l : Launch} {e : Env} {s : State} {m : MethodId} {args : Array Value} {below : List Frame} {meth : Method} {c : Code} {T0 : State} {locs : List Loc} {Z : State} {a0 : Array Value} {h0 : Heap} {n0 : Nat} {o0 : Addr} {oc : Addr} {i : Int32} {f : Int32 → Int32}
    (X0 : Stand p l e (rom 0 0 0 0) s m args below meth c T0 locs 0 0) (hx : p.tables.exec = Jvm.exec) (hZ : Z.Warmed39 s.vm) (hw : ∀ d ∈ tables_1, d.before a0 Z = true) (hby : c.code = prog_5_method_61_code) (hml : c.maxLocals = 2) (hown : s.vm.findClass "com/example/slim_kripke/slimkripke/bdd/BddManager" = some m.cls) (e0 : T0.heap = h0) (N0 : Fr n0 locs) (Z0 : n0 ≤ h0.size) (I0 : Fld Z h0 o0 "com/example/slim_kripke/slimkripke/bdd/BddManager" "cache" "[I" (.ref oc)) (I1 : own_A Z h0 oc (20480 : Int32) f) (gw_oc : n0 ≤ oc) (ne_o0_oc : o0 ≠ oc) (hlt : i < (20480 : Int32)) (hi0 : ¬ (i + (0 : Int32)) < 0) (hi1 : (i + (0 : Int32)) < (20480 : Int32)) :
    ∃ (T' : State) (L' : List Loc) (hh1 : Heap), Stand p l e (rom 0 0 0 0) s m args below meth c T' L' 0 0 ∧ T'.heap = hh1 ∧ Fr n0 L' ∧ Wr h0 hh1 oc ((i + (0 : Int32))).toNatClampNeg (.int (-1)) ∧ ∀ t, Steps p.tables e below (T'.setTop (mkF m 2 #[(vr o0), (vi (i + (5 : Int32)))] [])) t → Steps p.tables e below (T0.setTop (mkF m 2 #[(vr o0), (vi i)] [])) t := by
  have pre0 : ∀ t, Steps p.tables e below (T0.setTop (mkF m 2 #[(vr o0), (vi i)] [])) t → Steps p.tables e below (T0.setTop (mkF m 2 #[(vr o0), (vi i)] [])) t := fun t k => k
  have pre1 : ∀ t, Steps p.tables e below (T0.setTop (mkF m 4 #[(vr o0), (vi i)] [(.ref o0), (.int i)])) t → Steps p.tables e below (T0.setTop (mkF m 2 #[(vr o0), (vi i)] [])) t := fun t k => pre0 t (by
    refine XS.iloadN X0.here hx rfl (hb hby d10_2) rfl ?_
    refine XS.aloadN X0.here hx rfl (hb hby d10_3) rfl rfl ?_
    exact k)
  obtain ⟨T2, X2, e2, st2⟩ := getF X0 hx hZ hown (host := "") (Or.inl (wq hw 74 rfl)) Via.refl e0 I0 (g := (mkF m 4 #[(vr o0), (vi i)] [(.ref o0), (.int i)])) rfl rfl (hb hby d10_4)
  have pre3 : ∀ t, Steps p.tables e below (T2.setTop (mkF m 7 #[(vr o0), (vi i)] [(.ref oc), (.int i)])) t → Steps p.tables e below (T0.setTop (mkF m 2 #[(vr o0), (vi i)] [])) t := fun t k => pre1 t (st2 _ k)
  obtain ⟨cl4, Ar4, Sz4, Mn4, Hs4⟩ := id I1
  have pre5 : ∀ t, Steps p.tables e below (T2.setTop (mkF m 8 #[(vr o0), (vi i)] [(.int 20480), (.int i)])) t → Steps p.tables e below (T0.setTop (mkF m 2 #[(vr o0), (vi i)] [])) t := fun t k => pre3 t (by
    show Steps p.tables e below (T2.setTop (mkF m 7 #[(vr o0), (vi i)] [(.ref oc), (.int i)])) _
    refine X2.arraylength hx (by rw [e2]; exact Ar4.1) (State.isArrayOf_alike hZ.alike Ar4.2.1) (g := (mkF m 7 #[(vr o0), (vi i)] [(.ref oc), (.int i)])) rfl rfl (hb hby d10_7) _ ?_
    rw [len_of Sz4 Mn4]
    exact k)
  have pre6 : ∀ t, Steps p.tables e below (T2.setTop (mkF m 12 #[(vr o0), (vi i)] [(.ref o0)])) t → Steps p.tables e below (T0.setTop (mkF m 2 #[(vr o0), (vi i)] [])) t := fun t k => pre5 t (by
    refine XS.icmpNo X2.here hx rfl (hb hby d10_8) rfl (tlt hlt).2.1 ?_
    refine XS.aloadN X2.here hx rfl (hb hby d10_11) rfl rfl ?_
    exact k)
  obtain ⟨T7, X7, e7, st7⟩ := getF X2 hx hZ hown (host := "") (Or.inl (wq hw 74 rfl)) Via.refl e2 I0 (g := (mkF m 12 #[(vr o0), (vi i)] [(.ref o0)])) rfl rfl (hb hby d10_12)
  have pre8 : ∀ t, Steps p.tables e below (T7.setTop (mkF m 15 #[(vr o0), (vi i)] [(.ref oc)])) t → Steps p.tables e below (T0.setTop (mkF m 2 #[(vr o0), (vi i)] [])) t := fun t k => pre6 t (st7 _ k)
  have pre9 : ∀ t, Steps p.tables e below (T7.setTop (mkF m 19 #[(vr o0), (vi i)] [(.int (-1)), (.int (i + (0 : Int32))), (.ref oc)])) t → Steps p.tables e below (T0.setTop (mkF m 2 #[(vr o0), (vi i)] [])) t := fun t k => pre8 t (by
    refine XS.iloadN X7.here hx rfl (hb hby d10_15) rfl ?_
    refine XS.iconst X7.here hx rfl (hb hby d10_16) ?_
    refine XS.iadd X7.here hx rfl (hb hby d10_17) rfl ?_
    refine XS.iconst X7.here hx rfl (hb hby d10_18) ?_
    exact k)
  have ib10 : ¬ (i + (0 : Int32)) < 0 ∧ (i + (0 : Int32)) < (20480 : Int32) := ⟨hi0, hi1⟩
  obtain ⟨cl10, Ar10, Sz10, -, -⟩ := id I1
  obtain ⟨T10, h10, X10, e10, W10, st10⟩ := stI X7 hx hZ e7 Ar10 (j := (i + (0 : Int32))) (inb_of Sz10 ib10) (g := (mkF m 19 #[(vr o0), (vi i)] [(.int (-1)), (.int (i + (0 : Int32))), (.ref oc)])) rfl rfl (hb hby d10_19)
  have V10 := own_A.set I1 W10 ib10
  have N10 := Fr.snoc X10 N0 gw_oc
  have Z10 : n0 ≤ h10.size := Nat.le_trans Z0 (Keep.of_wr W10).1
  have x11 := I0.other W10 (Or.inl ne_o0_oc)
  have pre12 : ∀ t, Steps p.tables e below (T10.setTop (mkF m 20 #[(vr o0), (vi i)] [])) t → Steps p.tables e below (T0.setTop (mkF m 2 #[(vr o0), (vi i)] [])) t := fun t k => pre9 t (st10 _ k)
  have pre13 : ∀ t, Steps p.tables e below (T10.setTop (mkF m 2 #[(vr o0), (vi (i + (5 : Int32)))] [])) t → Steps p.tables e below (T0.setTop (mkF m 2 #[(vr o0), (vi i)] [])) t := fun t k => pre12 t (by
    refine XS.iinc X10.here hx rfl (hb hby d10_20) rfl (l' := #[(vr o0), (vi (i + (5 : Int32)))]) rfl ?_
    refine XS.goto X10.here hx rfl (pc0 := 23) (pc' := 2) rfl (hb hby d10_23) (by decide) (by decide) ?_
    exact k)
  exact ⟨T10, _, h10, X10, e10, N10, W10, fun t k => pre13 t k⟩
theorem teG {p : Program} {l : Launch} {e : Env} {s : State} {m : MethodId} {args : Array Value} {below : List Frame} {meth : Method} {c : Code} {T0 : State} {locs : List Loc} {Z : State} {a0 : Array Value} {h0 : Heap} {n0 : Nat} {o0 : Addr} {oc : Addr} {f : Int32 → Int32}
    (X0 : Stand p l e (rom 0 0 0 0) s m args below meth c T0 locs 0 0) (hx : p.tables.exec = Jvm.exec) (hZ : Z.Warmed39 s.vm) (hw : ∀ d ∈ tables_1, d.before a0 Z = true) (hby : c.code = prog_5_method_61_code) (hml : c.maxLocals = 2) (hown : s.vm.findClass "com/example/slim_kripke/slimkripke/bdd/BddManager" = some m.cls) (e0 : T0.heap = h0) (N0 : Fr n0 locs) (Z0 : n0 ≤ h0.size) (I0 : Fld Z h0 o0 "com/example/slim_kripke/slimkripke/bdd/BddManager" "cache" "[I" (.ref oc)) (I1 : own_A Z h0 oc (20480 : Int32) f) :
    ∃ (T' : State) (L' : List Loc), Stand p l e (rom 0 0 0 0) s m args below meth c T' L' 0 0 ∧ T'.heap = h0 ∧ Fr n0 L' ∧ ∀ t, Steps p.tables e below (T'.setTop (mkF m 26 #[(vr o0), (vi 20480)] [])) t → Steps p.tables e below (T0.setTop (mkF m 2 #[(vr o0), (vi 20480)] [])) t := by
  have pre0 : ∀ t, Steps p.tables e below (T0.setTop (mkF m 2 #[(vr o0), (vi 20480)] [])) t → Steps p.tables e below (T0.setTop (mkF m 2 #[(vr o0), (vi 20480)] [])) t := fun t k => k
  have pre1 : ∀ t, Steps p.tables e below (T0.setTop (mkF m 4 #[(vr o0), (vi 20480)] [(.ref o0), (.int 20480)])) t → Steps p.tables e below (T0.setTop (mkF m 2 #[(vr o0), (vi 20480)] [])) t := fun t k => pre0 t (by
    refine XS.iloadN X0.here hx rfl (hb hby d10_2) rfl ?_
    refine XS.aloadN X0.here hx rfl (hb hby d10_3) rfl rfl ?_
    exact k)
  obtain ⟨T2, X2, e2, st2⟩ := getF X0 hx hZ hown (host := "") (Or.inl (wq hw 74 rfl)) Via.refl e0 I0 (g := (mkF m 4 #[(vr o0), (vi 20480)] [(.ref o0), (.int 20480)])) rfl rfl (hb hby d10_4)
  have pre3 : ∀ t, Steps p.tables e below (T2.setTop (mkF m 7 #[(vr o0), (vi 20480)] [(.ref oc), (.int 20480)])) t → Steps p.tables e below (T0.setTop (mkF m 2 #[(vr o0), (vi 20480)] [])) t := fun t k => pre1 t (st2 _ k)
  obtain ⟨cl4, Ar4, Sz4, Mn4, Hs4⟩ := id I1
  have pre5 : ∀ t, Steps p.tables e below (T2.setTop (mkF m 8 #[(vr o0), (vi 20480)] [(.int 20480), (.int 20480)])) t → Steps p.tables e below (T0.setTop (mkF m 2 #[(vr o0), (vi 20480)] [])) t := fun t k => pre3 t (by
    show Steps p.tables e below (T2.setTop (mkF m 7 #[(vr o0), (vi 20480)] [(.ref oc), (.int 20480)])) _
    refine X2.arraylength hx (by rw [e2]; exact Ar4.1) (State.isArrayOf_alike hZ.alike Ar4.2.1) (g := (mkF m 7 #[(vr o0), (vi 20480)] [(.ref oc), (.int 20480)])) rfl rfl (hb hby d10_7) _ ?_
    rw [len_of Sz4 Mn4]
    exact k)
  have pre6 : ∀ t, Steps p.tables e below (T2.setTop (mkF m 26 #[(vr o0), (vi 20480)] [])) t → Steps p.tables e below (T0.setTop (mkF m 2 #[(vr o0), (vi 20480)] [])) t := fun t k => pre5 t (by
    refine XS.icmpYes X2.here hx rfl (pc0 := 8) (pc' := 26) rfl (hb hby d10_8) rfl (by decide) (by decide) (by decide) ?_
    exact k)
  exact ⟨T2, _, X2, e2, N0, fun t k => pre6 t k⟩
theorem own_forL {p : Program} {l : Launch} {e : Env} {s : State} {m : MethodId} {args : Array Value} {below : List Frame} {meth : Method} {c : Code} {Z : State} {a0 : Array Value} {n0 : Nat} {o0 oc : Addr} (gw : n0 ≤ oc) (ne : o0 ≠ oc) (hx : p.tables.exec = Jvm.exec) (hZ : Z.Warmed39 s.vm) (hw : ∀ d ∈ tables_1, d.before a0 Z = true) (hby : c.code = prog_5_method_61_code) (hml : c.maxLocals = 2) (hown : s.vm.findClass "com/example/slim_kripke/slimkripke/bdd/BddManager" = some m.cls) :
    ∀ (k : Nat) (i : Int32) (T0 : State) (locs : List Loc) (h0 : Heap) (f : Int32 → Int32), 0 ≤ i.toInt → i.toInt + 5 * k = 20480 → Stand p l e (rom 0 0 0 0) s m args below meth c T0 locs 0 0 → T0.heap = h0 → Fr n0 locs → n0 ≤ h0.size → Fld Z h0 o0 "com/example/slim_kripke/slimkripke/bdd/BddManager" "cache" "[I" (.ref oc) → own_A Z h0 oc 20480 f → ∃ (T' : State) (L' : List Loc) (h' : Heap) (f' : Int32 → Int32), Stand p l e (rom 0 0 0 0) s m args below meth c T' L' 0 0 ∧ T'.heap = h' ∧ Fr n0 L' ∧ Keep h0 h' [oc] ∧ own_A Z h' oc 20480 f' ∧ (∀ j : Int32, j.toInt < i.toInt → f' j = f j) ∧ (∀ j : Int32, i.toInt ≤ j.toInt → j.toInt < 20480 → f' j = if (j.toInt - i.toInt) % 5 = 0 then -1 else f j) ∧ ∀ t, Steps p.tables e below (T'.setTop (mkF m 26 #[(vr o0), (vi 20480)] [])) t → Steps p.tables e below (T0.setTop (mkF m 2 #[(vr o0), (vi i)] [])) t := by
  intro k
  induction k with
  | zero =>
    intro i T0 locs h0 f h0i hk X e0 N Z0 F A
    have e1 : i = 20480 := Int32.toInt_inj.mp (by rw [show (20480 : Int32).toInt = 20480 from rfl]; omega)
    subst e1
    obtain ⟨T1, L1, X1, e1, N1, st1⟩ := teG X hx hZ hw hby hml hown e0 N Z0 F A
    exact ⟨T1, L1, h0, f, X1, e1, N1, Keep.refl _ _, A, fun _ _ => rfl, fun j a b => absurd b (by rw [show (20480 : Int32).toInt = 20480 from rfl] at a; omega), st1⟩
  | succ k ih =>
    intro i T0 locs h0 f h0i hk X e0 N Z0 F A
    obtain ⟨q0, q1, q2, q3⟩ := own_i5 h0i hk
    obtain ⟨T1, L1, h1, X1, e1, N1, W1, st1⟩ := tnG X hx hZ hw hby hml hown e0 N Z0 F A gw ne q0 q1 q2
    have A1 := A.set W1 ⟨q1, q2⟩
    obtain ⟨T2, L2, h2, f2, X2, e2, N2, K2, A2, u, v, st2⟩ := ih (i + 5) T1 L1 h1 _ (by omega) (by omega) X1 e1 N1 (Nat.le_trans Z0 (Keep.of_wr W1).1) (F.other W1 (Or.inl ne)) A1
    rw [Int32.add_zero] at u v
    refine ⟨T2, L2, h2, f2, X2, e2, N2, (Keep.of_wr W1).trans K2 (fun x hx => Or.inl hx), A2, fun j hj => ?_, fun j a b => ?_, fun t k => st1 t (st2 t k)⟩
    · rw [u j (by omega), own_up_n _ _ _ _ (fun q => by subst q; omega)]
    · by_cases q : j = i
      · subst q; rw [u j (by omega), own_up_s, if_pos (by omega)]
      · have r : j.toInt ≠ i.toInt := fun r => q (Int32.toInt_inj.mp r)
        by_cases z : j.toInt < i.toInt + 5
        · rw [u j (by omega), own_up_n _ _ _ _ q, if_neg (by omega)]
        · rw [v j (by omega) b, own_up_n _ _ _ _ q, q3]
          by_cases y : (j.toInt - i.toInt) % 5 = 0
          · rw [if_pos (by omega), if_pos y]
          · rw [if_neg (by omega), if_neg y]
theorem own_for {p : Program} {l : Launch} {e : Env} {s : State} {m : MethodId} {args : Array Value} {below : List Frame} {meth : Method} {c : Code} {Z : State} {a0 : Array Value} {n0 : Nat} {o0 oc : Addr} (gw : n0 ≤ oc) (ne : o0 ≠ oc) (hx : p.tables.exec = Jvm.exec) (hZ : Z.Warmed39 s.vm) (hw : ∀ d ∈ tables_1, d.before a0 Z = true) (hby : c.code = prog_5_method_61_code) (hml : c.maxLocals = 2) (hown : s.vm.findClass "com/example/slim_kripke/slimkripke/bdd/BddManager" = some m.cls) {T0 : State} {locs : List Loc} {h0 : Heap} (X : Stand p l e (rom 0 0 0 0) s m args below meth c T0 locs 0 0) (e0 : T0.heap = h0) (N : Fr n0 locs) (Z0 : n0 ≤ h0.size) (F : Fld Z h0 o0 "com/example/slim_kripke/slimkripke/bdd/BddManager" "cache" "[I" (.ref oc)) (A : own_A Z h0 oc 20480 own_z) : ∃ (T' : State) (L' : List Loc) (h' : Heap), Stand p l e (rom 0 0 0 0) s m args below meth c T' L' 0 0 ∧ T'.heap = h' ∧ Fr n0 L' ∧ Keep h0 h' [oc] ∧ own_A Z h' oc 20480 own_ca0 ∧ ∀ t, Steps p.tables e below (T'.setTop (mkF m 26 #[(vr o0), (vi 20480)] [])) t → Steps p.tables e below (T0.setTop (mkF m 2 #[(vr o0), (vi 0)] [])) t := by
  obtain ⟨T2, L2, h2, f2, X2, e2, N2, K2, A2, u, v, st2⟩ := own_forL gw ne hx hZ hw hby hml hown 4096 0 T0 locs h0 own_z (by decide) (by decide) X e0 N Z0 F A
  refine ⟨T2, L2, h2, X2, e2, N2, K2, A2.congr (fun j hj => ?_), st2⟩
  have r := own_rng hj
  rw [show (20480 : Int32).toInt = 20480 from rfl] at r
  rw [v j r.1 r.2]
  show (if (j.toInt - 0) % 5 = 0 then -1 else (0 : Int32)) = if j.toInt % 5 = 0 then -1 else 0
  rw [Int.sub_zero]
theorem d10_0 : DK cd10 0 (.iconst 0) 1 := by decide +kernel
theorem d10_1 : DK cd10 1 (.istore_n 1) 1 := by decide +kernel
theorem d10_26 : DK cd10 26 .return_ 1 := by decide +kernel
theorem pn_10 : plainName "com/example/slim_kripke/slimkripke/bdd/BddManager" = true := by first | (simp [plainName, overriddenIn]; done) | decide +kernel
theorem ef_10 (m : MethodId) (x0 : Addr) : entryFrame m #[(.ref x0)] 2 = mkF m 0 #[.val (.ref x0), .unset] [] := by first | (simp [entryFrame, mkF, argsToLocals, Value.category]; done) | rfl
def Q10 (Z : State) (o0 : Addr) (oc : Addr) (h0 : Heap) (n0 : Nat) (v : Option Value) (h : Heap) (L : List Loc) : Prop := v = none ∧ Fr n0 L ∧ Keep h0 h [oc] ∧ own_A Z h oc (20480 : Int32) own_ca0
theorem rm10 (l : Launch) (Z : State) (a0 : Array Value) (hw : ∀ d ∈ tables_1, d.before a0 Z = true) (ws : List Jvm.Cond) (o0 : Addr) (oc : Addr) (h0 : Heap) (n0 : Nat) (Z0 : n0 ≤ h0.size) (I0 : Fld Z h0 o0 "com/example/slim_kripke/slimkripke/bdd/BddManager" "cache" "[I" (.ref oc)) (I1 : own_A Z h0 oc 20480 own_z) (gw_oc : n0 ≤ oc) (ne_o0_oc : o0 ≠ oc) :
    Met1 l Nm_8 (Jvm.Cond.code Nm_8 prog_5_method_61_code 2 none) ws (rom 0 0 0 0) #[(.ref o0)] Z h0 (Q10 Z o0 oc h0 n0) := by
  refine MetFree.of_bodySF (plainFor_of_name pn_10) hisR ?_
  intro p e s m args below meth c s₁ Bd hml0 hP hK
  obtain ⟨rfl, hZ, hh⟩ := hP
  have hx := Bd.exec
  have hby := Bd.bytes
  have hml : c.maxLocals = 2 := hml0
  have hown : s.vm.findClass "com/example/slim_kripke/slimkripke/bdd/BddManager" = some m.cls := findClass_of_methodNamed Bd.named
  have X0 : Stand p l e (rom 0 0 0 0) s m _ _ _ _ _ [] 0 0 := Stand.of_body Bd
  have e0 : s₁.heap = h0 := by rw [← hh, Bd.state]; rfl
  have N0 := Fr.nil n0
  have K0 : Keep h0 h0 [oc] := Keep.refl _ _
  have pre0 : Go p e below s₁ _ (mkF m 0 #[(vr o0), .unset] []) _ := fun t k => castTop (ef_10 m o0) k
  have pre1 : Go p e below s₁ _ (mkF m 2 #[(vr o0), (vi 0)] []) _ := fun t k => pre0 t (by
    refine XS.iconst X0.here hx rfl (hb hby d10_0) ?_
    refine XS.istoreN X0.here hx rfl (hb hby d10_1) rfl (l' := #[(vr o0), (vi 0)]) rfl ?_
    exact k)
  obtain ⟨T2, L2, h2, X2, e2, N2, Kq2, V2, st2⟩ := own_for gw_oc ne_o0_oc hx hZ hw hby hml hown X0 e0 N0 Z0 I0 I1
  have K2 : Keep h0 h2 [oc] := K0.trans Kq2 (allS (Or.inl (List.mem_of_getElem? (i := 0) rfl)) all0)
  have Z2 : n0 ≤ h2.size := Nat.le_trans Z0 Kq2.1
  have pre3 := Go.thn pre1 st2
  obtain ⟨fs, hr, hrun, hended, hW, hsame⟩ := X2.leave (v := none) (fun _ => rfl)
  refine ⟨_, _, ?_, hrun, hended, _, _, rfl, ?_, ⟨_, rfl⟩, hW, hsame.mono (by decide) (by decide)⟩
  · exact pre3 _ (X2.returnOut hx Bd.returns (hb hby d10_26) hr)
  · show Q10 Z o0 oc h0 n0 _ T2.heap _
    rw [e2]
    exact ⟨rfl, N2, K2, V2⟩
theorem d6_0 : DK cd6 0 (.iload_n 1) 1 := by decide +kernel
theorem d6_1 : DK cd6 1 (.ldc_w 415) 3 := by decide +kernel
theorem d6_4 : DK cd6 4 (.invokestatic 416) 3 := by decide +kernel
theorem d6_7 : DK cd6 7 (.invokestatic 267) 3 := by decide +kernel
theorem d6_10 : DK cd6 10 (.istore_n 2) 1 := by decide +kernel
theorem d6_11 : DK cd6 11 (.aload_n 0) 1 := by decide +kernel
theorem d6_12 : DK cd6 12 (.iload_n 2) 1 := by decide +kernel
theorem d6_13 : DK cd6 13 (.iconst 5) 1 := by decide +kernel
theorem d6_14 : DK cd6 14 .imul 1 := by decide +kernel
theorem d6_15 : DK cd6 15 (.newarray .int) 2 := by decide +kernel
theorem d6_17 : DK cd6 17 (.putfield 419) 3 := by decide +kernel
theorem d6_20 : DK cd6 20 (.aload_n 0) 1 := by decide +kernel
theorem d6_21 : DK cd6 21 (.invokevirtual 400) 3 := by decide +kernel
theorem d6_24 : DK cd6 24 .return_ 1 := by decide +kernel
theorem pn_6 : plainName "com/example/slim_kripke/slimkripke/bdd/BddManager" = true := by first | (simp [plainName, overriddenIn]; done) | decide +kernel
theorem pd__II_I : parseMethodDescriptor "(II)I" = some ⟨[.int, .int], some .int⟩ := by decide +kernel
theorem pd___V : parseMethodDescriptor "()V" = some ⟨[], none⟩ := by decide +kernel
theorem ef_6 (m : MethodId) (x0 : Addr) : entryFrame m #[(.ref x0), (.int 4096)] 3 = mkF m 0 #[.val (.ref x0), .val (.int 4096), .unset] [] := by first | (simp [entryFrame, mkF, argsToLocals, Value.category]; done) | rfl
def Q6 (Z : State) (o0 : Addr) (xn : Int32) (xs : Int32) (xff : Int32) (xfc : Int32) (xdp : Int32) (xli : Int32) (xpk : Int32) (rlv : Addr) (rlo : Addr) (rhi : Addr) (rrf : Addr) (rch : Addr) (rbk : Addr) (rpe : Addr) (rcs : Addr) (h0 : Heap) (n0 : Nat) (v : Option Value) (h : Heap) (L : List Loc) : Prop := ∃ (b15 : Addr), v = none ∧ Fr n0 L ∧ Keep h0 h [o0] ∧ h0.size ≤ b15 ∧ Exa Z h o0 "com/example/slim_kripke/slimkripke/bdd/BddManager" ∧ Fld Z h o0 "com/example/slim_kripke/slimkripke/bdd/BddManager" "variableCount" "I" (.int xn) ∧ Fld Z h o0 "com/example/slim_kripke/slimkripke/bdd/BddManager" "recursionLimit" "I" (.int xs) ∧ Fld Z h o0 "com/example/slim_kripke/slimkripke/bdd/BddManager" "firstFree" "I" (.int xff) ∧ Fld Z h o0 "com/example/slim_kripke/slimkripke/bdd/BddManager" "freeCount" "I" (.int xfc) ∧ Fld Z h o0 "com/example/slim_kripke/slimkripke/bdd/BddManager" "depth" "I" (.int xdp) ∧ Fld Z h o0 "com/example/slim_kripke/slimkripke/bdd/BddManager" "liveNodes" "I" (.int xli) ∧ Fld Z h o0 "com/example/slim_kripke/slimkripke/bdd/BddManager" "peakLiveNodes" "I" (.int xpk) ∧ Fld Z h o0 "com/example/slim_kripke/slimkripke/bdd/BddManager" "levels" "[I" (.ref rlv) ∧ Fld Z h o0 "com/example/slim_kripke/slimkripke/bdd/BddManager" "lows" "[I" (.ref rlo) ∧ Fld Z h o0 "com/example/slim_kripke/slimkripke/bdd/BddManager" "highs" "[I" (.ref rhi) ∧ Fld Z h o0 "com/example/slim_kripke/slimkripke/bdd/BddManager" "references" "[I" (.ref rrf) ∧ Fld Z h o0 "com/example/slim_kripke/slimkripke/bdd/BddManager" "chains" "[I" (.ref rch) ∧ Fld Z h o0 "com/example/slim_kripke/slimkripke/bdd/BddManager" "buckets" "[I" (.ref rbk) ∧ Fld Z h o0 "com/example/slim_kripke/slimkripke/bdd/BddManager" "cache" "[I" (.ref b15) ∧ Fld Z h o0 "com/example/slim_kripke/slimkripke/bdd/BddManager" "pending" "[I" (.ref rpe) ∧ Fld Z h o0 "com/example/slim_kripke/slimkripke/bdd/BddManager" "calls" "Lcom/example/slim_kripke/slimkripke/bdd/CallStack;" (.ref rcs) ∧ own_A Z h b15 (20480 : Int32) own_ca0
theorem rm6 (l : Launch) (Z : State) (a0 : Array Value) (hw : ∀ d ∈ tables_1, d.before a0 Z = true) (ws : List Jvm.Cond) (o0 : Addr) (xn : Int32) (xs : Int32) (xff : Int32) (xfc : Int32) (xdp : Int32) (xli : Int32) (xpk : Int32) (rlv : Addr) (rlo : Addr) (rhi : Addr) (rrf : Addr) (rch : Addr) (rbk : Addr) (rpe : Addr) (rcs : Addr) (h0 : Heap) (n0 : Nat) (Z0 : n0 ≤ h0.size) (I0 : Exa Z h0 o0 "com/example/slim_kripke/slimkripke/bdd/BddManager") (I1 : Fld Z h0 o0 "com/example/slim_kripke/slimkripke/bdd/BddManager" "variableCount" "I" (.int xn)) (I2 : Fld Z h0 o0 "com/example/slim_kripke/slimkripke/bdd/BddManager" "recursionLimit" "I" (.int xs)) (I3 : Fld Z h0 o0 "com/example/slim_kripke/slimkripke/bdd/BddManager" "firstFree" "I" (.int xff)) (I4 : Fld Z h0 o0 "com/example/slim_kripke/slimkripke/bdd/BddManager" "freeCount" "I" (.int xfc)) (I5 : Fld Z h0 o0 "com/example/slim_kripke/slimkripke/bdd/BddManager" "depth" "I" (.int xdp)) (I6 : Fld Z h0 o0 "com/example/slim_kripke/slimkripke/bdd/BddManager" "liveNodes" "I" (.int xli)) (I7 : Fld Z h0 o0 "com/example/slim_kripke/slimkripke/bdd/BddManager" "peakLiveNodes" "I" (.int xpk)) (I8 : Fld Z h0 o0 "com/example/slim_kripke/slimkripke/bdd/BddManager" "levels" "[I" (.ref rlv)) (I9 : Fld Z h0 o0 "com/example/slim_kripke/slimkripke/bdd/BddManager" "lows" "[I" (.ref rlo)) (I10 : Fld Z h0 o0 "com/example/slim_kripke/slimkripke/bdd/BddManager" "highs" "[I" (.ref rhi)) (I11 : Fld Z h0 o0 "com/example/slim_kripke/slimkripke/bdd/BddManager" "references" "[I" (.ref rrf)) (I12 : Fld Z h0 o0 "com/example/slim_kripke/slimkripke/bdd/BddManager" "chains" "[I" (.ref rch)) (I13 : Fld Z h0 o0 "com/example/slim_kripke/slimkripke/bdd/BddManager" "buckets" "[I" (.ref rbk)) (I14 : Fld Z h0 o0 "com/example/slim_kripke/slimkripke/bdd/BddManager" "cache" "[I" .null) (I15 : Fld Z h0 o0 "com/example/slim_kripke/slimkripke/bdd/BddManager" "pending" "[I" (.ref rpe)) (I16 : Fld Z h0 o0 "com/example/slim_kripke/slimkripke/bdd/BddManager" "calls" "Lcom/example/slim_kripke/slimkripke/bdd/CallStack;" (.ref rcs)) (gw_o0 : n0 ≤ o0) :
    Met1 l Nm_9 (Jvm.Cond.code Nm_9 prog_5_method_60_code 3 none) ws (rom 2 1 20480 28) #[(.ref o0), (.int 4096)] Z h0 (Q6 Z o0 xn xs xff xfc xdp xli xpk rlv rlo rhi rrf rch rbk rpe rcs h0 n0) := by
  refine MetFree.of_bodySF (plainFor_of_name pn_6) hisR ?_
  intro p e s m args below meth c s₁ Bd hml0 hP hK
  obtain ⟨rfl, hZ, hh⟩ := hP
  have hx := Bd.exec
  have hby := Bd.bytes
  have hml : c.maxLocals = 3 := hml0
  have hown : s.vm.findClass "com/example/slim_kripke/slimkripke/bdd/BddManager" = some m.cls := findClass_of_methodNamed Bd.named
  have X0 : Stand p l e (rom 2 1 20480 28) s m _ _ _ _ _ [] 0 0 := Stand.of_body Bd
  have e0 : s₁.heap = h0 := by rw [← hh, Bd.state]; rfl
  have N0 := Fr.nil n0
  have K0 : Keep h0 h0 [o0] := Keep.refl _ _
  have pre0 : Go p e below s₁ _ (mkF m 0 #[(vr o0), (vi 4096), .unset] []) _ := fun t k => castTop (ef_6 m o0) k
  have pre1 : Go p e below s₁ _ (mkF m 4 #[(vr o0), (vi 4096), .unset] [(.int 429496729), (.int 4096)]) _ := fun t k => pre0 t (by
    refine XS.iloadN X0.here hx rfl (hb hby d6_0) rfl ?_
    refine X0.ldcwInt hx hown (mq hZ hw 60 rfl) (g := (mkF m 1 #[(vr o0), (vi 4096), .unset] [(.int 4096)])) rfl (hb hby d6_1) _ ?_
    exact k)
  obtain ⟨_, _, ⟨T2, L2, k2, n2⟩, -, X2, ⟨Lc2, hQ2, l2, y2, z2⟩, st2⟩ := Jvm.LawKit.callS X0 hx (y := Nm_5) hown (mq hZ hw 61 rfl) (mq hZ hw 62 rfl) (mq hZ hw 63 rfl) (mq hZ hw 64 rfl) (by decide) (backOf (W := 1) (rm7 l Z a0 hw []  h0 n0 Z0) hZ (wq hw 64 rfl) (wq hw 63 rfl) (by decide) (by decide)) (g := (mkF m 4 #[(vr o0), (vi 4096), .unset] [(.int 429496729), (.int 4096)])) rfl (by rw [hml]; rfl) (argsL := [(.int 429496729)]) (rest := [(.int 4096)]) (lenOf pd__I_I rfl) rfl (w00 rfl) (hb hby d6_4) (fun _ _ => ⟨rfl, e0, zz, zz⟩)
  dsimp only [Pt.U, Pt.locs, Pt.cells, Pt.slots] at X2 l2 y2 z2 st2 hQ2
  subst y2 z2
  obtain ⟨rfl, Nq2, e2⟩ := hQ2
  have N2 := FrE l2 N0 Nq2
  have pre3 := Go.thn pre1 st2
  obtain ⟨_, _, ⟨T4, L4, k4, n4⟩, -, X4, ⟨Lc4, hQ4, l4, y4, z4⟩, st4⟩ := Jvm.LawKit.callS X2 hx (y := Nm_2) hown (mq hZ hw 70 rfl) (mq hZ hw 71 rfl) (mq hZ hw 72 rfl) (mq hZ hw 73 rfl) (by decide) (backOf (W := 0) (rm9 l Z a0 hw [] (4096 : Int32) (268435456 : Int32) h0 n0 Z0) hZ (wq hw 73 rfl) (wq hw 72 rfl) (by decide) (by decide)) (g := (mkF m 7 #[(vr o0), (vi 4096), .unset] [(.int 268435456), (.int 4096)])) rfl (by rw [hml]; rfl) (argsL := [(.int 4096), (.int 268435456)]) (rest := []) (lenOf pd__II_I rfl) rfl (w00 rfl) (hb hby d6_7) (fun _ _ => ⟨rfl, e2, zz, zz⟩)
  dsimp only [Pt.U, Pt.locs, Pt.cells, Pt.slots] at X4 l4 y4 z4 st4 hQ4
  subst y4 z4
  obtain ⟨rfl, Nq4, e4⟩ := hQ4
  have N4 := FrE l4 N2 Nq4
  have pre5 := Go.thn pre3 st4
  have pre6 : Go p e below T4 _ (mkF m 15 #[(vr o0), (vi 4096), (vi 4096)] [(.int 20480), (.ref o0)]) _ := fun t k => pre5 t (by
    refine XS.istoreN X4.here hx rfl (hb hby d6_10) rfl (l' := #[(vr o0), (vi 4096), (vi 4096)]) rfl ?_
    refine XS.aloadN X4.here hx rfl (hb hby d6_11) rfl rfl ?_
    refine XS.iloadN X4.here hx rfl (hb hby d6_12) rfl ?_
    refine XS.iconst X4.here hx rfl (hb hby d6_13) ?_
    refine XS.imul X4.here hx rfl (hb hby d6_14) rfl ?_
    exact k)
  obtain ⟨T7, h7, k7, X7, e7, E7, A7, st7⟩ := newP X4 hx hZ (wq hw 17 rfl) e4 (g := (mkF m 15 #[(vr o0), (vi 4096), (vi 4096)] [(.int 20480), (.ref o0)])) rfl (hb hby d6_15) rfl (by decide) (cap := 20480) (by decide) (by decide) (by decide) (by decide)
  obtain ⟨b15, g7⟩ : ∃ z, z = h0.size := ⟨_, rfl⟩
  rw [← g7] at A7 st7
  have gg7 : n0 ≤ b15 := Nat.le_trans Z0 (Nat.le_of_eq g7.symm)
  have sz7 : h0.size ≤ b15 := Nat.le_trans K0.1 (Nat.le_of_eq g7.symm)
  have K7 : Keep h0 h7 [o0] := K0.ext E7
  have Z7 : n0 ≤ h7.size := Nat.le_trans Z0 E7.1
  have V7 : own_A Z h7 b15 (20480 : Int32) own_z := own_A.new A7 (by decide)
  have ne7_o0 : o0 ≠ b15 := Nat.ne_of_lt (Nat.lt_of_lt_of_le I0.lt (Nat.le_of_eq g7.symm))
  have x8 := I0.ext E7
  have x9 := I1.ext E7
  have x10 := I2.ext E7
  have x11 := I3.ext E7
  have x12 := I4.ext E7
  have x13 := I5.ext E7
  have x14 := I6.ext E7
  have x15 := I7.ext E7
  have x16 := I8.ext E7
  have x17 := I9.ext E7
  have x18 := I10.ext E7
  have x19 := I11.ext E7
  have x20 := I12.ext E7
  have x21 := I13.ext E7
  have x22 := I14.ext E7
  have x23 := I15.ext E7
  have x24 := I16.ext E7
  have pre25 := Go.thn pre6 st7
  obtain ⟨T26, h26, X26, e26, W26, st26⟩ := putF X7 hx hZ hown (host := "") (Or.inl (wq hw 74 rfl)) Via.refl e7 x22 x8 (Or.inl (wq hw 75 rfl)) (wq hw 2 rfl) (ty := (.array .int)) (by decide) rfl rfl (g := (mkF m 17 #[(vr o0), (vi 4096), (vi 4096)] [(.ref b15), (.ref o0)])) rfl rfl (hb hby d6_17)
  have N26 := Fr.snoc X26 N4 gw_o0
  have K26 : Keep h0 h26 [o0] := K7.wr W26 (Or.inl (List.mem_of_getElem? (i := 0) rfl))
  have Z26 : n0 ≤ h26.size := Nat.le_trans Z7 (Keep.of_wr W26).1
  have x27 := x8.wr W26
  have x28 := x9.other W26 (Or.inr (slot_ne (Or.inr (wq hw 29 rfl)) (Or.inl (wq hw 75 rfl)) (by decide) (t := .int) (t' := (.array .int)) (by decide) (by decide)))
  have x29 := x10.other W26 (Or.inr (slot_ne (Or.inr (wq hw 31 rfl)) (Or.inl (wq hw 75 rfl)) (by decide) (t := .int) (t' := (.array .int)) (by decide) (by decide)))
  have x30 := x11.other W26 (Or.inr (slot_ne (Or.inl (wq hw 53 rfl)) (Or.inl (wq hw 75 rfl)) (by decide) (t := .int) (t' := (.array .int)) (by decide) (by decide)))
  have x31 := x12.other W26 (Or.inr (slot_ne (Or.inl (wq hw 55 rfl)) (Or.inl (wq hw 75 rfl)) (by decide) (t := .int) (t' := (.array .int)) (by decide) (by decide)))
  have x32 := x13.other W26 (Or.inr (slot_ne (Or.inl (wq hw 99 rfl)) (Or.inl (wq hw 75 rfl)) (by decide) (t := .int) (t' := (.array .int)) (by decide) (by decide)))
  have x33 := x14.other W26 (Or.inr (slot_ne (Or.inl (wq hw 25 rfl)) (Or.inl (wq hw 75 rfl)) (by decide) (t := .int) (t' := (.array .int)) (by decide) (by decide)))
  have x34 := x15.other W26 (Or.inr (slot_ne (Or.inl (wq hw 27 rfl)) (Or.inl (wq hw 75 rfl)) (by decide) (t := .int) (t' := (.array .int)) (by decide) (by decide)))
  have x35 := x16.other W26 (Or.inr (slot_ne (Or.inl (wq hw 37 rfl)) (Or.inl (wq hw 75 rfl)) (by decide) (t := (.array .int)) (t' := (.array .int)) (by decide) (by decide)))
  have x36 := x17.other W26 (Or.inr (slot_ne (Or.inl (wq hw 39 rfl)) (Or.inl (wq hw 75 rfl)) (by decide) (t := (.array .int)) (t' := (.array .int)) (by decide) (by decide)))
  have x37 := x18.other W26 (Or.inr (slot_ne (Or.inl (wq hw 41 rfl)) (Or.inl (wq hw 75 rfl)) (by decide) (t := (.array .int)) (t' := (.array .int)) (by decide) (by decide)))
  have x38 := x19.other W26 (Or.inr (slot_ne (Or.inl (wq hw 43 rfl)) (Or.inl (wq hw 75 rfl)) (by decide) (t := (.array .int)) (t' := (.array .int)) (by decide) (by decide)))
  have x39 := x20.other W26 (Or.inr (slot_ne (Or.inl (wq hw 45 rfl)) (Or.inl (wq hw 75 rfl)) (by decide) (t := (.array .int)) (t' := (.array .int)) (by decide) (by decide)))
  have x40 := x21.other W26 (Or.inr (slot_ne (Or.inl (wq hw 47 rfl)) (Or.inl (wq hw 75 rfl)) (by decide) (t := (.array .int)) (t' := (.array .int)) (by decide) (by decide)))
  have x41 := x22.same W26
  have x42 := x23.other W26 (Or.inr (slot_ne (Or.inl (wq hw 23 rfl)) (Or.inl (wq hw 75 rfl)) (by decide) (t := (.array .int)) (t' := (.array .int)) (by decide) (by decide)))
  have x43 := x24.other W26 (Or.inr (slot_ne (Or.inr (wq hw 21 rfl)) (Or.inl (wq hw 75 rfl)) (by decide) (t := (.object "com/example/slim_kripke/slimkripke/bdd/CallStack")) (t' := (.array .int)) (by decide) (by decide)))
  have x44 := V7.other W26 (Ne.symm ne7_o0)
  have pre45 := Go.thn pre25 st26
  have pre46 : Go p e below T26 _ (mkF m 21 #[(vr o0), (vi 4096), (vi 4096)] [(.ref o0)]) _ := fun t k => pre45 t (by
    refine XS.aloadN X26.here hx rfl (hb hby d6_20) rfl rfl ?_
    exact k)
  obtain ⟨cq47, q47, q47'⟩ := x27.cell
  obtain ⟨_, _, ⟨T47, L47, k47, n47⟩, -, X47, ⟨Lc47, hQ47, l47, y47, z47⟩, st47⟩ := X26.privateBack hx (y := Nm_8) hown (mq hZ hw 76 rfl) (mq hZ hw 77 rfl) (own_seli (mq hZ hw 2 rfl) (pq hZ hw 78 rfl) (mq hZ hw 77 rfl) (by decide)) (pq hZ hw 78 rfl) (mq hZ hw 79 rfl) (by decide) (backOf (W := 0) (rm10 l Z a0 hw [] o0 b15 h26 n0 Z26 x41 x44 gg7 ne7_o0) hZ (wq hw 79 rfl) (wq hw 3 rfl) (by decide) (by decide)) (g := (mkF m 21 #[(vr o0), (vi 4096), (vi 4096)] [(.ref o0)])) rfl (by rw [hml]; rfl) (Steps.refl _) (a := o0) (by rw [e26]; exact q47) q47' (argsL := []) (rest := []) (lenOf pd___V rfl) rfl (w00 rfl) (hb hby d6_21) (fun _ _ => ⟨rfl, e26, (by decide : 1 + 0 ≤ _), (by decide : 20480 + 0 ≤ _)⟩)
  dsimp only [Pt.U, Pt.locs, Pt.cells, Pt.slots] at X47 l47 y47 z47 st47 hQ47
  subst y47 z47
  obtain ⟨rfl, Nq47, Kq47, o47_0⟩ := hQ47
  have N47 := FrE l47 N26 Nq47
  have K47 : Keep h0 T47.heap [o0] := K26.trans Kq47 (allS (Or.inr sz7) all0)
  have Z47 : n0 ≤ T47.heap.size := Nat.le_trans Z26 Kq47.1
  have x48 := x27.keep Kq47
  have x49 := x28.keep Kq47 (ninS ne7_o0 nin0)
  have x50 := x29.keep Kq47 (ninS ne7_o0 nin0)
  have x51 := x30.keep Kq47 (ninS ne7_o0 nin0)
  have x52 := x31.keep Kq47 (ninS ne7_o0 nin0)
  have x53 := x32.keep Kq47 (ninS ne7_o0 nin0)
  have x54 := x33.keep Kq47 (ninS ne7_o0 nin0)
  have x55 := x34.keep Kq47 (ninS ne7_o0 nin0)
  have x56 := x35.keep Kq47 (ninS ne7_o0 nin0)
  have x57 := x36.keep Kq47 (ninS ne7_o0 nin0)
  have x58 := x37.keep Kq47 (ninS ne7_o0 nin0)
  have x59 := x38.keep Kq47 (ninS ne7_o0 nin0)
  have x60 := x39.keep Kq47 (ninS ne7_o0 nin0)
  have x61 := x40.keep Kq47 (ninS ne7_o0 nin0)
  have x62 := x41.keep Kq47 (ninS ne7_o0 nin0)
  have x63 := x42.keep Kq47 (ninS ne7_o0 nin0)
  have x64 := x43.keep Kq47 (ninS ne7_o0 nin0)
  have pre65 := Go.trn pre46 st47
  obtain ⟨fs, hr, hrun, hended, hW, hsame⟩ := X47.leave (v := none) (fun _ => rfl)
  refine ⟨_, _, ?_, hrun, hended, _, _, rfl, ?_, ⟨_, rfl⟩, hW, hsame.mono (by decide) (by decide)⟩
  · exact pre65 _ (X47.returnOut hx Bd.returns (hb hby d6_24) hr)
  · show Q6 Z o0 xn xs xff xfc xdp xli xpk rlv rlo rhi rrf rch rbk rpe rcs h0 n0 _ T47.heap _
    skip
    exact ⟨b15, rfl, N47, K47, sz7, x48, x49, x50, x51, x52, x53, x54, x55, x56, x57, x58, x59, x60, x61, x62, x63, x64, o47_0⟩
theorem d4_87 : DK cd4 87 (.iload_n 2) 1 := by decide +kernel
theorem d4_88 : DK cd4 88 (.iconst 1) 1 := by decide +kernel
theorem d4_89 : DK cd4 89 (.if_icmp .le 24) 3 := by decide +kernel
theorem d4_92 : DK cd4 92 (.aload_n 0) 1 := by decide +kernel
theorem d4_93 : DK cd4 93 (.getfield 379) 3 := by decide +kernel
theorem d4_96 : DK cd4 96 (.iload_n 2) 1 := by decide +kernel
theorem d4_97 : DK cd4 97 (.aload_n 0) 1 := by decide +kernel
theorem d4_98 : DK cd4 98 (.getfield 388) 3 := by decide +kernel
theorem d4_101 : DK cd4 101 .iastore 1 := by decide +kernel
theorem d4_102 : DK cd4 102 (.aload_n 0) 1 := by decide +kernel
theorem d4_103 : DK cd4 103 (.iload_n 2) 1 := by decide +kernel
theorem d4_104 : DK cd4 104 (.putfield 388) 3 := by decide +kernel
theorem d4_107 : DK cd4 107 (.iinc 2 (-1)) 3 := by decide +kernel
theorem d4_110 : DK cd4 110 (.goto (-23)) 3 := by decide +kernel
theorem tnH {p : Program} {l : Launch} {e : Env} {s : State} {m : MethodId} {args : Array Value} {below : List Frame} {meth : Method} {c : Code} {T0 : State} {locs : List Loc} {Z : State} {a0 : Array Value} {h0 : Heap} {n0 : Nat} {o0 : Addr} {oc : Addr} {i : Int32} {y : Int32} {f : Int32 → Int32}
    (X0 : Stand p l e (rom 3 7 45056 90) s m args below meth c T0 locs 6 24576) (hx : p.tables.exec = Jvm.exec) (hZ : Z.Warmed39 s.vm) (hw : ∀ d ∈ tables_1, d.before a0 Z = true) (hby : c.code = prog_5_method_59_code) (hml : c.maxLocals = 3) (hown : s.vm.findClass "com/example/slim_kripke/slimkripke/bdd/BddManager" = some m.cls) (e0 : T0.heap = h0) (N0 : Fr n0 locs) (Z0 : n0 ≤ h0.size) (I0 : Exa Z h0 o0 "com/example/slim_kripke/slimkripke/bdd/BddManager") (I1 : Fld Z h0 o0 "com/example/slim_kripke/slimkripke/bdd/BddManager" "chains" "[I" (.ref oc)) (I2 : Fld Z h0 o0 "com/example/slim_kripke/slimkripke/bdd/BddManager" "firstFree" "I" (.int y)) (I3 : own_A Z h0 oc (4096 : Int32) f) (gw_o0 : n0 ≤ o0) (gw_oc : n0 ≤ oc) (ne_o0_oc : o0 ≠ oc) (hlt : (1 : Int32) < i) (hi0 : ¬ i < 0) (hi1 : i < (4096 : Int32)) :
    ∃ (T' : State) (L' : List Loc) (hh1 : Heap) (hh2 : Heap), Stand p l e (rom 3 7 45056 90) s m args below meth c T' L' 6 24576 ∧ T'.heap = hh2 ∧ Fr n0 L' ∧ Wr h0 hh1 oc (i).toNatClampNeg (.int y) ∧ Wr hh1 hh2 o0 (Jvm.RoadKit.slotOf Z "com/example/slim_kripke/slimkripke/bdd/BddManager" "firstFree" "I") (.int i) ∧ ∀ t, Steps p.tables e below (T'.setTop (mkF m 87 #[(vr o0), (vi 4096), (vi (i + (-1 : Int32)))] [])) t → Steps p.tables e below (T0.setTop (mkF m 87 #[(vr o0), (vi 4096), (vi i)] [])) t := by
  have pre0 : ∀ t, Steps p.tables e below (T0.setTop (mkF m 87 #[(vr o0), (vi 4096), (vi i)] [])) t → Steps p.tables e below (T0.setTop (mkF m 87 #[(vr o0), (vi 4096), (vi i)] [])) t := fun t k => k
  have pre1 : ∀ t, Steps p.tables e below (T0.setTop (mkF m 93 #[(vr o0), (vi 4096), (vi i)] [(.ref o0)])) t → Steps p.tables e below (T0.setTop (mkF m 87 #[(vr o0), (vi 4096), (vi i)] [])) t := fun t k => pre0 t (by
    refine XS.iloadN X0.here hx rfl (hb hby d4_87) rfl ?_
    refine XS.iconst X0.here hx rfl (hb hby d4_88) ?_
    refine XS.icmpNo X0.here hx rfl (hb hby d4_89) rfl (tlt hlt).2.2.2 ?_
    refine XS.aloadN X0.here hx rfl (hb hby d4_92) rfl rfl ?_
    exact k)
  obtain ⟨T2, X2, e2, st2⟩ := getF X0 hx hZ hown (host := "") (Or.inl (wq hw 44 rfl)) Via.refl e0 I1 (g := (mkF m 93 #[(vr o0), (vi 4096), (vi i)] [(.ref o0)])) rfl rfl (hb hby d4_93)
  have pre3 : ∀ t, Steps p.tables e below (T2.setTop (mkF m 96 #[(vr o0), (vi 4096), (vi i)] [(.ref oc)])) t → Steps p.tables e below (T0.setTop (mkF m 87 #[(vr o0), (vi 4096), (vi i)] [])) t := fun t k => pre1 t (st2 _ k)
  have pre4 : ∀ t, Steps p.tables e below (T2.setTop (mkF m 98 #[(vr o0), (vi 4096), (vi i)] [(.ref o0), (.int i), (.ref oc)])) t → Steps p.tables e below (T0.setTop (mkF m 87 #[(vr o0), (vi 4096), (vi i)] [])) t := fun t k => pre3 t (by
    refine XS.iloadN X2.here hx rfl (hb hby d4_96) rfl ?_
    refine XS.aloadN X2.here hx rfl (hb hby d4_97) rfl rfl ?_
    exact k)
  obtain ⟨T5, X5, e5, st5⟩ := getF X2 hx hZ hown (host := "") (Or.inl (wq hw 52 rfl)) Via.refl e2 I2 (g := (mkF m 98 #[(vr o0), (vi 4096), (vi i)] [(.ref o0), (.int i), (.ref oc)])) rfl rfl (hb hby d4_98)
  have pre6 : ∀ t, Steps p.tables e below (T5.setTop (mkF m 101 #[(vr o0), (vi 4096), (vi i)] [(.int y), (.int i), (.ref oc)])) t → Steps p.tables e below (T0.setTop (mkF m 87 #[(vr o0), (vi 4096), (vi i)] [])) t := fun t k => pre4 t (st5 _ k)
  have ib7 : ¬ i < 0 ∧ i < (4096 : Int32) := ⟨hi0, hi1⟩
  obtain ⟨cl7, Ar7, Sz7, -, -⟩ := id I3
  obtain ⟨T7, h7, X7, e7, W7, st7⟩ := stI X5 hx hZ e5 Ar7 (j := i) (inb_of Sz7 ib7) (g := (mkF m 101 #[(vr o0), (vi 4096), (vi i)] [(.int y), (.int i), (.ref oc)])) rfl rfl (hb hby d4_101)
  have V7 := own_A.set I3 W7 ib7
  have N7 := Fr.snoc X7 N0 gw_oc
  have Z7 : n0 ≤ h7.size := Nat.le_trans Z0 (Keep.of_wr W7).1
  have x8 := I0.wr W7
  have x9 := I1.other W7 (Or.inl ne_o0_oc)
  have x10 := I2.other W7 (Or.inl ne_o0_oc)
  have pre11 : ∀ t, Steps p.tables e below (T7.setTop (mkF m 102 #[(vr o0), (vi 4096), (vi i)] [])) t → Steps p.tables e below (T0.setTop (mkF m 87 #[(vr o0), (vi 4096), (vi i)] [])) t := fun t k => pre6 t (st7 _ k)
  have pre12 : ∀ t, Steps p.tables e below (T7.setTop (mkF m 104 #[(vr o0), (vi 4096), (vi i)] [(.int i), (.ref o0)])) t → Steps p.tables e below (T0.setTop (mkF m 87 #[(vr o0), (vi 4096), (vi i)] [])) t := fun t k => pre11 t (by
    refine XS.aloadN X7.here hx rfl (hb hby d4_102) rfl rfl ?_
    refine XS.iloadN X7.here hx rfl (hb hby d4_103) rfl ?_
    exact k)
  obtain ⟨T13, h13, X13, e13, W13, st13⟩ := putF X7 hx hZ hown (host := "") (Or.inl (wq hw 52 rfl)) Via.refl e7 x10 x8 (Or.inl (wq hw 53 rfl)) (wq hw 2 rfl) (ty := .int) (by decide) rfl rfl (g := (mkF m 104 #[(vr o0), (vi 4096), (vi i)] [(.int i), (.ref o0)])) rfl rfl (hb hby d4_104)
  have N13 := Fr.snoc X13 N7 gw_o0
  have pre14 : ∀ t, Steps p.tables e below (T13.setTop (mkF m 107 #[(vr o0), (vi 4096), (vi i)] [])) t → Steps p.tables e below (T0.setTop (mkF m 87 #[(vr o0), (vi 4096), (vi i)] [])) t := fun t k => pre12 t (st13 _ k)
  have pre15 : ∀ t, Steps p.tables e below (T13.setTop (mkF m 87 #[(vr o0), (vi 4096), (vi (i + (-1 : Int32)))] [])) t → Steps p.tables e below (T0.setTop (mkF m 87 #[(vr o0), (vi 4096), (vi i)] [])) t := fun t k => pre14 t (by
    refine XS.iinc X13.here hx rfl (hb hby d4_107) rfl (l' := #[(vr o0), (vi 4096), (vi (i + (-1 : Int32)))]) rfl ?_
    refine XS.goto X13.here hx rfl (pc0 := 110) (pc' := 87) rfl (hb hby d4_110) (by decide) (by decide) ?_
    exact k)
  exact ⟨T13, _, h7, h13, X13, e13, N13, W7, W13, fun t k => pre15 t k⟩
theorem teH {p : Program} {l : Launch} {e : Env} {s : State} {m : MethodId} {args : Array Value} {below : List Frame} {meth : Method} {c : Code} {T0 : State} {locs : List Loc} {Z : State} {a0 : Array Value} {h0 : Heap} {n0 : Nat} {o0 : Addr}
    (X0 : Stand p l e (rom 3 7 45056 90) s m args below meth c T0 locs 6 24576) (hx : p.tables.exec = Jvm.exec) (hZ : Z.Warmed39 s.vm) (hw : ∀ d ∈ tables_1, d.before a0 Z = true) (hby : c.code = prog_5_method_59_code) (hml : c.maxLocals = 3) (hown : s.vm.findClass "com/example/slim_kripke/slimkripke/bdd/BddManager" = some m.cls) (e0 : T0.heap = h0) (N0 : Fr n0 locs) (Z0 : n0 ≤ h0.size) :
    ∃ (T' : State) (L' : List Loc), Stand p l e (rom 3 7 45056 90) s m args below meth c T' L' 6 24576 ∧ T'.heap = h0 ∧ Fr n0 L' ∧ ∀ t, Steps p.tables e below (T'.setTop (mkF m 113 #[(vr o0), (vi 4096), (vi 1)] [])) t → Steps p.tables e below (T0.setTop (mkF m 87 #[(vr o0), (vi 4096), (vi 1)] [])) t := by
  have pre0 : ∀ t, Steps p.tables e below (T0.setTop (mkF m 87 #[(vr o0), (vi 4096), (vi 1)] [])) t → Steps p.tables e below (T0.setTop (mkF m 87 #[(vr o0), (vi 4096), (vi 1)] [])) t := fun t k => k
  have pre1 : ∀ t, Steps p.tables e below (T0.setTop (mkF m 113 #[(vr o0), (vi 4096), (vi 1)] [])) t → Steps p.tables e below (T0.setTop (mkF m 87 #[(vr o0), (vi 4096), (vi 1)] [])) t := fun t k => pre0 t (by
    refine XS.iloadN X0.here hx rfl (hb hby d4_87) rfl ?_
    refine XS.iconst X0.here hx rfl (hb hby d4_88) ?_
    refine XS.icmpYes X0.here hx rfl (pc0 := 89) (pc' := 113) rfl (hb hby d4_89) rfl (by decide) (by decide) (by decide) ?_
    exact k)
  exact ⟨T0, _, X0, e0, N0, fun t k => pre1 t k⟩
theorem own_chL {p : Program} {l : Launch} {e : Env} {s : State} {m : MethodId} {args : Array Value} {below : List Frame} {meth : Method} {c : Code} {Z : State} {a0 : Array Value} {n0 : Nat} {o0 oc : Addr} (gw : n0 ≤ o0) (gc : n0 ≤ oc) (ne : o0 ≠ oc) (hx : p.tables.exec = Jvm.exec) (hZ : Z.Warmed39 s.vm) (hw : ∀ d ∈ tables_1, d.before a0 Z = true) (hby : c.code = prog_5_method_59_code) (hml : c.maxLocals = 3) (hown : s.vm.findClass "com/example/slim_kripke/slimkripke/bdd/BddManager" = some m.cls) :
    ∀ (k : Nat) (i y : Int32) (T0 : State) (locs : List Loc) (h0 : Heap) (f : Int32 → Int32), i.toInt = 1 + k → i.toInt ≤ 4095 → (∀ j : Int32, f j = if i.toInt < j.toInt then own_ch0 j else 0) → y = own_ff i → Stand p l e (rom 3 7 45056 90) s m args below meth c T0 locs 6 24576 → T0.heap = h0 → Fr n0 locs → n0 ≤ h0.size → Exa Z h0 o0 "com/example/slim_kripke/slimkripke/bdd/BddManager" → Fld Z h0 o0 "com/example/slim_kripke/slimkripke/bdd/BddManager" "chains" "[I" (.ref oc) → Fld Z h0 o0 "com/example/slim_kripke/slimkripke/bdd/BddManager" "firstFree" "I" (.int y) → own_A Z h0 oc 4096 f → ∃ (T' : State) (L' : List Loc) (h' : Heap), Stand p l e (rom 3 7 45056 90) s m args below meth c T' L' 6 24576 ∧ T'.heap = h' ∧ Fr n0 L' ∧ Keep h0 h' [o0, oc] ∧ (∀ (O n d : String) (v : Value), Jvm.RoadKit.slotOf Z O n d ≠ Jvm.RoadKit.slotOf Z "com/example/slim_kripke/slimkripke/bdd/BddManager" "firstFree" "I" → Fld Z h0 o0 O n d v → Fld Z h' o0 O n d v) ∧ Fld Z h' o0 "com/example/slim_kripke/slimkripke/bdd/BddManager" "firstFree" "I" (.int 2) ∧ own_A Z h' oc 4096 own_ch0 ∧ ∀ t, Steps p.tables e below (T'.setTop (mkF m 113 #[(vr o0), (vi 4096), (vi 1)] [])) t → Steps p.tables e below (T0.setTop (mkF m 87 #[(vr o0), (vi 4096), (vi i)] [])) t := by
  intro k
  induction k with
  | zero =>
    intro i y T0 locs h0 f hk hi hf hy X e0 N Z0 E F G A
    have e1 : i = 1 := Int32.toInt_inj.mp (by rw [show (1 : Int32).toInt = 1 from rfl]; omega)
    subst e1
    obtain ⟨T1, L1, X1, e1, N1, st1⟩ := teH (o0 := o0) X hx hZ hw hby hml hown e0 N Z0
    refine ⟨T1, L1, h0, X1, e1, N1, Keep.refl _ _, fun _ _ _ _ _ q => q, by rw [hy] at G; exact G, A.congr (fun j hj => ?_), st1⟩
    rw [hf, show (1 : Int32).toInt = 1 from rfl]
    by_cases q : 1 < j.toInt
    · rw [if_pos q]
    · rw [if_neg q]; unfold own_ch0; rw [if_pos (by omega)]
  | succ k ih =>
    intro i y T0 locs h0 f hk hi hf hy X e0 N Z0 E F G A
    obtain ⟨q0, q1, q2, q3⟩ := own_im hk hi
    obtain ⟨T1, L1, h1, h2, X1, e1, N1, W1, W2, st1⟩ := tnH X hx hZ hw hby hml hown e0 N Z0 E F G A gw gc ne q0 q1 q2
    have A1 := (A.set W1 ⟨q1, q2⟩).other W2 (Ne.symm ne)
    have E1 := (E.wr W1).wr W2
    have sn : Jvm.RoadKit.slotOf Z "com/example/slim_kripke/slimkripke/bdd/BddManager" "chains" "[I" ≠ Jvm.RoadKit.slotOf Z "com/example/slim_kripke/slimkripke/bdd/BddManager" "firstFree" "I" := slot_ne (Or.inl (wq hw 45 rfl)) (Or.inl (wq hw 53 rfl)) (by decide) (t := (.array .int)) (t' := .int) (by decide) (by decide)
    have F1 := (F.other W1 (Or.inl ne)).other W2 (Or.inr sn)
    have G1 := (G.other W1 (Or.inl ne)).same W2
    have K1 : Keep h0 h2 [o0, oc] := ((Keep.refl h0 [o0, oc]).wr W1 (Or.inl (List.mem_of_getElem? (i := 1) rfl))).wr W2 (Or.inl (List.mem_of_getElem? (i := 0) rfl))
    obtain ⟨T2, L2, h3, X2, e2, N2, K2, R2, G2, A2, st2⟩ := ih (i + (-1 : Int32)) i T1 L1 h2 _ (by omega) (by omega) (fun j => by
      rw [q3]
      by_cases q : j = i
      · subst q; rw [own_up_s, if_pos (by omega), hy]; unfold own_ch0; rw [if_neg (by omega)]
      · rw [own_up_n _ _ _ _ q, hf]
        have r : j.toInt ≠ i.toInt := fun r => q (Int32.toInt_inj.mp r)
        by_cases z : i.toInt < j.toInt
        · rw [if_pos z, if_pos (by omega)]
        · rw [if_neg z, if_neg (by omega)]) (by
      unfold own_ff
      rw [if_neg (by omega)]
      refine Int32.toInt_inj.mp ?_
      have a := c_iadd (i + (-1 : Int32)) 1
      have b := rng32 (i + (-1 : Int32) + 1)
      rw [show (1 : Int32).toInt = 1 from rfl] at a
      omega) X1 e1 N1 (Nat.le_trans Z0 K1.1) E1 F1 G1 A1
    exact ⟨T2, L2, h3, X2, e2, N2, K1.trans K2 (fun x hx => Or.inl hx), fun O n d v s F => R2 O n d v s ((F.other W1 (Or.inl ne)).other W2 (Or.inr s)), G2, A2, fun t k => st1 t (st2 t k)⟩
theorem own_z0 (j : Int32) (hj : ¬ j < 0 ∧ j < 4096) : own_z j = if (4095 : Int32).toInt < j.toInt then own_ch0 j else 0 := by
  have r := own_rng hj
  rw [show (4096 : Int32).toInt = 4096 from rfl] at r
  rw [if_neg (by rw [show (4095 : Int32).toInt = 4095 from rfl]; omega)]; rfl
theorem d4_0 : DK cd4 0 (.aload_n 0) 1 := by decide +kernel
theorem d4_1 : DK cd4 1 (.iload_n 1) 1 := by decide +kernel
theorem d4_2 : DK cd4 2 (.newarray .int) 2 := by decide +kernel
theorem d4_4 : DK cd4 4 (.putfield 179) 3 := by decide +kernel
theorem d4_7 : DK cd4 7 (.aload_n 0) 1 := by decide +kernel
theorem d4_8 : DK cd4 8 (.iload_n 1) 1 := by decide +kernel
theorem d4_9 : DK cd4 9 (.newarray .int) 2 := by decide +kernel
theorem d4_11 : DK cd4 11 (.putfield 144) 3 := by decide +kernel
theorem d4_14 : DK cd4 14 (.aload_n 0) 1 := by decide +kernel
theorem d4_15 : DK cd4 15 (.iload_n 1) 1 := by decide +kernel
theorem d4_16 : DK cd4 16 (.newarray .int) 2 := by decide +kernel
theorem d4_18 : DK cd4 18 (.putfield 141) 3 := by decide +kernel
theorem d4_21 : DK cd4 21 (.aload_n 0) 1 := by decide +kernel
theorem d4_22 : DK cd4 22 (.iload_n 1) 1 := by decide +kernel
theorem d4_23 : DK cd4 23 (.newarray .int) 2 := by decide +kernel
theorem d4_25 : DK cd4 25 (.putfield 138) 3 := by decide +kernel
theorem d4_28 : DK cd4 28 (.aload_n 0) 1 := by decide +kernel
theorem d4_29 : DK cd4 29 (.iload_n 1) 1 := by decide +kernel
theorem d4_30 : DK cd4 30 (.newarray .int) 2 := by decide +kernel
theorem d4_32 : DK cd4 32 (.putfield 379) 3 := by decide +kernel
theorem d4_35 : DK cd4 35 (.aload_n 0) 1 := by decide +kernel
theorem d4_36 : DK cd4 36 (.iload_n 1) 1 := by decide +kernel
theorem d4_37 : DK cd4 37 (.newarray .int) 2 := by decide +kernel
theorem d4_39 : DK cd4 39 (.putfield 376) 3 := by decide +kernel
theorem d4_42 : DK cd4 42 (.aload_n 0) 1 := by decide +kernel
theorem d4_43 : DK cd4 43 (.getfield 376) 3 := by decide +kernel
theorem d4_46 : DK cd4 46 (.iconst (-1)) 1 := by decide +kernel
theorem d4_47 : DK cd4 47 (.invokestatic 397) 3 := by decide +kernel
theorem d4_50 : DK cd4 50 (.aload_n 0) 1 := by decide +kernel
theorem d4_51 : DK cd4 51 (.getfield 179) 3 := by decide +kernel
theorem d4_54 : DK cd4 54 (.iconst (-1)) 1 := by decide +kernel
theorem d4_55 : DK cd4 55 (.invokestatic 397) 3 := by decide +kernel
theorem d4_58 : DK cd4 58 (.aload_n 0) 1 := by decide +kernel
theorem d4_59 : DK cd4 59 (.getfield 179) 3 := by decide +kernel
theorem d4_62 : DK cd4 62 (.iconst 0) 1 := by decide +kernel
theorem d4_63 : DK cd4 63 (.aload_n 0) 1 := by decide +kernel
theorem d4_64 : DK cd4 64 (.getfield 39) 3 := by decide +kernel
theorem d4_67 : DK cd4 67 .iastore 1 := by decide +kernel
theorem d4_68 : DK cd4 68 (.aload_n 0) 1 := by decide +kernel
theorem d4_69 : DK cd4 69 (.getfield 179) 3 := by decide +kernel
theorem d4_72 : DK cd4 72 (.iconst 1) 1 := by decide +kernel
theorem d4_73 : DK cd4 73 (.aload_n 0) 1 := by decide +kernel
theorem d4_74 : DK cd4 74 (.getfield 39) 3 := by decide +kernel
theorem d4_77 : DK cd4 77 .iastore 1 := by decide +kernel
theorem d4_78 : DK cd4 78 (.aload_n 0) 1 := by decide +kernel
theorem d4_79 : DK cd4 79 (.iconst (-1)) 1 := by decide +kernel
theorem d4_80 : DK cd4 80 (.putfield 388) 3 := by decide +kernel
theorem d4_83 : DK cd4 83 (.iload_n 1) 1 := by decide +kernel
theorem d4_84 : DK cd4 84 (.iconst 1) 1 := by decide +kernel
theorem d4_85 : DK cd4 85 .isub 1 := by decide +kernel
theorem d4_86 : DK cd4 86 (.istore_n 2) 1 := by decide +kernel
theorem d4_113 : DK cd4 113 (.aload_n 0) 1 := by decide +kernel
theorem d4_114 : DK cd4 114 (.iload_n 1) 1 := by decide +kernel
theorem d4_115 : DK cd4 115 (.iconst 2) 1 := by decide +kernel
theorem d4_116 : DK cd4 116 .isub 1 := by decide +kernel
theorem d4_117 : DK cd4 117 (.putfield 382) 3 := by decide +kernel
theorem d4_120 : DK cd4 120 (.aload_n 0) 1 := by decide +kernel
theorem d4_121 : DK cd4 121 (.iload_n 1) 1 := by decide +kernel
theorem d4_122 : DK cd4 122 (.invokevirtual 412) 3 := by decide +kernel
theorem d4_125 : DK cd4 125 .return_ 1 := by decide +kernel
theorem pn_4 : plainName "com/example/slim_kripke/slimkripke/bdd/BddManager" = true := by first | (simp [plainName, overriddenIn]; done) | decide +kernel
theorem pd___II_V : parseMethodDescriptor "([II)V" = some ⟨[(.array .int), .int], none⟩ := by decide +kernel
theorem pd__I_V : parseMethodDescriptor "(I)V" = some ⟨[.int], none⟩ := by decide +kernel
theorem ef_4 (m : MethodId) (x0 : Addr) : entryFrame m #[(.ref x0), (.int 4096)] 3 = mkF m 0 #[.val (.ref x0), .val (.int 4096), .unset] [] := by first | (simp [entryFrame, mkF, argsToLocals, Value.category]; done) | rfl
def Q4 (Z : State) (o0 : Addr) (xn : Int32) (xs : Int32) (op : Addr) (oc : Addr) (of : Addr) (h0 : Heap) (n0 : Nat) (v : Option Value) (h : Heap) (L : List Loc) : Prop := v = none ∧ Fr n0 L ∧ Keep h0 h [o0] ∧ ∃ qlv qlo qhi qrf qch qbk qca : Addr, Mg Z n0 h o0 oc of op qlv qlo qhi qrf qch qbk qca xn xs (2 : Int32) (4094 : Int32) (0 : Int32) (0 : Int32) (2 : Int32) (2 : Int32) (own_up (own_up (own_k (-1 : Int32)) (0 : Int32) xn) (1 : Int32) xn) own_z own_z own_z own_ch0 (own_k (-1 : Int32)) own_ca0 own_z own_z
theorem rm4 (l : Launch) (Z : State) (a0 : Array Value) (hw : ∀ d ∈ tables_1, d.before a0 Z = true) (ws : List Jvm.Cond) (o0 : Addr) (xn : Int32) (xs : Int32) (op : Addr) (oc : Addr) (of : Addr) (h0 : Heap) (n0 : Nat) (Z0 : n0 ≤ h0.size) (I0 : Exa Z h0 o0 "com/example/slim_kripke/slimkripke/bdd/BddManager") (I1 : Fld Z h0 o0 "com/example/slim_kripke/slimkripke/bdd/BddManager" "variableCount" "I" (.int xn)) (I2 : Fld Z h0 o0 "com/example/slim_kripke/slimkripke/bdd/BddManager" "recursionLimit" "I" (.int xs)) (I3 : Fld Z h0 o0 "com/example/slim_kripke/slimkripke/bdd/BddManager" "firstFree" "I" (.int 0)) (I4 : Fld Z h0 o0 "com/example/slim_kripke/slimkripke/bdd/BddManager" "freeCount" "I" (.int 0)) (I5 : Fld Z h0 o0 "com/example/slim_kripke/slimkripke/bdd/BddManager" "depth" "I" (.int 0)) (I6 : Fld Z h0 o0 "com/example/slim_kripke/slimkripke/bdd/BddManager" "liveNodes" "I" (.int 2)) (I7 : Fld Z h0 o0 "com/example/slim_kripke/slimkripke/bdd/BddManager" "peakLiveNodes" "I" (.int 2)) (I8 : Fld Z h0 o0 "com/example/slim_kripke/slimkripke/bdd/BddManager" "levels" "[I" .null) (I9 : Fld Z h0 o0 "com/example/slim_kripke/slimkripke/bdd/BddManager" "lows" "[I" .null) (I10 : Fld Z h0 o0 "com/example/slim_kripke/slimkripke/bdd/BddManager" "highs" "[I" .null) (I11 : Fld Z h0 o0 "com/example/slim_kripke/slimkripke/bdd/BddManager" "references" "[I" .null) (I12 : Fld Z h0 o0 "com/example/slim_kripke/slimkripke/bdd/BddManager" "chains" "[I" .null) (I13 : Fld Z h0 o0 "com/example/slim_kripke/slimkripke/bdd/BddManager" "buckets" "[I" .null) (I14 : Fld Z h0 o0 "com/example/slim_kripke/slimkripke/bdd/BddManager" "cache" "[I" .null) (I15 : Fld Z h0 o0 "com/example/slim_kripke/slimkripke/bdd/BddManager" "pending" "[I" (.ref op)) (I16 : Fld Z h0 o0 "com/example/slim_kripke/slimkripke/bdd/BddManager" "calls" "Lcom/example/slim_kripke/slimkripke/bdd/CallStack;" (.ref oc)) (I17 : Exa Z h0 oc "com/example/slim_kripke/slimkripke/bdd/CallStack") (I18 : Fld Z h0 oc "com/example/slim_kripke/slimkripke/bdd/CallStack" "fields" "[I" (.ref of)) (I19 : Fld Z h0 oc "com/example/slim_kripke/slimkripke/bdd/CallStack" "size" "I" (.int 0)) (I20 : own_A Z h0 of 320 own_z) (I21 : own_A Z h0 op 64 own_z) (gw_o0 : n0 ≤ o0) (ne_o0_oc : o0 ≠ oc) (ne_o0_of : o0 ≠ of) (ne_o0_op : o0 ≠ op) (hod : @LT.lt Nat _ o0 oc ∧ @LT.lt Nat _ oc of ∧ @LT.lt Nat _ of op) :
    Met1 l Nm_10 (Jvm.Cond.code Nm_10 prog_5_method_59_code 3 none) ws (rom 3 7 45056 90) #[(.ref o0), (.int 4096)] Z h0 (Q4 Z o0 xn xs op oc of h0 n0) := by
  refine MetFree.of_bodySF (plainFor_of_name pn_4) hisR ?_
  intro p e s m args below meth c s₁ Bd hml0 hP hK
  obtain ⟨rfl, hZ, hh⟩ := hP
  have hx := Bd.exec
  have hby := Bd.bytes
  have hml : c.maxLocals = 3 := hml0
  have hown : s.vm.findClass "com/example/slim_kripke/slimkripke/bdd/BddManager" = some m.cls := findClass_of_methodNamed Bd.named
  have X0 : Stand p l e (rom 3 7 45056 90) s m _ _ _ _ _ [] 0 0 := Stand.of_body Bd
  have e0 : s₁.heap = h0 := by rw [← hh, Bd.state]; rfl
  have N0 := Fr.nil n0
  have K0 : Keep h0 h0 [o0] := Keep.refl _ _
  have pre0 : Go p e below s₁ _ (mkF m 0 #[(vr o0), (vi 4096), .unset] []) _ := fun t k => castTop (ef_4 m o0) k
  have pre1 : Go p e below s₁ _ (mkF m 2 #[(vr o0), (vi 4096), .unset] [(.int 4096), (.ref o0)]) _ := fun t k => pre0 t (by
    refine XS.aloadN X0.here hx rfl (hb hby d4_0) rfl rfl ?_
    refine XS.iloadN X0.here hx rfl (hb hby d4_1) rfl ?_
    exact k)
  obtain ⟨T2, h2, k2, X2, e2, E2, A2, st2⟩ := newP X0 hx hZ (wq hw 17 rfl) e0 (g := (mkF m 2 #[(vr o0), (vi 4096), .unset] [(.int 4096), (.ref o0)])) rfl (hb hby d4_2) rfl (by decide) (cap := 4096) (by decide) (by decide) (by decide) (by decide)
  obtain ⟨b2, g2⟩ : ∃ z, z = h0.size := ⟨_, rfl⟩
  rw [← g2] at A2 st2
  have gg2 : n0 ≤ b2 := Nat.le_trans Z0 (Nat.le_of_eq g2.symm)
  have sz2 : h0.size ≤ b2 := Nat.le_trans K0.1 (Nat.le_of_eq g2.symm)
  have K2 : Keep h0 h2 [o0] := K0.ext E2
  have Z2 : n0 ≤ h2.size := Nat.le_trans Z0 E2.1
  have V2 : own_A Z h2 b2 (4096 : Int32) own_z := own_A.new A2 (by decide)
  have ne2_o0 : o0 ≠ b2 := Nat.ne_of_lt (Nat.lt_of_lt_of_le I0.lt (Nat.le_of_eq g2.symm))
  have ne2_oc : oc ≠ b2 := Nat.ne_of_lt (Nat.lt_of_lt_of_le I17.lt (Nat.le_of_eq g2.symm))
  have ne2_of : of ≠ b2 := Nat.ne_of_lt (Nat.lt_of_lt_of_le I20.lt (Nat.le_of_eq g2.symm))
  have ne2_op : op ≠ b2 := Nat.ne_of_lt (Nat.lt_of_lt_of_le I21.lt (Nat.le_of_eq g2.symm))
  have x3 := I0.ext E2
  have x4 := I1.ext E2
  have x5 := I2.ext E2
  have x6 := I3.ext E2
  have x7 := I4.ext E2
  have x8 := I5.ext E2
  have x9 := I6.ext E2
  have x10 := I7.ext E2
  have x11 := I8.ext E2
  have x12 := I9.ext E2
  have x13 := I10.ext E2
  have x14 := I11.ext E2
  have x15 := I12.ext E2
  have x16 := I13.ext E2
  have x17 := I14.ext E2
  have x18 := I15.ext E2
  have x19 := I16.ext E2
  have x20 := I17.ext E2
  have x21 := I18.ext E2
  have x22 := I19.ext E2
  have x23 := I20.ext E2
  have x24 := I21.ext E2
  have pre25 := Go.thn pre1 st2
  obtain ⟨T26, h26, X26, e26, W26, st26⟩ := putF X2 hx hZ hown (host := "") (Or.inl (wq hw 36 rfl)) Via.refl e2 x11 x3 (Or.inl (wq hw 37 rfl)) (wq hw 2 rfl) (ty := (.array .int)) (by decide) rfl rfl (g := (mkF m 4 #[(vr o0), (vi 4096), .unset] [(.ref b2), (.ref o0)])) rfl rfl (hb hby d4_4)
  have N26 := Fr.snoc X26 N0 gw_o0
  have K26 : Keep h0 h26 [o0] := K2.wr W26 (Or.inl (List.mem_of_getElem? (i := 0) rfl))
  have Z26 : n0 ≤ h26.size := Nat.le_trans Z2 (Keep.of_wr W26).1
  have x27 := x3.wr W26
  have x28 := x4.other W26 (Or.inr (slot_ne (Or.inr (wq hw 29 rfl)) (Or.inl (wq hw 37 rfl)) (by decide) (t := .int) (t' := (.array .int)) (by decide) (by decide)))
  have x29 := x5.other W26 (Or.inr (slot_ne (Or.inr (wq hw 31 rfl)) (Or.inl (wq hw 37 rfl)) (by decide) (t := .int) (t' := (.array .int)) (by decide) (by decide)))
  have x30 := x6.other W26 (Or.inr (slot_ne (Or.inl (wq hw 53 rfl)) (Or.inl (wq hw 37 rfl)) (by decide) (t := .int) (t' := (.array .int)) (by decide) (by decide)))
  have x31 := x7.other W26 (Or.inr (slot_ne (Or.inl (wq hw 55 rfl)) (Or.inl (wq hw 37 rfl)) (by decide) (t := .int) (t' := (.array .int)) (by decide) (by decide)))
  have x32 := x8.other W26 (Or.inr (slot_ne (Or.inl (wq hw 99 rfl)) (Or.inl (wq hw 37 rfl)) (by decide) (t := .int) (t' := (.array .int)) (by decide) (by decide)))
  have x33 := x9.other W26 (Or.inr (slot_ne (Or.inl (wq hw 25 rfl)) (Or.inl (wq hw 37 rfl)) (by decide) (t := .int) (t' := (.array .int)) (by decide) (by decide)))
  have x34 := x10.other W26 (Or.inr (slot_ne (Or.inl (wq hw 27 rfl)) (Or.inl (wq hw 37 rfl)) (by decide) (t := .int) (t' := (.array .int)) (by decide) (by decide)))
  have x35 := x11.same W26
  have x36 := x12.other W26 (Or.inr (slot_ne (Or.inl (wq hw 39 rfl)) (Or.inl (wq hw 37 rfl)) (by decide) (t := (.array .int)) (t' := (.array .int)) (by decide) (by decide)))
  have x37 := x13.other W26 (Or.inr (slot_ne (Or.inl (wq hw 41 rfl)) (Or.inl (wq hw 37 rfl)) (by decide) (t := (.array .int)) (t' := (.array .int)) (by decide) (by decide)))
  have x38 := x14.other W26 (Or.inr (slot_ne (Or.inl (wq hw 43 rfl)) (Or.inl (wq hw 37 rfl)) (by decide) (t := (.array .int)) (t' := (.array .int)) (by decide) (by decide)))
  have x39 := x15.other W26 (Or.inr (slot_ne (Or.inl (wq hw 45 rfl)) (Or.inl (wq hw 37 rfl)) (by decide) (t := (.array .int)) (t' := (.array .int)) (by decide) (by decide)))
  have x40 := x16.other W26 (Or.inr (slot_ne (Or.inl (wq hw 47 rfl)) (Or.inl (wq hw 37 rfl)) (by decide) (t := (.array .int)) (t' := (.array .int)) (by decide) (by decide)))
  have x41 := x17.other W26 (Or.inr (slot_ne (Or.inl (wq hw 75 rfl)) (Or.inl (wq hw 37 rfl)) (by decide) (t := (.array .int)) (t' := (.array .int)) (by decide) (by decide)))
  have x42 := x18.other W26 (Or.inr (slot_ne (Or.inl (wq hw 23 rfl)) (Or.inl (wq hw 37 rfl)) (by decide) (t := (.array .int)) (t' := (.array .int)) (by decide) (by decide)))
  have x43 := x19.other W26 (Or.inr (slot_ne (Or.inr (wq hw 21 rfl)) (Or.inl (wq hw 37 rfl)) (by decide) (t := (.object "com/example/slim_kripke/slimkripke/bdd/CallStack")) (t' := (.array .int)) (by decide) (by decide)))
  have x44 := x20.wr W26
  have x45 := x21.other W26 (Or.inl (Ne.symm ne_o0_oc))
  have x46 := x22.other W26 (Or.inl (Ne.symm ne_o0_oc))
  have x47 := x23.other W26 (Ne.symm ne_o0_of)
  have x48 := x24.other W26 (Ne.symm ne_o0_op)
  have x49 := V2.other W26 (Ne.symm ne2_o0)
  have pre50 := Go.thn pre25 st26
  have pre51 : Go p e below T26 _ (mkF m 9 #[(vr o0), (vi 4096), .unset] [(.int 4096), (.ref o0)]) _ := fun t k => pre50 t (by
    refine XS.aloadN X26.here hx rfl (hb hby d4_7) rfl rfl ?_
    refine XS.iloadN X26.here hx rfl (hb hby d4_8) rfl ?_
    exact k)
  obtain ⟨T52, h52, k52, X52, e52, E52, A52, st52⟩ := newP X26 hx hZ (wq hw 17 rfl) e26 (g := (mkF m 9 #[(vr o0), (vi 4096), .unset] [(.int 4096), (.ref o0)])) rfl (hb hby d4_9) rfl (by decide) (cap := 4096) (by decide) (by decide) (by decide) (by decide)
  obtain ⟨b9, g52⟩ : ∃ z, z = h26.size := ⟨_, rfl⟩
  rw [← g52] at A52 st52
  have gg52 : n0 ≤ b9 := Nat.le_trans Z26 (Nat.le_of_eq g52.symm)
  have sz52 : h0.size ≤ b9 := Nat.le_trans K26.1 (Nat.le_of_eq g52.symm)
  have K52 : Keep h0 h52 [o0] := K26.ext E52
  have Z52 : n0 ≤ h52.size := Nat.le_trans Z26 E52.1
  have V52 : own_A Z h52 b9 (4096 : Int32) own_z := own_A.new A52 (by decide)
  have ne52_o0 : o0 ≠ b9 := Nat.ne_of_lt (Nat.lt_of_lt_of_le x27.lt (Nat.le_of_eq g52.symm))
  have ne52_oc : oc ≠ b9 := Nat.ne_of_lt (Nat.lt_of_lt_of_le x44.lt (Nat.le_of_eq g52.symm))
  have ne52_of : of ≠ b9 := Nat.ne_of_lt (Nat.lt_of_lt_of_le x47.lt (Nat.le_of_eq g52.symm))
  have ne52_op : op ≠ b9 := Nat.ne_of_lt (Nat.lt_of_lt_of_le x48.lt (Nat.le_of_eq g52.symm))
  have ne52_b2 : b2 ≠ b9 := Nat.ne_of_lt (Nat.lt_of_lt_of_le x49.lt (Nat.le_of_eq g52.symm))
  have x53 := x27.ext E52
  have x54 := x28.ext E52
  have x55 := x29.ext E52
  have x56 := x30.ext E52
  have x57 := x31.ext E52
  have x58 := x32.ext E52
  have x59 := x33.ext E52
  have x60 := x34.ext E52
  have x61 := x35.ext E52
  have x62 := x36.ext E52
  have x63 := x37.ext E52
  have x64 := x38.ext E52
  have x65 := x39.ext E52
  have x66 := x40.ext E52
  have x67 := x41.ext E52
  have x68 := x42.ext E52
  have x69 := x43.ext E52
  have x70 := x44.ext E52
  have x71 := x45.ext E52
  have x72 := x46.ext E52
  have x73 := x47.ext E52
  have x74 := x48.ext E52
  have x75 := x49.ext E52
  have pre76 := Go.thn pre51 st52
  obtain ⟨T77, h77, X77, e77, W77, st77⟩ := putF X52 hx hZ hown (host := "") (Or.inl (wq hw 38 rfl)) Via.refl e52 x62 x53 (Or.inl (wq hw 39 rfl)) (wq hw 2 rfl) (ty := (.array .int)) (by decide) rfl rfl (g := (mkF m 11 #[(vr o0), (vi 4096), .unset] [(.ref b9), (.ref o0)])) rfl rfl (hb hby d4_11)
  have N77 := Fr.snoc X77 N26 gw_o0
  have K77 : Keep h0 h77 [o0] := K52.wr W77 (Or.inl (List.mem_of_getElem? (i := 0) rfl))
  have Z77 : n0 ≤ h77.size := Nat.le_trans Z52 (Keep.of_wr W77).1
  have x78 := x53.wr W77
  have x79 := x54.other W77 (Or.inr (slot_ne (Or.inr (wq hw 29 rfl)) (Or.inl (wq hw 39 rfl)) (by decide) (t := .int) (t' := (.array .int)) (by decide) (by decide)))
  have x80 := x55.other W77 (Or.inr (slot_ne (Or.inr (wq hw 31 rfl)) (Or.inl (wq hw 39 rfl)) (by decide) (t := .int) (t' := (.array .int)) (by decide) (by decide)))
  have x81 := x56.other W77 (Or.inr (slot_ne (Or.inl (wq hw 53 rfl)) (Or.inl (wq hw 39 rfl)) (by decide) (t := .int) (t' := (.array .int)) (by decide) (by decide)))
  have x82 := x57.other W77 (Or.inr (slot_ne (Or.inl (wq hw 55 rfl)) (Or.inl (wq hw 39 rfl)) (by decide) (t := .int) (t' := (.array .int)) (by decide) (by decide)))
  have x83 := x58.other W77 (Or.inr (slot_ne (Or.inl (wq hw 99 rfl)) (Or.inl (wq hw 39 rfl)) (by decide) (t := .int) (t' := (.array .int)) (by decide) (by decide)))
  have x84 := x59.other W77 (Or.inr (slot_ne (Or.inl (wq hw 25 rfl)) (Or.inl (wq hw 39 rfl)) (by decide) (t := .int) (t' := (.array .int)) (by decide) (by decide)))
  have x85 := x60.other W77 (Or.inr (slot_ne (Or.inl (wq hw 27 rfl)) (Or.inl (wq hw 39 rfl)) (by decide) (t := .int) (t' := (.array .int)) (by decide) (by decide)))
  have x86 := x61.other W77 (Or.inr (slot_ne (Or.inl (wq hw 37 rfl)) (Or.inl (wq hw 39 rfl)) (by decide) (t := (.array .int)) (t' := (.array .int)) (by decide) (by decide)))
  have x87 := x62.same W77
  have x88 := x63.other W77 (Or.inr (slot_ne (Or.inl (wq hw 41 rfl)) (Or.inl (wq hw 39 rfl)) (by decide) (t := (.array .int)) (t' := (.array .int)) (by decide) (by decide)))
  have x89 := x64.other W77 (Or.inr (slot_ne (Or.inl (wq hw 43 rfl)) (Or.inl (wq hw 39 rfl)) (by decide) (t := (.array .int)) (t' := (.array .int)) (by decide) (by decide)))
  have x90 := x65.other W77 (Or.inr (slot_ne (Or.inl (wq hw 45 rfl)) (Or.inl (wq hw 39 rfl)) (by decide) (t := (.array .int)) (t' := (.array .int)) (by decide) (by decide)))
  have x91 := x66.other W77 (Or.inr (slot_ne (Or.inl (wq hw 47 rfl)) (Or.inl (wq hw 39 rfl)) (by decide) (t := (.array .int)) (t' := (.array .int)) (by decide) (by decide)))
  have x92 := x67.other W77 (Or.inr (slot_ne (Or.inl (wq hw 75 rfl)) (Or.inl (wq hw 39 rfl)) (by decide) (t := (.array .int)) (t' := (.array .int)) (by decide) (by decide)))
  have x93 := x68.other W77 (Or.inr (slot_ne (Or.inl (wq hw 23 rfl)) (Or.inl (wq hw 39 rfl)) (by decide) (t := (.array .int)) (t' := (.array .int)) (by decide) (by decide)))
  have x94 := x69.other W77 (Or.inr (slot_ne (Or.inr (wq hw 21 rfl)) (Or.inl (wq hw 39 rfl)) (by decide) (t := (.object "com/example/slim_kripke/slimkripke/bdd/CallStack")) (t' := (.array .int)) (by decide) (by decide)))
  have x95 := x70.wr W77
  have x96 := x71.other W77 (Or.inl (Ne.symm ne_o0_oc))
  have x97 := x72.other W77 (Or.inl (Ne.symm ne_o0_oc))
  have x98 := x73.other W77 (Ne.symm ne_o0_of)
  have x99 := x74.other W77 (Ne.symm ne_o0_op)
  have x100 := x75.other W77 (Ne.symm ne2_o0)
  have x101 := V52.other W77 (Ne.symm ne52_o0)
  have pre102 := Go.thn pre76 st77
  have pre103 : Go p e below T77 _ (mkF m 16 #[(vr o0), (vi 4096), .unset] [(.int 4096), (.ref o0)]) _ := fun t k => pre102 t (by
    refine XS.aloadN X77.here hx rfl (hb hby d4_14) rfl rfl ?_
    refine XS.iloadN X77.here hx rfl (hb hby d4_15) rfl ?_
    exact k)
  obtain ⟨T104, h104, k104, X104, e104, E104, A104, st104⟩ := newP X77 hx hZ (wq hw 17 rfl) e77 (g := (mkF m 16 #[(vr o0), (vi 4096), .unset] [(.int 4096), (.ref o0)])) rfl (hb hby d4_16) rfl (by decide) (cap := 4096) (by decide) (by decide) (by decide) (by decide)
  obtain ⟨b16, g104⟩ : ∃ z, z = h77.size := ⟨_, rfl⟩
  rw [← g104] at A104 st104
  have gg104 : n0 ≤ b16 := Nat.le_trans Z77 (Nat.le_of_eq g104.symm)
  have sz104 : h0.size ≤ b16 := Nat.le_trans K77.1 (Nat.le_of_eq g104.symm)
  have K104 : Keep h0 h104 [o0] := K77.ext E104
  have Z104 : n0 ≤ h104.size := Nat.le_trans Z77 E104.1
  have V104 : own_A Z h104 b16 (4096 : Int32) own_z := own_A.new A104 (by decide)
  have ne104_o0 : o0 ≠ b16 := Nat.ne_of_lt (Nat.lt_of_lt_of_le x78.lt (Nat.le_of_eq g104.symm))
  have ne104_oc : oc ≠ b16 := Nat.ne_of_lt (Nat.lt_of_lt_of_le x95.lt (Nat.le_of_eq g104.symm))
  have ne104_of : of ≠ b16 := Nat.ne_of_lt (Nat.lt_of_lt_of_le x98.lt (Nat.le_of_eq g104.symm))
  have ne104_op : op ≠ b16 := Nat.ne_of_lt (Nat.lt_of_lt_of_le x99.lt (Nat.le_of_eq g104.symm))
  have ne104_b2 : b2 ≠ b16 := Nat.ne_of_lt (Nat.lt_of_lt_of_le x100.lt (Nat.le_of_eq g104.symm))
  have ne104_b9 : b9 ≠ b16 := Nat.ne_of_lt (Nat.lt_of_lt_of_le x101.lt (Nat.le_of_eq g104.symm))
  have x105 := x78.ext E104
  have x106 := x79.ext E104
  have x107 := x80.ext E104
  have x108 := x81.ext E104
  have x109 := x82.ext E104
  have x110 := x83.ext E104
  have x111 := x84.ext E104
  have x112 := x85.ext E104
  have x113 := x86.ext E104
  have x114 := x87.ext E104
  have x115 := x88.ext E104
  have x116 := x89.ext E104
  have x117 := x90.ext E104
  have x118 := x91.ext E104
  have x119 := x92.ext E104
  have x120 := x93.ext E104
  have x121 := x94.ext E104
  have x122 := x95.ext E104
  have x123 := x96.ext E104
  have x124 := x97.ext E104
  have x125 := x98.ext E104
  have x126 := x99.ext E104
  have x127 := x100.ext E104
  have x128 := x101.ext E104
  have pre129 := Go.thn pre103 st104
  obtain ⟨T130, h130, X130, e130, W130, st130⟩ := putF X104 hx hZ hown (host := "") (Or.inl (wq hw 40 rfl)) Via.refl e104 x115 x105 (Or.inl (wq hw 41 rfl)) (wq hw 2 rfl) (ty := (.array .int)) (by decide) rfl rfl (g := (mkF m 18 #[(vr o0), (vi 4096), .unset] [(.ref b16), (.ref o0)])) rfl rfl (hb hby d4_18)
  have N130 := Fr.snoc X130 N77 gw_o0
  have K130 : Keep h0 h130 [o0] := K104.wr W130 (Or.inl (List.mem_of_getElem? (i := 0) rfl))
  have Z130 : n0 ≤ h130.size := Nat.le_trans Z104 (Keep.of_wr W130).1
  have x131 := x105.wr W130
  have x132 := x106.other W130 (Or.inr (slot_ne (Or.inr (wq hw 29 rfl)) (Or.inl (wq hw 41 rfl)) (by decide) (t := .int) (t' := (.array .int)) (by decide) (by decide)))
  have x133 := x107.other W130 (Or.inr (slot_ne (Or.inr (wq hw 31 rfl)) (Or.inl (wq hw 41 rfl)) (by decide) (t := .int) (t' := (.array .int)) (by decide) (by decide)))
  have x134 := x108.other W130 (Or.inr (slot_ne (Or.inl (wq hw 53 rfl)) (Or.inl (wq hw 41 rfl)) (by decide) (t := .int) (t' := (.array .int)) (by decide) (by decide)))
  have x135 := x109.other W130 (Or.inr (slot_ne (Or.inl (wq hw 55 rfl)) (Or.inl (wq hw 41 rfl)) (by decide) (t := .int) (t' := (.array .int)) (by decide) (by decide)))
  have x136 := x110.other W130 (Or.inr (slot_ne (Or.inl (wq hw 99 rfl)) (Or.inl (wq hw 41 rfl)) (by decide) (t := .int) (t' := (.array .int)) (by decide) (by decide)))
  have x137 := x111.other W130 (Or.inr (slot_ne (Or.inl (wq hw 25 rfl)) (Or.inl (wq hw 41 rfl)) (by decide) (t := .int) (t' := (.array .int)) (by decide) (by decide)))
  have x138 := x112.other W130 (Or.inr (slot_ne (Or.inl (wq hw 27 rfl)) (Or.inl (wq hw 41 rfl)) (by decide) (t := .int) (t' := (.array .int)) (by decide) (by decide)))
  have x139 := x113.other W130 (Or.inr (slot_ne (Or.inl (wq hw 37 rfl)) (Or.inl (wq hw 41 rfl)) (by decide) (t := (.array .int)) (t' := (.array .int)) (by decide) (by decide)))
  have x140 := x114.other W130 (Or.inr (slot_ne (Or.inl (wq hw 39 rfl)) (Or.inl (wq hw 41 rfl)) (by decide) (t := (.array .int)) (t' := (.array .int)) (by decide) (by decide)))
  have x141 := x115.same W130
  have x142 := x116.other W130 (Or.inr (slot_ne (Or.inl (wq hw 43 rfl)) (Or.inl (wq hw 41 rfl)) (by decide) (t := (.array .int)) (t' := (.array .int)) (by decide) (by decide)))
  have x143 := x117.other W130 (Or.inr (slot_ne (Or.inl (wq hw 45 rfl)) (Or.inl (wq hw 41 rfl)) (by decide) (t := (.array .int)) (t' := (.array .int)) (by decide) (by decide)))
  have x144 := x118.other W130 (Or.inr (slot_ne (Or.inl (wq hw 47 rfl)) (Or.inl (wq hw 41 rfl)) (by decide) (t := (.array .int)) (t' := (.array .int)) (by decide) (by decide)))
  have x145 := x119.other W130 (Or.inr (slot_ne (Or.inl (wq hw 75 rfl)) (Or.inl (wq hw 41 rfl)) (by decide) (t := (.array .int)) (t' := (.array .int)) (by decide) (by decide)))
  have x146 := x120.other W130 (Or.inr (slot_ne (Or.inl (wq hw 23 rfl)) (Or.inl (wq hw 41 rfl)) (by decide) (t := (.array .int)) (t' := (.array .int)) (by decide) (by decide)))
  have x147 := x121.other W130 (Or.inr (slot_ne (Or.inr (wq hw 21 rfl)) (Or.inl (wq hw 41 rfl)) (by decide) (t := (.object "com/example/slim_kripke/slimkripke/bdd/CallStack")) (t' := (.array .int)) (by decide) (by decide)))
  have x148 := x122.wr W130
  have x149 := x123.other W130 (Or.inl (Ne.symm ne_o0_oc))
  have x150 := x124.other W130 (Or.inl (Ne.symm ne_o0_oc))
  have x151 := x125.other W130 (Ne.symm ne_o0_of)
  have x152 := x126.other W130 (Ne.symm ne_o0_op)
  have x153 := x127.other W130 (Ne.symm ne2_o0)
  have x154 := x128.other W130 (Ne.symm ne52_o0)
  have x155 := V104.other W130 (Ne.symm ne104_o0)
  have pre156 := Go.thn pre129 st130
  have pre157 : Go p e below T130 _ (mkF m 23 #[(vr o0), (vi 4096), .unset] [(.int 4096), (.ref o0)]) _ := fun t k => pre156 t (by
    refine XS.aloadN X130.here hx rfl (hb hby d4_21) rfl rfl ?_
    refine XS.iloadN X130.here hx rfl (hb hby d4_22) rfl ?_
    exact k)
  obtain ⟨T158, h158, k158, X158, e158, E158, A158, st158⟩ := newP X130 hx hZ (wq hw 17 rfl) e130 (g := (mkF m 23 #[(vr o0), (vi 4096), .unset] [(.int 4096), (.ref o0)])) rfl (hb hby d4_23) rfl (by decide) (cap := 4096) (by decide) (by decide) (by decide) (by decide)
  obtain ⟨b23, g158⟩ : ∃ z, z = h130.size := ⟨_, rfl⟩
  rw [← g158] at A158 st158
  have gg158 : n0 ≤ b23 := Nat.le_trans Z130 (Nat.le_of_eq g158.symm)
  have sz158 : h0.size ≤ b23 := Nat.le_trans K130.1 (Nat.le_of_eq g158.symm)
  have K158 : Keep h0 h158 [o0] := K130.ext E158
  have Z158 : n0 ≤ h158.size := Nat.le_trans Z130 E158.1
  have V158 : own_A Z h158 b23 (4096 : Int32) own_z := own_A.new A158 (by decide)
  have ne158_o0 : o0 ≠ b23 := Nat.ne_of_lt (Nat.lt_of_lt_of_le x131.lt (Nat.le_of_eq g158.symm))
  have ne158_oc : oc ≠ b23 := Nat.ne_of_lt (Nat.lt_of_lt_of_le x148.lt (Nat.le_of_eq g158.symm))
  have ne158_of : of ≠ b23 := Nat.ne_of_lt (Nat.lt_of_lt_of_le x151.lt (Nat.le_of_eq g158.symm))
  have ne158_op : op ≠ b23 := Nat.ne_of_lt (Nat.lt_of_lt_of_le x152.lt (Nat.le_of_eq g158.symm))
  have ne158_b2 : b2 ≠ b23 := Nat.ne_of_lt (Nat.lt_of_lt_of_le x153.lt (Nat.le_of_eq g158.symm))
  have ne158_b9 : b9 ≠ b23 := Nat.ne_of_lt (Nat.lt_of_lt_of_le x154.lt (Nat.le_of_eq g158.symm))
  have ne158_b16 : b16 ≠ b23 := Nat.ne_of_lt (Nat.lt_of_lt_of_le x155.lt (Nat.le_of_eq g158.symm))
  have x159 := x131.ext E158
  have x160 := x132.ext E158
  have x161 := x133.ext E158
  have x162 := x134.ext E158
  have x163 := x135.ext E158
  have x164 := x136.ext E158
  have x165 := x137.ext E158
  have x166 := x138.ext E158
  have x167 := x139.ext E158
  have x168 := x140.ext E158
  have x169 := x141.ext E158
  have x170 := x142.ext E158
  have x171 := x143.ext E158
  have x172 := x144.ext E158
  have x173 := x145.ext E158
  have x174 := x146.ext E158
  have x175 := x147.ext E158
  have x176 := x148.ext E158
  have x177 := x149.ext E158
  have x178 := x150.ext E158
  have x179 := x151.ext E158
  have x180 := x152.ext E158
  have x181 := x153.ext E158
  have x182 := x154.ext E158
  have x183 := x155.ext E158
  have pre184 := Go.thn pre157 st158
  obtain ⟨T185, h185, X185, e185, W185, st185⟩ := putF X158 hx hZ hown (host := "") (Or.inl (wq hw 42 rfl)) Via.refl e158 x170 x159 (Or.inl (wq hw 43 rfl)) (wq hw 2 rfl) (ty := (.array .int)) (by decide) rfl rfl (g := (mkF m 25 #[(vr o0), (vi 4096), .unset] [(.ref b23), (.ref o0)])) rfl rfl (hb hby d4_25)
  have N185 := Fr.snoc X185 N130 gw_o0
  have K185 : Keep h0 h185 [o0] := K158.wr W185 (Or.inl (List.mem_of_getElem? (i := 0) rfl))
  have Z185 : n0 ≤ h185.size := Nat.le_trans Z158 (Keep.of_wr W185).1
  have x186 := x159.wr W185
  have x187 := x160.other W185 (Or.inr (slot_ne (Or.inr (wq hw 29 rfl)) (Or.inl (wq hw 43 rfl)) (by decide) (t := .int) (t' := (.array .int)) (by decide) (by decide)))
  have x188 := x161.other W185 (Or.inr (slot_ne (Or.inr (wq hw 31 rfl)) (Or.inl (wq hw 43 rfl)) (by decide) (t := .int) (t' := (.array .int)) (by decide) (by decide)))
  have x189 := x162.other W185 (Or.inr (slot_ne (Or.inl (wq hw 53 rfl)) (Or.inl (wq hw 43 rfl)) (by decide) (t := .int) (t' := (.array .int)) (by decide) (by decide)))
  have x190 := x163.other W185 (Or.inr (slot_ne (Or.inl (wq hw 55 rfl)) (Or.inl (wq hw 43 rfl)) (by decide) (t := .int) (t' := (.array .int)) (by decide) (by decide)))
  have x191 := x164.other W185 (Or.inr (slot_ne (Or.inl (wq hw 99 rfl)) (Or.inl (wq hw 43 rfl)) (by decide) (t := .int) (t' := (.array .int)) (by decide) (by decide)))
  have x192 := x165.other W185 (Or.inr (slot_ne (Or.inl (wq hw 25 rfl)) (Or.inl (wq hw 43 rfl)) (by decide) (t := .int) (t' := (.array .int)) (by decide) (by decide)))
  have x193 := x166.other W185 (Or.inr (slot_ne (Or.inl (wq hw 27 rfl)) (Or.inl (wq hw 43 rfl)) (by decide) (t := .int) (t' := (.array .int)) (by decide) (by decide)))
  have x194 := x167.other W185 (Or.inr (slot_ne (Or.inl (wq hw 37 rfl)) (Or.inl (wq hw 43 rfl)) (by decide) (t := (.array .int)) (t' := (.array .int)) (by decide) (by decide)))
  have x195 := x168.other W185 (Or.inr (slot_ne (Or.inl (wq hw 39 rfl)) (Or.inl (wq hw 43 rfl)) (by decide) (t := (.array .int)) (t' := (.array .int)) (by decide) (by decide)))
  have x196 := x169.other W185 (Or.inr (slot_ne (Or.inl (wq hw 41 rfl)) (Or.inl (wq hw 43 rfl)) (by decide) (t := (.array .int)) (t' := (.array .int)) (by decide) (by decide)))
  have x197 := x170.same W185
  have x198 := x171.other W185 (Or.inr (slot_ne (Or.inl (wq hw 45 rfl)) (Or.inl (wq hw 43 rfl)) (by decide) (t := (.array .int)) (t' := (.array .int)) (by decide) (by decide)))
  have x199 := x172.other W185 (Or.inr (slot_ne (Or.inl (wq hw 47 rfl)) (Or.inl (wq hw 43 rfl)) (by decide) (t := (.array .int)) (t' := (.array .int)) (by decide) (by decide)))
  have x200 := x173.other W185 (Or.inr (slot_ne (Or.inl (wq hw 75 rfl)) (Or.inl (wq hw 43 rfl)) (by decide) (t := (.array .int)) (t' := (.array .int)) (by decide) (by decide)))
  have x201 := x174.other W185 (Or.inr (slot_ne (Or.inl (wq hw 23 rfl)) (Or.inl (wq hw 43 rfl)) (by decide) (t := (.array .int)) (t' := (.array .int)) (by decide) (by decide)))
  have x202 := x175.other W185 (Or.inr (slot_ne (Or.inr (wq hw 21 rfl)) (Or.inl (wq hw 43 rfl)) (by decide) (t := (.object "com/example/slim_kripke/slimkripke/bdd/CallStack")) (t' := (.array .int)) (by decide) (by decide)))
  have x203 := x176.wr W185
  have x204 := x177.other W185 (Or.inl (Ne.symm ne_o0_oc))
  have x205 := x178.other W185 (Or.inl (Ne.symm ne_o0_oc))
  have x206 := x179.other W185 (Ne.symm ne_o0_of)
  have x207 := x180.other W185 (Ne.symm ne_o0_op)
  have x208 := x181.other W185 (Ne.symm ne2_o0)
  have x209 := x182.other W185 (Ne.symm ne52_o0)
  have x210 := x183.other W185 (Ne.symm ne104_o0)
  have x211 := V158.other W185 (Ne.symm ne158_o0)
  have pre212 := Go.thn pre184 st185
  have pre213 : Go p e below T185 _ (mkF m 30 #[(vr o0), (vi 4096), .unset] [(.int 4096), (.ref o0)]) _ := fun t k => pre212 t (by
    refine XS.aloadN X185.here hx rfl (hb hby d4_28) rfl rfl ?_
    refine XS.iloadN X185.here hx rfl (hb hby d4_29) rfl ?_
    exact k)
  obtain ⟨T214, h214, k214, X214, e214, E214, A214, st214⟩ := newP X185 hx hZ (wq hw 17 rfl) e185 (g := (mkF m 30 #[(vr o0), (vi 4096), .unset] [(.int 4096), (.ref o0)])) rfl (hb hby d4_30) rfl (by decide) (cap := 4096) (by decide) (by decide) (by decide) (by decide)
  obtain ⟨b30, g214⟩ : ∃ z, z = h185.size := ⟨_, rfl⟩
  rw [← g214] at A214 st214
  have gg214 : n0 ≤ b30 := Nat.le_trans Z185 (Nat.le_of_eq g214.symm)
  have sz214 : h0.size ≤ b30 := Nat.le_trans K185.1 (Nat.le_of_eq g214.symm)
  have K214 : Keep h0 h214 [o0] := K185.ext E214
  have Z214 : n0 ≤ h214.size := Nat.le_trans Z185 E214.1
  have V214 : own_A Z h214 b30 (4096 : Int32) own_z := own_A.new A214 (by decide)
  have ne214_o0 : o0 ≠ b30 := Nat.ne_of_lt (Nat.lt_of_lt_of_le x186.lt (Nat.le_of_eq g214.symm))
  have ne214_oc : oc ≠ b30 := Nat.ne_of_lt (Nat.lt_of_lt_of_le x203.lt (Nat.le_of_eq g214.symm))
  have ne214_of : of ≠ b30 := Nat.ne_of_lt (Nat.lt_of_lt_of_le x206.lt (Nat.le_of_eq g214.symm))
  have ne214_op : op ≠ b30 := Nat.ne_of_lt (Nat.lt_of_lt_of_le x207.lt (Nat.le_of_eq g214.symm))
  have ne214_b2 : b2 ≠ b30 := Nat.ne_of_lt (Nat.lt_of_lt_of_le x208.lt (Nat.le_of_eq g214.symm))
  have ne214_b9 : b9 ≠ b30 := Nat.ne_of_lt (Nat.lt_of_lt_of_le x209.lt (Nat.le_of_eq g214.symm))
  have ne214_b16 : b16 ≠ b30 := Nat.ne_of_lt (Nat.lt_of_lt_of_le x210.lt (Nat.le_of_eq g214.symm))
  have ne214_b23 : b23 ≠ b30 := Nat.ne_of_lt (Nat.lt_of_lt_of_le x211.lt (Nat.le_of_eq g214.symm))
  have x215 := x186.ext E214
  have x216 := x187.ext E214
  have x217 := x188.ext E214
  have x218 := x189.ext E214
  have x219 := x190.ext E214
  have x220 := x191.ext E214
  have x221 := x192.ext E214
  have x222 := x193.ext E214
  have x223 := x194.ext E214
  have x224 := x195.ext E214
  have x225 := x196.ext E214
  have x226 := x197.ext E214
  have x227 := x198.ext E214
  have x228 := x199.ext E214
  have x229 := x200.ext E214
  have x230 := x201.ext E214
  have x231 := x202.ext E214
  have x232 := x203.ext E214
  have x233 := x204.ext E214
  have x234 := x205.ext E214
  have x235 := x206.ext E214
  have x236 := x207.ext E214
  have x237 := x208.ext E214
  have x238 := x209.ext E214
  have x239 := x210.ext E214
  have x240 := x211.ext E214
  have pre241 := Go.thn pre213 st214
  obtain ⟨T242, h242, X242, e242, W242, st242⟩ := putF X214 hx hZ hown (host := "") (Or.inl (wq hw 44 rfl)) Via.refl e214 x227 x215 (Or.inl (wq hw 45 rfl)) (wq hw 2 rfl) (ty := (.array .int)) (by decide) rfl rfl (g := (mkF m 32 #[(vr o0), (vi 4096), .unset] [(.ref b30), (.ref o0)])) rfl rfl (hb hby d4_32)
  have N242 := Fr.snoc X242 N185 gw_o0
  have K242 : Keep h0 h242 [o0] := K214.wr W242 (Or.inl (List.mem_of_getElem? (i := 0) rfl))
  have Z242 : n0 ≤ h242.size := Nat.le_trans Z214 (Keep.of_wr W242).1
  have x243 := x215.wr W242
  have x244 := x216.other W242 (Or.inr (slot_ne (Or.inr (wq hw 29 rfl)) (Or.inl (wq hw 45 rfl)) (by decide) (t := .int) (t' := (.array .int)) (by decide) (by decide)))
  have x245 := x217.other W242 (Or.inr (slot_ne (Or.inr (wq hw 31 rfl)) (Or.inl (wq hw 45 rfl)) (by decide) (t := .int) (t' := (.array .int)) (by decide) (by decide)))
  have x246 := x218.other W242 (Or.inr (slot_ne (Or.inl (wq hw 53 rfl)) (Or.inl (wq hw 45 rfl)) (by decide) (t := .int) (t' := (.array .int)) (by decide) (by decide)))
  have x247 := x219.other W242 (Or.inr (slot_ne (Or.inl (wq hw 55 rfl)) (Or.inl (wq hw 45 rfl)) (by decide) (t := .int) (t' := (.array .int)) (by decide) (by decide)))
  have x248 := x220.other W242 (Or.inr (slot_ne (Or.inl (wq hw 99 rfl)) (Or.inl (wq hw 45 rfl)) (by decide) (t := .int) (t' := (.array .int)) (by decide) (by decide)))
  have x249 := x221.other W242 (Or.inr (slot_ne (Or.inl (wq hw 25 rfl)) (Or.inl (wq hw 45 rfl)) (by decide) (t := .int) (t' := (.array .int)) (by decide) (by decide)))
  have x250 := x222.other W242 (Or.inr (slot_ne (Or.inl (wq hw 27 rfl)) (Or.inl (wq hw 45 rfl)) (by decide) (t := .int) (t' := (.array .int)) (by decide) (by decide)))
  have x251 := x223.other W242 (Or.inr (slot_ne (Or.inl (wq hw 37 rfl)) (Or.inl (wq hw 45 rfl)) (by decide) (t := (.array .int)) (t' := (.array .int)) (by decide) (by decide)))
  have x252 := x224.other W242 (Or.inr (slot_ne (Or.inl (wq hw 39 rfl)) (Or.inl (wq hw 45 rfl)) (by decide) (t := (.array .int)) (t' := (.array .int)) (by decide) (by decide)))
  have x253 := x225.other W242 (Or.inr (slot_ne (Or.inl (wq hw 41 rfl)) (Or.inl (wq hw 45 rfl)) (by decide) (t := (.array .int)) (t' := (.array .int)) (by decide) (by decide)))
  have x254 := x226.other W242 (Or.inr (slot_ne (Or.inl (wq hw 43 rfl)) (Or.inl (wq hw 45 rfl)) (by decide) (t := (.array .int)) (t' := (.array .int)) (by decide) (by decide)))
  have x255 := x227.same W242
  have x256 := x228.other W242 (Or.inr (slot_ne (Or.inl (wq hw 47 rfl)) (Or.inl (wq hw 45 rfl)) (by decide) (t := (.array .int)) (t' := (.array .int)) (by decide) (by decide)))
  have x257 := x229.other W242 (Or.inr (slot_ne (Or.inl (wq hw 75 rfl)) (Or.inl (wq hw 45 rfl)) (by decide) (t := (.array .int)) (t' := (.array .int)) (by decide) (by decide)))
  have x258 := x230.other W242 (Or.inr (slot_ne (Or.inl (wq hw 23 rfl)) (Or.inl (wq hw 45 rfl)) (by decide) (t := (.array .int)) (t' := (.array .int)) (by decide) (by decide)))
  have x259 := x231.other W242 (Or.inr (slot_ne (Or.inr (wq hw 21 rfl)) (Or.inl (wq hw 45 rfl)) (by decide) (t := (.object "com/example/slim_kripke/slimkripke/bdd/CallStack")) (t' := (.array .int)) (by decide) (by decide)))
  have x260 := x232.wr W242
  have x261 := x233.other W242 (Or.inl (Ne.symm ne_o0_oc))
  have x262 := x234.other W242 (Or.inl (Ne.symm ne_o0_oc))
  have x263 := x235.other W242 (Ne.symm ne_o0_of)
  have x264 := x236.other W242 (Ne.symm ne_o0_op)
  have x265 := x237.other W242 (Ne.symm ne2_o0)
  have x266 := x238.other W242 (Ne.symm ne52_o0)
  have x267 := x239.other W242 (Ne.symm ne104_o0)
  have x268 := x240.other W242 (Ne.symm ne158_o0)
  have x269 := V214.other W242 (Ne.symm ne214_o0)
  have pre270 := Go.thn pre241 st242
  have pre271 : Go p e below T242 _ (mkF m 37 #[(vr o0), (vi 4096), .unset] [(.int 4096), (.ref o0)]) _ := fun t k => pre270 t (by
    refine XS.aloadN X242.here hx rfl (hb hby d4_35) rfl rfl ?_
    refine XS.iloadN X242.here hx rfl (hb hby d4_36) rfl ?_
    exact k)
  obtain ⟨T272, h272, k272, X272, e272, E272, A272, st272⟩ := newP X242 hx hZ (wq hw 17 rfl) e242 (g := (mkF m 37 #[(vr o0), (vi 4096), .unset] [(.int 4096), (.ref o0)])) rfl (hb hby d4_37) rfl (by decide) (cap := 4096) (by decide) (by decide) (by decide) (by decide)
  obtain ⟨b37, g272⟩ : ∃ z, z = h242.size := ⟨_, rfl⟩
  rw [← g272] at A272 st272
  have gg272 : n0 ≤ b37 := Nat.le_trans Z242 (Nat.le_of_eq g272.symm)
  have sz272 : h0.size ≤ b37 := Nat.le_trans K242.1 (Nat.le_of_eq g272.symm)
  have K272 : Keep h0 h272 [o0] := K242.ext E272
  have Z272 : n0 ≤ h272.size := Nat.le_trans Z242 E272.1
  have V272 : own_A Z h272 b37 (4096 : Int32) own_z := own_A.new A272 (by decide)
  have ne272_o0 : o0 ≠ b37 := Nat.ne_of_lt (Nat.lt_of_lt_of_le x243.lt (Nat.le_of_eq g272.symm))
  have ne272_oc : oc ≠ b37 := Nat.ne_of_lt (Nat.lt_of_lt_of_le x260.lt (Nat.le_of_eq g272.symm))
  have ne272_of : of ≠ b37 := Nat.ne_of_lt (Nat.lt_of_lt_of_le x263.lt (Nat.le_of_eq g272.symm))
  have ne272_op : op ≠ b37 := Nat.ne_of_lt (Nat.lt_of_lt_of_le x264.lt (Nat.le_of_eq g272.symm))
  have ne272_b2 : b2 ≠ b37 := Nat.ne_of_lt (Nat.lt_of_lt_of_le x265.lt (Nat.le_of_eq g272.symm))
  have ne272_b9 : b9 ≠ b37 := Nat.ne_of_lt (Nat.lt_of_lt_of_le x266.lt (Nat.le_of_eq g272.symm))
  have ne272_b16 : b16 ≠ b37 := Nat.ne_of_lt (Nat.lt_of_lt_of_le x267.lt (Nat.le_of_eq g272.symm))
  have ne272_b23 : b23 ≠ b37 := Nat.ne_of_lt (Nat.lt_of_lt_of_le x268.lt (Nat.le_of_eq g272.symm))
  have ne272_b30 : b30 ≠ b37 := Nat.ne_of_lt (Nat.lt_of_lt_of_le x269.lt (Nat.le_of_eq g272.symm))
  have x273 := x243.ext E272
  have x274 := x244.ext E272
  have x275 := x245.ext E272
  have x276 := x246.ext E272
  have x277 := x247.ext E272
  have x278 := x248.ext E272
  have x279 := x249.ext E272
  have x280 := x250.ext E272
  have x281 := x251.ext E272
  have x282 := x252.ext E272
  have x283 := x253.ext E272
  have x284 := x254.ext E272
  have x285 := x255.ext E272
  have x286 := x256.ext E272
  have x287 := x257.ext E272
  have x288 := x258.ext E272
  have x289 := x259.ext E272
  have x290 := x260.ext E272
  have x291 := x261.ext E272
  have x292 := x262.ext E272
  have x293 := x263.ext E272
  have x294 := x264.ext E272
  have x295 := x265.ext E272
  have x296 := x266.ext E272
  have x297 := x267.ext E272
  have x298 := x268.ext E272
  have x299 := x269.ext E272
  have pre300 := Go.thn pre271 st272
  obtain ⟨T301, h301, X301, e301, W301, st301⟩ := putF X272 hx hZ hown (host := "") (Or.inl (wq hw 46 rfl)) Via.refl e272 x286 x273 (Or.inl (wq hw 47 rfl)) (wq hw 2 rfl) (ty := (.array .int)) (by decide) rfl rfl (g := (mkF m 39 #[(vr o0), (vi 4096), .unset] [(.ref b37), (.ref o0)])) rfl rfl (hb hby d4_39)
  have N301 := Fr.snoc X301 N242 gw_o0
  have K301 : Keep h0 h301 [o0] := K272.wr W301 (Or.inl (List.mem_of_getElem? (i := 0) rfl))
  have Z301 : n0 ≤ h301.size := Nat.le_trans Z272 (Keep.of_wr W301).1
  have x302 := x273.wr W301
  have x303 := x274.other W301 (Or.inr (slot_ne (Or.inr (wq hw 29 rfl)) (Or.inl (wq hw 47 rfl)) (by decide) (t := .int) (t' := (.array .int)) (by decide) (by decide)))
  have x304 := x275.other W301 (Or.inr (slot_ne (Or.inr (wq hw 31 rfl)) (Or.inl (wq hw 47 rfl)) (by decide) (t := .int) (t' := (.array .int)) (by decide) (by decide)))
  have x305 := x276.other W301 (Or.inr (slot_ne (Or.inl (wq hw 53 rfl)) (Or.inl (wq hw 47 rfl)) (by decide) (t := .int) (t' := (.array .int)) (by decide) (by decide)))
  have x306 := x277.other W301 (Or.inr (slot_ne (Or.inl (wq hw 55 rfl)) (Or.inl (wq hw 47 rfl)) (by decide) (t := .int) (t' := (.array .int)) (by decide) (by decide)))
  have x307 := x278.other W301 (Or.inr (slot_ne (Or.inl (wq hw 99 rfl)) (Or.inl (wq hw 47 rfl)) (by decide) (t := .int) (t' := (.array .int)) (by decide) (by decide)))
  have x308 := x279.other W301 (Or.inr (slot_ne (Or.inl (wq hw 25 rfl)) (Or.inl (wq hw 47 rfl)) (by decide) (t := .int) (t' := (.array .int)) (by decide) (by decide)))
  have x309 := x280.other W301 (Or.inr (slot_ne (Or.inl (wq hw 27 rfl)) (Or.inl (wq hw 47 rfl)) (by decide) (t := .int) (t' := (.array .int)) (by decide) (by decide)))
  have x310 := x281.other W301 (Or.inr (slot_ne (Or.inl (wq hw 37 rfl)) (Or.inl (wq hw 47 rfl)) (by decide) (t := (.array .int)) (t' := (.array .int)) (by decide) (by decide)))
  have x311 := x282.other W301 (Or.inr (slot_ne (Or.inl (wq hw 39 rfl)) (Or.inl (wq hw 47 rfl)) (by decide) (t := (.array .int)) (t' := (.array .int)) (by decide) (by decide)))
  have x312 := x283.other W301 (Or.inr (slot_ne (Or.inl (wq hw 41 rfl)) (Or.inl (wq hw 47 rfl)) (by decide) (t := (.array .int)) (t' := (.array .int)) (by decide) (by decide)))
  have x313 := x284.other W301 (Or.inr (slot_ne (Or.inl (wq hw 43 rfl)) (Or.inl (wq hw 47 rfl)) (by decide) (t := (.array .int)) (t' := (.array .int)) (by decide) (by decide)))
  have x314 := x285.other W301 (Or.inr (slot_ne (Or.inl (wq hw 45 rfl)) (Or.inl (wq hw 47 rfl)) (by decide) (t := (.array .int)) (t' := (.array .int)) (by decide) (by decide)))
  have x315 := x286.same W301
  have x316 := x287.other W301 (Or.inr (slot_ne (Or.inl (wq hw 75 rfl)) (Or.inl (wq hw 47 rfl)) (by decide) (t := (.array .int)) (t' := (.array .int)) (by decide) (by decide)))
  have x317 := x288.other W301 (Or.inr (slot_ne (Or.inl (wq hw 23 rfl)) (Or.inl (wq hw 47 rfl)) (by decide) (t := (.array .int)) (t' := (.array .int)) (by decide) (by decide)))
  have x318 := x289.other W301 (Or.inr (slot_ne (Or.inr (wq hw 21 rfl)) (Or.inl (wq hw 47 rfl)) (by decide) (t := (.object "com/example/slim_kripke/slimkripke/bdd/CallStack")) (t' := (.array .int)) (by decide) (by decide)))
  have x319 := x290.wr W301
  have x320 := x291.other W301 (Or.inl (Ne.symm ne_o0_oc))
  have x321 := x292.other W301 (Or.inl (Ne.symm ne_o0_oc))
  have x322 := x293.other W301 (Ne.symm ne_o0_of)
  have x323 := x294.other W301 (Ne.symm ne_o0_op)
  have x324 := x295.other W301 (Ne.symm ne2_o0)
  have x325 := x296.other W301 (Ne.symm ne52_o0)
  have x326 := x297.other W301 (Ne.symm ne104_o0)
  have x327 := x298.other W301 (Ne.symm ne158_o0)
  have x328 := x299.other W301 (Ne.symm ne214_o0)
  have x329 := V272.other W301 (Ne.symm ne272_o0)
  have pre330 := Go.thn pre300 st301
  have pre331 : Go p e below T301 _ (mkF m 43 #[(vr o0), (vi 4096), .unset] [(.ref o0)]) _ := fun t k => pre330 t (by
    refine XS.aloadN X301.here hx rfl (hb hby d4_42) rfl rfl ?_
    exact k)
  obtain ⟨T332, X332, e332, st332⟩ := getF X301 hx hZ hown (host := "") (Or.inl (wq hw 46 rfl)) Via.refl e301 x315 (g := (mkF m 43 #[(vr o0), (vi 4096), .unset] [(.ref o0)])) rfl rfl (hb hby d4_43)
  have pre333 := Go.thn pre331 st332
  have pre334 : Go p e below T332 _ (mkF m 47 #[(vr o0), (vi 4096), .unset] [(.int (-1)), (.ref b37)]) _ := fun t k => pre333 t (by
    refine XS.iconst X332.here hx rfl (hb hby d4_46) ?_
    exact k)
  obtain ⟨_, _, ⟨T335, L335, k335, n335⟩, -, X335, ⟨Lc335, hQ335, l335, y335, z335⟩, st335⟩ := Jvm.LawKit.callS X332 hx (y := Nm_7) hown (mq hZ hw 48 rfl) (mq hZ hw 49 rfl) (mq hZ hw 50 rfl) (mq hZ hw 51 rfl) (by decide) (backOf (W := 0) (rm5 l Z a0 hw [] b37 (-1 : Int32) (4096 : Int32) own_z h301 n0 Z301 x329 gg272) hZ (wq hw 51 rfl) (wq hw 50 rfl) (by decide) (by decide)) (g := (mkF m 47 #[(vr o0), (vi 4096), .unset] [(.int (-1)), (.ref b37)])) rfl (by rw [hml]; rfl) (argsL := [(.ref b37), (.int (-1))]) (rest := []) (lenOf pd___II_V rfl) rfl (w00 rfl) (hb hby d4_47) (fun _ _ => ⟨rfl, e332, (by decide : 6 + 0 ≤ _), (by decide : 24576 + 0 ≤ _)⟩)
  dsimp only [Pt.U, Pt.locs, Pt.cells, Pt.slots] at X335 l335 y335 z335 st335 hQ335
  subst y335 z335
  obtain ⟨rfl, Nq335, Kq335, o335_0⟩ := hQ335
  have N335 := FrE l335 N301 Nq335
  have K335 : Keep h0 T335.heap [o0] := K301.trans Kq335 (allS (Or.inr sz272) all0)
  have Z335 : n0 ≤ T335.heap.size := Nat.le_trans Z301 Kq335.1
  have x336 := x302.keep Kq335
  have x337 := x303.keep Kq335 (ninS ne272_o0 nin0)
  have x338 := x304.keep Kq335 (ninS ne272_o0 nin0)
  have x339 := x305.keep Kq335 (ninS ne272_o0 nin0)
  have x340 := x306.keep Kq335 (ninS ne272_o0 nin0)
  have x341 := x307.keep Kq335 (ninS ne272_o0 nin0)
  have x342 := x308.keep Kq335 (ninS ne272_o0 nin0)
  have x343 := x309.keep Kq335 (ninS ne272_o0 nin0)
  have x344 := x310.keep Kq335 (ninS ne272_o0 nin0)
  have x345 := x311.keep Kq335 (ninS ne272_o0 nin0)
  have x346 := x312.keep Kq335 (ninS ne272_o0 nin0)
  have x347 := x313.keep Kq335 (ninS ne272_o0 nin0)
  have x348 := x314.keep Kq335 (ninS ne272_o0 nin0)
  have x349 := x315.keep Kq335 (ninS ne272_o0 nin0)
  have x350 := x316.keep Kq335 (ninS ne272_o0 nin0)
  have x351 := x317.keep Kq335 (ninS ne272_o0 nin0)
  have x352 := x318.keep Kq335 (ninS ne272_o0 nin0)
  have x353 := x319.keep Kq335
  have x354 := x320.keep Kq335 (ninS ne272_oc nin0)
  have x355 := x321.keep Kq335 (ninS ne272_oc nin0)
  have x356 := x322.keep Kq335 (ninS ne272_of nin0)
  have x357 := x323.keep Kq335 (ninS ne272_op nin0)
  have x358 := x324.keep Kq335 (ninS ne272_b2 nin0)
  have x359 := x325.keep Kq335 (ninS ne272_b9 nin0)
  have x360 := x326.keep Kq335 (ninS ne272_b16 nin0)
  have x361 := x327.keep Kq335 (ninS ne272_b23 nin0)
  have x362 := x328.keep Kq335 (ninS ne272_b30 nin0)
  have pre363 := Go.thn pre334 st335
  have pre364 : Go p e below T335 _ (mkF m 51 #[(vr o0), (vi 4096), .unset] [(.ref o0)]) _ := fun t k => pre363 t (by
    refine XS.aloadN X335.here hx rfl (hb hby d4_50) rfl rfl ?_
    exact k)
  obtain ⟨T365, X365, e365, st365⟩ := getF X335 hx hZ hown (host := "") (Or.inl (wq hw 36 rfl)) Via.refl rfl x344 (g := (mkF m 51 #[(vr o0), (vi 4096), .unset] [(.ref o0)])) rfl rfl (hb hby d4_51)
  have pre366 := Go.thn pre364 st365
  have pre367 : Go p e below T365 _ (mkF m 55 #[(vr o0), (vi 4096), .unset] [(.int (-1)), (.ref b2)]) _ := fun t k => pre366 t (by
    refine XS.iconst X365.here hx rfl (hb hby d4_54) ?_
    exact k)
  obtain ⟨_, _, ⟨T368, L368, k368, n368⟩, -, X368, ⟨Lc368, hQ368, l368, y368, z368⟩, st368⟩ := Jvm.LawKit.callS X365 hx (y := Nm_7) hown (mq hZ hw 48 rfl) (mq hZ hw 49 rfl) (mq hZ hw 50 rfl) (mq hZ hw 51 rfl) (by decide) (backOf (W := 0) (rm5 l Z a0 hw [] b2 (-1 : Int32) (4096 : Int32) own_z T335.heap n0 Z335 x358 gg2) hZ (wq hw 51 rfl) (wq hw 50 rfl) (by decide) (by decide)) (g := (mkF m 55 #[(vr o0), (vi 4096), .unset] [(.int (-1)), (.ref b2)])) rfl (by rw [hml]; rfl) (argsL := [(.ref b2), (.int (-1))]) (rest := []) (lenOf pd___II_V rfl) rfl (w00 rfl) (hb hby d4_55) (fun _ _ => ⟨rfl, e365, (by decide : 6 + 0 ≤ _), (by decide : 24576 + 0 ≤ _)⟩)
  dsimp only [Pt.U, Pt.locs, Pt.cells, Pt.slots] at X368 l368 y368 z368 st368 hQ368
  subst y368 z368
  obtain ⟨rfl, Nq368, Kq368, o368_0⟩ := hQ368
  have N368 := FrE l368 N335 Nq368
  have K368 : Keep h0 T368.heap [o0] := K335.trans Kq368 (allS (Or.inr sz2) all0)
  have Z368 : n0 ≤ T368.heap.size := Nat.le_trans Z335 Kq368.1
  have x369 := x336.keep Kq368
  have x370 := x337.keep Kq368 (ninS ne2_o0 nin0)
  have x371 := x338.keep Kq368 (ninS ne2_o0 nin0)
  have x372 := x339.keep Kq368 (ninS ne2_o0 nin0)
  have x373 := x340.keep Kq368 (ninS ne2_o0 nin0)
  have x374 := x341.keep Kq368 (ninS ne2_o0 nin0)
  have x375 := x342.keep Kq368 (ninS ne2_o0 nin0)
  have x376 := x343.keep Kq368 (ninS ne2_o0 nin0)
  have x377 := x344.keep Kq368 (ninS ne2_o0 nin0)
  have x378 := x345.keep Kq368 (ninS ne2_o0 nin0)
  have x379 := x346.keep Kq368 (ninS ne2_o0 nin0)
  have x380 := x347.keep Kq368 (ninS ne2_o0 nin0)
  have x381 := x348.keep Kq368 (ninS ne2_o0 nin0)
  have x382 := x349.keep Kq368 (ninS ne2_o0 nin0)
  have x383 := x350.keep Kq368 (ninS ne2_o0 nin0)
  have x384 := x351.keep Kq368 (ninS ne2_o0 nin0)
  have x385 := x352.keep Kq368 (ninS ne2_o0 nin0)
  have x386 := x353.keep Kq368
  have x387 := x354.keep Kq368 (ninS ne2_oc nin0)
  have x388 := x355.keep Kq368 (ninS ne2_oc nin0)
  have x389 := x356.keep Kq368 (ninS ne2_of nin0)
  have x390 := x357.keep Kq368 (ninS ne2_op nin0)
  have x391 := x359.keep Kq368 (ninS (Ne.symm ne52_b2) nin0)
  have x392 := x360.keep Kq368 (ninS (Ne.symm ne104_b2) nin0)
  have x393 := x361.keep Kq368 (ninS (Ne.symm ne158_b2) nin0)
  have x394 := x362.keep Kq368 (ninS (Ne.symm ne214_b2) nin0)
  have x395 := o335_0.keep Kq368 (ninS (Ne.symm ne272_b2) nin0)
  have pre396 := Go.thn pre367 st368
  have pre397 : Go p e below T368 _ (mkF m 59 #[(vr o0), (vi 4096), .unset] [(.ref o0)]) _ := fun t k => pre396 t (by
    refine XS.aloadN X368.here hx rfl (hb hby d4_58) rfl rfl ?_
    exact k)
  obtain ⟨T398, X398, e398, st398⟩ := getF X368 hx hZ hown (host := "") (Or.inl (wq hw 36 rfl)) Via.refl rfl x377 (g := (mkF m 59 #[(vr o0), (vi 4096), .unset] [(.ref o0)])) rfl rfl (hb hby d4_59)
  have pre399 := Go.thn pre397 st398
  have pre400 : Go p e below T398 _ (mkF m 64 #[(vr o0), (vi 4096), .unset] [(.ref o0), (.int 0), (.ref b2)]) _ := fun t k => pre399 t (by
    refine XS.iconst X398.here hx rfl (hb hby d4_62) ?_
    refine XS.aloadN X398.here hx rfl (hb hby d4_63) rfl rfl ?_
    exact k)
  obtain ⟨T401, X401, e401, st401⟩ := getF X398 hx hZ hown (host := "") (Or.inl (wq hw 28 rfl)) Via.refl e398 x370 (g := (mkF m 64 #[(vr o0), (vi 4096), .unset] [(.ref o0), (.int 0), (.ref b2)])) rfl rfl (hb hby d4_64)
  have pre402 := Go.thn pre400 st401
  have ib403 : ¬ (0 : Int32) < 0 ∧ (0 : Int32) < (4096 : Int32) := ⟨by decide, by decide⟩
  obtain ⟨cl403, Ar403, Sz403, -, -⟩ := id o368_0
  obtain ⟨T403, h403, X403, e403, W403, st403⟩ := stI X401 hx hZ e401 Ar403 (j := (0 : Int32)) (inb_of Sz403 ib403) (g := (mkF m 67 #[(vr o0), (vi 4096), .unset] [(.int xn), (.int 0), (.ref b2)])) rfl rfl (hb hby d4_67)
  have V403 := own_A.set o368_0 W403 ib403
  have N403 := Fr.snoc X403 N368 gg2
  have K403 : Keep h0 h403 [o0] := K368.wr W403 (Or.inr sz2)
  have Z403 : n0 ≤ h403.size := Nat.le_trans Z368 (Keep.of_wr W403).1
  have x404 := x369.wr W403
  have x405 := x370.other W403 (Or.inl ne2_o0)
  have x406 := x371.other W403 (Or.inl ne2_o0)
  have x407 := x372.other W403 (Or.inl ne2_o0)
  have x408 := x373.other W403 (Or.inl ne2_o0)
  have x409 := x374.other W403 (Or.inl ne2_o0)
  have x410 := x375.other W403 (Or.inl ne2_o0)
  have x411 := x376.other W403 (Or.inl ne2_o0)
  have x412 := x377.other W403 (Or.inl ne2_o0)
  have x413 := x378.other W403 (Or.inl ne2_o0)
  have x414 := x379.other W403 (Or.inl ne2_o0)
  have x415 := x380.other W403 (Or.inl ne2_o0)
  have x416 := x381.other W403 (Or.inl ne2_o0)
  have x417 := x382.other W403 (Or.inl ne2_o0)
  have x418 := x383.other W403 (Or.inl ne2_o0)
  have x419 := x384.other W403 (Or.inl ne2_o0)
  have x420 := x385.other W403 (Or.inl ne2_o0)
  have x421 := x386.wr W403
  have x422 := x387.other W403 (Or.inl ne2_oc)
  have x423 := x388.other W403 (Or.inl ne2_oc)
  have x424 := x389.other W403 ne2_of
  have x425 := x390.other W403 ne2_op
  have x426 := x391.other W403 (Ne.symm ne52_b2)
  have x427 := x392.other W403 (Ne.symm ne104_b2)
  have x428 := x393.other W403 (Ne.symm ne158_b2)
  have x429 := x394.other W403 (Ne.symm ne214_b2)
  have x430 := x395.other W403 (Ne.symm ne272_b2)
  have pre431 := Go.thn pre402 st403
  have pre432 : Go p e below T403 _ (mkF m 69 #[(vr o0), (vi 4096), .unset] [(.ref o0)]) _ := fun t k => pre431 t (by
    refine XS.aloadN X403.here hx rfl (hb hby d4_68) rfl rfl ?_
    exact k)
  obtain ⟨T433, X433, e433, st433⟩ := getF X403 hx hZ hown (host := "") (Or.inl (wq hw 36 rfl)) Via.refl e403 x412 (g := (mkF m 69 #[(vr o0), (vi 4096), .unset] [(.ref o0)])) rfl rfl (hb hby d4_69)
  have pre434 := Go.thn pre432 st433
  have pre435 : Go p e below T433 _ (mkF m 74 #[(vr o0), (vi 4096), .unset] [(.ref o0), (.int 1), (.ref b2)]) _ := fun t k => pre434 t (by
    refine XS.iconst X433.here hx rfl (hb hby d4_72) ?_
    refine XS.aloadN X433.here hx rfl (hb hby d4_73) rfl rfl ?_
    exact k)
  obtain ⟨T436, X436, e436, st436⟩ := getF X433 hx hZ hown (host := "") (Or.inl (wq hw 28 rfl)) Via.refl e433 x405 (g := (mkF m 74 #[(vr o0), (vi 4096), .unset] [(.ref o0), (.int 1), (.ref b2)])) rfl rfl (hb hby d4_74)
  have pre437 := Go.thn pre435 st436
  have ib438 : ¬ (1 : Int32) < 0 ∧ (1 : Int32) < (4096 : Int32) := ⟨by decide, by decide⟩
  obtain ⟨cl438, Ar438, Sz438, -, -⟩ := id V403
  obtain ⟨T438, h438, X438, e438, W438, st438⟩ := stI X436 hx hZ e436 Ar438 (j := (1 : Int32)) (inb_of Sz438 ib438) (g := (mkF m 77 #[(vr o0), (vi 4096), .unset] [(.int xn), (.int 1), (.ref b2)])) rfl rfl (hb hby d4_77)
  have V438 := own_A.set V403 W438 ib438
  have N438 := Fr.snoc X438 N403 gg2
  have K438 : Keep h0 h438 [o0] := K403.wr W438 (Or.inr sz2)
  have Z438 : n0 ≤ h438.size := Nat.le_trans Z403 (Keep.of_wr W438).1
  have x439 := x404.wr W438
  have x440 := x405.other W438 (Or.inl ne2_o0)
  have x441 := x406.other W438 (Or.inl ne2_o0)
  have x442 := x407.other W438 (Or.inl ne2_o0)
  have x443 := x408.other W438 (Or.inl ne2_o0)
  have x444 := x409.other W438 (Or.inl ne2_o0)
  have x445 := x410.other W438 (Or.inl ne2_o0)
  have x446 := x411.other W438 (Or.inl ne2_o0)
  have x447 := x412.other W438 (Or.inl ne2_o0)
  have x448 := x413.other W438 (Or.inl ne2_o0)
  have x449 := x414.other W438 (Or.inl ne2_o0)
  have x450 := x415.other W438 (Or.inl ne2_o0)
  have x451 := x416.other W438 (Or.inl ne2_o0)
  have x452 := x417.other W438 (Or.inl ne2_o0)
  have x453 := x418.other W438 (Or.inl ne2_o0)
  have x454 := x419.other W438 (Or.inl ne2_o0)
  have x455 := x420.other W438 (Or.inl ne2_o0)
  have x456 := x421.wr W438
  have x457 := x422.other W438 (Or.inl ne2_oc)
  have x458 := x423.other W438 (Or.inl ne2_oc)
  have x459 := x424.other W438 ne2_of
  have x460 := x425.other W438 ne2_op
  have x461 := x426.other W438 (Ne.symm ne52_b2)
  have x462 := x427.other W438 (Ne.symm ne104_b2)
  have x463 := x428.other W438 (Ne.symm ne158_b2)
  have x464 := x429.other W438 (Ne.symm ne214_b2)
  have x465 := x430.other W438 (Ne.symm ne272_b2)
  have pre466 := Go.thn pre437 st438
  have pre467 : Go p e below T438 _ (mkF m 80 #[(vr o0), (vi 4096), .unset] [(.int (-1)), (.ref o0)]) _ := fun t k => pre466 t (by
    refine XS.aloadN X438.here hx rfl (hb hby d4_78) rfl rfl ?_
    refine XS.iconst X438.here hx rfl (hb hby d4_79) ?_
    exact k)
  obtain ⟨T468, h468, X468, e468, W468, st468⟩ := putF X438 hx hZ hown (host := "") (Or.inl (wq hw 52 rfl)) Via.refl e438 x442 x439 (Or.inl (wq hw 53 rfl)) (wq hw 2 rfl) (ty := .int) (by decide) rfl rfl (g := (mkF m 80 #[(vr o0), (vi 4096), .unset] [(.int (-1)), (.ref o0)])) rfl rfl (hb hby d4_80)
  have N468 := Fr.snoc X468 N438 gw_o0
  have K468 : Keep h0 h468 [o0] := K438.wr W468 (Or.inl (List.mem_of_getElem? (i := 0) rfl))
  have Z468 : n0 ≤ h468.size := Nat.le_trans Z438 (Keep.of_wr W468).1
  have x469 := x439.wr W468
  have x470 := x440.other W468 (Or.inr (slot_ne (Or.inr (wq hw 29 rfl)) (Or.inl (wq hw 53 rfl)) (by decide) (t := .int) (t' := .int) (by decide) (by decide)))
  have x471 := x441.other W468 (Or.inr (slot_ne (Or.inr (wq hw 31 rfl)) (Or.inl (wq hw 53 rfl)) (by decide) (t := .int) (t' := .int) (by decide) (by decide)))
  have x472 := x442.same W468
  have x473 := x443.other W468 (Or.inr (slot_ne (Or.inl (wq hw 55 rfl)) (Or.inl (wq hw 53 rfl)) (by decide) (t := .int) (t' := .int) (by decide) (by decide)))
  have x474 := x444.other W468 (Or.inr (slot_ne (Or.inl (wq hw 99 rfl)) (Or.inl (wq hw 53 rfl)) (by decide) (t := .int) (t' := .int) (by decide) (by decide)))
  have x475 := x445.other W468 (Or.inr (slot_ne (Or.inl (wq hw 25 rfl)) (Or.inl (wq hw 53 rfl)) (by decide) (t := .int) (t' := .int) (by decide) (by decide)))
  have x476 := x446.other W468 (Or.inr (slot_ne (Or.inl (wq hw 27 rfl)) (Or.inl (wq hw 53 rfl)) (by decide) (t := .int) (t' := .int) (by decide) (by decide)))
  have x477 := x447.other W468 (Or.inr (slot_ne (Or.inl (wq hw 37 rfl)) (Or.inl (wq hw 53 rfl)) (by decide) (t := (.array .int)) (t' := .int) (by decide) (by decide)))
  have x478 := x448.other W468 (Or.inr (slot_ne (Or.inl (wq hw 39 rfl)) (Or.inl (wq hw 53 rfl)) (by decide) (t := (.array .int)) (t' := .int) (by decide) (by decide)))
  have x479 := x449.other W468 (Or.inr (slot_ne (Or.inl (wq hw 41 rfl)) (Or.inl (wq hw 53 rfl)) (by decide) (t := (.array .int)) (t' := .int) (by decide) (by decide)))
  have x480 := x450.other W468 (Or.inr (slot_ne (Or.inl (wq hw 43 rfl)) (Or.inl (wq hw 53 rfl)) (by decide) (t := (.array .int)) (t' := .int) (by decide) (by decide)))
  have x481 := x451.other W468 (Or.inr (slot_ne (Or.inl (wq hw 45 rfl)) (Or.inl (wq hw 53 rfl)) (by decide) (t := (.array .int)) (t' := .int) (by decide) (by decide)))
  have x482 := x452.other W468 (Or.inr (slot_ne (Or.inl (wq hw 47 rfl)) (Or.inl (wq hw 53 rfl)) (by decide) (t := (.array .int)) (t' := .int) (by decide) (by decide)))
  have x483 := x453.other W468 (Or.inr (slot_ne (Or.inl (wq hw 75 rfl)) (Or.inl (wq hw 53 rfl)) (by decide) (t := (.array .int)) (t' := .int) (by decide) (by decide)))
  have x484 := x454.other W468 (Or.inr (slot_ne (Or.inl (wq hw 23 rfl)) (Or.inl (wq hw 53 rfl)) (by decide) (t := (.array .int)) (t' := .int) (by decide) (by decide)))
  have x485 := x455.other W468 (Or.inr (slot_ne (Or.inr (wq hw 21 rfl)) (Or.inl (wq hw 53 rfl)) (by decide) (t := (.object "com/example/slim_kripke/slimkripke/bdd/CallStack")) (t' := .int) (by decide) (by decide)))
  have x486 := x456.wr W468
  have x487 := x457.other W468 (Or.inl (Ne.symm ne_o0_oc))
  have x488 := x458.other W468 (Or.inl (Ne.symm ne_o0_oc))
  have x489 := x459.other W468 (Ne.symm ne_o0_of)
  have x490 := x460.other W468 (Ne.symm ne_o0_op)
  have x491 := x461.other W468 (Ne.symm ne52_o0)
  have x492 := x462.other W468 (Ne.symm ne104_o0)
  have x493 := x463.other W468 (Ne.symm ne158_o0)
  have x494 := x464.other W468 (Ne.symm ne214_o0)
  have x495 := x465.other W468 (Ne.symm ne272_o0)
  have x496 := V438.other W468 (Ne.symm ne2_o0)
  have pre497 := Go.thn pre467 st468
  have pre498 : Go p e below T468 _ (mkF m 87 #[(vr o0), (vi 4096), (vi 4095)] []) _ := fun t k => pre497 t (by
    refine XS.iloadN X468.here hx rfl (hb hby d4_83) rfl ?_
    refine XS.iconst X468.here hx rfl (hb hby d4_84) ?_
    refine XS.isub X468.here hx rfl (hb hby d4_85) rfl ?_
    refine XS.istoreN X468.here hx rfl (hb hby d4_86) rfl (l' := #[(vr o0), (vi 4096), (vi 4095)]) rfl ?_
    exact k)
  obtain ⟨T499, L499, h499, X499, e499, N499, Kq499, Rq499, G499, V499, st499⟩ := own_chL gw_o0 gg214 ne214_o0 hx hZ hw hby hml hown 4094 4095 (-1) _ _ _ _ (by decide) (by decide) (fun j => rfl) rfl X468 e468 N468 Z468 x469 x481 x472 (own_A.congr x494 (fun j hj => own_z0 j hj))
  have K499 : Keep h0 h499 [o0] := K468.trans Kq499 (allS (Or.inl (List.mem_of_getElem? (i := 0) rfl)) (allS (Or.inr sz214) all0))
  have Z499 : n0 ≤ h499.size := Nat.le_trans Z468 Kq499.1
  have x500 := x469.keep Kq499
  have x501 := Rq499 _ _ _ _ (slot_ne (Or.inr (wq hw 29 rfl)) (Or.inl (wq hw 53 rfl)) (by decide) (t := .int) (t' := .int) (by decide) (by decide)) x470
  have x502 := Rq499 _ _ _ _ (slot_ne (Or.inr (wq hw 31 rfl)) (Or.inl (wq hw 53 rfl)) (by decide) (t := .int) (t' := .int) (by decide) (by decide)) x471
  have x503 := Rq499 _ _ _ _ (slot_ne (Or.inl (wq hw 55 rfl)) (Or.inl (wq hw 53 rfl)) (by decide) (t := .int) (t' := .int) (by decide) (by decide)) x473
  have x504 := Rq499 _ _ _ _ (slot_ne (Or.inl (wq hw 99 rfl)) (Or.inl (wq hw 53 rfl)) (by decide) (t := .int) (t' := .int) (by decide) (by decide)) x474
  have x505 := Rq499 _ _ _ _ (slot_ne (Or.inl (wq hw 25 rfl)) (Or.inl (wq hw 53 rfl)) (by decide) (t := .int) (t' := .int) (by decide) (by decide)) x475
  have x506 := Rq499 _ _ _ _ (slot_ne (Or.inl (wq hw 27 rfl)) (Or.inl (wq hw 53 rfl)) (by decide) (t := .int) (t' := .int) (by decide) (by decide)) x476
  have x507 := Rq499 _ _ _ _ (slot_ne (Or.inl (wq hw 37 rfl)) (Or.inl (wq hw 53 rfl)) (by decide) (t := (.array .int)) (t' := .int) (by decide) (by decide)) x477
  have x508 := Rq499 _ _ _ _ (slot_ne (Or.inl (wq hw 39 rfl)) (Or.inl (wq hw 53 rfl)) (by decide) (t := (.array .int)) (t' := .int) (by decide) (by decide)) x478
  have x509 := Rq499 _ _ _ _ (slot_ne (Or.inl (wq hw 41 rfl)) (Or.inl (wq hw 53 rfl)) (by decide) (t := (.array .int)) (t' := .int) (by decide) (by decide)) x479
  have x510 := Rq499 _ _ _ _ (slot_ne (Or.inl (wq hw 43 rfl)) (Or.inl (wq hw 53 rfl)) (by decide) (t := (.array .int)) (t' := .int) (by decide) (by decide)) x480
  have x511 := Rq499 _ _ _ _ (slot_ne (Or.inl (wq hw 45 rfl)) (Or.inl (wq hw 53 rfl)) (by decide) (t := (.array .int)) (t' := .int) (by decide) (by decide)) x481
  have x512 := Rq499 _ _ _ _ (slot_ne (Or.inl (wq hw 47 rfl)) (Or.inl (wq hw 53 rfl)) (by decide) (t := (.array .int)) (t' := .int) (by decide) (by decide)) x482
  have x513 := Rq499 _ _ _ _ (slot_ne (Or.inl (wq hw 75 rfl)) (Or.inl (wq hw 53 rfl)) (by decide) (t := (.array .int)) (t' := .int) (by decide) (by decide)) x483
  have x514 := Rq499 _ _ _ _ (slot_ne (Or.inl (wq hw 23 rfl)) (Or.inl (wq hw 53 rfl)) (by decide) (t := (.array .int)) (t' := .int) (by decide) (by decide)) x484
  have x515 := Rq499 _ _ _ _ (slot_ne (Or.inr (wq hw 21 rfl)) (Or.inl (wq hw 53 rfl)) (by decide) (t := (.object "com/example/slim_kripke/slimkripke/bdd/CallStack")) (t' := .int) (by decide) (by decide)) x485
  have x516 := x486.keep Kq499
  have x517 := x487.keep Kq499 (ninS (Ne.symm ne_o0_oc) (ninS ne214_oc nin0))
  have x518 := x488.keep Kq499 (ninS (Ne.symm ne_o0_oc) (ninS ne214_oc nin0))
  have x519 := x489.keep Kq499 (ninS (Ne.symm ne_o0_of) (ninS ne214_of nin0))
  have x520 := x490.keep Kq499 (ninS (Ne.symm ne_o0_op) (ninS ne214_op nin0))
  have x521 := x491.keep Kq499 (ninS (Ne.symm ne52_o0) (ninS ne214_b9 nin0))
  have x522 := x492.keep Kq499 (ninS (Ne.symm ne104_o0) (ninS ne214_b16 nin0))
  have x523 := x493.keep Kq499 (ninS (Ne.symm ne158_o0) (ninS ne214_b23 nin0))
  have x524 := x495.keep Kq499 (ninS (Ne.symm ne272_o0) (ninS (Ne.symm ne272_b30) nin0))
  have x525 := x496.keep Kq499 (ninS (Ne.symm ne2_o0) (ninS ne214_b2 nin0))
  have pre526 := Go.thn pre498 st499
  have pre527 : Go p e below T499 _ (mkF m 117 #[(vr o0), (vi 4096), (vi 1)] [(.int 4094), (.ref o0)]) _ := fun t k => pre526 t (by
    refine XS.aloadN X499.here hx rfl (hb hby d4_113) rfl rfl ?_
    refine XS.iloadN X499.here hx rfl (hb hby d4_114) rfl ?_
    refine XS.iconst X499.here hx rfl (hb hby d4_115) ?_
    refine XS.isub X499.here hx rfl (hb hby d4_116) rfl ?_
    exact k)
  obtain ⟨T528, h528, X528, e528, W528, st528⟩ := putF X499 hx hZ hown (host := "") (Or.inl (wq hw 54 rfl)) Via.refl e499 x503 x500 (Or.inl (wq hw 55 rfl)) (wq hw 2 rfl) (ty := .int) (by decide) rfl rfl (g := (mkF m 117 #[(vr o0), (vi 4096), (vi 1)] [(.int 4094), (.ref o0)])) rfl rfl (hb hby d4_117)
  have N528 := Fr.snoc X528 N499 gw_o0
  have K528 : Keep h0 h528 [o0] := K499.wr W528 (Or.inl (List.mem_of_getElem? (i := 0) rfl))
  have Z528 : n0 ≤ h528.size := Nat.le_trans Z499 (Keep.of_wr W528).1
  have x529 := x500.wr W528
  have x530 := x501.other W528 (Or.inr (slot_ne (Or.inr (wq hw 29 rfl)) (Or.inl (wq hw 55 rfl)) (by decide) (t := .int) (t' := .int) (by decide) (by decide)))
  have x531 := x502.other W528 (Or.inr (slot_ne (Or.inr (wq hw 31 rfl)) (Or.inl (wq hw 55 rfl)) (by decide) (t := .int) (t' := .int) (by decide) (by decide)))
  have x532 := x503.same W528
  have x533 := x504.other W528 (Or.inr (slot_ne (Or.inl (wq hw 99 rfl)) (Or.inl (wq hw 55 rfl)) (by decide) (t := .int) (t' := .int) (by decide) (by decide)))
  have x534 := x505.other W528 (Or.inr (slot_ne (Or.inl (wq hw 25 rfl)) (Or.inl (wq hw 55 rfl)) (by decide) (t := .int) (t' := .int) (by decide) (by decide)))
  have x535 := x506.other W528 (Or.inr (slot_ne (Or.inl (wq hw 27 rfl)) (Or.inl (wq hw 55 rfl)) (by decide) (t := .int) (t' := .int) (by decide) (by decide)))
  have x536 := x507.other W528 (Or.inr (slot_ne (Or.inl (wq hw 37 rfl)) (Or.inl (wq hw 55 rfl)) (by decide) (t := (.array .int)) (t' := .int) (by decide) (by decide)))
  have x537 := x508.other W528 (Or.inr (slot_ne (Or.inl (wq hw 39 rfl)) (Or.inl (wq hw 55 rfl)) (by decide) (t := (.array .int)) (t' := .int) (by decide) (by decide)))
  have x538 := x509.other W528 (Or.inr (slot_ne (Or.inl (wq hw 41 rfl)) (Or.inl (wq hw 55 rfl)) (by decide) (t := (.array .int)) (t' := .int) (by decide) (by decide)))
  have x539 := x510.other W528 (Or.inr (slot_ne (Or.inl (wq hw 43 rfl)) (Or.inl (wq hw 55 rfl)) (by decide) (t := (.array .int)) (t' := .int) (by decide) (by decide)))
  have x540 := x511.other W528 (Or.inr (slot_ne (Or.inl (wq hw 45 rfl)) (Or.inl (wq hw 55 rfl)) (by decide) (t := (.array .int)) (t' := .int) (by decide) (by decide)))
  have x541 := x512.other W528 (Or.inr (slot_ne (Or.inl (wq hw 47 rfl)) (Or.inl (wq hw 55 rfl)) (by decide) (t := (.array .int)) (t' := .int) (by decide) (by decide)))
  have x542 := x513.other W528 (Or.inr (slot_ne (Or.inl (wq hw 75 rfl)) (Or.inl (wq hw 55 rfl)) (by decide) (t := (.array .int)) (t' := .int) (by decide) (by decide)))
  have x543 := x514.other W528 (Or.inr (slot_ne (Or.inl (wq hw 23 rfl)) (Or.inl (wq hw 55 rfl)) (by decide) (t := (.array .int)) (t' := .int) (by decide) (by decide)))
  have x544 := x515.other W528 (Or.inr (slot_ne (Or.inr (wq hw 21 rfl)) (Or.inl (wq hw 55 rfl)) (by decide) (t := (.object "com/example/slim_kripke/slimkripke/bdd/CallStack")) (t' := .int) (by decide) (by decide)))
  have x545 := x516.wr W528
  have x546 := x517.other W528 (Or.inl (Ne.symm ne_o0_oc))
  have x547 := x518.other W528 (Or.inl (Ne.symm ne_o0_oc))
  have x548 := x519.other W528 (Ne.symm ne_o0_of)
  have x549 := x520.other W528 (Ne.symm ne_o0_op)
  have x550 := x521.other W528 (Ne.symm ne52_o0)
  have x551 := x522.other W528 (Ne.symm ne104_o0)
  have x552 := x523.other W528 (Ne.symm ne158_o0)
  have x553 := x524.other W528 (Ne.symm ne272_o0)
  have x554 := x525.other W528 (Ne.symm ne2_o0)
  have x555 := G499.other W528 (Or.inr (slot_ne (Or.inl (wq hw 53 rfl)) (Or.inl (wq hw 55 rfl)) (by decide) (t := .int) (t' := .int) (by decide) (by decide)))
  have x556 := V499.other W528 (Ne.symm ne214_o0)
  have pre557 := Go.thn pre527 st528
  have pre558 : Go p e below T528 _ (mkF m 122 #[(vr o0), (vi 4096), (vi 1)] [(.int 4096), (.ref o0)]) _ := fun t k => pre557 t (by
    refine XS.aloadN X528.here hx rfl (hb hby d4_120) rfl rfl ?_
    refine XS.iloadN X528.here hx rfl (hb hby d4_121) rfl ?_
    exact k)
  obtain ⟨cq559, q559, q559'⟩ := x529.cell
  obtain ⟨_, _, ⟨T559, L559, k559, n559⟩, -, X559, ⟨Lc559, hQ559, l559, y559, z559⟩, st559⟩ := X528.privateBack hx (y := Nm_9) hown (mq hZ hw 56 rfl) (mq hZ hw 57 rfl) (own_seli (mq hZ hw 2 rfl) (pq hZ hw 58 rfl) (mq hZ hw 57 rfl) (by decide)) (pq hZ hw 58 rfl) (mq hZ hw 59 rfl) (by decide) (backOf (W := 0) (rm6 l Z a0 hw [] o0 xn xs (2 : Int32) (4094 : Int32) (0 : Int32) (2 : Int32) (2 : Int32) b2 b9 b16 b23 b30 b37 op oc h528 n0 Z528 x529 x530 x531 x555 x532 x533 x534 x535 x536 x537 x538 x539 x540 x541 x542 x543 x544 gw_o0) hZ (wq hw 59 rfl) (wq hw 3 rfl) (by decide) (by decide)) (g := (mkF m 122 #[(vr o0), (vi 4096), (vi 1)] [(.int 4096), (.ref o0)])) rfl (by rw [hml]; rfl) (Steps.refl _) (a := o0) (by rw [e528]; exact q559) q559' (argsL := [(.int 4096)]) (rest := []) (lenOf pd__I_V rfl) rfl (w00 rfl) (hb hby d4_122) (fun _ _ => ⟨rfl, e528, (by decide : 6 + 1 ≤ _), (by decide : 24576 + 20480 ≤ _)⟩)
  dsimp only [Pt.U, Pt.locs, Pt.cells, Pt.slots] at X559 l559 y559 z559 st559 hQ559
  subst y559 z559
  obtain ⟨b122_0, rfl, Nq559, Kq559, gz559_b122_0, o559_0, o559_1, o559_2, o559_3, o559_4, o559_5, o559_6, o559_7, o559_8, o559_9, o559_10, o559_11, o559_12, o559_13, o559_14, o559_15, o559_16, o559_17⟩ := hQ559
  have N559 := FrE l559 N528 Nq559
  have K559 : Keep h0 T559.heap [o0] := K528.trans Kq559 (allS (Or.inl (List.mem_of_getElem? (i := 0) rfl)) all0)
  have Z559 : n0 ≤ T559.heap.size := Nat.le_trans Z528 Kq559.1
  have x560 := x529.keep Kq559
  have x561 := x545.keep Kq559
  have x562 := x546.keep Kq559 (ninS (Ne.symm ne_o0_oc) nin0)
  have x563 := x547.keep Kq559 (ninS (Ne.symm ne_o0_oc) nin0)
  have x564 := x548.keep Kq559 (ninS (Ne.symm ne_o0_of) nin0)
  have x565 := x549.keep Kq559 (ninS (Ne.symm ne_o0_op) nin0)
  have x566 := x550.keep Kq559 (ninS (Ne.symm ne52_o0) nin0)
  have x567 := x551.keep Kq559 (ninS (Ne.symm ne104_o0) nin0)
  have x568 := x552.keep Kq559 (ninS (Ne.symm ne158_o0) nin0)
  have x569 := x553.keep Kq559 (ninS (Ne.symm ne272_o0) nin0)
  have x570 := x554.keep Kq559 (ninS (Ne.symm ne2_o0) nin0)
  have x571 := x556.keep Kq559 (ninS (Ne.symm ne214_o0) nin0)
  have gg559_b122_0 : n0 ≤ b122_0 := Nat.le_trans Z528 gz559_b122_0
  have sz559_b122_0 : h0.size ≤ b122_0 := Nat.le_trans K528.1 gz559_b122_0
  have ne559_o0_b122_0 : o0 ≠ b122_0 := Nat.ne_of_lt (Nat.lt_of_lt_of_le x529.lt gz559_b122_0)
  have ne559_oc_b122_0 : oc ≠ b122_0 := Nat.ne_of_lt (Nat.lt_of_lt_of_le x545.lt gz559_b122_0)
  have ne559_of_b122_0 : of ≠ b122_0 := Nat.ne_of_lt (Nat.lt_of_lt_of_le x548.lt gz559_b122_0)
  have ne559_op_b122_0 : op ≠ b122_0 := Nat.ne_of_lt (Nat.lt_of_lt_of_le x549.lt gz559_b122_0)
  have ne559_b9_b122_0 : b9 ≠ b122_0 := Nat.ne_of_lt (Nat.lt_of_lt_of_le x550.lt gz559_b122_0)
  have ne559_b16_b122_0 : b16 ≠ b122_0 := Nat.ne_of_lt (Nat.lt_of_lt_of_le x551.lt gz559_b122_0)
  have ne559_b23_b122_0 : b23 ≠ b122_0 := Nat.ne_of_lt (Nat.lt_of_lt_of_le x552.lt gz559_b122_0)
  have ne559_b37_b122_0 : b37 ≠ b122_0 := Nat.ne_of_lt (Nat.lt_of_lt_of_le x553.lt gz559_b122_0)
  have ne559_b2_b122_0 : b2 ≠ b122_0 := Nat.ne_of_lt (Nat.lt_of_lt_of_le x554.lt gz559_b122_0)
  have ne559_b30_b122_0 : b30 ≠ b122_0 := Nat.ne_of_lt (Nat.lt_of_lt_of_le x556.lt gz559_b122_0)
  have pre572 := Go.trn pre558 st559
  obtain ⟨fs, hr, hrun, hended, hW, hsame⟩ := X559.leave (v := none) (fun _ => rfl)
  refine ⟨_, _, ?_, hrun, hended, _, _, rfl, ?_, ⟨_, rfl⟩, hW, hsame.mono (by decide) (by decide)⟩
  · exact pre572 _ (X559.returnOut hx Bd.returns (hb hby d4_125) hr)
  · show Q4 Z o0 xn xs op oc of h0 n0 _ T559.heap _
    skip
    exact ⟨rfl, N559, K559, ⟨b2, b9, b16, b23, b30, b37, b122_0, ⟨gw_o0, ⟨hod.1, hod.2.1, hod.2.2, (Nat.lt_of_lt_of_le I21.lt (Nat.le_of_eq g2.symm)), (Nat.lt_of_lt_of_le x49.lt (Nat.le_of_eq g52.symm)), (Nat.lt_of_lt_of_le x101.lt (Nat.le_of_eq g104.symm)), (Nat.lt_of_lt_of_le x155.lt (Nat.le_of_eq g158.symm)), (Nat.lt_of_lt_of_le x211.lt (Nat.le_of_eq g214.symm)), (Nat.lt_of_lt_of_le x269.lt (Nat.le_of_eq g272.symm)), (Nat.lt_of_lt_of_le x553.lt gz559_b122_0)⟩, o559_0, x561, o559_1, o559_2, o559_3, o559_4, o559_5, o559_6, o559_7, o559_8, o559_9, o559_10, o559_11, o559_12, o559_13, o559_14, o559_15, o559_16, x562, x563, x570, x566, x567, x568, x571, x569, o559_17, x564, x565⟩⟩⟩
theorem d3_0 : DK cd3 0 (.aload_n 0) 1 := by decide +kernel
theorem d3_1 : DK cd3 1 (.invokespecial 1) 3 := by decide +kernel
theorem d3_4 : DK cd3 4 (.aload_n 0) 1 := by decide +kernel
theorem d3_5 : DK cd3 5 (.sipush 320) 3 := by decide +kernel
theorem d3_8 : DK cd3 8 (.newarray .int) 2 := by decide +kernel
theorem d3_10 : DK cd3 10 (.putfield 9) 3 := by decide +kernel
theorem d3_13 : DK cd3 13 .return_ 1 := by decide +kernel
theorem pn_3 : plainName "com/example/slim_kripke/slimkripke/bdd/CallStack" = true := by first | (simp [plainName, overriddenIn]; done) | decide +kernel
theorem ef_3 (m : MethodId) (x0 : Addr) : entryFrame m #[(.ref x0)] 1 = mkF m 0 #[.val (.ref x0)] [] := by first | (simp [entryFrame, mkF, argsToLocals, Value.category]; done) | rfl
def Q3 (Z : State) (o0 : Addr) (h0 : Heap) (n0 : Nat) (v : Option Value) (h : Heap) (L : List Loc) : Prop := ∃ (b8 : Addr), v = none ∧ Fr n0 L ∧ Keep h0 h [o0] ∧ h0.size ≤ b8 ∧ Fld Z h o0 "com/example/slim_kripke/slimkripke/bdd/CallStack" "fields" "[I" (.ref b8) ∧ Fld Z h o0 "com/example/slim_kripke/slimkripke/bdd/CallStack" "size" "I" (.int 0) ∧ own_A Z h b8 (320 : Int32) own_z
theorem rm3 (l : Launch) (Z : State) (a0 : Array Value) (hw : ∀ d ∈ tables_1, d.before a0 Z = true) (ws : List Jvm.Cond) (o0 : Addr) (h0 : Heap) (n0 : Nat) (Z0 : n0 ≤ h0.size) (I0 : Exa Z h0 o0 "com/example/slim_kripke/slimkripke/bdd/CallStack") (I1 : Fld Z h0 o0 "com/example/slim_kripke/slimkripke/bdd/CallStack" "fields" "[I" .null) (I2 : Fld Z h0 o0 "com/example/slim_kripke/slimkripke/bdd/CallStack" "size" "I" (.int 0)) (gw_o0 : n0 ≤ o0) :
    Met1 l Nm_11 (Jvm.Cond.code Nm_11 prog_7_method_1_code 1 none) ws (rom 1 1 320 12) #[(.ref o0)] Z h0 (Q3 Z o0 h0 n0) := by
  refine MetFree.of_bodySF (plainFor_of_name pn_3) hisR ?_
  intro p e s m args below meth c s₁ Bd hml0 hP hK
  obtain ⟨rfl, hZ, hh⟩ := hP
  have hx := Bd.exec
  have hby := Bd.bytes
  have hml : c.maxLocals = 1 := hml0
  have hown : s.vm.findClass "com/example/slim_kripke/slimkripke/bdd/CallStack" = some m.cls := findClass_of_methodNamed Bd.named
  have X0 : Stand p l e (rom 1 1 320 12) s m _ _ _ _ _ [] 0 0 := Stand.of_body Bd
  have e0 : s₁.heap = h0 := by rw [← hh, Bd.state]; rfl
  have N0 := Fr.nil n0
  have K0 : Keep h0 h0 [o0] := Keep.refl _ _
  have pre0 : Go p e below s₁ _ (mkF m 0 #[(vr o0)] []) _ := fun t k => castTop (ef_3 m o0) k
  have pre1 : Go p e below s₁ _ (mkF m 1 #[(vr o0)] [(.ref o0)]) _ := fun t k => pre0 t (by
    refine XS.aloadN X0.here hx rfl (hb hby d3_0) rfl rfl ?_
    exact k)
  obtain ⟨T2, X2, e2, st2⟩ := initO X0 hx hZ hown (wq hw 16 rfl) (wq hw 8 rfl) (wq hw 9 rfl) e0 (g := (mkF m 1 #[(vr o0)] [(.ref o0)])) rfl (by rw [hml]; rfl) rfl (hb hby d3_1) (by decide) (W := 0) (w00 rfl) (by decide)
  have pre3 := Go.thn pre1 st2
  have pre4 : Go p e below T2 _ (mkF m 8 #[(vr o0)] [(.int 320), (.ref o0)]) _ := fun t k => pre3 t (by
    refine XS.aloadN X2.here hx rfl (hb hby d3_4) rfl rfl ?_
    refine XS.sipush X2.here hx rfl (hb hby d3_5) ?_
    exact k)
  obtain ⟨T5, h5, k5, X5, e5, E5, A5, st5⟩ := newP X2 hx hZ (wq hw 17 rfl) e2 (g := (mkF m 8 #[(vr o0)] [(.int 320), (.ref o0)])) rfl (hb hby d3_8) rfl (by decide) (cap := 320) (by decide) (by decide) (by decide) (by decide)
  obtain ⟨b8, g5⟩ : ∃ z, z = h0.size := ⟨_, rfl⟩
  rw [← g5] at A5 st5
  have gg5 : n0 ≤ b8 := Nat.le_trans Z0 (Nat.le_of_eq g5.symm)
  have sz5 : h0.size ≤ b8 := Nat.le_trans K0.1 (Nat.le_of_eq g5.symm)
  have K5 : Keep h0 h5 [o0] := K0.ext E5
  have Z5 : n0 ≤ h5.size := Nat.le_trans Z0 E5.1
  have V5 : own_A Z h5 b8 (320 : Int32) own_z := own_A.new A5 (by decide)
  have ne5_o0 : o0 ≠ b8 := Nat.ne_of_lt (Nat.lt_of_lt_of_le I0.lt (Nat.le_of_eq g5.symm))
  have x6 := I0.ext E5
  have x7 := I1.ext E5
  have x8 := I2.ext E5
  have pre9 := Go.thn pre4 st5
  obtain ⟨T10, h10, X10, e10, W10, st10⟩ := putF X5 hx hZ hown (host := "") (Or.inl (wq hw 18 rfl)) Via.refl e5 x7 x6 (Or.inl (wq hw 19 rfl)) (wq hw 11 rfl) (ty := (.array .int)) (by decide) rfl rfl (g := (mkF m 10 #[(vr o0)] [(.ref b8), (.ref o0)])) rfl rfl (hb hby d3_10)
  have N10 := Fr.snoc X10 N0 gw_o0
  have K10 : Keep h0 h10 [o0] := K5.wr W10 (Or.inl (List.mem_of_getElem? (i := 0) rfl))
  have Z10 : n0 ≤ h10.size := Nat.le_trans Z5 (Keep.of_wr W10).1
  have x11 := x6.wr W10
  have x12 := x7.same W10
  have x13 := x8.other W10 (Or.inr (slot_ne (Or.inl (wq hw 106 rfl)) (Or.inl (wq hw 19 rfl)) (by decide) (t := .int) (t' := (.array .int)) (by decide) (by decide)))
  have x14 := V5.other W10 (Ne.symm ne5_o0)
  have pre15 := Go.thn pre9 st10
  obtain ⟨fs, hr, hrun, hended, hW, hsame⟩ := X10.leave (v := none) (fun _ => rfl)
  refine ⟨_, _, ?_, hrun, hended, _, _, rfl, ?_, ⟨_, rfl⟩, hW, hsame.mono (by decide) (by decide)⟩
  · exact pre15 _ (X10.returnOut hx Bd.returns (hb hby d3_13) hr)
  · show Q3 Z o0 h0 n0 _ T10.heap _
    rw [e10]
    exact ⟨b8, rfl, N10, K10, sz5, x12, x13, x14⟩
theorem d1_0 : DK cd1 0 (.aload_n 0) 1 := by decide +kernel
theorem d1_1 : DK cd1 1 (.invokespecial 7) 3 := by decide +kernel
theorem d1_4 : DK cd1 4 (.aload_n 0) 1 := by decide +kernel
theorem d1_5 : DK cd1 5 (.new 12) 3 := by decide +kernel
theorem d1_8 : DK cd1 8 .dup 1 := by decide +kernel
theorem d1_9 : DK cd1 9 (.invokespecial 14) 3 := by decide +kernel
theorem d1_12 : DK cd1 12 (.putfield 15) 3 := by decide +kernel
theorem d1_15 : DK cd1 15 (.aload_n 0) 1 := by decide +kernel
theorem d1_16 : DK cd1 16 (.bipush 64) 2 := by decide +kernel
theorem d1_18 : DK cd1 18 (.newarray .int) 2 := by decide +kernel
theorem d1_20 : DK cd1 20 (.putfield 19) 3 := by decide +kernel
theorem d1_23 : DK cd1 23 (.aload_n 0) 1 := by decide +kernel
theorem d1_24 : DK cd1 24 (.iconst 2) 1 := by decide +kernel
theorem d1_25 : DK cd1 25 (.putfield 23) 3 := by decide +kernel
theorem d1_28 : DK cd1 28 (.aload_n 0) 1 := by decide +kernel
theorem d1_29 : DK cd1 29 (.iconst 2) 1 := by decide +kernel
theorem d1_30 : DK cd1 30 (.putfield 27) 3 := by decide +kernel
theorem d1_33 : DK cd1 33 (.iload_n 1) 1 := by decide +kernel
theorem d1_34 : DK cd1 34 (.ifCond .ge 17) 3 := by decide +kernel
theorem d1_51 : DK cd1 51 (.aload_n 0) 1 := by decide +kernel
theorem d1_52 : DK cd1 52 (.iload_n 1) 1 := by decide +kernel
theorem d1_53 : DK cd1 53 (.putfield 39) 3 := by decide +kernel
theorem d1_56 : DK cd1 56 (.aload_n 0) 1 := by decide +kernel
theorem d1_57 : DK cd1 57 (.iload_n 2) 1 := by decide +kernel
theorem d1_58 : DK cd1 58 (.putfield 42) 3 := by decide +kernel
theorem d1_61 : DK cd1 61 (.aload_n 0) 1 := by decide +kernel
theorem d1_62 : DK cd1 62 (.sipush 4096) 3 := by decide +kernel
theorem d1_65 : DK cd1 65 (.invokevirtual 45) 3 := by decide +kernel
theorem d1_68 : DK cd1 68 .return_ 1 := by decide +kernel
theorem pn_1 : plainName "com/example/slim_kripke/slimkripke/bdd/BddManager" = true := by first | (simp [plainName, overriddenIn]; done) | decide +kernel
theorem ef_1 (m : MethodId) (x0 : Addr) (x1 : Int32) (x2 : Int32) : entryFrame m #[(.ref x0), (.int x1), (.int x2)] 3 = mkF m 0 #[.val (.ref x0), .val (.int x1), .val (.int x2)] [] := by first | (simp [entryFrame, mkF, argsToLocals, Value.category]; done) | rfl
def Q1 (Z : State) (o0 : Addr) (p1 : Int32) (p2 : Int32) (h0 : Heap) (n0 : Nat) (v : Option Value) (h : Heap) (L : List Loc) : Prop := v = none ∧ Fr n0 L ∧ Keep h0 h [o0] ∧ ∃ qcs qcf qpe qlv qlo qhi qrf qch qbk qca : Addr, Mg Z n0 h o0 qcs qcf qpe qlv qlo qhi qrf qch qbk qca p1 p2 (2 : Int32) (4094 : Int32) (0 : Int32) (0 : Int32) (2 : Int32) (2 : Int32) (own_up (own_up (own_k (-1 : Int32)) (0 : Int32) p1) (1 : Int32) p1) own_z own_z own_z own_ch0 (own_k (-1 : Int32)) own_ca0 own_z own_z
theorem rm1 (l : Launch) (Z : State) (a0 : Array Value) (hw : ∀ d ∈ tables_1, d.before a0 Z = true) (ws : List Jvm.Cond) (o0 : Addr) (p1 : Int32) (p2 : Int32) (h0 : Heap) (n0 : Nat) (Z0 : n0 ≤ h0.size) (I0 : Exa Z h0 o0 "com/example/slim_kripke/slimkripke/bdd/BddManager") (I1 : Fld Z h0 o0 "com/example/slim_kripke/slimkripke/bdd/BddManager" "variableCount" "I" (.int 0)) (I2 : Fld Z h0 o0 "com/example/slim_kripke/slimkripke/bdd/BddManager" "recursionLimit" "I" (.int 0)) (I3 : Fld Z h0 o0 "com/example/slim_kripke/slimkripke/bdd/BddManager" "firstFree" "I" (.int 0)) (I4 : Fld Z h0 o0 "com/example/slim_kripke/slimkripke/bdd/BddManager" "freeCount" "I" (.int 0)) (I5 : Fld Z h0 o0 "com/example/slim_kripke/slimkripke/bdd/BddManager" "depth" "I" (.int 0)) (I6 : Fld Z h0 o0 "com/example/slim_kripke/slimkripke/bdd/BddManager" "liveNodes" "I" (.int 0)) (I7 : Fld Z h0 o0 "com/example/slim_kripke/slimkripke/bdd/BddManager" "peakLiveNodes" "I" (.int 0)) (I8 : Fld Z h0 o0 "com/example/slim_kripke/slimkripke/bdd/BddManager" "levels" "[I" .null) (I9 : Fld Z h0 o0 "com/example/slim_kripke/slimkripke/bdd/BddManager" "lows" "[I" .null) (I10 : Fld Z h0 o0 "com/example/slim_kripke/slimkripke/bdd/BddManager" "highs" "[I" .null) (I11 : Fld Z h0 o0 "com/example/slim_kripke/slimkripke/bdd/BddManager" "references" "[I" .null) (I12 : Fld Z h0 o0 "com/example/slim_kripke/slimkripke/bdd/BddManager" "chains" "[I" .null) (I13 : Fld Z h0 o0 "com/example/slim_kripke/slimkripke/bdd/BddManager" "buckets" "[I" .null) (I14 : Fld Z h0 o0 "com/example/slim_kripke/slimkripke/bdd/BddManager" "cache" "[I" .null) (I15 : Fld Z h0 o0 "com/example/slim_kripke/slimkripke/bdd/BddManager" "pending" "[I" .null) (I16 : Fld Z h0 o0 "com/example/slim_kripke/slimkripke/bdd/BddManager" "calls" "Lcom/example/slim_kripke/slimkripke/bdd/CallStack;" .null) (gw_o0 : n0 ≤ o0) (hn : ¬ p1 < 0) :
    Met1 l Nm_12 (Jvm.Cond.code Nm_12 prog_5_method_2_code 3 none) ws (rom 4 10 45442 104) #[(.ref o0), (.int p1), (.int p2)] Z h0 (Q1 Z o0 p1 p2 h0 n0) := by
  refine MetFree.of_bodySF (plainFor_of_name pn_1) hisR ?_
  intro p e s m args below meth c s₁ Bd hml0 hP hK
  obtain ⟨rfl, hZ, hh⟩ := hP
  have hx := Bd.exec
  have hby := Bd.bytes
  have hml : c.maxLocals = 3 := hml0
  have hown : s.vm.findClass "com/example/slim_kripke/slimkripke/bdd/BddManager" = some m.cls := findClass_of_methodNamed Bd.named
  have hnm := (name_of_methodNamed Bd.named Bd.method).1
  have X0 : Stand p l e (rom 4 10 45442 104) s m _ _ _ _ _ [] 0 0 := Stand.of_body Bd
  have e0 : s₁.heap = h0 := by rw [← hh, Bd.state]; rfl
  have N0 := Fr.nil n0
  have K0 : Keep h0 h0 [o0] := Keep.refl _ _
  have pre0 : Go p e below s₁ _ (mkF m 0 #[(vr o0), (vi p1), (vi p2)] []) _ := fun t k => castTop (ef_1 m o0 p1 p2) k
  have pre1 : Go p e below s₁ _ (mkF m 1 #[(vr o0), (vi p1), (vi p2)] [(.ref o0)]) _ := fun t k => pre0 t (by
    refine XS.aloadN X0.here hx rfl (hb hby d1_0) rfl rfl ?_
    exact k)
  obtain ⟨T2, X2, e2, st2⟩ := initO X0 hx hZ hown (wq hw 7 rfl) (wq hw 8 rfl) (wq hw 9 rfl) e0 (g := (mkF m 1 #[(vr o0), (vi p1), (vi p2)] [(.ref o0)])) rfl (by rw [hml]; rfl) rfl (hb hby d1_1) (by decide) (W := 0) (w00 rfl) (by decide)
  have pre3 := Go.thn pre1 st2
  have pre4 : Go p e below T2 _ (mkF m 5 #[(vr o0), (vi p1), (vi p2)] [(.ref o0)]) _ := fun t k => pre3 t (by
    refine XS.aloadN X2.here hx rfl (hb hby d1_4) rfl rfl ?_
    exact k)
  obtain ⟨T5, h5, X5, e5, E5, A5, D5, -, st5⟩ := newO X2 hx hZ hown (wq hw 10 rfl) (wq hw 11 rfl) (wq hw 12 rfl) e2 (g := (mkF m 5 #[(vr o0), (vi p1), (vi p2)] [(.ref o0)])) rfl (hb hby d1_5) (by decide) (by decide)
  obtain ⟨b5, g5⟩ : ∃ z, z = h0.size := ⟨_, rfl⟩
  rw [← g5] at A5 D5 st5
  have gg5 : n0 ≤ b5 := Nat.le_trans Z0 (Nat.le_of_eq g5.symm)
  have sz5 : h0.size ≤ b5 := Nat.le_trans K0.1 (Nat.le_of_eq g5.symm)
  have K5 : Keep h0 h5 [o0] := K0.ext E5
  have Z5 : n0 ≤ h5.size := Nat.le_trans Z0 E5.1
  have ne5_o0 : o0 ≠ b5 := Nat.ne_of_lt (Nat.lt_of_lt_of_le I0.lt (Nat.le_of_eq g5.symm))
  have x6 := I0.ext E5
  have x7 := I1.ext E5
  have x8 := I2.ext E5
  have x9 := I3.ext E5
  have x10 := I4.ext E5
  have x11 := I5.ext E5
  have x12 := I6.ext E5
  have x13 := I7.ext E5
  have x14 := I8.ext E5
  have x15 := I9.ext E5
  have x16 := I10.ext E5
  have x17 := I11.ext E5
  have x18 := I12.ext E5
  have x19 := I13.ext E5
  have x20 := I14.ext E5
  have x21 := I15.ext E5
  have x22 := I16.ext E5
  have Fn5_fields : Fld Z h5 b5 "com/example/slim_kripke/slimkripke/bdd/CallStack" "fields" "[I" .null := D5 (Or.inl (wq hw 19 rfl)) (ty := (.array .int)) (by decide)
  have Fn5_size : Fld Z h5 b5 "com/example/slim_kripke/slimkripke/bdd/CallStack" "size" "I" (.int 0) := D5 (Or.inl (wq hw 106 rfl)) (ty := .int) (by decide)
  have pre23 := Go.thn pre4 st5
  have pre24 : Go p e below T5 _ (mkF m 9 #[(vr o0), (vi p1), (vi p2)] [(.ref b5), (.ref b5), (.ref o0)]) _ := fun t k => pre23 t (by
    refine XS.dup X5.here hx rfl (hb hby d1_8) rfl rfl ?_
    exact k)
  obtain ⟨_, _, ⟨T25, L25, k25, n25⟩, -, X25, ⟨Lc25, hQ25, l25, y25, z25⟩, st25⟩ := X5.specialBack hx (y := Nm_11) rfl hown (mq hZ hw 13 rfl) (mq hZ hw 14 rfl) (mq hZ hw 15 rfl) (by decide) (backOf (W := 2) (rm3 l Z a0 hw [] b5 h5 n0 Z5 A5 Fn5_fields Fn5_size gg5) hZ (wq hw 15 rfl) (wq hw 12 rfl) (by decide) (by decide)) (g := (mkF m 9 #[(vr o0), (vi p1), (vi p2)] [(.ref b5), (.ref b5), (.ref o0)])) rfl (by rw [hml]; rfl) (Steps.refl _) (a := b5) (argsL := []) (rest := [(.ref b5), (.ref o0)]) (lenOf pd___V rfl) rfl (w00 rfl) (hb hby d1_9) (fun _ _ => ⟨rfl, e5, (by decide : 1 + 1 ≤ _), (by decide : 2 + 320 ≤ _)⟩)
  dsimp only [Pt.U, Pt.locs, Pt.cells, Pt.slots] at X25 l25 y25 z25 st25 hQ25
  subst y25 z25
  obtain ⟨b9_0, rfl, Nq25, Kq25, gz25_b9_0, o25_0, o25_1, o25_2⟩ := hQ25
  have N25 := FrE l25 N0 Nq25
  have K25 : Keep h0 T25.heap [o0] := K5.trans Kq25 (allS (Or.inr sz5) all0)
  have Z25 : n0 ≤ T25.heap.size := Nat.le_trans Z5 Kq25.1
  have x26 := x6.keep Kq25
  have x27 := x7.keep Kq25 (ninS ne5_o0 nin0)
  have x28 := x8.keep Kq25 (ninS ne5_o0 nin0)
  have x29 := x9.keep Kq25 (ninS ne5_o0 nin0)
  have x30 := x10.keep Kq25 (ninS ne5_o0 nin0)
  have x31 := x11.keep Kq25 (ninS ne5_o0 nin0)
  have x32 := x12.keep Kq25 (ninS ne5_o0 nin0)
  have x33 := x13.keep Kq25 (ninS ne5_o0 nin0)
  have x34 := x14.keep Kq25 (ninS ne5_o0 nin0)
  have x35 := x15.keep Kq25 (ninS ne5_o0 nin0)
  have x36 := x16.keep Kq25 (ninS ne5_o0 nin0)
  have x37 := x17.keep Kq25 (ninS ne5_o0 nin0)
  have x38 := x18.keep Kq25 (ninS ne5_o0 nin0)
  have x39 := x19.keep Kq25 (ninS ne5_o0 nin0)
  have x40 := x20.keep Kq25 (ninS ne5_o0 nin0)
  have x41 := x21.keep Kq25 (ninS ne5_o0 nin0)
  have x42 := x22.keep Kq25 (ninS ne5_o0 nin0)
  have x43 := A5.keep Kq25
  have gg25_b9_0 : n0 ≤ b9_0 := Nat.le_trans Z5 gz25_b9_0
  have sz25_b9_0 : h0.size ≤ b9_0 := Nat.le_trans K5.1 gz25_b9_0
  have ne25_o0_b9_0 : o0 ≠ b9_0 := Nat.ne_of_lt (Nat.lt_of_lt_of_le x6.lt gz25_b9_0)
  have ne25_b5_b9_0 : b5 ≠ b9_0 := Nat.ne_of_lt (Nat.lt_of_lt_of_le A5.lt gz25_b9_0)
  have pre44 := Go.trn pre24 st25
  obtain ⟨T45, h45, X45, e45, W45, st45⟩ := putF X25 hx hZ hown (host := "") (Or.inl (wq hw 20 rfl)) Via.refl rfl x42 x26 (Or.inr ⟨(wq hw 21 rfl), rfl, hnm⟩) (wq hw 2 rfl) (ty := (.object "com/example/slim_kripke/slimkripke/bdd/CallStack")) (by decide) rfl rfl (g := (mkF m 12 #[(vr o0), (vi p1), (vi p2)] [(.ref b5), (.ref o0)])) rfl rfl (hb hby d1_12)
  have N45 := Fr.snoc X45 N25 gw_o0
  have K45 : Keep h0 h45 [o0] := K25.wr W45 (Or.inl (List.mem_of_getElem? (i := 0) rfl))
  have Z45 : n0 ≤ h45.size := Nat.le_trans Z25 (Keep.of_wr W45).1
  have x46 := x26.wr W45
  have x47 := x27.other W45 (Or.inr (slot_ne (Or.inr (wq hw 29 rfl)) (Or.inr (wq hw 21 rfl)) (by decide) (t := .int) (t' := (.object "com/example/slim_kripke/slimkripke/bdd/CallStack")) (by decide) (by decide)))
  have x48 := x28.other W45 (Or.inr (slot_ne (Or.inr (wq hw 31 rfl)) (Or.inr (wq hw 21 rfl)) (by decide) (t := .int) (t' := (.object "com/example/slim_kripke/slimkripke/bdd/CallStack")) (by decide) (by decide)))
  have x49 := x29.other W45 (Or.inr (slot_ne (Or.inl (wq hw 53 rfl)) (Or.inr (wq hw 21 rfl)) (by decide) (t := .int) (t' := (.object "com/example/slim_kripke/slimkripke/bdd/CallStack")) (by decide) (by decide)))
  have x50 := x30.other W45 (Or.inr (slot_ne (Or.inl (wq hw 55 rfl)) (Or.inr (wq hw 21 rfl)) (by decide) (t := .int) (t' := (.object "com/example/slim_kripke/slimkripke/bdd/CallStack")) (by decide) (by decide)))
  have x51 := x31.other W45 (Or.inr (slot_ne (Or.inl (wq hw 99 rfl)) (Or.inr (wq hw 21 rfl)) (by decide) (t := .int) (t' := (.object "com/example/slim_kripke/slimkripke/bdd/CallStack")) (by decide) (by decide)))
  have x52 := x32.other W45 (Or.inr (slot_ne (Or.inl (wq hw 25 rfl)) (Or.inr (wq hw 21 rfl)) (by decide) (t := .int) (t' := (.object "com/example/slim_kripke/slimkripke/bdd/CallStack")) (by decide) (by decide)))
  have x53 := x33.other W45 (Or.inr (slot_ne (Or.inl (wq hw 27 rfl)) (Or.inr (wq hw 21 rfl)) (by decide) (t := .int) (t' := (.object "com/example/slim_kripke/slimkripke/bdd/CallStack")) (by decide) (by decide)))
  have x54 := x34.other W45 (Or.inr (slot_ne (Or.inl (wq hw 37 rfl)) (Or.inr (wq hw 21 rfl)) (by decide) (t := (.array .int)) (t' := (.object "com/example/slim_kripke/slimkripke/bdd/CallStack")) (by decide) (by decide)))
  have x55 := x35.other W45 (Or.inr (slot_ne (Or.inl (wq hw 39 rfl)) (Or.inr (wq hw 21 rfl)) (by decide) (t := (.array .int)) (t' := (.object "com/example/slim_kripke/slimkripke/bdd/CallStack")) (by decide) (by decide)))
  have x56 := x36.other W45 (Or.inr (slot_ne (Or.inl (wq hw 41 rfl)) (Or.inr (wq hw 21 rfl)) (by decide) (t := (.array .int)) (t' := (.object "com/example/slim_kripke/slimkripke/bdd/CallStack")) (by decide) (by decide)))
  have x57 := x37.other W45 (Or.inr (slot_ne (Or.inl (wq hw 43 rfl)) (Or.inr (wq hw 21 rfl)) (by decide) (t := (.array .int)) (t' := (.object "com/example/slim_kripke/slimkripke/bdd/CallStack")) (by decide) (by decide)))
  have x58 := x38.other W45 (Or.inr (slot_ne (Or.inl (wq hw 45 rfl)) (Or.inr (wq hw 21 rfl)) (by decide) (t := (.array .int)) (t' := (.object "com/example/slim_kripke/slimkripke/bdd/CallStack")) (by decide) (by decide)))
  have x59 := x39.other W45 (Or.inr (slot_ne (Or.inl (wq hw 47 rfl)) (Or.inr (wq hw 21 rfl)) (by decide) (t := (.array .int)) (t' := (.object "com/example/slim_kripke/slimkripke/bdd/CallStack")) (by decide) (by decide)))
  have x60 := x40.other W45 (Or.inr (slot_ne (Or.inl (wq hw 75 rfl)) (Or.inr (wq hw 21 rfl)) (by decide) (t := (.array .int)) (t' := (.object "com/example/slim_kripke/slimkripke/bdd/CallStack")) (by decide) (by decide)))
  have x61 := x41.other W45 (Or.inr (slot_ne (Or.inl (wq hw 23 rfl)) (Or.inr (wq hw 21 rfl)) (by decide) (t := (.array .int)) (t' := (.object "com/example/slim_kripke/slimkripke/bdd/CallStack")) (by decide) (by decide)))
  have x62 := x42.same W45
  have x63 := x43.wr W45
  have x64 := o25_0.other W45 (Or.inl (Ne.symm ne5_o0))
  have x65 := o25_1.other W45 (Or.inl (Ne.symm ne5_o0))
  have x66 := o25_2.other W45 (Ne.symm ne25_o0_b9_0)
  have pre67 := Go.thn pre44 st45
  have pre68 : Go p e below T45 _ (mkF m 18 #[(vr o0), (vi p1), (vi p2)] [(.int 64), (.ref o0)]) _ := fun t k => pre67 t (by
    refine XS.aloadN X45.here hx rfl (hb hby d1_15) rfl rfl ?_
    refine XS.bipush X45.here hx rfl (hb hby d1_16) ?_
    exact k)
  obtain ⟨T69, h69, k69, X69, e69, E69, A69, st69⟩ := newP X45 hx hZ (wq hw 17 rfl) e45 (g := (mkF m 18 #[(vr o0), (vi p1), (vi p2)] [(.int 64), (.ref o0)])) rfl (hb hby d1_18) rfl (by decide) (cap := 64) (by decide) (by decide) (by decide) (by decide)
  obtain ⟨b18, g69⟩ : ∃ z, z = h45.size := ⟨_, rfl⟩
  rw [← g69] at A69 st69
  have gg69 : n0 ≤ b18 := Nat.le_trans Z45 (Nat.le_of_eq g69.symm)
  have sz69 : h0.size ≤ b18 := Nat.le_trans K45.1 (Nat.le_of_eq g69.symm)
  have K69 : Keep h0 h69 [o0] := K45.ext E69
  have Z69 : n0 ≤ h69.size := Nat.le_trans Z45 E69.1
  have V69 : own_A Z h69 b18 (64 : Int32) own_z := own_A.new A69 (by decide)
  have ne69_o0 : o0 ≠ b18 := Nat.ne_of_lt (Nat.lt_of_lt_of_le x46.lt (Nat.le_of_eq g69.symm))
  have ne69_b5 : b5 ≠ b18 := Nat.ne_of_lt (Nat.lt_of_lt_of_le x63.lt (Nat.le_of_eq g69.symm))
  have ne69_b9_0 : b9_0 ≠ b18 := Nat.ne_of_lt (Nat.lt_of_lt_of_le x66.lt (Nat.le_of_eq g69.symm))
  have x70 := x46.ext E69
  have x71 := x47.ext E69
  have x72 := x48.ext E69
  have x73 := x49.ext E69
  have x74 := x50.ext E69
  have x75 := x51.ext E69
  have x76 := x52.ext E69
  have x77 := x53.ext E69
  have x78 := x54.ext E69
  have x79 := x55.ext E69
  have x80 := x56.ext E69
  have x81 := x57.ext E69
  have x82 := x58.ext E69
  have x83 := x59.ext E69
  have x84 := x60.ext E69
  have x85 := x61.ext E69
  have x86 := x62.ext E69
  have x87 := x63.ext E69
  have x88 := x64.ext E69
  have x89 := x65.ext E69
  have x90 := x66.ext E69
  have pre91 := Go.thn pre68 st69
  obtain ⟨T92, h92, X92, e92, W92, st92⟩ := putF X69 hx hZ hown (host := "") (Or.inl (wq hw 22 rfl)) Via.refl e69 x85 x70 (Or.inl (wq hw 23 rfl)) (wq hw 2 rfl) (ty := (.array .int)) (by decide) rfl rfl (g := (mkF m 20 #[(vr o0), (vi p1), (vi p2)] [(.ref b18), (.ref o0)])) rfl rfl (hb hby d1_20)
  have N92 := Fr.snoc X92 N45 gw_o0
  have K92 : Keep h0 h92 [o0] := K69.wr W92 (Or.inl (List.mem_of_getElem? (i := 0) rfl))
  have Z92 : n0 ≤ h92.size := Nat.le_trans Z69 (Keep.of_wr W92).1
  have x93 := x70.wr W92
  have x94 := x71.other W92 (Or.inr (slot_ne (Or.inr (wq hw 29 rfl)) (Or.inl (wq hw 23 rfl)) (by decide) (t := .int) (t' := (.array .int)) (by decide) (by decide)))
  have x95 := x72.other W92 (Or.inr (slot_ne (Or.inr (wq hw 31 rfl)) (Or.inl (wq hw 23 rfl)) (by decide) (t := .int) (t' := (.array .int)) (by decide) (by decide)))
  have x96 := x73.other W92 (Or.inr (slot_ne (Or.inl (wq hw 53 rfl)) (Or.inl (wq hw 23 rfl)) (by decide) (t := .int) (t' := (.array .int)) (by decide) (by decide)))
  have x97 := x74.other W92 (Or.inr (slot_ne (Or.inl (wq hw 55 rfl)) (Or.inl (wq hw 23 rfl)) (by decide) (t := .int) (t' := (.array .int)) (by decide) (by decide)))
  have x98 := x75.other W92 (Or.inr (slot_ne (Or.inl (wq hw 99 rfl)) (Or.inl (wq hw 23 rfl)) (by decide) (t := .int) (t' := (.array .int)) (by decide) (by decide)))
  have x99 := x76.other W92 (Or.inr (slot_ne (Or.inl (wq hw 25 rfl)) (Or.inl (wq hw 23 rfl)) (by decide) (t := .int) (t' := (.array .int)) (by decide) (by decide)))
  have x100 := x77.other W92 (Or.inr (slot_ne (Or.inl (wq hw 27 rfl)) (Or.inl (wq hw 23 rfl)) (by decide) (t := .int) (t' := (.array .int)) (by decide) (by decide)))
  have x101 := x78.other W92 (Or.inr (slot_ne (Or.inl (wq hw 37 rfl)) (Or.inl (wq hw 23 rfl)) (by decide) (t := (.array .int)) (t' := (.array .int)) (by decide) (by decide)))
  have x102 := x79.other W92 (Or.inr (slot_ne (Or.inl (wq hw 39 rfl)) (Or.inl (wq hw 23 rfl)) (by decide) (t := (.array .int)) (t' := (.array .int)) (by decide) (by decide)))
  have x103 := x80.other W92 (Or.inr (slot_ne (Or.inl (wq hw 41 rfl)) (Or.inl (wq hw 23 rfl)) (by decide) (t := (.array .int)) (t' := (.array .int)) (by decide) (by decide)))
  have x104 := x81.other W92 (Or.inr (slot_ne (Or.inl (wq hw 43 rfl)) (Or.inl (wq hw 23 rfl)) (by decide) (t := (.array .int)) (t' := (.array .int)) (by decide) (by decide)))
  have x105 := x82.other W92 (Or.inr (slot_ne (Or.inl (wq hw 45 rfl)) (Or.inl (wq hw 23 rfl)) (by decide) (t := (.array .int)) (t' := (.array .int)) (by decide) (by decide)))
  have x106 := x83.other W92 (Or.inr (slot_ne (Or.inl (wq hw 47 rfl)) (Or.inl (wq hw 23 rfl)) (by decide) (t := (.array .int)) (t' := (.array .int)) (by decide) (by decide)))
  have x107 := x84.other W92 (Or.inr (slot_ne (Or.inl (wq hw 75 rfl)) (Or.inl (wq hw 23 rfl)) (by decide) (t := (.array .int)) (t' := (.array .int)) (by decide) (by decide)))
  have x108 := x85.same W92
  have x109 := x86.other W92 (Or.inr (slot_ne (Or.inr (wq hw 21 rfl)) (Or.inl (wq hw 23 rfl)) (by decide) (t := (.object "com/example/slim_kripke/slimkripke/bdd/CallStack")) (t' := (.array .int)) (by decide) (by decide)))
  have x110 := x87.wr W92
  have x111 := x88.other W92 (Or.inl (Ne.symm ne5_o0))
  have x112 := x89.other W92 (Or.inl (Ne.symm ne5_o0))
  have x113 := x90.other W92 (Ne.symm ne25_o0_b9_0)
  have x114 := V69.other W92 (Ne.symm ne69_o0)
  have pre115 := Go.thn pre91 st92
  have pre116 : Go p e below T92 _ (mkF m 25 #[(vr o0), (vi p1), (vi p2)] [(.int 2), (.ref o0)]) _ := fun t k => pre115 t (by
    refine XS.aloadN X92.here hx rfl (hb hby d1_23) rfl rfl ?_
    refine XS.iconst X92.here hx rfl (hb hby d1_24) ?_
    exact k)
  obtain ⟨T117, h117, X117, e117, W117, st117⟩ := putF X92 hx hZ hown (host := "") (Or.inl (wq hw 24 rfl)) Via.refl e92 x99 x93 (Or.inl (wq hw 25 rfl)) (wq hw 2 rfl) (ty := .int) (by decide) rfl rfl (g := (mkF m 25 #[(vr o0), (vi p1), (vi p2)] [(.int 2), (.ref o0)])) rfl rfl (hb hby d1_25)
  have N117 := Fr.snoc X117 N92 gw_o0
  have K117 : Keep h0 h117 [o0] := K92.wr W117 (Or.inl (List.mem_of_getElem? (i := 0) rfl))
  have Z117 : n0 ≤ h117.size := Nat.le_trans Z92 (Keep.of_wr W117).1
  have x118 := x93.wr W117
  have x119 := x94.other W117 (Or.inr (slot_ne (Or.inr (wq hw 29 rfl)) (Or.inl (wq hw 25 rfl)) (by decide) (t := .int) (t' := .int) (by decide) (by decide)))
  have x120 := x95.other W117 (Or.inr (slot_ne (Or.inr (wq hw 31 rfl)) (Or.inl (wq hw 25 rfl)) (by decide) (t := .int) (t' := .int) (by decide) (by decide)))
  have x121 := x96.other W117 (Or.inr (slot_ne (Or.inl (wq hw 53 rfl)) (Or.inl (wq hw 25 rfl)) (by decide) (t := .int) (t' := .int) (by decide) (by decide)))
  have x122 := x97.other W117 (Or.inr (slot_ne (Or.inl (wq hw 55 rfl)) (Or.inl (wq hw 25 rfl)) (by decide) (t := .int) (t' := .int) (by decide) (by decide)))
  have x123 := x98.other W117 (Or.inr (slot_ne (Or.inl (wq hw 99 rfl)) (Or.inl (wq hw 25 rfl)) (by decide) (t := .int) (t' := .int) (by decide) (by decide)))
  have x124 := x99.same W117
  have x125 := x100.other W117 (Or.inr (slot_ne (Or.inl (wq hw 27 rfl)) (Or.inl (wq hw 25 rfl)) (by decide) (t := .int) (t' := .int) (by decide) (by decide)))
  have x126 := x101.other W117 (Or.inr (slot_ne (Or.inl (wq hw 37 rfl)) (Or.inl (wq hw 25 rfl)) (by decide) (t := (.array .int)) (t' := .int) (by decide) (by decide)))
  have x127 := x102.other W117 (Or.inr (slot_ne (Or.inl (wq hw 39 rfl)) (Or.inl (wq hw 25 rfl)) (by decide) (t := (.array .int)) (t' := .int) (by decide) (by decide)))
  have x128 := x103.other W117 (Or.inr (slot_ne (Or.inl (wq hw 41 rfl)) (Or.inl (wq hw 25 rfl)) (by decide) (t := (.array .int)) (t' := .int) (by decide) (by decide)))
  have x129 := x104.other W117 (Or.inr (slot_ne (Or.inl (wq hw 43 rfl)) (Or.inl (wq hw 25 rfl)) (by decide) (t := (.array .int)) (t' := .int) (by decide) (by decide)))
  have x130 := x105.other W117 (Or.inr (slot_ne (Or.inl (wq hw 45 rfl)) (Or.inl (wq hw 25 rfl)) (by decide) (t := (.array .int)) (t' := .int) (by decide) (by decide)))
  have x131 := x106.other W117 (Or.inr (slot_ne (Or.inl (wq hw 47 rfl)) (Or.inl (wq hw 25 rfl)) (by decide) (t := (.array .int)) (t' := .int) (by decide) (by decide)))
  have x132 := x107.other W117 (Or.inr (slot_ne (Or.inl (wq hw 75 rfl)) (Or.inl (wq hw 25 rfl)) (by decide) (t := (.array .int)) (t' := .int) (by decide) (by decide)))
  have x133 := x108.other W117 (Or.inr (slot_ne (Or.inl (wq hw 23 rfl)) (Or.inl (wq hw 25 rfl)) (by decide) (t := (.array .int)) (t' := .int) (by decide) (by decide)))
  have x134 := x109.other W117 (Or.inr (slot_ne (Or.inr (wq hw 21 rfl)) (Or.inl (wq hw 25 rfl)) (by decide) (t := (.object "com/example/slim_kripke/slimkripke/bdd/CallStack")) (t' := .int) (by decide) (by decide)))
  have x135 := x110.wr W117
  have x136 := x111.other W117 (Or.inl (Ne.symm ne5_o0))
  have x137 := x112.other W117 (Or.inl (Ne.symm ne5_o0))
  have x138 := x113.other W117 (Ne.symm ne25_o0_b9_0)
  have x139 := x114.other W117 (Ne.symm ne69_o0)
  have pre140 := Go.thn pre116 st117
  have pre141 : Go p e below T117 _ (mkF m 30 #[(vr o0), (vi p1), (vi p2)] [(.int 2), (.ref o0)]) _ := fun t k => pre140 t (by
    refine XS.aloadN X117.here hx rfl (hb hby d1_28) rfl rfl ?_
    refine XS.iconst X117.here hx rfl (hb hby d1_29) ?_
    exact k)
  obtain ⟨T142, h142, X142, e142, W142, st142⟩ := putF X117 hx hZ hown (host := "") (Or.inl (wq hw 26 rfl)) Via.refl e117 x125 x118 (Or.inl (wq hw 27 rfl)) (wq hw 2 rfl) (ty := .int) (by decide) rfl rfl (g := (mkF m 30 #[(vr o0), (vi p1), (vi p2)] [(.int 2), (.ref o0)])) rfl rfl (hb hby d1_30)
  have N142 := Fr.snoc X142 N117 gw_o0
  have K142 : Keep h0 h142 [o0] := K117.wr W142 (Or.inl (List.mem_of_getElem? (i := 0) rfl))
  have Z142 : n0 ≤ h142.size := Nat.le_trans Z117 (Keep.of_wr W142).1
  have x143 := x118.wr W142
  have x144 := x119.other W142 (Or.inr (slot_ne (Or.inr (wq hw 29 rfl)) (Or.inl (wq hw 27 rfl)) (by decide) (t := .int) (t' := .int) (by decide) (by decide)))
  have x145 := x120.other W142 (Or.inr (slot_ne (Or.inr (wq hw 31 rfl)) (Or.inl (wq hw 27 rfl)) (by decide) (t := .int) (t' := .int) (by decide) (by decide)))
  have x146 := x121.other W142 (Or.inr (slot_ne (Or.inl (wq hw 53 rfl)) (Or.inl (wq hw 27 rfl)) (by decide) (t := .int) (t' := .int) (by decide) (by decide)))
  have x147 := x122.other W142 (Or.inr (slot_ne (Or.inl (wq hw 55 rfl)) (Or.inl (wq hw 27 rfl)) (by decide) (t := .int) (t' := .int) (by decide) (by decide)))
  have x148 := x123.other W142 (Or.inr (slot_ne (Or.inl (wq hw 99 rfl)) (Or.inl (wq hw 27 rfl)) (by decide) (t := .int) (t' := .int) (by decide) (by decide)))
  have x149 := x124.other W142 (Or.inr (slot_ne (Or.inl (wq hw 25 rfl)) (Or.inl (wq hw 27 rfl)) (by decide) (t := .int) (t' := .int) (by decide) (by decide)))
  have x150 := x125.same W142
  have x151 := x126.other W142 (Or.inr (slot_ne (Or.inl (wq hw 37 rfl)) (Or.inl (wq hw 27 rfl)) (by decide) (t := (.array .int)) (t' := .int) (by decide) (by decide)))
  have x152 := x127.other W142 (Or.inr (slot_ne (Or.inl (wq hw 39 rfl)) (Or.inl (wq hw 27 rfl)) (by decide) (t := (.array .int)) (t' := .int) (by decide) (by decide)))
  have x153 := x128.other W142 (Or.inr (slot_ne (Or.inl (wq hw 41 rfl)) (Or.inl (wq hw 27 rfl)) (by decide) (t := (.array .int)) (t' := .int) (by decide) (by decide)))
  have x154 := x129.other W142 (Or.inr (slot_ne (Or.inl (wq hw 43 rfl)) (Or.inl (wq hw 27 rfl)) (by decide) (t := (.array .int)) (t' := .int) (by decide) (by decide)))
  have x155 := x130.other W142 (Or.inr (slot_ne (Or.inl (wq hw 45 rfl)) (Or.inl (wq hw 27 rfl)) (by decide) (t := (.array .int)) (t' := .int) (by decide) (by decide)))
  have x156 := x131.other W142 (Or.inr (slot_ne (Or.inl (wq hw 47 rfl)) (Or.inl (wq hw 27 rfl)) (by decide) (t := (.array .int)) (t' := .int) (by decide) (by decide)))
  have x157 := x132.other W142 (Or.inr (slot_ne (Or.inl (wq hw 75 rfl)) (Or.inl (wq hw 27 rfl)) (by decide) (t := (.array .int)) (t' := .int) (by decide) (by decide)))
  have x158 := x133.other W142 (Or.inr (slot_ne (Or.inl (wq hw 23 rfl)) (Or.inl (wq hw 27 rfl)) (by decide) (t := (.array .int)) (t' := .int) (by decide) (by decide)))
  have x159 := x134.other W142 (Or.inr (slot_ne (Or.inr (wq hw 21 rfl)) (Or.inl (wq hw 27 rfl)) (by decide) (t := (.object "com/example/slim_kripke/slimkripke/bdd/CallStack")) (t' := .int) (by decide) (by decide)))
  have x160 := x135.wr W142
  have x161 := x136.other W142 (Or.inl (Ne.symm ne5_o0))
  have x162 := x137.other W142 (Or.inl (Ne.symm ne5_o0))
  have x163 := x138.other W142 (Ne.symm ne25_o0_b9_0)
  have x164 := x139.other W142 (Ne.symm ne69_o0)
  have pre165 := Go.thn pre141 st142
  have pre166 : Go p e below T142 _ (mkF m 53 #[(vr o0), (vi p1), (vi p2)] [(.int p1), (.ref o0)]) _ := fun t k => pre165 t (by
    refine XS.iloadN X142.here hx rfl (hb hby d1_33) rfl ?_
    refine XS.ifYes X142.here hx rfl (pc0 := 34) (pc' := 51) rfl (hb hby d1_34) rfl ((if0 _ _).trans (flt hn).2.1) (by decide) (by decide) ?_
    refine XS.aloadN X142.here hx rfl (hb hby d1_51) rfl rfl ?_
    refine XS.iloadN X142.here hx rfl (hb hby d1_52) rfl ?_
    exact k)
  obtain ⟨T167, h167, X167, e167, W167, st167⟩ := putF X142 hx hZ hown (host := "") (Or.inl (wq hw 28 rfl)) Via.refl e142 x144 x143 (Or.inr ⟨(wq hw 29 rfl), rfl, hnm⟩) (wq hw 2 rfl) (ty := .int) (by decide) rfl rfl (g := (mkF m 53 #[(vr o0), (vi p1), (vi p2)] [(.int p1), (.ref o0)])) rfl rfl (hb hby d1_53)
  have N167 := Fr.snoc X167 N142 gw_o0
  have K167 : Keep h0 h167 [o0] := K142.wr W167 (Or.inl (List.mem_of_getElem? (i := 0) rfl))
  have Z167 : n0 ≤ h167.size := Nat.le_trans Z142 (Keep.of_wr W167).1
  have x168 := x143.wr W167
  have x169 := x144.same W167
  have x170 := x145.other W167 (Or.inr (slot_ne (Or.inr (wq hw 31 rfl)) (Or.inr (wq hw 29 rfl)) (by decide) (t := .int) (t' := .int) (by decide) (by decide)))
  have x171 := x146.other W167 (Or.inr (slot_ne (Or.inl (wq hw 53 rfl)) (Or.inr (wq hw 29 rfl)) (by decide) (t := .int) (t' := .int) (by decide) (by decide)))
  have x172 := x147.other W167 (Or.inr (slot_ne (Or.inl (wq hw 55 rfl)) (Or.inr (wq hw 29 rfl)) (by decide) (t := .int) (t' := .int) (by decide) (by decide)))
  have x173 := x148.other W167 (Or.inr (slot_ne (Or.inl (wq hw 99 rfl)) (Or.inr (wq hw 29 rfl)) (by decide) (t := .int) (t' := .int) (by decide) (by decide)))
  have x174 := x149.other W167 (Or.inr (slot_ne (Or.inl (wq hw 25 rfl)) (Or.inr (wq hw 29 rfl)) (by decide) (t := .int) (t' := .int) (by decide) (by decide)))
  have x175 := x150.other W167 (Or.inr (slot_ne (Or.inl (wq hw 27 rfl)) (Or.inr (wq hw 29 rfl)) (by decide) (t := .int) (t' := .int) (by decide) (by decide)))
  have x176 := x151.other W167 (Or.inr (slot_ne (Or.inl (wq hw 37 rfl)) (Or.inr (wq hw 29 rfl)) (by decide) (t := (.array .int)) (t' := .int) (by decide) (by decide)))
  have x177 := x152.other W167 (Or.inr (slot_ne (Or.inl (wq hw 39 rfl)) (Or.inr (wq hw 29 rfl)) (by decide) (t := (.array .int)) (t' := .int) (by decide) (by decide)))
  have x178 := x153.other W167 (Or.inr (slot_ne (Or.inl (wq hw 41 rfl)) (Or.inr (wq hw 29 rfl)) (by decide) (t := (.array .int)) (t' := .int) (by decide) (by decide)))
  have x179 := x154.other W167 (Or.inr (slot_ne (Or.inl (wq hw 43 rfl)) (Or.inr (wq hw 29 rfl)) (by decide) (t := (.array .int)) (t' := .int) (by decide) (by decide)))
  have x180 := x155.other W167 (Or.inr (slot_ne (Or.inl (wq hw 45 rfl)) (Or.inr (wq hw 29 rfl)) (by decide) (t := (.array .int)) (t' := .int) (by decide) (by decide)))
  have x181 := x156.other W167 (Or.inr (slot_ne (Or.inl (wq hw 47 rfl)) (Or.inr (wq hw 29 rfl)) (by decide) (t := (.array .int)) (t' := .int) (by decide) (by decide)))
  have x182 := x157.other W167 (Or.inr (slot_ne (Or.inl (wq hw 75 rfl)) (Or.inr (wq hw 29 rfl)) (by decide) (t := (.array .int)) (t' := .int) (by decide) (by decide)))
  have x183 := x158.other W167 (Or.inr (slot_ne (Or.inl (wq hw 23 rfl)) (Or.inr (wq hw 29 rfl)) (by decide) (t := (.array .int)) (t' := .int) (by decide) (by decide)))
  have x184 := x159.other W167 (Or.inr (slot_ne (Or.inr (wq hw 21 rfl)) (Or.inr (wq hw 29 rfl)) (by decide) (t := (.object "com/example/slim_kripke/slimkripke/bdd/CallStack")) (t' := .int) (by decide) (by decide)))
  have x185 := x160.wr W167
  have x186 := x161.other W167 (Or.inl (Ne.symm ne5_o0))
  have x187 := x162.other W167 (Or.inl (Ne.symm ne5_o0))
  have x188 := x163.other W167 (Ne.symm ne25_o0_b9_0)
  have x189 := x164.other W167 (Ne.symm ne69_o0)
  have pre190 := Go.thn pre166 st167
  have pre191 : Go p e below T167 _ (mkF m 58 #[(vr o0), (vi p1), (vi p2)] [(.int p2), (.ref o0)]) _ := fun t k => pre190 t (by
    refine XS.aloadN X167.here hx rfl (hb hby d1_56) rfl rfl ?_
    refine XS.iloadN X167.here hx rfl (hb hby d1_57) rfl ?_
    exact k)
  obtain ⟨T192, h192, X192, e192, W192, st192⟩ := putF X167 hx hZ hown (host := "") (Or.inl (wq hw 30 rfl)) Via.refl e167 x170 x168 (Or.inr ⟨(wq hw 31 rfl), rfl, hnm⟩) (wq hw 2 rfl) (ty := .int) (by decide) rfl rfl (g := (mkF m 58 #[(vr o0), (vi p1), (vi p2)] [(.int p2), (.ref o0)])) rfl rfl (hb hby d1_58)
  have N192 := Fr.snoc X192 N167 gw_o0
  have K192 : Keep h0 h192 [o0] := K167.wr W192 (Or.inl (List.mem_of_getElem? (i := 0) rfl))
  have Z192 : n0 ≤ h192.size := Nat.le_trans Z167 (Keep.of_wr W192).1
  have x193 := x168.wr W192
  have x194 := x169.other W192 (Or.inr (slot_ne (Or.inr (wq hw 29 rfl)) (Or.inr (wq hw 31 rfl)) (by decide) (t := .int) (t' := .int) (by decide) (by decide)))
  have x195 := x170.same W192
  have x196 := x171.other W192 (Or.inr (slot_ne (Or.inl (wq hw 53 rfl)) (Or.inr (wq hw 31 rfl)) (by decide) (t := .int) (t' := .int) (by decide) (by decide)))
  have x197 := x172.other W192 (Or.inr (slot_ne (Or.inl (wq hw 55 rfl)) (Or.inr (wq hw 31 rfl)) (by decide) (t := .int) (t' := .int) (by decide) (by decide)))
  have x198 := x173.other W192 (Or.inr (slot_ne (Or.inl (wq hw 99 rfl)) (Or.inr (wq hw 31 rfl)) (by decide) (t := .int) (t' := .int) (by decide) (by decide)))
  have x199 := x174.other W192 (Or.inr (slot_ne (Or.inl (wq hw 25 rfl)) (Or.inr (wq hw 31 rfl)) (by decide) (t := .int) (t' := .int) (by decide) (by decide)))
  have x200 := x175.other W192 (Or.inr (slot_ne (Or.inl (wq hw 27 rfl)) (Or.inr (wq hw 31 rfl)) (by decide) (t := .int) (t' := .int) (by decide) (by decide)))
  have x201 := x176.other W192 (Or.inr (slot_ne (Or.inl (wq hw 37 rfl)) (Or.inr (wq hw 31 rfl)) (by decide) (t := (.array .int)) (t' := .int) (by decide) (by decide)))
  have x202 := x177.other W192 (Or.inr (slot_ne (Or.inl (wq hw 39 rfl)) (Or.inr (wq hw 31 rfl)) (by decide) (t := (.array .int)) (t' := .int) (by decide) (by decide)))
  have x203 := x178.other W192 (Or.inr (slot_ne (Or.inl (wq hw 41 rfl)) (Or.inr (wq hw 31 rfl)) (by decide) (t := (.array .int)) (t' := .int) (by decide) (by decide)))
  have x204 := x179.other W192 (Or.inr (slot_ne (Or.inl (wq hw 43 rfl)) (Or.inr (wq hw 31 rfl)) (by decide) (t := (.array .int)) (t' := .int) (by decide) (by decide)))
  have x205 := x180.other W192 (Or.inr (slot_ne (Or.inl (wq hw 45 rfl)) (Or.inr (wq hw 31 rfl)) (by decide) (t := (.array .int)) (t' := .int) (by decide) (by decide)))
  have x206 := x181.other W192 (Or.inr (slot_ne (Or.inl (wq hw 47 rfl)) (Or.inr (wq hw 31 rfl)) (by decide) (t := (.array .int)) (t' := .int) (by decide) (by decide)))
  have x207 := x182.other W192 (Or.inr (slot_ne (Or.inl (wq hw 75 rfl)) (Or.inr (wq hw 31 rfl)) (by decide) (t := (.array .int)) (t' := .int) (by decide) (by decide)))
  have x208 := x183.other W192 (Or.inr (slot_ne (Or.inl (wq hw 23 rfl)) (Or.inr (wq hw 31 rfl)) (by decide) (t := (.array .int)) (t' := .int) (by decide) (by decide)))
  have x209 := x184.other W192 (Or.inr (slot_ne (Or.inr (wq hw 21 rfl)) (Or.inr (wq hw 31 rfl)) (by decide) (t := (.object "com/example/slim_kripke/slimkripke/bdd/CallStack")) (t' := .int) (by decide) (by decide)))
  have x210 := x185.wr W192
  have x211 := x186.other W192 (Or.inl (Ne.symm ne5_o0))
  have x212 := x187.other W192 (Or.inl (Ne.symm ne5_o0))
  have x213 := x188.other W192 (Ne.symm ne25_o0_b9_0)
  have x214 := x189.other W192 (Ne.symm ne69_o0)
  have pre215 := Go.thn pre191 st192
  have pre216 : Go p e below T192 _ (mkF m 65 #[(vr o0), (vi p1), (vi p2)] [(.int 4096), (.ref o0)]) _ := fun t k => pre215 t (by
    refine XS.aloadN X192.here hx rfl (hb hby d1_61) rfl rfl ?_
    refine XS.sipush X192.here hx rfl (hb hby d1_62) ?_
    exact k)
  obtain ⟨cq217, q217, q217'⟩ := x193.cell
  obtain ⟨_, _, ⟨T217, L217, k217, n217⟩, -, X217, ⟨Lc217, hQ217, l217, y217, z217⟩, st217⟩ := X192.privateBack hx (y := Nm_10) hown (mq hZ hw 32 rfl) (mq hZ hw 33 rfl) (own_seli (mq hZ hw 2 rfl) (pq hZ hw 34 rfl) (mq hZ hw 33 rfl) (by decide)) (pq hZ hw 34 rfl) (mq hZ hw 35 rfl) (by decide) (backOf (W := 0) (rm4 l Z a0 hw [] o0 p1 p2 b18 b5 b9_0 h192 n0 Z192 x193 x194 x195 x196 x197 x198 x199 x200 x201 x202 x203 x204 x205 x206 x207 x208 x209 x210 x211 x212 x213 x214 gw_o0 ne5_o0 ne25_o0_b9_0 ne69_o0 ⟨(Nat.lt_of_lt_of_le I0.lt (Nat.le_of_eq g5.symm)), (Nat.lt_of_lt_of_le A5.lt gz25_b9_0), (Nat.lt_of_lt_of_le x66.lt (Nat.le_of_eq g69.symm))⟩) hZ (wq hw 35 rfl) (wq hw 3 rfl) (by decide) (by decide)) (g := (mkF m 65 #[(vr o0), (vi p1), (vi p2)] [(.int 4096), (.ref o0)])) rfl (by rw [hml]; rfl) (Steps.refl _) (a := o0) (by rw [e192]; exact q217) q217' (argsL := [(.int 4096)]) (rest := []) (lenOf pd__I_V rfl) rfl (w00 rfl) (hb hby d1_65) (fun _ _ => ⟨rfl, e192, (by decide : 3 + 7 ≤ _), (by decide : 386 + 45056 ≤ _)⟩)
  dsimp only [Pt.U, Pt.locs, Pt.cells, Pt.slots] at X217 l217 y217 z217 st217 hQ217
  subst y217 z217
  obtain ⟨rfl, Nq217, Kq217, qlv, qlo, qhi, qrf, qch, qbk, qca, Bq217⟩ := hQ217
  have N217 := FrE l217 N192 Nq217
  have K217 : Keep h0 T217.heap [o0] := K192.trans Kq217 (allS (Or.inl (List.mem_of_getElem? (i := 0) rfl)) all0)
  have pre218 := Go.trn pre216 st217
  obtain ⟨fs, hr, hrun, hended, hW, hsame⟩ := X217.leave (v := none) (fun _ => rfl)
  refine ⟨_, _, ?_, hrun, hended, _, _, rfl, ?_, ⟨_, rfl⟩, hW, hsame.mono (by decide) (by decide)⟩
  · exact pre218 _ (X217.returnOut hx Bd.returns (hb hby d1_68) hr)
  · show Q1 Z o0 p1 p2 h0 n0 _ T217.heap _
    skip
    exact ⟨rfl, N217, K217, ⟨_, _, _, _, _, _, _, _, _, _, Bq217⟩⟩
theorem d15_0 : DK cd15 0 (.aload_n 0) 1 := by decide +kernel
theorem d15_1 : DK cd15 1 (.iconst 0) 1 := by decide +kernel
theorem d15_2 : DK cd15 2 (.putfield 13) 3 := by decide +kernel
theorem d15_5 : DK cd15 5 .return_ 1 := by decide +kernel
theorem pn_15 : plainName "com/example/slim_kripke/slimkripke/bdd/CallStack" = true := by first | (simp [plainName, overriddenIn]; done) | decide +kernel
theorem ef_15 (m : MethodId) (x0 : Addr) : entryFrame m #[(.ref x0)] 1 = mkF m 0 #[.val (.ref x0)] [] := by first | (simp [entryFrame, mkF, argsToLocals, Value.category]; done) | rfl
theorem rm15 (l : Launch) (Z : State) (a0 : Array Value) (hw : ∀ d ∈ tables_1, d.before a0 Z = true) (ws : List Jvm.Cond) {oa qcs qcf qpe qlv qlo qhi qrf qch qbk qca : Addr} {xn xs xff xfc xdp xcz xli xpk : Int32} {xlv xlo xhi xrf xch xbk xca xcf xpe : Int32 → Int32} (h0 : Heap) (n0 : Nat) (Z0 : n0 ≤ h0.size) (B0 : Mg Z n0 h0 oa qcs qcf qpe qlv qlo qhi qrf qch qbk qca xn xs xff xfc xdp xcz xli xpk xlv xlo xhi xrf xch xbk xca xcf xpe) :
    Met1 l Nm_13 (Jvm.Cond.code Nm_13 prog_7_method_6_code 1 none) ws (rom 0 0 0 0) #[(.ref qcs)] Z h0 (QB none n0 (fun h => Mg Z n0 h oa qcs qcf qpe qlv qlo qhi qrf qch qbk qca xn xs xff xfc xdp 0 xli xpk xlv xlo xhi xrf xch xbk xca xcf xpe)) := by
  refine MetFree.of_bodySF (plainFor_of_name pn_15) hisR ?_
  intro p e s m args below meth c s₁ Bd hml0 hP hK
  obtain ⟨rfl, hZ, hh⟩ := hP
  have hx := Bd.exec
  have hby := Bd.bytes
  have hml : c.maxLocals = 1 := hml0
  have hown : s.vm.findClass "com/example/slim_kripke/slimkripke/bdd/CallStack" = some m.cls := findClass_of_methodNamed Bd.named
  have X0 : Stand p l e (rom 0 0 0 0) s m _ _ _ _ _ [] 0 0 := Stand.of_body Bd
  have e0 : s₁.heap = h0 := by rw [← hh, Bd.state]; rfl
  have N0 := Fr.nil n0
  have K0 : Keep h0 h0 [] := Keep.refl _ _
  have pre0 : Go p e below s₁ _ (mkF m 0 #[(vr qcs)] []) _ := fun t k => castTop (ef_15 m qcs) k
  have pre1 : Go p e below s₁ _ (mkF m 2 #[(vr qcs)] [(.int 0), (.ref qcs)]) _ := fun t k => pre0 t (by
    refine XS.aloadN X0.here hx rfl (hb hby d15_0) rfl rfl ?_
    refine XS.iconst X0.here hx rfl (hb hby d15_1) ?_
    exact k)
  obtain ⟨T2, h2, X2, e2, W2, st2⟩ := putF X0 hx hZ hown (host := "") (Or.inl (wq hw 105 rfl)) Via.refl e0 B0.f_cz B0.ec (Or.inl (wq hw 106 rfl)) (wq hw 11 rfl) (ty := .int) (by decide) rfl rfl (g := (mkF m 2 #[(vr qcs)] [(.int 0), (.ref qcs)])) rfl rfl (hb hby d15_2)
  have N2 := Fr.snoc X2 N0 B0.g_cs
  have B2 := B0.w_cz hw W2
  have pre3 := Go.thn pre1 st2
  obtain ⟨fs, hr, hrun, hended, hW, hsame⟩ := X2.leave (v := none) (fun _ => rfl)
  refine ⟨_, _, ?_, hrun, hended, _, _, rfl, ?_, ⟨_, rfl⟩, hW, hsame.mono (by decide) (by decide)⟩
  · exact pre3 _ (X2.returnOut hx Bd.returns (hb hby d15_5) hr)
  · show QB _ _ _ _ T2.heap _
    rw [e2]
    exact ⟨rfl, N2, B2⟩
theorem d14_0 : DK cd14 0 (.aload_n 0) 1 := by decide +kernel
theorem d14_1 : DK cd14 1 (.iconst 0) 1 := by decide +kernel
theorem d14_2 : DK cd14 2 (.putfield 251) 3 := by decide +kernel
theorem d14_5 : DK cd14 5 (.aload_n 0) 1 := by decide +kernel
theorem d14_6 : DK cd14 6 (.getfield 15) 3 := by decide +kernel
theorem d14_9 : DK cd14 9 (.invokevirtual 391) 3 := by decide +kernel
theorem d14_12 : DK cd14 12 (.aload_n 0) 1 := by decide +kernel
theorem d14_13 : DK cd14 13 (.getfield 179) 3 := by decide +kernel
theorem d14_16 : DK cd14 16 .arraylength 1 := by decide +kernel
theorem d14_17 : DK cd14 17 (.istore_n 1) 1 := by decide +kernel
theorem d14_18 : DK cd14 18 (.aload_n 0) 1 := by decide +kernel
theorem d14_19 : DK cd14 19 (.getfield 382) 3 := by decide +kernel
theorem d14_22 : DK cd14 22 (.iload_n 1) 1 := by decide +kernel
theorem d14_23 : DK cd14 23 (.iconst 5) 1 := by decide +kernel
theorem d14_24 : DK cd14 24 .idiv 1 := by decide +kernel
theorem d14_25 : DK cd14 25 (.if_icmp .ge 21) 3 := by decide +kernel
theorem d14_46 : DK cd14 46 .return_ 1 := by decide +kernel
theorem pn_14 : plainName "com/example/slim_kripke/slimkripke/bdd/BddManager" = true := by first | (simp [plainName, overriddenIn]; done) | decide +kernel
theorem ef_14 (m : MethodId) (x0 : Addr) : entryFrame m #[(.ref x0)] 2 = mkF m 0 #[.val (.ref x0), .unset] [] := by first | (simp [entryFrame, mkF, argsToLocals, Value.category]; done) | rfl
theorem rm14 (l : Launch) (Z : State) (a0 : Array Value) (hw : ∀ d ∈ tables_1, d.before a0 Z = true) (ws : List Jvm.Cond) {oa qcs qcf qpe qlv qlo qhi qrf qch qbk qca : Addr} {xn xs xff xfc xdp xcz xli xpk : Int32} {xlv xlo xhi xrf xch xbk xca xcf xpe : Int32 → Int32} (h0 : Heap) (n0 : Nat) (Z0 : n0 ≤ h0.size) (B0 : Mg Z n0 h0 oa qcs qcf qpe qlv qlo qhi qrf qch qbk qca xn xs xff xfc xdp xcz xli xpk xlv xlo xhi xrf xch xbk xca xcf xpe) (hfc : ¬ xfc < (4096 / 5)) :
    Met1 l Nm_14 (Jvm.Cond.code Nm_14 prog_5_method_56_code 2 none) ws (rom 1 0 0 12) #[(.ref oa)] Z h0 (QB none n0 (fun h => Mg Z n0 h oa qcs qcf qpe qlv qlo qhi qrf qch qbk qca xn xs xff xfc 0 0 xli xpk xlv xlo xhi xrf xch xbk xca xcf xpe)) := by
  refine MetFree.of_bodySF (plainFor_of_name pn_14) hisR ?_
  intro p e s m args below meth c s₁ Bd hml0 hP hK
  obtain ⟨rfl, hZ, hh⟩ := hP
  have hx := Bd.exec
  have hby := Bd.bytes
  have hml : c.maxLocals = 2 := hml0
  have hown : s.vm.findClass "com/example/slim_kripke/slimkripke/bdd/BddManager" = some m.cls := findClass_of_methodNamed Bd.named
  have X0 : Stand p l e (rom 1 0 0 12) s m _ _ _ _ _ [] 0 0 := Stand.of_body Bd
  have e0 : s₁.heap = h0 := by rw [← hh, Bd.state]; rfl
  have N0 := Fr.nil n0
  have K0 : Keep h0 h0 [] := Keep.refl _ _
  have pre0 : Go p e below s₁ _ (mkF m 0 #[(vr oa), .unset] []) _ := fun t k => castTop (ef_14 m oa) k
  have pre1 : Go p e below s₁ _ (mkF m 2 #[(vr oa), .unset] [(.int 0), (.ref oa)]) _ := fun t k => pre0 t (by
    refine XS.aloadN X0.here hx rfl (hb hby d14_0) rfl rfl ?_
    refine XS.iconst X0.here hx rfl (hb hby d14_1) ?_
    exact k)
  obtain ⟨T2, h2, X2, e2, W2, st2⟩ := putF X0 hx hZ hown (host := "") (Or.inl (wq hw 98 rfl)) Via.refl e0 B0.f_dp B0.e (Or.inl (wq hw 99 rfl)) (wq hw 2 rfl) (ty := .int) (by decide) rfl rfl (g := (mkF m 2 #[(vr oa), .unset] [(.int 0), (.ref oa)])) rfl rfl (hb hby d14_2)
  have N2 := Fr.snoc X2 N0 B0.g0
  have B2 := B0.w_dp hw W2
  have pre3 := Go.thn pre1 st2
  have pre4 : Go p e below T2 _ (mkF m 6 #[(vr oa), .unset] [(.ref oa)]) _ := fun t k => pre3 t (by
    refine XS.aloadN X2.here hx rfl (hb hby d14_5) rfl rfl ?_
    exact k)
  obtain ⟨T5, X5, e5, st5⟩ := getF X2 hx hZ hown (host := "") (Or.inl (wq hw 20 rfl)) Via.refl e2 B2.f_cs (g := (mkF m 6 #[(vr oa), .unset] [(.ref oa)])) rfl rfl (hb hby d14_6)
  have pre6 := Go.thn pre4 st5
  obtain ⟨cq7, kq7, q7a, q7b, q7c⟩ := isOf hZ e5 B2.ec
  obtain ⟨_, _, ⟨T7, L7, k7, n7⟩, -, X7, ⟨Lc7, hQ7, l7, y7, z7⟩, st7⟩ := X5.virtualBack hx (y := Nm_13) (z := Nm_13) hown (mq hZ hw 100 rfl) (mq hZ hw 101 rfl) (notFace_of_selects (args := #[]) (mq hZ hw 103 rfl)) (mq hZ hw 103 rfl) (mq hZ hw 102 rfl) (by decide) (backOf (W := 0) (rm15 l Z a0 hw []  h2 n0 B2.z B2) hZ (wq hw 104 rfl) (wq hw 12 rfl) (by decide) (by decide)) q7a q7c (g := (mkF m 9 #[(vr oa), .unset] [(.ref qcs)])) rfl (by rw [hml]; rfl) (Steps.refl _) (argsL := []) (rest := []) (lenOf pd___V rfl) rfl (w00 rfl) (hb hby d14_9) (fun _ _ => ⟨rfl, e5, zz, zz⟩)
  dsimp only [Pt.U, Pt.locs, Pt.cells, Pt.slots] at X7 l7 y7 z7 st7 hQ7
  subst y7 z7
  obtain ⟨rfl, Nq7, Bq7⟩ := hQ7
  have N7 := FrE l7 N2 Nq7
  have B7 : Mg Z n0 T7.heap oa _ _ _ _ _ _ _ _ _ _ xn xs xff xfc 0 0 xli xpk xlv xlo xhi xrf xch xbk xca xcf xpe := Bq7
  have pre8 := Go.trn pre6 st7
  have pre9 : Go p e below T7 _ (mkF m 13 #[(vr oa), .unset] [(.ref oa)]) _ := fun t k => pre8 t (by
    refine XS.aloadN X7.here hx rfl (hb hby d14_12) rfl rfl ?_
    exact k)
  obtain ⟨T10, X10, e10, st10⟩ := getF X7 hx hZ hown (host := "") (Or.inl (wq hw 36 rfl)) Via.refl rfl B7.f_lv (g := (mkF m 13 #[(vr oa), .unset] [(.ref oa)])) rfl rfl (hb hby d14_13)
  have pre11 := Go.thn pre9 st10
  obtain ⟨cl12, Ar12, Sz12, Mn12, Hs12⟩ := id B7.a_lv
  have pre13 : Go p e below T10 _ (mkF m 17 #[(vr oa), .unset] [(.int 4096)]) _ := fun t k => pre11 t (by
    show Steps p.tables e below (T10.setTop (mkF m 16 #[(vr oa), .unset] [(.ref qlv)])) _
    refine X10.arraylength hx (by rw [e10]; exact Ar12.1) (State.isArrayOf_alike hZ.alike Ar12.2.1) (g := (mkF m 16 #[(vr oa), .unset] [(.ref qlv)])) rfl rfl (hb hby d14_16) _ ?_
    rw [len_of Sz12 Mn12]
    exact k)
  have pre14 : Go p e below T10 _ (mkF m 19 #[(vr oa), (vi 4096)] [(.ref oa)]) _ := fun t k => pre13 t (by
    refine XS.istoreN X10.here hx rfl (hb hby d14_17) rfl (l' := #[(vr oa), (vi 4096)]) rfl ?_
    refine XS.aloadN X10.here hx rfl (hb hby d14_18) rfl rfl ?_
    exact k)
  obtain ⟨T15, X15, e15, st15⟩ := getF X10 hx hZ hown (host := "") (Or.inl (wq hw 54 rfl)) Via.refl e10 B7.f_fc (g := (mkF m 19 #[(vr oa), (vi 4096)] [(.ref oa)])) rfl rfl (hb hby d14_19)
  have pre16 := Go.thn pre14 st15
  have pre17 : Go p e below T15 _ (mkF m 46 #[(vr oa), (vi 4096)] []) _ := fun t k => pre16 t (by
    refine XS.iloadN X15.here hx rfl (hb hby d14_22) rfl ?_
    refine XS.iconst X15.here hx rfl (hb hby d14_23) ?_
    refine XS.idiv X15.here hx rfl (hb hby d14_24) rfl (by decide) ?_
    refine XS.icmpYes X15.here hx rfl (pc0 := 25) (pc' := 46) rfl (hb hby d14_25) rfl (flt hfc).2.1 (by decide) (by decide) ?_
    exact k)
  obtain ⟨fs, hr, hrun, hended, hW, hsame⟩ := X15.leave (v := none) (fun _ => rfl)
  refine ⟨_, _, ?_, hrun, hended, _, _, rfl, ?_, ⟨_, rfl⟩, hW, hsame.mono (by decide) (by decide)⟩
  · exact pre17 _ (X15.returnOut hx Bd.returns (hb hby d14_46) hr)
  · show QB _ _ _ _ T15.heap _
    rw [e15]
    exact ⟨rfl, N7, B7⟩
theorem d11_0 : DK cd11 0 (.iload_n 1) 1 := by decide +kernel
theorem d11_1 : DK cd11 1 (.iconst 1) 1 := by decide +kernel
theorem d11_2 : DK cd11 2 (.if_icmp .le 12) 3 := by decide +kernel
theorem d11_14 : DK cd11 14 (.aload_n 0) 1 := by decide +kernel
theorem d11_15 : DK cd11 15 (.getfield 39) 3 := by decide +kernel
theorem d11_18 : DK cd11 18 .ireturn 1 := by decide +kernel
theorem pn_11 : plainName "com/example/slim_kripke/slimkripke/bdd/BddManager" = true := by first | (simp [plainName, overriddenIn]; done) | decide +kernel
theorem ef_11t (m : MethodId) (x0 : Addr) (x1 : Int32) : entryFrame m #[(.ref x0), (.int x1)] 2 = mkF m 0 #[.val (.ref x0), .val (.int x1)] [] := by first | (simp [entryFrame, mkF, argsToLocals, Value.category]; done) | rfl
theorem rm11t (l : Launch) (Z : State) (a0 : Array Value) (hw : ∀ d ∈ tables_1, d.before a0 Z = true) (ws : List Jvm.Cond) {oa qcs qcf qpe qlv qlo qhi qrf qch qbk qca : Addr} {xn xs xff xfc xdp xcz xli xpk : Int32} {xlv xlo xhi xrf xch xbk xca xcf xpe : Int32 → Int32} (p1 : Int32) (h0 : Heap) (n0 : Nat) (Z0 : n0 ≤ h0.size) (B0 : Mg Z n0 h0 oa qcs qcf qpe qlv qlo qhi qrf qch qbk qca xn xs xff xfc xdp xcz xli xpk xlv xlo xhi xrf xch xbk xca xcf xpe) (hp1 : ¬ 1 < p1) :
    Met1 l Nm_15 (Jvm.Cond.code Nm_15 prog_5_method_33_code 2 (some .int)) ws (rom 0 0 0 0) #[(.ref oa), (.int p1)] Z h0 (QP (some (.int xn)) h0 n0) := by
  refine MetFree.of_bodySF (plainFor_of_name pn_11) hisR ?_
  intro p e s m args below meth c s₁ Bd hml0 hP hK
  obtain ⟨rfl, hZ, hh⟩ := hP
  have hx := Bd.exec
  have hby := Bd.bytes
  have hml : c.maxLocals = 2 := hml0
  have hown : s.vm.findClass "com/example/slim_kripke/slimkripke/bdd/BddManager" = some m.cls := findClass_of_methodNamed Bd.named
  have X0 : Stand p l e (rom 0 0 0 0) s m _ _ _ _ _ [] 0 0 := Stand.of_body Bd
  have e0 : s₁.heap = h0 := by rw [← hh, Bd.state]; rfl
  have N0 := Fr.nil n0
  have K0 : Keep h0 h0 [] := Keep.refl _ _
  have pre0 : Go p e below s₁ _ (mkF m 0 #[(vr oa), (vi p1)] []) _ := fun t k => castTop (ef_11t m oa p1) k
  have pre1 : Go p e below s₁ _ (mkF m 15 #[(vr oa), (vi p1)] [(.ref oa)]) _ := fun t k => pre0 t (by
    refine XS.iloadN X0.here hx rfl (hb hby d11_0) rfl ?_
    refine XS.iconst X0.here hx rfl (hb hby d11_1) ?_
    refine XS.icmpYes X0.here hx rfl (pc0 := 2) (pc' := 14) rfl (hb hby d11_2) rfl (flt hp1).2.2.2 (by decide) (by decide) ?_
    refine XS.aloadN X0.here hx rfl (hb hby d11_14) rfl rfl ?_
    exact k)
  obtain ⟨T2, X2, e2, st2⟩ := getF X0 hx hZ hown (host := "") (Or.inl (wq hw 28 rfl)) Via.refl e0 B0.f_n (g := (mkF m 15 #[(vr oa), (vi p1)] [(.ref oa)])) rfl rfl (hb hby d11_15)
  have pre3 := Go.thn pre1 st2
  obtain ⟨fs, hr, hrun, hended, hW, hsame⟩ := X2.leave (v := some (.int xn)) (fun h => by rw [Bd.returns] at h; cases h)
  refine ⟨_, _, ?_, hrun, hended, _, _, rfl, ?_, ⟨_, rfl⟩, hW, hsame.mono (by decide) (by decide)⟩
  · exact pre3 _ (retI X2 hx Bd.returns (hb hby d11_18) hr)
  · exact ⟨rfl, N0, e2⟩
theorem d11_5 : DK cd11 5 (.aload_n 0) 1 := by decide +kernel
theorem d11_6 : DK cd11 6 (.getfield 179) 3 := by decide +kernel
theorem d11_9 : DK cd11 9 (.iload_n 1) 1 := by decide +kernel
theorem d11_10 : DK cd11 10 .iaload 1 := by decide +kernel
theorem d11_11 : DK cd11 11 (.goto 7) 3 := by decide +kernel
theorem rm11n (l : Launch) (Z : State) (a0 : Array Value) (hw : ∀ d ∈ tables_1, d.before a0 Z = true) (ws : List Jvm.Cond) {oa qcs qcf qpe qlv qlo qhi qrf qch qbk qca : Addr} {xn xs xff xfc xdp xcz xli xpk : Int32} {xlv xlo xhi xrf xch xbk xca xcf xpe : Int32 → Int32} (p1 : Int32) (h0 : Heap) (n0 : Nat) (Z0 : n0 ≤ h0.size) (B0 : Mg Z n0 h0 oa qcs qcf qpe qlv qlo qhi qrf qch qbk qca xn xs xff xfc xdp xcz xli xpk xlv xlo xhi xrf xch xbk xca xcf xpe) (hp1 : 1 < p1) (hp2 : ¬ p1 < 0) (hp3 : p1 < 4096) :
    Met1 l Nm_15 (Jvm.Cond.code Nm_15 prog_5_method_33_code 2 (some .int)) ws (rom 0 0 0 0) #[(.ref oa), (.int p1)] Z h0 (QP (some (.int (xlv p1))) h0 n0) := by
  refine MetFree.of_bodySF (plainFor_of_name pn_11) hisR ?_
  intro p e s m args below meth c s₁ Bd hml0 hP hK
  obtain ⟨rfl, hZ, hh⟩ := hP
  have hx := Bd.exec
  have hby := Bd.bytes
  have hml : c.maxLocals = 2 := hml0
  have hown : s.vm.findClass "com/example/slim_kripke/slimkripke/bdd/BddManager" = some m.cls := findClass_of_methodNamed Bd.named
  have X0 : Stand p l e (rom 0 0 0 0) s m _ _ _ _ _ [] 0 0 := Stand.of_body Bd
  have e0 : s₁.heap = h0 := by rw [← hh, Bd.state]; rfl
  have N0 := Fr.nil n0
  have K0 : Keep h0 h0 [] := Keep.refl _ _
  have pre0 : Go p e below s₁ _ (mkF m 0 #[(vr oa), (vi p1)] []) _ := fun t k => castTop (ef_11t m oa p1) k
  have pre1 : Go p e below s₁ _ (mkF m 6 #[(vr oa), (vi p1)] [(.ref oa)]) _ := fun t k => pre0 t (by
    refine XS.iloadN X0.here hx rfl (hb hby d11_0) rfl ?_
    refine XS.iconst X0.here hx rfl (hb hby d11_1) ?_
    refine XS.icmpNo X0.here hx rfl (hb hby d11_2) rfl (tlt hp1).2.2.2 ?_
    refine XS.aloadN X0.here hx rfl (hb hby d11_5) rfl rfl ?_
    exact k)
  obtain ⟨T2, X2, e2, st2⟩ := getF X0 hx hZ hown (host := "") (Or.inl (wq hw 36 rfl)) Via.refl e0 B0.f_lv (g := (mkF m 6 #[(vr oa), (vi p1)] [(.ref oa)])) rfl rfl (hb hby d11_6)
  have pre3 := Go.thn pre1 st2
  have pre4 : Go p e below T2 _ (mkF m 10 #[(vr oa), (vi p1)] [(.int p1), (.ref qlv)]) _ := fun t k => pre3 t (by
    refine XS.iloadN X2.here hx rfl (hb hby d11_9) rfl ?_
    exact k)
  obtain ⟨cl5, Ar5, Sz5, Mn5, Hs5⟩ := id B0.a_lv
  have ib5 : ¬ p1 < 0 ∧ p1 < 4096 := ⟨hp2, hp3⟩
  have hat5 : cl5.slots[(p1).toNatClampNeg]? = some (.int (xlv p1)) := Hs5 p1 ib5
  have pre6 : Go p e below T2 _ (mkF m 11 #[(vr oa), (vi p1)] [(.int (xlv p1))]) _ := fun t k => pre4 t (by
    show Steps p.tables e below (T2.setTop (mkF m 10 #[(vr oa), (vi p1)] [(.int p1), (.ref qlv)])) _
    refine X2.iaload hx (j := p1) (v := (.int (xlv p1))) (by rw [e2]; exact Ar5.1) (State.isArrayOf_alike hZ.alike Ar5.2.1) Ar5.2.2 (inb_of Sz5 ib5) hat5 (g := (mkF m 10 #[(vr oa), (vi p1)] [(.int p1), (.ref qlv)])) rfl rfl (hb hby d11_10) _ ?_
    exact k)
  have pre7 : Go p e below T2 _ (mkF m 18 #[(vr oa), (vi p1)] [(.int (xlv p1))]) _ := fun t k => pre6 t (by
    refine XS.goto X2.here hx rfl (pc0 := 11) (pc' := 18) rfl (hb hby d11_11) (by decide) (by decide) ?_
    exact k)
  obtain ⟨fs, hr, hrun, hended, hW, hsame⟩ := X2.leave (v := some (.int (xlv p1))) (fun h => by rw [Bd.returns] at h; cases h)
  refine ⟨_, _, ?_, hrun, hended, _, _, rfl, ?_, ⟨_, rfl⟩, hW, hsame.mono (by decide) (by decide)⟩
  · exact pre7 _ (retI X2 hx Bd.returns (hb hby d11_18) hr)
  · exact ⟨rfl, N0, e2⟩
theorem d13_0 : DK cd13 0 (.iload_n 1) 1 := by decide +kernel
theorem d13_1 : DK cd13 1 (.ifCond .lt 11) 3 := by decide +kernel
theorem d13_4 : DK cd13 4 (.iload_n 1) 1 := by decide +kernel
theorem d13_5 : DK cd13 5 (.aload_n 0) 1 := by decide +kernel
theorem d13_6 : DK cd13 6 (.getfield 39) 3 := by decide +kernel
theorem d13_9 : DK cd13 9 (.if_icmp .lt 21) 3 := by decide +kernel
theorem d13_30 : DK cd13 30 .return_ 1 := by decide +kernel
theorem pn_13 : plainName "com/example/slim_kripke/slimkripke/bdd/BddManager" = true := by first | (simp [plainName, overriddenIn]; done) | decide +kernel
theorem ef_13 (m : MethodId) (x0 : Addr) (x1 : Int32) : entryFrame m #[(.ref x0), (.int x1)] 2 = mkF m 0 #[.val (.ref x0), .val (.int x1)] [] := by first | (simp [entryFrame, mkF, argsToLocals, Value.category]; done) | rfl
theorem rm13 (l : Launch) (Z : State) (a0 : Array Value) (hw : ∀ d ∈ tables_1, d.before a0 Z = true) (ws : List Jvm.Cond) {oa qcs qcf qpe qlv qlo qhi qrf qch qbk qca : Addr} {xn xs xff xfc xdp xcz xli xpk : Int32} {xlv xlo xhi xrf xch xbk xca xcf xpe : Int32 → Int32} (p1 : Int32) (h0 : Heap) (n0 : Nat) (Z0 : n0 ≤ h0.size) (B0 : Mg Z n0 h0 oa qcs qcf qpe qlv qlo qhi qrf qch qbk qca xn xs xff xfc xdp xcz xli xpk xlv xlo xhi xrf xch xbk xca xcf xpe) (hp1 : ¬ p1 < 0) (hp2 : p1 < xn) :
    Met1 l Nm_16 (Jvm.Cond.code Nm_16 prog_5_method_11_code 2 none) ws (rom 0 0 0 0) #[(.ref oa), (.int p1)] Z h0 (QP none h0 n0) := by
  refine MetFree.of_bodySF (plainFor_of_name pn_13) hisR ?_
  intro p e s m args below meth c s₁ Bd hml0 hP hK
  obtain ⟨rfl, hZ, hh⟩ := hP
  have hx := Bd.exec
  have hby := Bd.bytes
  have hml : c.maxLocals = 2 := hml0
  have hown : s.vm.findClass "com/example/slim_kripke/slimkripke/bdd/BddManager" = some m.cls := findClass_of_methodNamed Bd.named
  have X0 : Stand p l e (rom 0 0 0 0) s m _ _ _ _ _ [] 0 0 := Stand.of_body Bd
  have e0 : s₁.heap = h0 := by rw [← hh, Bd.state]; rfl
  have N0 := Fr.nil n0
  have K0 : Keep h0 h0 [] := Keep.refl _ _
  have pre0 : Go p e below s₁ _ (mkF m 0 #[(vr oa), (vi p1)] []) _ := fun t k => castTop (ef_13 m oa p1) k
  have pre1 : Go p e below s₁ _ (mkF m 6 #[(vr oa), (vi p1)] [(.ref oa), (.int p1)]) _ := fun t k => pre0 t (by
    refine XS.iloadN X0.here hx rfl (hb hby d13_0) rfl ?_
    refine XS.ifNo X0.here hx rfl (hb hby d13_1) rfl ((if0 _ _).trans (flt hp1).1) ?_
    refine XS.iloadN X0.here hx rfl (hb hby d13_4) rfl ?_
    refine XS.aloadN X0.here hx rfl (hb hby d13_5) rfl rfl ?_
    exact k)
  obtain ⟨T2, X2, e2, st2⟩ := getF X0 hx hZ hown (host := "") (Or.inl (wq hw 28 rfl)) Via.refl e0 B0.f_n (g := (mkF m 6 #[(vr oa), (vi p1)] [(.ref oa), (.int p1)])) rfl rfl (hb hby d13_6)
  have pre3 := Go.thn pre1 st2
  have pre4 : Go p e below T2 _ (mkF m 30 #[(vr oa), (vi p1)] []) _ := fun t k => pre3 t (by
    refine XS.icmpYes X2.here hx rfl (pc0 := 9) (pc' := 30) rfl (hb hby d13_9) rfl (tlt hp2).1 (by decide) (by decide) ?_
    exact k)
  obtain ⟨fs, hr, hrun, hended, hW, hsame⟩ := X2.leave (v := none) (fun _ => rfl)
  refine ⟨_, _, ?_, hrun, hended, _, _, rfl, ?_, ⟨_, rfl⟩, hW, hsame.mono (by decide) (by decide)⟩
  · exact pre4 _ (X2.returnOut hx Bd.returns (hb hby d13_30) hr)
  · exact ⟨rfl, N0, e2⟩
theorem d28_0 : DK cd28 0 (.aload_n 0) 1 := by decide +kernel
theorem d28_1 : DK cd28 1 (.getfield 419) 3 := by decide +kernel
theorem d28_4 : DK cd28 4 .arraylength 1 := by decide +kernel
theorem d28_5 : DK cd28 5 (.iconst 5) 1 := by decide +kernel
theorem d28_6 : DK cd28 6 .idiv 1 := by decide +kernel
theorem d28_7 : DK cd28 7 (.istore 5) 2 := by decide +kernel
theorem d28_9 : DK cd28 9 (.iload_n 1) 1 := by decide +kernel
theorem d28_10 : DK cd28 10 (.iload_n 2) 1 := by decide +kernel
theorem d28_11 : DK cd28 11 (.iload_n 3) 1 := by decide +kernel
theorem d28_12 : DK cd28 12 (.iload 4) 2 := by decide +kernel
theorem d28_14 : DK cd28 14 (.invokestatic 425) 3 := by decide +kernel
theorem d28_17 : DK cd28 17 (.iload 5) 2 := by decide +kernel
theorem d28_19 : DK cd28 19 (.iconst 1) 1 := by decide +kernel
theorem d28_20 : DK cd28 20 .isub 1 := by decide +kernel
theorem d28_21 : DK cd28 21 .iand 1 := by decide +kernel
theorem d28_22 : DK cd28 22 (.iconst 5) 1 := by decide +kernel
theorem d28_23 : DK cd28 23 .imul 1 := by decide +kernel
theorem d28_24 : DK cd28 24 .ireturn 1 := by decide +kernel
theorem pn_28 : plainName "com/example/slim_kripke/slimkripke/bdd/BddManager" = true := by first | (simp [plainName, overriddenIn]; done) | decide +kernel
theorem ef_28 (m : MethodId) (x0 : Addr) (x1 : Int32) (x2 : Int32) (x3 : Int32) (x4 : Int32) : entryFrame m #[(.ref x0), (.int x1), (.int x2), (.int x3), (.int x4)] 6 = mkF m 0 #[.val (.ref x0), .val (.int x1), .val (.int x2), .val (.int x3), .val (.int x4), .unset] [] := by first | (simp [entryFrame, mkF, argsToLocals, Value.category]; done) | rfl
def f28 (p1 : Int32) (p2 : Int32) (p3 : Int32) (p4 : Int32) : Int32 := (((f18 p1 p2 p3 p4) &&& (((20480 : Int32) / (5 : Int32)) - (1 : Int32))) * (5 : Int32))
theorem rm28 (l : Launch) (Z : State) (a0 : Array Value) (hw : ∀ d ∈ tables_1, d.before a0 Z = true) (ws : List Jvm.Cond) {oa qcs qcf qpe qlv qlo qhi qrf qch qbk qca : Addr} {xn xs xff xfc xdp xcz xli xpk : Int32} {xlv xlo xhi xrf xch xbk xca xcf xpe : Int32 → Int32} (p1 : Int32) (p2 : Int32) (p3 : Int32) (p4 : Int32) (h0 : Heap) (n0 : Nat) (Z0 : n0 ≤ h0.size) (B0 : Mg Z n0 h0 oa qcs qcf qpe qlv qlo qhi qrf qch qbk qca xn xs xff xfc xdp xcz xli xpk xlv xlo xhi xrf xch xbk xca xcf xpe) :
    Met1 l Nm_17 (Jvm.Cond.code Nm_17 prog_5_method_64_code 6 (some .int)) ws (rom 1 0 0 17) #[(.ref oa), (.int p1), (.int p2), (.int p3), (.int p4)] Z h0 (QP (some (.int (f28 p1 p2 p3 p4))) h0 n0) := by
  refine MetFree.of_bodySF (plainFor_of_name pn_28) hisR ?_
  intro p e s m args below meth c s₁ Bd hml0 hP hK
  obtain ⟨rfl, hZ, hh⟩ := hP
  have hx := Bd.exec
  have hby := Bd.bytes
  have hml : c.maxLocals = 6 := hml0
  have hown : s.vm.findClass "com/example/slim_kripke/slimkripke/bdd/BddManager" = some m.cls := findClass_of_methodNamed Bd.named
  have X0 : Stand p l e (rom 1 0 0 17) s m _ _ _ _ _ [] 0 0 := Stand.of_body Bd
  have e0 : s₁.heap = h0 := by rw [← hh, Bd.state]; rfl
  have N0 := Fr.nil n0
  have K0 : Keep h0 h0 [] := Keep.refl _ _
  have pre0 : Go p e below s₁ _ (mkF m 0 #[(vr oa), (vi p1), (vi p2), (vi p3), (vi p4), .unset] []) _ := fun t k => castTop (ef_28 m oa p1 p2 p3 p4) k
  have pre1 : Go p e below s₁ _ (mkF m 1 #[(vr oa), (vi p1), (vi p2), (vi p3), (vi p4), .unset] [(.ref oa)]) _ := fun t k => pre0 t (by
    refine XS.aloadN X0.here hx rfl (hb hby d28_0) rfl rfl ?_
    exact k)
  obtain ⟨T2, X2, e2, st2⟩ := getF X0 hx hZ hown (host := "") (Or.inl (wq hw 74 rfl)) Via.refl e0 B0.f_ca (g := (mkF m 1 #[(vr oa), (vi p1), (vi p2), (vi p3), (vi p4), .unset] [(.ref oa)])) rfl rfl (hb hby d28_1)
  have pre3 := Go.thn pre1 st2
  obtain ⟨cl4, Ar4, Sz4, Mn4, Hs4⟩ := id B0.a_ca
  have pre5 : Go p e below T2 _ (mkF m 5 #[(vr oa), (vi p1), (vi p2), (vi p3), (vi p4), .unset] [(.int 20480)]) _ := fun t k => pre3 t (by
    show Steps p.tables e below (T2.setTop (mkF m 4 #[(vr oa), (vi p1), (vi p2), (vi p3), (vi p4), .unset] [(.ref qca)])) _
    refine X2.arraylength hx (by rw [e2]; exact Ar4.1) (State.isArrayOf_alike hZ.alike Ar4.2.1) (g := (mkF m 4 #[(vr oa), (vi p1), (vi p2), (vi p3), (vi p4), .unset] [(.ref qca)])) rfl rfl (hb hby d28_4) _ ?_
    rw [len_of Sz4 Mn4]
    exact k)
  have pre6 : Go p e below T2 _ (mkF m 14 #[(vr oa), (vi p1), (vi p2), (vi p3), (vi p4), (vi ((20480 : Int32) / (5 : Int32)))] [(.int p4), (.int p3), (.int p2), (.int p1)]) _ := fun t k => pre5 t (by
    refine XS.iconst X2.here hx rfl (hb hby d28_5) ?_
    refine XS.idiv X2.here hx rfl (hb hby d28_6) rfl (by decide) ?_
    refine XS.istore X2.here hx rfl (hb hby d28_7) rfl (l' := #[(vr oa), (vi p1), (vi p2), (vi p3), (vi p4), (vi ((20480 : Int32) / (5 : Int32)))]) rfl ?_
    refine XS.iloadN X2.here hx rfl (hb hby d28_9) rfl ?_
    refine XS.iloadN X2.here hx rfl (hb hby d28_10) rfl ?_
    refine XS.iloadN X2.here hx rfl (hb hby d28_11) rfl ?_
    refine XS.iload X2.here hx rfl (hb hby d28_12) rfl ?_
    exact k)
  obtain ⟨_, _, ⟨T7, L7, k7, n7⟩, -, X7, ⟨Lc7, hQ7, l7, y7, z7⟩, st7⟩ := Jvm.LawKit.callS X2 hx (y := Nm_0) hown (mq hZ hw 114 rfl) (mq hZ hw 115 rfl) (mq hZ hw 3 rfl) (mq hZ hw 116 rfl) (by decide) (backOf (W := 0) (rm18 l Z a0 hw [] p1 p2 p3 p4 h0 n0 Z0) hZ (wq hw 116 rfl) (wq hw 3 rfl) (by decide) (by decide)) (g := (mkF m 14 #[(vr oa), (vi p1), (vi p2), (vi p3), (vi p4), (vi ((20480 : Int32) / (5 : Int32)))] [(.int p4), (.int p3), (.int p2), (.int p1)])) rfl (by rw [hml]; rfl) (argsL := [(.int p1), (.int p2), (.int p3), (.int p4)]) (rest := []) (lenOf pd__IIII_I rfl) rfl (w00 rfl) (hb hby d28_14) (fun _ _ => ⟨rfl, e2, zz, zz⟩)
  dsimp only [Pt.U, Pt.locs, Pt.cells, Pt.slots] at X7 l7 y7 z7 st7 hQ7
  subst y7 z7
  obtain ⟨rfl, Nq7, e7⟩ := hQ7
  have N7 := FrE l7 N0 Nq7
  have pre8 := Go.thn pre6 st7
  have pre9 : Go p e below T7 _ (mkF m 24 #[(vr oa), (vi p1), (vi p2), (vi p3), (vi p4), (vi ((20480 : Int32) / (5 : Int32)))] [(.int (((f18 p1 p2 p3 p4) &&& (((20480 : Int32) / (5 : Int32)) - (1 : Int32))) * (5 : Int32)))]) _ := fun t k => pre8 t (by
    refine XS.iload X7.here hx rfl (hb hby d28_17) rfl ?_
    refine XS.iconst X7.here hx rfl (hb hby d28_19) ?_
    refine XS.isub X7.here hx rfl (hb hby d28_20) rfl ?_
    refine XS.iand X7.here hx rfl (hb hby d28_21) rfl ?_
    refine XS.iconst X7.here hx rfl (hb hby d28_22) ?_
    refine XS.imul X7.here hx rfl (hb hby d28_23) rfl ?_
    exact k)
  obtain ⟨fs, hr, hrun, hended, hW, hsame⟩ := X7.leave (v := some (.int (((f18 p1 p2 p3 p4) &&& (((20480 : Int32) / (5 : Int32)) - (1 : Int32))) * (5 : Int32)))) (fun h => by rw [Bd.returns] at h; cases h)
  refine ⟨_, _, ?_, hrun, hended, _, _, rfl, ?_, ⟨_, rfl⟩, hW, hsame.mono (by decide) (by decide)⟩
  · exact pre9 _ (retI X7 hx Bd.returns (hb hby d28_24) hr)
  · exact ⟨by simp only [f28], N7, e7⟩
theorem own_enf (a b c d k : Int32) (h : 0 ≤ k.toInt) (h' : k.toInt ≤ 4) : ¬ ((f28 a b c d) + k) < 0 ∧ ((f28 a b c d) + k) < 20480 := own_en _ k h h'
theorem own_ms (a b c d v : Int32) (h : ¬ (-1 : Int32) = v) : ¬ (own_ca0 ((f28 a b c d) + (0 : Int32))) = v := by rw [show own_ca0 ((f28 a b c d) + (0 : Int32)) = -1 from own_en5 _]; exact h
theorem d27_0 : DK cd27 0 (.aload_n 0) 1 := by decide +kernel
theorem d27_1 : DK cd27 1 (.iload_n 1) 1 := by decide +kernel
theorem d27_2 : DK cd27 2 (.iload_n 2) 1 := by decide +kernel
theorem d27_3 : DK cd27 3 (.iload_n 3) 1 := by decide +kernel
theorem d27_4 : DK cd27 4 (.iload 4) 2 := by decide +kernel
theorem d27_6 : DK cd27 6 (.invokevirtual 422) 3 := by decide +kernel
theorem d27_9 : DK cd27 9 (.istore 5) 2 := by decide +kernel
theorem d27_11 : DK cd27 11 (.aload_n 0) 1 := by decide +kernel
theorem d27_12 : DK cd27 12 (.getfield 419) 3 := by decide +kernel
theorem d27_15 : DK cd27 15 (.iload 5) 2 := by decide +kernel
theorem d27_17 : DK cd27 17 (.iconst 0) 1 := by decide +kernel
theorem d27_18 : DK cd27 18 .iadd 1 := by decide +kernel
theorem d27_19 : DK cd27 19 .iaload 1 := by decide +kernel
theorem d27_20 : DK cd27 20 (.iload_n 1) 1 := by decide +kernel
theorem d27_21 : DK cd27 21 (.if_icmp .ne 47) 3 := by decide +kernel
theorem d27_68 : DK cd27 68 (.iconst 0) 1 := by decide +kernel
theorem d27_69 : DK cd27 69 (.istore 6) 2 := by decide +kernel
theorem d27_71 : DK cd27 71 (.iload 6) 2 := by decide +kernel
theorem d27_73 : DK cd27 73 (.ifCond .eq 15) 3 := by decide +kernel
theorem d27_88 : DK cd27 88 (.iconst (-1)) 1 := by decide +kernel
theorem d27_89 : DK cd27 89 .ireturn 1 := by decide +kernel
theorem pn_27 : plainName "com/example/slim_kripke/slimkripke/bdd/BddManager" = true := by first | (simp [plainName, overriddenIn]; done) | decide +kernel
theorem ef_27 (m : MethodId) (x0 : Addr) (x1 : Int32) (x2 : Int32) (x3 : Int32) (x4 : Int32) : entryFrame m #[(.ref x0), (.int x1), (.int x2), (.int x3), (.int x4)] 7 = mkF m 0 #[.val (.ref x0), .val (.int x1), .val (.int x2), .val (.int x3), .val (.int x4), .unset, .unset] [] := by first | (simp [entryFrame, mkF, argsToLocals, Value.category]; done) | rfl
theorem rm27 (l : Launch) (Z : State) (a0 : Array Value) (hw : ∀ d ∈ tables_1, d.before a0 Z = true) (ws : List Jvm.Cond) {oa qcs qcf qpe qlv qlo qhi qrf qch qbk qca : Addr} {xn xs xff xfc xdp xcz xli xpk : Int32} {xlv xlo xhi xrf xch xbk xca xcf xpe : Int32 → Int32} (p1 : Int32) (p2 : Int32) (p3 : Int32) (p4 : Int32) (h0 : Heap) (n0 : Nat) (Z0 : n0 ≤ h0.size) (B0 : Mg Z n0 h0 oa qcs qcf qpe qlv qlo qhi qrf qch qbk qca xn xs xff xfc xdp xcz xli xpk xlv xlo xhi xrf xch xbk xca xcf xpe) (hm : ¬ (xca ((f28 p1 p2 p3 p4) + 0)) = p1) :
    Met1 l Nm_18 (Jvm.Cond.code Nm_18 prog_5_method_62_code 7 (some .int)) ws (rom 2 0 0 34) #[(.ref oa), (.int p1), (.int p2), (.int p3), (.int p4)] Z h0 (QP (some (.int (-1))) h0 n0) := by
  refine MetFree.of_bodySF (plainFor_of_name pn_27) hisR ?_
  intro p e s m args below meth c s₁ Bd hml0 hP hK
  obtain ⟨rfl, hZ, hh⟩ := hP
  have hx := Bd.exec
  have hby := Bd.bytes
  have hml : c.maxLocals = 7 := hml0
  have hown : s.vm.findClass "com/example/slim_kripke/slimkripke/bdd/BddManager" = some m.cls := findClass_of_methodNamed Bd.named
  have X0 : Stand p l e (rom 2 0 0 34) s m _ _ _ _ _ [] 0 0 := Stand.of_body Bd
  have e0 : s₁.heap = h0 := by rw [← hh, Bd.state]; rfl
  have N0 := Fr.nil n0
  have K0 : Keep h0 h0 [] := Keep.refl _ _
  have pre0 : Go p e below s₁ _ (mkF m 0 #[(vr oa), (vi p1), (vi p2), (vi p3), (vi p4), .unset, .unset] []) _ := fun t k => castTop (ef_27 m oa p1 p2 p3 p4) k
  have pre1 : Go p e below s₁ _ (mkF m 6 #[(vr oa), (vi p1), (vi p2), (vi p3), (vi p4), .unset, .unset] [(.int p4), (.int p3), (.int p2), (.int p1), (.ref oa)]) _ := fun t k => pre0 t (by
    refine XS.aloadN X0.here hx rfl (hb hby d27_0) rfl rfl ?_
    refine XS.iloadN X0.here hx rfl (hb hby d27_1) rfl ?_
    refine XS.iloadN X0.here hx rfl (hb hby d27_2) rfl ?_
    refine XS.iloadN X0.here hx rfl (hb hby d27_3) rfl ?_
    refine XS.iload X0.here hx rfl (hb hby d27_4) rfl ?_
    exact k)
  obtain ⟨cq2, q2, q2'⟩ := B0.e.cell
  obtain ⟨_, _, ⟨T2, L2, k2, n2⟩, -, X2, ⟨Lc2, hQ2, l2, y2, z2⟩, st2⟩ := X0.privateBack hx (y := Nm_17) hown (mq hZ hw 163 rfl) (mq hZ hw 164 rfl) (own_seli (mq hZ hw 2 rfl) (pq hZ hw 165 rfl) (mq hZ hw 164 rfl) (by decide)) (pq hZ hw 165 rfl) (mq hZ hw 166 rfl) (by decide) (backOf (W := 0) (rm28 l Z a0 hw [] p1 p2 p3 p4 h0 n0 B0.z B0) hZ (wq hw 166 rfl) (wq hw 3 rfl) (by decide) (by decide)) (g := (mkF m 6 #[(vr oa), (vi p1), (vi p2), (vi p3), (vi p4), .unset, .unset] [(.int p4), (.int p3), (.int p2), (.int p1), (.ref oa)])) rfl (by rw [hml]; rfl) (Steps.refl _) (a := oa) (by rw [e0]; exact q2) q2' (argsL := [(.int p1), (.int p2), (.int p3), (.int p4)]) (rest := []) (lenOf pd__IIII_I rfl) rfl (w00 rfl) (hb hby d27_6) (fun _ _ => ⟨rfl, e0, zz, zz⟩)
  dsimp only [Pt.U, Pt.locs, Pt.cells, Pt.slots] at X2 l2 y2 z2 st2 hQ2
  subst y2 z2
  obtain ⟨rfl, Nq2, e2⟩ := hQ2
  have N2 := FrE l2 N0 Nq2
  have pre3 := Go.trn pre1 st2
  have pre4 : Go p e below T2 _ (mkF m 12 #[(vr oa), (vi p1), (vi p2), (vi p3), (vi p4), (vi (f28 p1 p2 p3 p4)), .unset] [(.ref oa)]) _ := fun t k => pre3 t (by
    refine XS.istore X2.here hx rfl (hb hby d27_9) rfl (l' := #[(vr oa), (vi p1), (vi p2), (vi p3), (vi p4), (vi (f28 p1 p2 p3 p4)), .unset]) rfl ?_
    refine XS.aloadN X2.here hx rfl (hb hby d27_11) rfl rfl ?_
    exact k)
  obtain ⟨T5, X5, e5, st5⟩ := getF X2 hx hZ hown (host := "") (Or.inl (wq hw 74 rfl)) Via.refl e2 B0.f_ca (g := (mkF m 12 #[(vr oa), (vi p1), (vi p2), (vi p3), (vi p4), (vi (f28 p1 p2 p3 p4)), .unset] [(.ref oa)])) rfl rfl (hb hby d27_12)
  have pre6 := Go.thn pre4 st5
  have pre7 : Go p e below T5 _ (mkF m 19 #[(vr oa), (vi p1), (vi p2), (vi p3), (vi p4), (vi (f28 p1 p2 p3 p4)), .unset] [(.int ((f28 p1 p2 p3 p4) + (0 : Int32))), (.ref qca)]) _ := fun t k => pre6 t (by
    refine XS.iload X5.here hx rfl (hb hby d27_15) rfl ?_
    refine XS.iconst X5.here hx rfl (hb hby d27_17) ?_
    refine XS.iadd X5.here hx rfl (hb hby d27_18) rfl ?_
    exact k)
  obtain ⟨cl8, Ar8, Sz8, Mn8, Hs8⟩ := id B0.a_ca
  have ib8 : ¬ ((f28 p1 p2 p3 p4) + (0 : Int32)) < 0 ∧ ((f28 p1 p2 p3 p4) + (0 : Int32)) < 20480 := (own_enf _ _ _ _ _ (by decide) (by decide))
  have hat8 : cl8.slots[(((f28 p1 p2 p3 p4) + (0 : Int32))).toNatClampNeg]? = some (.int (xca ((f28 p1 p2 p3 p4) + (0 : Int32)))) := Hs8 ((f28 p1 p2 p3 p4) + (0 : Int32)) ib8
  have pre9 : Go p e below T5 _ (mkF m 20 #[(vr oa), (vi p1), (vi p2), (vi p3), (vi p4), (vi (f28 p1 p2 p3 p4)), .unset] [(.int (xca ((f28 p1 p2 p3 p4) + (0 : Int32))))]) _ := fun t k => pre7 t (by
    show Steps p.tables e below (T5.setTop (mkF m 19 #[(vr oa), (vi p1), (vi p2), (vi p3), (vi p4), (vi (f28 p1 p2 p3 p4)), .unset] [(.int ((f28 p1 p2 p3 p4) + (0 : Int32))), (.ref qca)])) _
    refine X5.iaload hx (j := ((f28 p1 p2 p3 p4) + (0 : Int32))) (v := (.int (xca ((f28 p1 p2 p3 p4) + (0 : Int32))))) (by rw [e5]; exact Ar8.1) (State.isArrayOf_alike hZ.alike Ar8.2.1) Ar8.2.2 (inb_of Sz8 ib8) hat8 (g := (mkF m 19 #[(vr oa), (vi p1), (vi p2), (vi p3), (vi p4), (vi (f28 p1 p2 p3 p4)), .unset] [(.int ((f28 p1 p2 p3 p4) + (0 : Int32))), (.ref qca)])) rfl rfl (hb hby d27_19) _ ?_
    exact k)
  have pre10 : Go p e below T5 _ (mkF m 89 #[(vr oa), (vi p1), (vi p2), (vi p3), (vi p4), (vi (f28 p1 p2 p3 p4)), (vi 0)] [(.int (-1))]) _ := fun t k => pre9 t (by
    refine XS.iloadN X5.here hx rfl (hb hby d27_20) rfl ?_
    refine XS.icmpYes X5.here hx rfl (pc0 := 21) (pc' := 68) rfl (hb hby d27_21) rfl (feq hm).2 (by decide) (by decide) ?_
    refine XS.iconst X5.here hx rfl (hb hby d27_68) ?_
    refine XS.istore X5.here hx rfl (hb hby d27_69) rfl (l' := #[(vr oa), (vi p1), (vi p2), (vi p3), (vi p4), (vi (f28 p1 p2 p3 p4)), (vi 0)]) rfl ?_
    refine XS.iload X5.here hx rfl (hb hby d27_71) rfl ?_
    refine XS.ifYes X5.here hx rfl (pc0 := 73) (pc' := 88) rfl (hb hby d27_73) rfl (by decide) (by decide) (by decide) ?_
    refine XS.iconst X5.here hx rfl (hb hby d27_88) ?_
    exact k)
  obtain ⟨fs, hr, hrun, hended, hW, hsame⟩ := X5.leave (v := some (.int (-1))) (fun h => by rw [Bd.returns] at h; cases h)
  refine ⟨_, _, ?_, hrun, hended, _, _, rfl, ?_, ⟨_, rfl⟩, hW, hsame.mono (by decide) (by decide)⟩
  · exact pre10 _ (retI X5 hx Bd.returns (hb hby d27_89) hr)
  · exact ⟨rfl, N2, e5⟩
theorem d29_0 : DK cd29 0 (.iload_n 1) 1 := by decide +kernel
theorem d29_1 : DK cd29 1 (.istore 4) 2 := by decide +kernel
theorem d29_3 : DK cd29 3 (.aload_n 0) 1 := by decide +kernel
theorem d29_4 : DK cd29 4 (.iload_n 1) 1 := by decide +kernel
theorem d29_5 : DK cd29 5 (.invokevirtual 186) 3 := by decide +kernel
theorem d29_8 : DK cd29 8 (.iload_n 2) 1 := by decide +kernel
theorem d29_9 : DK cd29 9 (.if_icmp .ne 24) 3 := by decide +kernel
theorem d29_12 : DK cd29 12 (.iload_n 3) 1 := by decide +kernel
theorem d29_13 : DK cd29 13 (.ifCond .eq 12) 3 := by decide +kernel
theorem d29_25 : DK cd29 25 (.aload_n 0) 1 := by decide +kernel
theorem d29_26 : DK cd29 26 (.getfield 144) 3 := by decide +kernel
theorem d29_29 : DK cd29 29 (.iload_n 1) 1 := by decide +kernel
theorem d29_30 : DK cd29 30 .iaload 1 := by decide +kernel
theorem d29_31 : DK cd29 31 (.istore 4) 2 := by decide +kernel
theorem d29_33 : DK cd29 33 (.iload 4) 2 := by decide +kernel
theorem d29_35 : DK cd29 35 .ireturn 1 := by decide +kernel
theorem pn_29 : plainName "com/example/slim_kripke/slimkripke/bdd/BddManager" = true := by first | (simp [plainName, overriddenIn]; done) | decide +kernel
theorem ef_29z (m : MethodId) (x0 : Addr) (x1 : Int32) (x2 : Int32) : entryFrame m #[(.ref x0), (.int x1), (.int x2), (.int 0)] 5 = mkF m 0 #[.val (.ref x0), .val (.int x1), .val (.int x2), .val (.int 0), .unset] [] := by first | (simp [entryFrame, mkF, argsToLocals, Value.category]; done) | rfl
def v29z_33_l4 (p1 : Int32) (p2 : Int32) (xlv : Int32 → Int32) (xlo : Int32 → Int32) : Int32 := (if (xlv p1) = p2 then (xlo p1) else p1)
theorem rm29z (l : Launch) (Z : State) (a0 : Array Value) (hw : ∀ d ∈ tables_1, d.before a0 Z = true) (ws : List Jvm.Cond) {oa qcs qcf qpe qlv qlo qhi qrf qch qbk qca : Addr} {xn xs xff xfc xdp xcz xli xpk : Int32} {xlv xlo xhi xrf xch xbk xca xcf xpe : Int32 → Int32} (p1 : Int32) (p2 : Int32) (h0 : Heap) (n0 : Nat) (Z0 : n0 ≤ h0.size) (B0 : Mg Z n0 h0 oa qcs qcf qpe qlv qlo qhi qrf qch qbk qca xn xs xff xfc xdp xcz xli xpk xlv xlo xhi xrf xch xbk xca xcf xpe) (hp1 : 1 < p1) (hp2 : ¬ p1 < 0) (hp3 : p1 < 4096) :
    Met1 l Nm_19 (Jvm.Cond.code Nm_19 prog_5_method_43_code 5 (some .int)) ws (rom 1 0 0 13) #[(.ref oa), (.int p1), (.int p2), (.int 0)] Z h0 (QP (some (.int (v29z_33_l4 p1 p2 xlv xlo))) h0 n0) := by
  refine MetFree.of_bodySF (plainFor_of_name pn_29) hisR ?_
  intro p e s m args below meth c s₁ Bd hml0 hP hK
  obtain ⟨rfl, hZ, hh⟩ := hP
  have hx := Bd.exec
  have hby := Bd.bytes
  have hml : c.maxLocals = 5 := hml0
  have hown : s.vm.findClass "com/example/slim_kripke/slimkripke/bdd/BddManager" = some m.cls := findClass_of_methodNamed Bd.named
  have X0 : Stand p l e (rom 1 0 0 13) s m _ _ _ _ _ [] 0 0 := Stand.of_body Bd
  have e0 : s₁.heap = h0 := by rw [← hh, Bd.state]; rfl
  have N0 := Fr.nil n0
  have K0 : Keep h0 h0 [] := Keep.refl _ _
  have pre0 : Go p e below s₁ _ (mkF m 0 #[(vr oa), (vi p1), (vi p2), (vi 0), .unset] []) _ := fun t k => castTop (ef_29z m oa p1 p2) k
  have pre2 : Go p e below s₁ _ (mkF m 5 #[(vr oa), (vi p1), (vi p2), (vi 0), (vi p1)] [(.int p1), (.ref oa)]) _ := fun t k => pre0 t (by
    refine XS.iloadN X0.here hx rfl (hb hby d29_0) rfl ?_
    refine XS.istore X0.here hx rfl (hb hby d29_1) rfl (l' := #[(vr oa), (vi p1), (vi p2), (vi 0), (vi p1)]) rfl ?_
    refine XS.aloadN X0.here hx rfl (hb hby d29_3) rfl rfl ?_
    refine XS.iloadN X0.here hx rfl (hb hby d29_4) rfl ?_
    exact k)
  obtain ⟨cq3, kq3, q3a, q3b, q3c⟩ := isOf hZ e0 B0.e
  obtain ⟨_, _, ⟨T3, L3, k3, n3⟩, -, X3, ⟨Lc3, hQ3, l3, y3, z3⟩, st3⟩ := X0.virtualBack hx (y := Nm_15) (z := Nm_15) hown (mq hZ hw 167 rfl) (mq hZ hw 81 rfl) (notFace_of_selects (args := #[]) (mq hZ hw 83 rfl)) (mq hZ hw 83 rfl) (mq hZ hw 82 rfl) (by decide) (backOf (W := 0) (rm11n l Z a0 hw [] p1 h0 n0 B0.z B0 hp1 hp2 hp3) hZ (wq hw 84 rfl) (wq hw 3 rfl) (by decide) (by decide)) q3a q3c (g := (mkF m 5 #[(vr oa), (vi p1), (vi p2), (vi 0), (vi p1)] [(.int p1), (.ref oa)])) rfl (by rw [hml]; rfl) (Steps.refl _) (argsL := [(.int p1)]) (rest := []) (lenOf pd__I_I rfl) rfl (w00 rfl) (hb hby d29_5) (fun _ _ => ⟨rfl, e0, zz, zz⟩)
  dsimp only [Pt.U, Pt.locs, Pt.cells, Pt.slots] at X3 l3 y3 z3 st3 hQ3
  subst y3 z3
  obtain ⟨rfl, Nq3, e3⟩ := hQ3
  have N3 := FrE l3 N0 Nq3
  have pre4 := Go.trn pre2 st3
  have pre5 : Go p e below T3 _ (mkF m 9 #[(vr oa), (vi p1), (vi p2), (vi 0), (vi p1)] [(.int p2), (.int (xlv p1))]) _ := fun t k => pre4 t (by
    refine XS.iloadN X3.here hx rfl (hb hby d29_8) rfl ?_
    exact k)
  obtain ⟨T6, L6, X6, e6, N6, pre6⟩ : ∃ (T' : State) (L' : List Loc), Stand p l e (rom 1 0 0 13) s m #[(.ref oa), (.int p1), (.int p2), (.int 0)] below meth c T' L' 0 0 ∧ T'.heap = h0 ∧ Fr n0 L' ∧ ∀ t, Steps p.tables e below (T'.setTop (mkF m 33 #[(vr oa), (vi p1), (vi p2), (vi 0), (vi (v29z_33_l4 p1 p2 xlv xlo))] [])) t → Steps p.tables e below (s₁.setTop (entryFrame m #[(.ref oa), (.int p1), (.int p2), (.int 0)] 5)) t := by
    by_cases hc9_1 : (xlv p1) = p2
    · have pre7 : Go p e below T3 _ (mkF m 26 #[(vr oa), (vi p1), (vi p2), (vi 0), (vi p1)] [(.ref oa)]) _ := fun t k => pre5 t (by
        refine XS.icmpNo X3.here hx rfl (hb hby d29_9) rfl (teq hc9_1).2 ?_
        refine XS.iloadN X3.here hx rfl (hb hby d29_12) rfl ?_
        refine XS.ifYes X3.here hx rfl (pc0 := 13) (pc' := 25) rfl (hb hby d29_13) rfl (by decide) (by decide) (by decide) ?_
        refine XS.aloadN X3.here hx rfl (hb hby d29_25) rfl rfl ?_
        exact k)
      obtain ⟨T8, X8, e8, st8⟩ := getF X3 hx hZ hown (host := "") (Or.inl (wq hw 38 rfl)) Via.refl e3 B0.f_lo (g := (mkF m 26 #[(vr oa), (vi p1), (vi p2), (vi 0), (vi p1)] [(.ref oa)])) rfl rfl (hb hby d29_26)
      have pre9 := Go.thn pre7 st8
      have pre10 : Go p e below T8 _ (mkF m 30 #[(vr oa), (vi p1), (vi p2), (vi 0), (vi p1)] [(.int p1), (.ref qlo)]) _ := fun t k => pre9 t (by
        refine XS.iloadN X8.here hx rfl (hb hby d29_29) rfl ?_
        exact k)
      obtain ⟨cl11, Ar11, Sz11, Mn11, Hs11⟩ := id B0.a_lo
      have ib11 : ¬ p1 < 0 ∧ p1 < 4096 := ⟨hp2, hp3⟩
      have hat11 : cl11.slots[(p1).toNatClampNeg]? = some (.int (xlo p1)) := Hs11 p1 ib11
      have pre12 : Go p e below T8 _ (mkF m 31 #[(vr oa), (vi p1), (vi p2), (vi 0), (vi p1)] [(.int (xlo p1))]) _ := fun t k => pre10 t (by
        show Steps p.tables e below (T8.setTop (mkF m 30 #[(vr oa), (vi p1), (vi p2), (vi 0), (vi p1)] [(.int p1), (.ref qlo)])) _
        refine X8.iaload hx (j := p1) (v := (.int (xlo p1))) (by rw [e8]; exact Ar11.1) (State.isArrayOf_alike hZ.alike Ar11.2.1) Ar11.2.2 (inb_of Sz11 ib11) hat11 (g := (mkF m 30 #[(vr oa), (vi p1), (vi p2), (vi 0), (vi p1)] [(.int p1), (.ref qlo)])) rfl rfl (hb hby d29_30) _ ?_
        exact k)
      have pre13 : Go p e below T8 _ (mkF m 33 #[(vr oa), (vi p1), (vi p2), (vi 0), (vi (xlo p1))] []) _ := fun t k => pre12 t (by
        refine XS.istore X8.here hx rfl (hb hby d29_31) rfl (l' := #[(vr oa), (vi p1), (vi p2), (vi 0), (vi (xlo p1))]) rfl ?_
        exact k)
      exact ⟨T8, _, X8, e8, N3, fun t k => pre13 t (by simpa only [v29z_33_l4, if_pos hc9_1] using k)⟩
    · have pre14 : Go p e below T3 _ (mkF m 33 #[(vr oa), (vi p1), (vi p2), (vi 0), (vi p1)] []) _ := fun t k => pre5 t (by
        refine XS.icmpYes X3.here hx rfl (pc0 := 9) (pc' := 33) rfl (hb hby d29_9) rfl (feq hc9_1).2 (by decide) (by decide) ?_
        exact k)
      exact ⟨T3, _, X3, e3, N3, fun t k => pre14 t (by simpa only [v29z_33_l4, if_neg hc9_1] using k)⟩
  have pre15 : Go p e below T6 _ (mkF m 35 #[(vr oa), (vi p1), (vi p2), (vi 0), (vi (v29z_33_l4 p1 p2 xlv xlo))] [(.int (v29z_33_l4 p1 p2 xlv xlo))]) _ := fun t k => pre6 t (by
    refine XS.iload X6.here hx rfl (hb hby d29_33) rfl ?_
    exact k)
  obtain ⟨fs, hr, hrun, hended, hW, hsame⟩ := X6.leave (v := some (.int (v29z_33_l4 p1 p2 xlv xlo))) (fun h => by rw [Bd.returns] at h; cases h)
  refine ⟨_, _, ?_, hrun, hended, _, _, rfl, ?_, ⟨_, rfl⟩, hW, hsame.mono (by decide) (by decide)⟩
  · exact pre15 _ (retI X6 hx Bd.returns (hb hby d29_35) hr)
  · exact ⟨rfl, N6, e6⟩
theorem d29_16 : DK cd29 16 (.aload_n 0) 1 := by decide +kernel
theorem d29_17 : DK cd29 17 (.getfield 141) 3 := by decide +kernel
theorem d29_20 : DK cd29 20 (.iload_n 1) 1 := by decide +kernel
theorem d29_21 : DK cd29 21 .iaload 1 := by decide +kernel
theorem d29_22 : DK cd29 22 (.goto 9) 3 := by decide +kernel
theorem ef_29o (m : MethodId) (x0 : Addr) (x1 : Int32) (x2 : Int32) : entryFrame m #[(.ref x0), (.int x1), (.int x2), (.int 1)] 5 = mkF m 0 #[.val (.ref x0), .val (.int x1), .val (.int x2), .val (.int 1), .unset] [] := by first | (simp [entryFrame, mkF, argsToLocals, Value.category]; done) | rfl
def v29o_33_l4 (p1 : Int32) (p2 : Int32) (xlv : Int32 → Int32) (xhi : Int32 → Int32) : Int32 := (if (xlv p1) = p2 then (xhi p1) else p1)
theorem rm29o (l : Launch) (Z : State) (a0 : Array Value) (hw : ∀ d ∈ tables_1, d.before a0 Z = true) (ws : List Jvm.Cond) {oa qcs qcf qpe qlv qlo qhi qrf qch qbk qca : Addr} {xn xs xff xfc xdp xcz xli xpk : Int32} {xlv xlo xhi xrf xch xbk xca xcf xpe : Int32 → Int32} (p1 : Int32) (p2 : Int32) (h0 : Heap) (n0 : Nat) (Z0 : n0 ≤ h0.size) (B0 : Mg Z n0 h0 oa qcs qcf qpe qlv qlo qhi qrf qch qbk qca xn xs xff xfc xdp xcz xli xpk xlv xlo xhi xrf xch xbk xca xcf xpe) (hp1 : 1 < p1) (hp2 : ¬ p1 < 0) (hp3 : p1 < 4096) :
    Met1 l Nm_19 (Jvm.Cond.code Nm_19 prog_5_method_43_code 5 (some .int)) ws (rom 1 0 0 13) #[(.ref oa), (.int p1), (.int p2), (.int 1)] Z h0 (QP (some (.int (v29o_33_l4 p1 p2 xlv xhi))) h0 n0) := by
  refine MetFree.of_bodySF (plainFor_of_name pn_29) hisR ?_
  intro p e s m args below meth c s₁ Bd hml0 hP hK
  obtain ⟨rfl, hZ, hh⟩ := hP
  have hx := Bd.exec
  have hby := Bd.bytes
  have hml : c.maxLocals = 5 := hml0
  have hown : s.vm.findClass "com/example/slim_kripke/slimkripke/bdd/BddManager" = some m.cls := findClass_of_methodNamed Bd.named
  have X0 : Stand p l e (rom 1 0 0 13) s m _ _ _ _ _ [] 0 0 := Stand.of_body Bd
  have e0 : s₁.heap = h0 := by rw [← hh, Bd.state]; rfl
  have N0 := Fr.nil n0
  have K0 : Keep h0 h0 [] := Keep.refl _ _
  have pre0 : Go p e below s₁ _ (mkF m 0 #[(vr oa), (vi p1), (vi p2), (vi 1), .unset] []) _ := fun t k => castTop (ef_29o m oa p1 p2) k
  have pre2 : Go p e below s₁ _ (mkF m 5 #[(vr oa), (vi p1), (vi p2), (vi 1), (vi p1)] [(.int p1), (.ref oa)]) _ := fun t k => pre0 t (by
    refine XS.iloadN X0.here hx rfl (hb hby d29_0) rfl ?_
    refine XS.istore X0.here hx rfl (hb hby d29_1) rfl (l' := #[(vr oa), (vi p1), (vi p2), (vi 1), (vi p1)]) rfl ?_
    refine XS.aloadN X0.here hx rfl (hb hby d29_3) rfl rfl ?_
    refine XS.iloadN X0.here hx rfl (hb hby d29_4) rfl ?_
    exact k)
  obtain ⟨cq3, kq3, q3a, q3b, q3c⟩ := isOf hZ e0 B0.e
  obtain ⟨_, _, ⟨T3, L3, k3, n3⟩, -, X3, ⟨Lc3, hQ3, l3, y3, z3⟩, st3⟩ := X0.virtualBack hx (y := Nm_15) (z := Nm_15) hown (mq hZ hw 167 rfl) (mq hZ hw 81 rfl) (notFace_of_selects (args := #[]) (mq hZ hw 83 rfl)) (mq hZ hw 83 rfl) (mq hZ hw 82 rfl) (by decide) (backOf (W := 0) (rm11n l Z a0 hw [] p1 h0 n0 B0.z B0 hp1 hp2 hp3) hZ (wq hw 84 rfl) (wq hw 3 rfl) (by decide) (by decide)) q3a q3c (g := (mkF m 5 #[(vr oa), (vi p1), (vi p2), (vi 1), (vi p1)] [(.int p1), (.ref oa)])) rfl (by rw [hml]; rfl) (Steps.refl _) (argsL := [(.int p1)]) (rest := []) (lenOf pd__I_I rfl) rfl (w00 rfl) (hb hby d29_5) (fun _ _ => ⟨rfl, e0, zz, zz⟩)
  dsimp only [Pt.U, Pt.locs, Pt.cells, Pt.slots] at X3 l3 y3 z3 st3 hQ3
  subst y3 z3
  obtain ⟨rfl, Nq3, e3⟩ := hQ3
  have N3 := FrE l3 N0 Nq3
  have pre4 := Go.trn pre2 st3
  have pre5 : Go p e below T3 _ (mkF m 9 #[(vr oa), (vi p1), (vi p2), (vi 1), (vi p1)] [(.int p2), (.int (xlv p1))]) _ := fun t k => pre4 t (by
    refine XS.iloadN X3.here hx rfl (hb hby d29_8) rfl ?_
    exact k)
  obtain ⟨T6, L6, X6, e6, N6, pre6⟩ : ∃ (T' : State) (L' : List Loc), Stand p l e (rom 1 0 0 13) s m #[(.ref oa), (.int p1), (.int p2), (.int 1)] below meth c T' L' 0 0 ∧ T'.heap = h0 ∧ Fr n0 L' ∧ ∀ t, Steps p.tables e below (T'.setTop (mkF m 33 #[(vr oa), (vi p1), (vi p2), (vi 1), (vi (v29o_33_l4 p1 p2 xlv xhi))] [])) t → Steps p.tables e below (s₁.setTop (entryFrame m #[(.ref oa), (.int p1), (.int p2), (.int 1)] 5)) t := by
    by_cases hc9_1 : (xlv p1) = p2
    · have pre7 : Go p e below T3 _ (mkF m 17 #[(vr oa), (vi p1), (vi p2), (vi 1), (vi p1)] [(.ref oa)]) _ := fun t k => pre5 t (by
        refine XS.icmpNo X3.here hx rfl (hb hby d29_9) rfl (teq hc9_1).2 ?_
        refine XS.iloadN X3.here hx rfl (hb hby d29_12) rfl ?_
        refine XS.ifNo X3.here hx rfl (hb hby d29_13) rfl (by decide) ?_
        refine XS.aloadN X3.here hx rfl (hb hby d29_16) rfl rfl ?_
        exact k)
      obtain ⟨T8, X8, e8, st8⟩ := getF X3 hx hZ hown (host := "") (Or.inl (wq hw 40 rfl)) Via.refl e3 B0.f_hi (g := (mkF m 17 #[(vr oa), (vi p1), (vi p2), (vi 1), (vi p1)] [(.ref oa)])) rfl rfl (hb hby d29_17)
      have pre9 := Go.thn pre7 st8
      have pre10 : Go p e below T8 _ (mkF m 21 #[(vr oa), (vi p1), (vi p2), (vi 1), (vi p1)] [(.int p1), (.ref qhi)]) _ := fun t k => pre9 t (by
        refine XS.iloadN X8.here hx rfl (hb hby d29_20) rfl ?_
        exact k)
      obtain ⟨cl11, Ar11, Sz11, Mn11, Hs11⟩ := id B0.a_hi
      have ib11 : ¬ p1 < 0 ∧ p1 < 4096 := ⟨hp2, hp3⟩
      have hat11 : cl11.slots[(p1).toNatClampNeg]? = some (.int (xhi p1)) := Hs11 p1 ib11
      have pre12 : Go p e below T8 _ (mkF m 22 #[(vr oa), (vi p1), (vi p2), (vi 1), (vi p1)] [(.int (xhi p1))]) _ := fun t k => pre10 t (by
        show Steps p.tables e below (T8.setTop (mkF m 21 #[(vr oa), (vi p1), (vi p2), (vi 1), (vi p1)] [(.int p1), (.ref qhi)])) _
        refine X8.iaload hx (j := p1) (v := (.int (xhi p1))) (by rw [e8]; exact Ar11.1) (State.isArrayOf_alike hZ.alike Ar11.2.1) Ar11.2.2 (inb_of Sz11 ib11) hat11 (g := (mkF m 21 #[(vr oa), (vi p1), (vi p2), (vi 1), (vi p1)] [(.int p1), (.ref qhi)])) rfl rfl (hb hby d29_21) _ ?_
        exact k)
      have pre13 : Go p e below T8 _ (mkF m 33 #[(vr oa), (vi p1), (vi p2), (vi 1), (vi (xhi p1))] []) _ := fun t k => pre12 t (by
        refine XS.goto X8.here hx rfl (pc0 := 22) (pc' := 31) rfl (hb hby d29_22) (by decide) (by decide) ?_
        refine XS.istore X8.here hx rfl (hb hby d29_31) rfl (l' := #[(vr oa), (vi p1), (vi p2), (vi 1), (vi (xhi p1))]) rfl ?_
        exact k)
      exact ⟨T8, _, X8, e8, N3, fun t k => pre13 t (by simpa only [v29o_33_l4, if_pos hc9_1] using k)⟩
    · have pre14 : Go p e below T3 _ (mkF m 33 #[(vr oa), (vi p1), (vi p2), (vi 1), (vi p1)] []) _ := fun t k => pre5 t (by
        refine XS.icmpYes X3.here hx rfl (pc0 := 9) (pc' := 33) rfl (hb hby d29_9) rfl (feq hc9_1).2 (by decide) (by decide) ?_
        exact k)
      exact ⟨T3, _, X3, e3, N3, fun t k => pre14 t (by simpa only [v29o_33_l4, if_neg hc9_1] using k)⟩
  have pre15 : Go p e below T6 _ (mkF m 35 #[(vr oa), (vi p1), (vi p2), (vi 1), (vi (v29o_33_l4 p1 p2 xlv xhi))] [(.int (v29o_33_l4 p1 p2 xlv xhi))]) _ := fun t k => pre6 t (by
    refine XS.iload X6.here hx rfl (hb hby d29_33) rfl ?_
    exact k)
  obtain ⟨fs, hr, hrun, hended, hW, hsame⟩ := X6.leave (v := some (.int (v29o_33_l4 p1 p2 xlv xhi))) (fun h => by rw [Bd.returns] at h; cases h)
  refine ⟨_, _, ?_, hrun, hended, _, _, rfl, ?_, ⟨_, rfl⟩, hW, hsame.mono (by decide) (by decide)⟩
  · exact pre15 _ (retI X6 hx Bd.returns (hb hby d29_35) hr)
  · exact ⟨rfl, N6, e6⟩
theorem d30_0 : DK cd30 0 (.aload_n 0) 1 := by decide +kernel
theorem d30_1 : DK cd30 1 (.iload_n 1) 1 := by decide +kernel
theorem d30_2 : DK cd30 2 (.iload_n 2) 1 := by decide +kernel
theorem d30_3 : DK cd30 3 (.iload_n 3) 1 := by decide +kernel
theorem d30_4 : DK cd30 4 (.iload 4) 2 := by decide +kernel
theorem d30_6 : DK cd30 6 (.invokevirtual 422) 3 := by decide +kernel
theorem d30_9 : DK cd30 9 (.istore 6) 2 := by decide +kernel
theorem d30_11 : DK cd30 11 (.aload_n 0) 1 := by decide +kernel
theorem d30_12 : DK cd30 12 (.getfield 419) 3 := by decide +kernel
theorem d30_15 : DK cd30 15 (.iload 6) 2 := by decide +kernel
theorem d30_17 : DK cd30 17 (.iconst 0) 1 := by decide +kernel
theorem d30_18 : DK cd30 18 .iadd 1 := by decide +kernel
theorem d30_19 : DK cd30 19 (.iload_n 1) 1 := by decide +kernel
theorem d30_20 : DK cd30 20 .iastore 1 := by decide +kernel
theorem d30_21 : DK cd30 21 (.aload_n 0) 1 := by decide +kernel
theorem d30_22 : DK cd30 22 (.getfield 419) 3 := by decide +kernel
theorem d30_25 : DK cd30 25 (.iload 6) 2 := by decide +kernel
theorem d30_27 : DK cd30 27 (.iconst 1) 1 := by decide +kernel
theorem d30_28 : DK cd30 28 .iadd 1 := by decide +kernel
theorem d30_29 : DK cd30 29 (.iload_n 2) 1 := by decide +kernel
theorem d30_30 : DK cd30 30 .iastore 1 := by decide +kernel
theorem d30_31 : DK cd30 31 (.aload_n 0) 1 := by decide +kernel
theorem d30_32 : DK cd30 32 (.getfield 419) 3 := by decide +kernel
theorem d30_35 : DK cd30 35 (.iload 6) 2 := by decide +kernel
theorem d30_37 : DK cd30 37 (.iconst 2) 1 := by decide +kernel
theorem d30_38 : DK cd30 38 .iadd 1 := by decide +kernel
theorem d30_39 : DK cd30 39 (.iload_n 3) 1 := by decide +kernel
theorem d30_40 : DK cd30 40 .iastore 1 := by decide +kernel
theorem d30_41 : DK cd30 41 (.aload_n 0) 1 := by decide +kernel
theorem d30_42 : DK cd30 42 (.getfield 419) 3 := by decide +kernel
theorem d30_45 : DK cd30 45 (.iload 6) 2 := by decide +kernel
theorem d30_47 : DK cd30 47 (.iconst 3) 1 := by decide +kernel
theorem d30_48 : DK cd30 48 .iadd 1 := by decide +kernel
theorem d30_49 : DK cd30 49 (.iload 4) 2 := by decide +kernel
theorem d30_51 : DK cd30 51 .iastore 1 := by decide +kernel
theorem d30_52 : DK cd30 52 (.aload_n 0) 1 := by decide +kernel
theorem d30_53 : DK cd30 53 (.getfield 419) 3 := by decide +kernel
theorem d30_56 : DK cd30 56 (.iload 6) 2 := by decide +kernel
theorem d30_58 : DK cd30 58 (.iconst 4) 1 := by decide +kernel
theorem d30_59 : DK cd30 59 .iadd 1 := by decide +kernel
theorem d30_60 : DK cd30 60 (.iload 5) 2 := by decide +kernel
theorem d30_62 : DK cd30 62 .iastore 1 := by decide +kernel
theorem d30_63 : DK cd30 63 .return_ 1 := by decide +kernel
theorem pn_30 : plainName "com/example/slim_kripke/slimkripke/bdd/BddManager" = true := by first | (simp [plainName, overriddenIn]; done) | decide +kernel
theorem ef_30 (m : MethodId) (x0 : Addr) (x1 : Int32) (x2 : Int32) (x3 : Int32) (x4 : Int32) (x5 : Int32) : entryFrame m #[(.ref x0), (.int x1), (.int x2), (.int x3), (.int x4), (.int x5)] 7 = mkF m 0 #[.val (.ref x0), .val (.int x1), .val (.int x2), .val (.int x3), .val (.int x4), .val (.int x5), .unset] [] := by first | (simp [entryFrame, mkF, argsToLocals, Value.category]; done) | rfl
theorem rm30 (l : Launch) (Z : State) (a0 : Array Value) (hw : ∀ d ∈ tables_1, d.before a0 Z = true) (ws : List Jvm.Cond) {oa qcs qcf qpe qlv qlo qhi qrf qch qbk qca : Addr} {xn xs xff xfc xdp xcz xli xpk : Int32} {xlv xlo xhi xrf xch xbk xca xcf xpe : Int32 → Int32} (p1 : Int32) (p2 : Int32) (p3 : Int32) (p4 : Int32) (p5 : Int32) (h0 : Heap) (n0 : Nat) (Z0 : n0 ≤ h0.size) (B0 : Mg Z n0 h0 oa qcs qcf qpe qlv qlo qhi qrf qch qbk qca xn xs xff xfc xdp xcz xli xpk xlv xlo xhi xrf xch xbk xca xcf xpe) :
    Met1 l Nm_20 (Jvm.Cond.code Nm_20 prog_5_method_63_code 7 none) ws (rom 2 0 0 34) #[(.ref oa), (.int p1), (.int p2), (.int p3), (.int p4), (.int p5)] Z h0 (QB none n0 (fun h => Mg Z n0 h oa qcs qcf qpe qlv qlo qhi qrf qch qbk qca xn xs xff xfc xdp xcz xli xpk xlv xlo xhi xrf xch xbk (own_up (own_up (own_up (own_up (own_up xca ((f28 p1 p2 p3 p4) + 0) p1) ((f28 p1 p2 p3 p4) + 1) p2) ((f28 p1 p2 p3 p4) + 2) p3) ((f28 p1 p2 p3 p4) + 3) p4) ((f28 p1 p2 p3 p4) + 4) p5) xcf xpe)) := by
  refine MetFree.of_bodySF (plainFor_of_name pn_30) hisR ?_
  intro p e s m args below meth c s₁ Bd hml0 hP hK
  obtain ⟨rfl, hZ, hh⟩ := hP
  have hx := Bd.exec
  have hby := Bd.bytes
  have hml : c.maxLocals = 7 := hml0
  have hown : s.vm.findClass "com/example/slim_kripke/slimkripke/bdd/BddManager" = some m.cls := findClass_of_methodNamed Bd.named
  have X0 : Stand p l e (rom 2 0 0 34) s m _ _ _ _ _ [] 0 0 := Stand.of_body Bd
  have e0 : s₁.heap = h0 := by rw [← hh, Bd.state]; rfl
  have N0 := Fr.nil n0
  have K0 : Keep h0 h0 [] := Keep.refl _ _
  have pre0 : Go p e below s₁ _ (mkF m 0 #[(vr oa), (vi p1), (vi p2), (vi p3), (vi p4), (vi p5), .unset] []) _ := fun t k => castTop (ef_30 m oa p1 p2 p3 p4 p5) k
  have pre1 : Go p e below s₁ _ (mkF m 6 #[(vr oa), (vi p1), (vi p2), (vi p3), (vi p4), (vi p5), .unset] [(.int p4), (.int p3), (.int p2), (.int p1), (.ref oa)]) _ := fun t k => pre0 t (by
    refine XS.aloadN X0.here hx rfl (hb hby d30_0) rfl rfl ?_
    refine XS.iloadN X0.here hx rfl (hb hby d30_1) rfl ?_
    refine XS.iloadN X0.here hx rfl (hb hby d30_2) rfl ?_
    refine XS.iloadN X0.here hx rfl (hb hby d30_3) rfl ?_
    refine XS.iload X0.here hx rfl (hb hby d30_4) rfl ?_
    exact k)
  obtain ⟨cq2, q2, q2'⟩ := B0.e.cell
  obtain ⟨_, _, ⟨T2, L2, k2, n2⟩, -, X2, ⟨Lc2, hQ2, l2, y2, z2⟩, st2⟩ := X0.privateBack hx (y := Nm_17) hown (mq hZ hw 163 rfl) (mq hZ hw 164 rfl) (own_seli (mq hZ hw 2 rfl) (pq hZ hw 165 rfl) (mq hZ hw 164 rfl) (by decide)) (pq hZ hw 165 rfl) (mq hZ hw 166 rfl) (by decide) (backOf (W := 0) (rm28 l Z a0 hw [] p1 p2 p3 p4 h0 n0 B0.z B0) hZ (wq hw 166 rfl) (wq hw 3 rfl) (by decide) (by decide)) (g := (mkF m 6 #[(vr oa), (vi p1), (vi p2), (vi p3), (vi p4), (vi p5), .unset] [(.int p4), (.int p3), (.int p2), (.int p1), (.ref oa)])) rfl (by rw [hml]; rfl) (Steps.refl _) (a := oa) (by rw [e0]; exact q2) q2' (argsL := [(.int p1), (.int p2), (.int p3), (.int p4)]) (rest := []) (lenOf pd__IIII_I rfl) rfl (w00 rfl) (hb hby d30_6) (fun _ _ => ⟨rfl, e0, zz, zz⟩)
  dsimp only [Pt.U, Pt.locs, Pt.cells, Pt.slots] at X2 l2 y2 z2 st2 hQ2
  subst y2 z2
  obtain ⟨rfl, Nq2, e2⟩ := hQ2
  have N2 := FrE l2 N0 Nq2
  have pre3 := Go.trn pre1 st2
  have pre4 : Go p e below T2 _ (mkF m 12 #[(vr oa), (vi p1), (vi p2), (vi p3), (vi p4), (vi p5), (vi (f28 p1 p2 p3 p4))] [(.ref oa)]) _ := fun t k => pre3 t (by
    refine XS.istore X2.here hx rfl (hb hby d30_9) rfl (l' := #[(vr oa), (vi p1), (vi p2), (vi p3), (vi p4), (vi p5), (vi (f28 p1 p2 p3 p4))]) rfl ?_
    refine XS.aloadN X2.here hx rfl (hb hby d30_11) rfl rfl ?_
    exact k)
  obtain ⟨T5, X5, e5, st5⟩ := getF X2 hx hZ hown (host := "") (Or.inl (wq hw 74 rfl)) Via.refl e2 B0.f_ca (g := (mkF m 12 #[(vr oa), (vi p1), (vi p2), (vi p3), (vi p4), (vi p5), (vi (f28 p1 p2 p3 p4))] [(.ref oa)])) rfl rfl (hb hby d30_12)
  have pre6 := Go.thn pre4 st5
  have pre7 : Go p e below T5 _ (mkF m 20 #[(vr oa), (vi p1), (vi p2), (vi p3), (vi p4), (vi p5), (vi (f28 p1 p2 p3 p4))] [(.int p1), (.int ((f28 p1 p2 p3 p4) + (0 : Int32))), (.ref qca)]) _ := fun t k => pre6 t (by
    refine XS.iload X5.here hx rfl (hb hby d30_15) rfl ?_
    refine XS.iconst X5.here hx rfl (hb hby d30_17) ?_
    refine XS.iadd X5.here hx rfl (hb hby d30_18) rfl ?_
    refine XS.iloadN X5.here hx rfl (hb hby d30_19) rfl ?_
    exact k)
  have ib8 : ¬ ((f28 p1 p2 p3 p4) + (0 : Int32)) < 0 ∧ ((f28 p1 p2 p3 p4) + (0 : Int32)) < 20480 := (own_enf _ _ _ _ _ (by decide) (by decide))
  obtain ⟨cl8, Ar8, Sz8, -, -⟩ := id B0.a_ca
  obtain ⟨T8, h8, X8, e8, W8, st8⟩ := stI X5 hx hZ e5 Ar8 (j := ((f28 p1 p2 p3 p4) + (0 : Int32))) (inb_of Sz8 ib8) (g := (mkF m 20 #[(vr oa), (vi p1), (vi p2), (vi p3), (vi p4), (vi p5), (vi (f28 p1 p2 p3 p4))] [(.int p1), (.int ((f28 p1 p2 p3 p4) + (0 : Int32))), (.ref qca)])) rfl rfl (hb hby d30_20)
  have N8 := Fr.snoc X8 N2 B0.g_ca
  have B8 := B0.t_ca W8 ib8
  have pre9 := Go.thn pre7 st8
  have pre10 : Go p e below T8 _ (mkF m 22 #[(vr oa), (vi p1), (vi p2), (vi p3), (vi p4), (vi p5), (vi (f28 p1 p2 p3 p4))] [(.ref oa)]) _ := fun t k => pre9 t (by
    refine XS.aloadN X8.here hx rfl (hb hby d30_21) rfl rfl ?_
    exact k)
  obtain ⟨T11, X11, e11, st11⟩ := getF X8 hx hZ hown (host := "") (Or.inl (wq hw 74 rfl)) Via.refl e8 B8.f_ca (g := (mkF m 22 #[(vr oa), (vi p1), (vi p2), (vi p3), (vi p4), (vi p5), (vi (f28 p1 p2 p3 p4))] [(.ref oa)])) rfl rfl (hb hby d30_22)
  have pre12 := Go.thn pre10 st11
  have pre13 : Go p e below T11 _ (mkF m 30 #[(vr oa), (vi p1), (vi p2), (vi p3), (vi p4), (vi p5), (vi (f28 p1 p2 p3 p4))] [(.int p2), (.int ((f28 p1 p2 p3 p4) + (1 : Int32))), (.ref qca)]) _ := fun t k => pre12 t (by
    refine XS.iload X11.here hx rfl (hb hby d30_25) rfl ?_
    refine XS.iconst X11.here hx rfl (hb hby d30_27) ?_
    refine XS.iadd X11.here hx rfl (hb hby d30_28) rfl ?_
    refine XS.iloadN X11.here hx rfl (hb hby d30_29) rfl ?_
    exact k)
  have ib14 : ¬ ((f28 p1 p2 p3 p4) + (1 : Int32)) < 0 ∧ ((f28 p1 p2 p3 p4) + (1 : Int32)) < 20480 := (own_enf _ _ _ _ _ (by decide) (by decide))
  obtain ⟨cl14, Ar14, Sz14, -, -⟩ := id B8.a_ca
  obtain ⟨T14, h14, X14, e14, W14, st14⟩ := stI X11 hx hZ e11 Ar14 (j := ((f28 p1 p2 p3 p4) + (1 : Int32))) (inb_of Sz14 ib14) (g := (mkF m 30 #[(vr oa), (vi p1), (vi p2), (vi p3), (vi p4), (vi p5), (vi (f28 p1 p2 p3 p4))] [(.int p2), (.int ((f28 p1 p2 p3 p4) + (1 : Int32))), (.ref qca)])) rfl rfl (hb hby d30_30)
  have N14 := Fr.snoc X14 N8 B8.g_ca
  have B14 := B8.t_ca W14 ib14
  have pre15 := Go.thn pre13 st14
  have pre16 : Go p e below T14 _ (mkF m 32 #[(vr oa), (vi p1), (vi p2), (vi p3), (vi p4), (vi p5), (vi (f28 p1 p2 p3 p4))] [(.ref oa)]) _ := fun t k => pre15 t (by
    refine XS.aloadN X14.here hx rfl (hb hby d30_31) rfl rfl ?_
    exact k)
  obtain ⟨T17, X17, e17, st17⟩ := getF X14 hx hZ hown (host := "") (Or.inl (wq hw 74 rfl)) Via.refl e14 B14.f_ca (g := (mkF m 32 #[(vr oa), (vi p1), (vi p2), (vi p3), (vi p4), (vi p5), (vi (f28 p1 p2 p3 p4))] [(.ref oa)])) rfl rfl (hb hby d30_32)
  have pre18 := Go.thn pre16 st17
  have pre19 : Go p e below T17 _ (mkF m 40 #[(vr oa), (vi p1), (vi p2), (vi p3), (vi p4), (vi p5), (vi (f28 p1 p2 p3 p4))] [(.int p3), (.int ((f28 p1 p2 p3 p4) + (2 : Int32))), (.ref qca)]) _ := fun t k => pre18 t (by
    refine XS.iload X17.here hx rfl (hb hby d30_35) rfl ?_
    refine XS.iconst X17.here hx rfl (hb hby d30_37) ?_
    refine XS.iadd X17.here hx rfl (hb hby d30_38) rfl ?_
    refine XS.iloadN X17.here hx rfl (hb hby d30_39) rfl ?_
    exact k)
  have ib20 : ¬ ((f28 p1 p2 p3 p4) + (2 : Int32)) < 0 ∧ ((f28 p1 p2 p3 p4) + (2 : Int32)) < 20480 := (own_enf _ _ _ _ _ (by decide) (by decide))
  obtain ⟨cl20, Ar20, Sz20, -, -⟩ := id B14.a_ca
  obtain ⟨T20, h20, X20, e20, W20, st20⟩ := stI X17 hx hZ e17 Ar20 (j := ((f28 p1 p2 p3 p4) + (2 : Int32))) (inb_of Sz20 ib20) (g := (mkF m 40 #[(vr oa), (vi p1), (vi p2), (vi p3), (vi p4), (vi p5), (vi (f28 p1 p2 p3 p4))] [(.int p3), (.int ((f28 p1 p2 p3 p4) + (2 : Int32))), (.ref qca)])) rfl rfl (hb hby d30_40)
  have N20 := Fr.snoc X20 N14 B14.g_ca
  have B20 := B14.t_ca W20 ib20
  have pre21 := Go.thn pre19 st20
  have pre22 : Go p e below T20 _ (mkF m 42 #[(vr oa), (vi p1), (vi p2), (vi p3), (vi p4), (vi p5), (vi (f28 p1 p2 p3 p4))] [(.ref oa)]) _ := fun t k => pre21 t (by
    refine XS.aloadN X20.here hx rfl (hb hby d30_41) rfl rfl ?_
    exact k)
  obtain ⟨T23, X23, e23, st23⟩ := getF X20 hx hZ hown (host := "") (Or.inl (wq hw 74 rfl)) Via.refl e20 B20.f_ca (g := (mkF m 42 #[(vr oa), (vi p1), (vi p2), (vi p3), (vi p4), (vi p5), (vi (f28 p1 p2 p3 p4))] [(.ref oa)])) rfl rfl (hb hby d30_42)
  have pre24 := Go.thn pre22 st23
  have pre25 : Go p e below T23 _ (mkF m 51 #[(vr oa), (vi p1), (vi p2), (vi p3), (vi p4), (vi p5), (vi (f28 p1 p2 p3 p4))] [(.int p4), (.int ((f28 p1 p2 p3 p4) + (3 : Int32))), (.ref qca)]) _ := fun t k => pre24 t (by
    refine XS.iload X23.here hx rfl (hb hby d30_45) rfl ?_
    refine XS.iconst X23.here hx rfl (hb hby d30_47) ?_
    refine XS.iadd X23.here hx rfl (hb hby d30_48) rfl ?_
    refine XS.iload X23.here hx rfl (hb hby d30_49) rfl ?_
    exact k)
  have ib26 : ¬ ((f28 p1 p2 p3 p4) + (3 : Int32)) < 0 ∧ ((f28 p1 p2 p3 p4) + (3 : Int32)) < 20480 := (own_enf _ _ _ _ _ (by decide) (by decide))
  obtain ⟨cl26, Ar26, Sz26, -, -⟩ := id B20.a_ca
  obtain ⟨T26, h26, X26, e26, W26, st26⟩ := stI X23 hx hZ e23 Ar26 (j := ((f28 p1 p2 p3 p4) + (3 : Int32))) (inb_of Sz26 ib26) (g := (mkF m 51 #[(vr oa), (vi p1), (vi p2), (vi p3), (vi p4), (vi p5), (vi (f28 p1 p2 p3 p4))] [(.int p4), (.int ((f28 p1 p2 p3 p4) + (3 : Int32))), (.ref qca)])) rfl rfl (hb hby d30_51)
  have N26 := Fr.snoc X26 N20 B20.g_ca
  have B26 := B20.t_ca W26 ib26
  have pre27 := Go.thn pre25 st26
  have pre28 : Go p e below T26 _ (mkF m 53 #[(vr oa), (vi p1), (vi p2), (vi p3), (vi p4), (vi p5), (vi (f28 p1 p2 p3 p4))] [(.ref oa)]) _ := fun t k => pre27 t (by
    refine XS.aloadN X26.here hx rfl (hb hby d30_52) rfl rfl ?_
    exact k)
  obtain ⟨T29, X29, e29, st29⟩ := getF X26 hx hZ hown (host := "") (Or.inl (wq hw 74 rfl)) Via.refl e26 B26.f_ca (g := (mkF m 53 #[(vr oa), (vi p1), (vi p2), (vi p3), (vi p4), (vi p5), (vi (f28 p1 p2 p3 p4))] [(.ref oa)])) rfl rfl (hb hby d30_53)
  have pre30 := Go.thn pre28 st29
  have pre31 : Go p e below T29 _ (mkF m 62 #[(vr oa), (vi p1), (vi p2), (vi p3), (vi p4), (vi p5), (vi (f28 p1 p2 p3 p4))] [(.int p5), (.int ((f28 p1 p2 p3 p4) + (4 : Int32))), (.ref qca)]) _ := fun t k => pre30 t (by
    refine XS.iload X29.here hx rfl (hb hby d30_56) rfl ?_
    refine XS.iconst X29.here hx rfl (hb hby d30_58) ?_
    refine XS.iadd X29.here hx rfl (hb hby d30_59) rfl ?_
    refine XS.iload X29.here hx rfl (hb hby d30_60) rfl ?_
    exact k)
  have ib32 : ¬ ((f28 p1 p2 p3 p4) + (4 : Int32)) < 0 ∧ ((f28 p1 p2 p3 p4) + (4 : Int32)) < 20480 := (own_enf _ _ _ _ _ (by decide) (by decide))
  obtain ⟨cl32, Ar32, Sz32, -, -⟩ := id B26.a_ca
  obtain ⟨T32, h32, X32, e32, W32, st32⟩ := stI X29 hx hZ e29 Ar32 (j := ((f28 p1 p2 p3 p4) + (4 : Int32))) (inb_of Sz32 ib32) (g := (mkF m 62 #[(vr oa), (vi p1), (vi p2), (vi p3), (vi p4), (vi p5), (vi (f28 p1 p2 p3 p4))] [(.int p5), (.int ((f28 p1 p2 p3 p4) + (4 : Int32))), (.ref qca)])) rfl rfl (hb hby d30_62)
  have N32 := Fr.snoc X32 N26 B26.g_ca
  have B32 := B26.t_ca W32 ib32
  have pre33 := Go.thn pre31 st32
  obtain ⟨fs, hr, hrun, hended, hW, hsame⟩ := X32.leave (v := none) (fun _ => rfl)
  refine ⟨_, _, ?_, hrun, hended, _, _, rfl, ?_, ⟨_, rfl⟩, hW, hsame.mono (by decide) (by decide)⟩
  · exact pre33 _ (X32.returnOut hx Bd.returns (hb hby d30_63) hr)
  · show QB _ _ _ _ T32.heap _
    rw [e32]
    exact ⟨rfl, N32, B32⟩
theorem d21_0 : DK cd21 0 (.iload_n 2) 1 := by decide +kernel
theorem d21_1 : DK cd21 1 (.aload_n 0) 1 := by decide +kernel
theorem d21_2 : DK cd21 2 (.getfield 19) 3 := by decide +kernel
theorem d21_5 : DK cd21 5 .arraylength 1 := by decide +kernel
theorem d21_6 : DK cd21 6 (.if_icmp .ne 17) 3 := by decide +kernel
theorem d21_23 : DK cd21 23 (.aload_n 0) 1 := by decide +kernel
theorem d21_24 : DK cd21 24 (.getfield 19) 3 := by decide +kernel
theorem d21_27 : DK cd21 27 (.iload_n 2) 1 := by decide +kernel
theorem d21_28 : DK cd21 28 (.iload_n 1) 1 := by decide +kernel
theorem d21_29 : DK cd21 29 .iastore 1 := by decide +kernel
theorem d21_30 : DK cd21 30 (.iload_n 2) 1 := by decide +kernel
theorem d21_31 : DK cd21 31 (.iconst 1) 1 := by decide +kernel
theorem d21_32 : DK cd21 32 .iadd 1 := by decide +kernel
theorem d21_33 : DK cd21 33 .ireturn 1 := by decide +kernel
theorem pn_21 : plainName "com/example/slim_kripke/slimkripke/bdd/BddManager" = true := by first | (simp [plainName, overriddenIn]; done) | decide +kernel
theorem ef_21 (m : MethodId) (x0 : Addr) (x1 : Int32) (x2 : Int32) : entryFrame m #[(.ref x0), (.int x1), (.int x2)] 3 = mkF m 0 #[.val (.ref x0), .val (.int x1), .val (.int x2)] [] := by first | (simp [entryFrame, mkF, argsToLocals, Value.category]; done) | rfl
theorem rm21 (l : Launch) (Z : State) (a0 : Array Value) (hw : ∀ d ∈ tables_1, d.before a0 Z = true) (ws : List Jvm.Cond) {oa qcs qcf qpe qlv qlo qhi qrf qch qbk qca : Addr} {xn xs xff xfc xdp xcz xli xpk : Int32} {xlv xlo xhi xrf xch xbk xca xcf xpe : Int32 → Int32} (p1 : Int32) (p2 : Int32) (h0 : Heap) (n0 : Nat) (Z0 : n0 ≤ h0.size) (B0 : Mg Z n0 h0 oa qcs qcf qpe qlv qlo qhi qrf qch qbk qca xn xs xff xfc xdp xcz xli xpk xlv xlo xhi xrf xch xbk xca xcf xpe) (hp1 : ¬ p2 = 64) (hp2 : ¬ p2 < 0) (hp3 : p2 < 64) :
    Met1 l Nm_21 (Jvm.Cond.code Nm_21 prog_5_method_16_code 3 (some .int)) ws (rom 0 0 0 0) #[(.ref oa), (.int p1), (.int p2)] Z h0 (QB (some (.int (p2 + 1))) n0 (fun h => Mg Z n0 h oa qcs qcf qpe qlv qlo qhi qrf qch qbk qca xn xs xff xfc xdp xcz xli xpk xlv xlo xhi xrf xch xbk xca xcf (own_up xpe p2 p1))) := by
  refine MetFree.of_bodySF (plainFor_of_name pn_21) hisR ?_
  intro p e s m args below meth c s₁ Bd hml0 hP hK
  obtain ⟨rfl, hZ, hh⟩ := hP
  have hx := Bd.exec
  have hby := Bd.bytes
  have hml : c.maxLocals = 3 := hml0
  have hown : s.vm.findClass "com/example/slim_kripke/slimkripke/bdd/BddManager" = some m.cls := findClass_of_methodNamed Bd.named
  have X0 : Stand p l e (rom 0 0 0 0) s m _ _ _ _ _ [] 0 0 := Stand.of_body Bd
  have e0 : s₁.heap = h0 := by rw [← hh, Bd.state]; rfl
  have N0 := Fr.nil n0
  have K0 : Keep h0 h0 [] := Keep.refl _ _
  have pre0 : Go p e below s₁ _ (mkF m 0 #[(vr oa), (vi p1), (vi p2)] []) _ := fun t k => castTop (ef_21 m oa p1 p2) k
  have pre1 : Go p e below s₁ _ (mkF m 2 #[(vr oa), (vi p1), (vi p2)] [(.ref oa), (.int p2)]) _ := fun t k => pre0 t (by
    refine XS.iloadN X0.here hx rfl (hb hby d21_0) rfl ?_
    refine XS.aloadN X0.here hx rfl (hb hby d21_1) rfl rfl ?_
    exact k)
  obtain ⟨T2, X2, e2, st2⟩ := getF X0 hx hZ hown (host := "") (Or.inl (wq hw 22 rfl)) Via.refl e0 B0.f_pe (g := (mkF m 2 #[(vr oa), (vi p1), (vi p2)] [(.ref oa), (.int p2)])) rfl rfl (hb hby d21_2)
  have pre3 := Go.thn pre1 st2
  obtain ⟨cl4, Ar4, Sz4, Mn4, Hs4⟩ := id B0.a_pe
  have pre5 : Go p e below T2 _ (mkF m 6 #[(vr oa), (vi p1), (vi p2)] [(.int 64), (.int p2)]) _ := fun t k => pre3 t (by
    show Steps p.tables e below (T2.setTop (mkF m 5 #[(vr oa), (vi p1), (vi p2)] [(.ref qpe), (.int p2)])) _
    refine X2.arraylength hx (by rw [e2]; exact Ar4.1) (State.isArrayOf_alike hZ.alike Ar4.2.1) (g := (mkF m 5 #[(vr oa), (vi p1), (vi p2)] [(.ref qpe), (.int p2)])) rfl rfl (hb hby d21_5) _ ?_
    rw [len_of Sz4 Mn4]
    exact k)
  have pre6 : Go p e below T2 _ (mkF m 24 #[(vr oa), (vi p1), (vi p2)] [(.ref oa)]) _ := fun t k => pre5 t (by
    refine XS.icmpYes X2.here hx rfl (pc0 := 6) (pc' := 23) rfl (hb hby d21_6) rfl (feq hp1).2 (by decide) (by decide) ?_
    refine XS.aloadN X2.here hx rfl (hb hby d21_23) rfl rfl ?_
    exact k)
  obtain ⟨T7, X7, e7, st7⟩ := getF X2 hx hZ hown (host := "") (Or.inl (wq hw 22 rfl)) Via.refl e2 B0.f_pe (g := (mkF m 24 #[(vr oa), (vi p1), (vi p2)] [(.ref oa)])) rfl rfl (hb hby d21_24)
  have pre8 := Go.thn pre6 st7
  have pre9 : Go p e below T7 _ (mkF m 29 #[(vr oa), (vi p1), (vi p2)] [(.int p1), (.int p2), (.ref qpe)]) _ := fun t k => pre8 t (by
    refine XS.iloadN X7.here hx rfl (hb hby d21_27) rfl ?_
    refine XS.iloadN X7.here hx rfl (hb hby d21_28) rfl ?_
    exact k)
  have ib10 : ¬ p2 < 0 ∧ p2 < 64 := ⟨hp2, hp3⟩
  obtain ⟨cl10, Ar10, Sz10, -, -⟩ := id B0.a_pe
  obtain ⟨T10, h10, X10, e10, W10, st10⟩ := stI X7 hx hZ e7 Ar10 (j := p2) (inb_of Sz10 ib10) (g := (mkF m 29 #[(vr oa), (vi p1), (vi p2)] [(.int p1), (.int p2), (.ref qpe)])) rfl rfl (hb hby d21_29)
  have N10 := Fr.snoc X10 N0 B0.g_pe
  have B10 := B0.t_pe W10 ib10
  have pre11 := Go.thn pre9 st10
  have pre12 : Go p e below T10 _ (mkF m 33 #[(vr oa), (vi p1), (vi p2)] [(.int (p2 + (1 : Int32)))]) _ := fun t k => pre11 t (by
    refine XS.iloadN X10.here hx rfl (hb hby d21_30) rfl ?_
    refine XS.iconst X10.here hx rfl (hb hby d21_31) ?_
    refine XS.iadd X10.here hx rfl (hb hby d21_32) rfl ?_
    exact k)
  obtain ⟨fs, hr, hrun, hended, hW, hsame⟩ := X10.leave (v := some (.int (p2 + (1 : Int32)))) (fun h => by rw [Bd.returns] at h; cases h)
  refine ⟨_, _, ?_, hrun, hended, _, _, rfl, ?_, ⟨_, rfl⟩, hW, hsame.mono (by decide) (by decide)⟩
  · exact pre12 _ (retI X10 hx Bd.returns (hb hby d21_33) hr)
  · show QB _ _ _ _ T10.heap _
    rw [e10]
    exact ⟨rfl, N10, B10⟩
theorem d20_0 : DK cd20 0 (.aload_n 0) 1 := by decide +kernel
theorem d20_1 : DK cd20 1 (.iload_n 1) 1 := by decide +kernel
theorem d20_2 : DK cd20 2 (.iconst 0) 1 := by decide +kernel
theorem d20_3 : DK cd20 3 (.invokevirtual 135) 3 := by decide +kernel
theorem d20_6 : DK cd20 6 (.istore_n 2) 1 := by decide +kernel
theorem d20_7 : DK cd20 7 (.iload_n 2) 1 := by decide +kernel
theorem d20_8 : DK cd20 8 (.ifCond .le 67) 3 := by decide +kernel
theorem d20_11 : DK cd20 11 (.aload_n 0) 1 := by decide +kernel
theorem d20_12 : DK cd20 12 (.getfield 19) 3 := by decide +kernel
theorem d20_15 : DK cd20 15 (.iinc 2 (-1)) 3 := by decide +kernel
theorem d20_18 : DK cd20 18 (.iload_n 2) 1 := by decide +kernel
theorem d20_19 : DK cd20 19 .iaload 1 := by decide +kernel
theorem d20_20 : DK cd20 20 (.istore_n 3) 1 := by decide +kernel
theorem d20_21 : DK cd20 21 (.iload_n 3) 1 := by decide +kernel
theorem d20_22 : DK cd20 22 (.iconst 1) 1 := by decide +kernel
theorem d20_23 : DK cd20 23 (.if_icmp .le 49) 3 := by decide +kernel
theorem d20_26 : DK cd20 26 (.aload_n 0) 1 := by decide +kernel
theorem d20_27 : DK cd20 27 (.getfield 138) 3 := by decide +kernel
theorem d20_30 : DK cd20 30 (.iload_n 3) 1 := by decide +kernel
theorem d20_31 : DK cd20 31 .dup2 1 := by decide +kernel
theorem d20_32 : DK cd20 32 .iaload 1 := by decide +kernel
theorem d20_33 : DK cd20 33 .dup_x2 1 := by decide +kernel
theorem d20_34 : DK cd20 34 (.iconst 1) 1 := by decide +kernel
theorem d20_35 : DK cd20 35 .iadd 1 := by decide +kernel
theorem d20_36 : DK cd20 36 .iastore 1 := by decide +kernel
theorem d20_37 : DK cd20 37 (.ifCond .ne 35) 3 := by decide +kernel
theorem d20_40 : DK cd20 40 (.aload_n 0) 1 := by decide +kernel
theorem d20_41 : DK cd20 41 .dup 1 := by decide +kernel
theorem d20_42 : DK cd20 42 (.getfield 23) 3 := by decide +kernel
theorem d20_45 : DK cd20 45 (.iconst 1) 1 := by decide +kernel
theorem d20_46 : DK cd20 46 .iadd 1 := by decide +kernel
theorem d20_47 : DK cd20 47 (.putfield 23) 3 := by decide +kernel
theorem d20_50 : DK cd20 50 (.aload_n 0) 1 := by decide +kernel
theorem d20_51 : DK cd20 51 (.aload_n 0) 1 := by decide +kernel
theorem d20_52 : DK cd20 52 (.getfield 141) 3 := by decide +kernel
theorem d20_55 : DK cd20 55 (.iload_n 3) 1 := by decide +kernel
theorem d20_56 : DK cd20 56 .iaload 1 := by decide +kernel
theorem d20_57 : DK cd20 57 (.aload_n 0) 1 := by decide +kernel
theorem d20_58 : DK cd20 58 (.aload_n 0) 1 := by decide +kernel
theorem d20_59 : DK cd20 59 (.getfield 144) 3 := by decide +kernel
theorem d20_62 : DK cd20 62 (.iload_n 3) 1 := by decide +kernel
theorem d20_63 : DK cd20 63 .iaload 1 := by decide +kernel
theorem d20_64 : DK cd20 64 (.iload_n 2) 1 := by decide +kernel
theorem d20_65 : DK cd20 65 (.invokevirtual 135) 3 := by decide +kernel
theorem d20_68 : DK cd20 68 (.invokevirtual 135) 3 := by decide +kernel
theorem d20_71 : DK cd20 71 (.istore_n 2) 1 := by decide +kernel
theorem d20_72 : DK cd20 72 (.goto (-65)) 3 := by decide +kernel
theorem d20_75 : DK cd20 75 .return_ 1 := by decide +kernel
theorem pn_20 : plainName "com/example/slim_kripke/slimkripke/bdd/BddManager" = true := by first | (simp [plainName, overriddenIn]; done) | decide +kernel
theorem ef_20n (m : MethodId) (x0 : Addr) (x1 : Int32) : entryFrame m #[(.ref x0), (.int x1)] 4 = mkF m 0 #[.val (.ref x0), .val (.int x1), .unset, .unset] [] := by first | (simp [entryFrame, mkF, argsToLocals, Value.category]; done) | rfl
theorem rm20n (l : Launch) (Z : State) (a0 : Array Value) (hw : ∀ d ∈ tables_1, d.before a0 Z = true) (ws : List Jvm.Cond) {oa qcs qcf qpe qlv qlo qhi qrf qch qbk qca : Addr} {xn xs xff xfc xdp xcz xli xpk : Int32} {xlv xlo xhi xrf xch xbk xca xcf xpe : Int32 → Int32} (p1 : Int32) (h0 : Heap) (n0 : Nat) (Z0 : n0 ≤ h0.size) (B0 : Mg Z n0 h0 oa qcs qcf qpe qlv qlo qhi qrf qch qbk qca xn xs xff xfc xdp xcz xli xpk xlv xlo xhi xrf xch xbk xca xcf xpe) (hp1 : 1 < p1) (hp2 : ¬ p1 < 0) (hp3 : p1 < 4096) (hrf : (xrf p1) = 0) (hlo : (xlo p1) = 0) (hhi : (xhi p1) = 1) :
    Met1 l Nm_22 (Jvm.Cond.code Nm_22 prog_5_method_14_code 4 none) ws (rom 1 0 0 16) #[(.ref oa), (.int p1)] Z h0 (QB none n0 (fun h => Mg Z n0 h oa qcs qcf qpe qlv qlo qhi qrf qch qbk qca xn xs xff xfc xdp xcz (xli + 1) xpk xlv xlo xhi (own_up xrf p1 ((xrf p1) + 1)) xch xbk xca xcf (own_up (own_up (own_up xpe 0 p1) 0 0) 1 1))) := by
  refine MetFree.of_bodySF (plainFor_of_name pn_20) hisR ?_
  intro p e s m args below meth c s₁ Bd hml0 hP hK
  obtain ⟨rfl, hZ, hh⟩ := hP
  have hx := Bd.exec
  have hby := Bd.bytes
  have hml : c.maxLocals = 4 := hml0
  have hown : s.vm.findClass "com/example/slim_kripke/slimkripke/bdd/BddManager" = some m.cls := findClass_of_methodNamed Bd.named
  have X0 : Stand p l e (rom 1 0 0 16) s m _ _ _ _ _ [] 0 0 := Stand.of_body Bd
  have e0 : s₁.heap = h0 := by rw [← hh, Bd.state]; rfl
  have N0 := Fr.nil n0
  have K0 : Keep h0 h0 [] := Keep.refl _ _
  have pre0 : Go p e below s₁ _ (mkF m 0 #[(vr oa), (vi p1), .unset, .unset] []) _ := fun t k => castTop (ef_20n m oa p1) k
  have pre1 : Go p e below s₁ _ (mkF m 3 #[(vr oa), (vi p1), .unset, .unset] [(.int 0), (.int p1), (.ref oa)]) _ := fun t k => pre0 t (by
    refine XS.aloadN X0.here hx rfl (hb hby d20_0) rfl rfl ?_
    refine XS.iloadN X0.here hx rfl (hb hby d20_1) rfl ?_
    refine XS.iconst X0.here hx rfl (hb hby d20_2) ?_
    exact k)
  obtain ⟨cq2, q2, q2'⟩ := B0.e.cell
  obtain ⟨_, _, ⟨T2, L2, k2, n2⟩, -, X2, ⟨Lc2, hQ2, l2, y2, z2⟩, st2⟩ := X0.privateBack hx (y := Nm_21) hown (mq hZ hw 129 rfl) (mq hZ hw 130 rfl) (own_seli (mq hZ hw 2 rfl) (pq hZ hw 131 rfl) (mq hZ hw 130 rfl) (by decide)) (pq hZ hw 131 rfl) (mq hZ hw 132 rfl) (by decide) (backOf (W := 0) (rm21 l Z a0 hw [] p1 (0 : Int32) h0 n0 B0.z B0 (by decide) (by decide) (by decide)) hZ (wq hw 132 rfl) (wq hw 3 rfl) (by decide) (by decide)) (g := (mkF m 3 #[(vr oa), (vi p1), .unset, .unset] [(.int 0), (.int p1), (.ref oa)])) rfl (by rw [hml]; rfl) (Steps.refl _) (a := oa) (by rw [e0]; exact q2) q2' (argsL := [(.int p1), (.int 0)]) (rest := []) (lenOf pd__II_I rfl) rfl (w00 rfl) (hb hby d20_3) (fun _ _ => ⟨rfl, e0, zz, zz⟩)
  dsimp only [Pt.U, Pt.locs, Pt.cells, Pt.slots] at X2 l2 y2 z2 st2 hQ2
  subst y2 z2
  obtain ⟨rfl, Nq2, Bq2⟩ := hQ2
  have N2 := FrE l2 N0 Nq2
  have B2 : Mg Z n0 T2.heap oa _ _ _ _ _ _ _ _ _ _ xn xs xff xfc xdp xcz xli xpk xlv xlo xhi xrf xch xbk xca xcf (own_up xpe 0 p1) := Bq2
  have pre3 : Go p e below T2 _ (mkF m 6 #[(vr oa), (vi p1), .unset, .unset] [(.int 1)]) _ := fun t k => pre1 t ((st2).trans k)
  have pre4 : Go p e below T2 _ (mkF m 12 #[(vr oa), (vi p1), (vi 1), .unset] [(.ref oa)]) _ := fun t k => pre3 t (by
    refine XS.istoreN X2.here hx rfl (hb hby d20_6) rfl (l' := #[(vr oa), (vi p1), (vi 1), .unset]) rfl ?_
    refine XS.iloadN X2.here hx rfl (hb hby d20_7) rfl ?_
    refine XS.ifNo X2.here hx rfl (hb hby d20_8) rfl (by decide) ?_
    refine XS.aloadN X2.here hx rfl (hb hby d20_11) rfl rfl ?_
    exact k)
  obtain ⟨T5, X5, e5, st5⟩ := getF X2 hx hZ hown (host := "") (Or.inl (wq hw 22 rfl)) Via.refl rfl B2.f_pe (g := (mkF m 12 #[(vr oa), (vi p1), (vi 1), .unset] [(.ref oa)])) rfl rfl (hb hby d20_12)
  have pre6 := Go.thn pre4 st5
  have pre7 : Go p e below T5 _ (mkF m 19 #[(vr oa), (vi p1), (vi 0), .unset] [(.int 0), (.ref qpe)]) _ := fun t k => pre6 t (by
    refine XS.iinc X5.here hx rfl (hb hby d20_15) rfl (l' := #[(vr oa), (vi p1), (vi 0), .unset]) rfl ?_
    refine XS.iloadN X5.here hx rfl (hb hby d20_18) rfl ?_
    exact k)
  obtain ⟨cl8, Ar8, Sz8, Mn8, Hs8⟩ := id B2.a_pe
  have ib8 : ¬ (0 : Int32) < 0 ∧ (0 : Int32) < 64 := ⟨by decide, by decide⟩
  have hat8 : cl8.slots[((0 : Int32)).toNatClampNeg]? = some (.int p1) := Hs8 (0 : Int32) ib8
  have pre9 : Go p e below T5 _ (mkF m 20 #[(vr oa), (vi p1), (vi 0), .unset] [(.int p1)]) _ := fun t k => pre7 t (by
    show Steps p.tables e below (T5.setTop (mkF m 19 #[(vr oa), (vi p1), (vi 0), .unset] [(.int 0), (.ref qpe)])) _
    refine X5.iaload hx (j := (0 : Int32)) (v := (.int p1)) (by rw [e5]; exact Ar8.1) (State.isArrayOf_alike hZ.alike Ar8.2.1) Ar8.2.2 (inb_of Sz8 ib8) hat8 (g := (mkF m 19 #[(vr oa), (vi p1), (vi 0), .unset] [(.int 0), (.ref qpe)])) rfl rfl (hb hby d20_19) _ ?_
    exact k)
  have pre10 : Go p e below T5 _ (mkF m 27 #[(vr oa), (vi p1), (vi 0), (vi p1)] [(.ref oa)]) _ := fun t k => pre9 t (by
    refine XS.istoreN X5.here hx rfl (hb hby d20_20) rfl (l' := #[(vr oa), (vi p1), (vi 0), (vi p1)]) rfl ?_
    refine XS.iloadN X5.here hx rfl (hb hby d20_21) rfl ?_
    refine XS.iconst X5.here hx rfl (hb hby d20_22) ?_
    refine XS.icmpNo X5.here hx rfl (hb hby d20_23) rfl (tlt hp1).2.2.2 ?_
    refine XS.aloadN X5.here hx rfl (hb hby d20_26) rfl rfl ?_
    exact k)
  obtain ⟨T11, X11, e11, st11⟩ := getF X5 hx hZ hown (host := "") (Or.inl (wq hw 42 rfl)) Via.refl e5 B2.f_rf (g := (mkF m 27 #[(vr oa), (vi p1), (vi 0), (vi p1)] [(.ref oa)])) rfl rfl (hb hby d20_27)
  have pre12 := Go.thn pre10 st11
  have pre13 : Go p e below T11 _ (mkF m 32 #[(vr oa), (vi p1), (vi 0), (vi p1)] [(.int p1), (.ref qrf), (.int p1), (.ref qrf)]) _ := fun t k => pre12 t (by
    refine XS.iloadN X11.here hx rfl (hb hby d20_30) rfl ?_
    refine XT.dup2 X11.here hx rfl (hb hby d20_31) rfl rfl rfl ?_
    exact k)
  obtain ⟨cl14, Ar14, Sz14, Mn14, Hs14⟩ := id B2.a_rf
  have ib14 : ¬ p1 < 0 ∧ p1 < 4096 := ⟨hp2, hp3⟩
  have hat14 : cl14.slots[(p1).toNatClampNeg]? = some (.int (xrf p1)) := Hs14 p1 ib14
  have pre15 : Go p e below T11 _ (mkF m 33 #[(vr oa), (vi p1), (vi 0), (vi p1)] [(.int (xrf p1)), (.int p1), (.ref qrf)]) _ := fun t k => pre13 t (by
    show Steps p.tables e below (T11.setTop (mkF m 32 #[(vr oa), (vi p1), (vi 0), (vi p1)] [(.int p1), (.ref qrf), (.int p1), (.ref qrf)])) _
    refine X11.iaload hx (j := p1) (v := (.int (xrf p1))) (by rw [e11]; exact Ar14.1) (State.isArrayOf_alike hZ.alike Ar14.2.1) Ar14.2.2 (inb_of Sz14 ib14) hat14 (g := (mkF m 32 #[(vr oa), (vi p1), (vi 0), (vi p1)] [(.int p1), (.ref qrf), (.int p1), (.ref qrf)])) rfl rfl (hb hby d20_32) _ ?_
    exact k)
  have pre16 : Go p e below T11 _ (mkF m 36 #[(vr oa), (vi p1), (vi 0), (vi p1)] [(.int ((xrf p1) + (1 : Int32))), (.int p1), (.ref qrf), (.int (xrf p1))]) _ := fun t k => pre15 t (by
    refine own_dupX2 X11.here hx rfl (hb hby d20_33) rfl rfl rfl rfl ?_
    refine XS.iconst X11.here hx rfl (hb hby d20_34) ?_
    refine XS.iadd X11.here hx rfl (hb hby d20_35) rfl ?_
    exact k)
  have ib17 : ¬ p1 < 0 ∧ p1 < 4096 := ⟨hp2, hp3⟩
  obtain ⟨cl17, Ar17, Sz17, -, -⟩ := id B2.a_rf
  obtain ⟨T17, h17, X17, e17, W17, st17⟩ := stI X11 hx hZ e11 Ar17 (j := p1) (inb_of Sz17 ib17) (g := (mkF m 36 #[(vr oa), (vi p1), (vi 0), (vi p1)] [(.int ((xrf p1) + (1 : Int32))), (.int p1), (.ref qrf), (.int (xrf p1))])) rfl rfl (hb hby d20_36)
  have N17 := Fr.snoc X17 N2 B2.g_rf
  have B17 := B2.t_rf W17 ib17
  have pre18 := Go.thn pre16 st17
  have pre19 : Go p e below T17 _ (mkF m 42 #[(vr oa), (vi p1), (vi 0), (vi p1)] [(.ref oa), (.ref oa)]) _ := fun t k => pre18 t (by
    refine XS.ifNo X17.here hx rfl (hb hby d20_37) rfl ((if0 _ _).trans (teq hrf).2) ?_
    refine XS.aloadN X17.here hx rfl (hb hby d20_40) rfl rfl ?_
    refine XS.dup X17.here hx rfl (hb hby d20_41) rfl rfl ?_
    exact k)
  obtain ⟨T20, X20, e20, st20⟩ := getF X17 hx hZ hown (host := "") (Or.inl (wq hw 24 rfl)) Via.refl e17 B17.f_li (g := (mkF m 42 #[(vr oa), (vi p1), (vi 0), (vi p1)] [(.ref oa), (.ref oa)])) rfl rfl (hb hby d20_42)
  have pre21 := Go.thn pre19 st20
  have pre22 : Go p e below T20 _ (mkF m 47 #[(vr oa), (vi p1), (vi 0), (vi p1)] [(.int (xli + (1 : Int32))), (.ref oa)]) _ := fun t k => pre21 t (by
    refine XS.iconst X20.here hx rfl (hb hby d20_45) ?_
    refine XS.iadd X20.here hx rfl (hb hby d20_46) rfl ?_
    exact k)
  obtain ⟨T23, h23, X23, e23, W23, st23⟩ := putF X20 hx hZ hown (host := "") (Or.inl (wq hw 24 rfl)) Via.refl e20 B17.f_li B17.e (Or.inl (wq hw 25 rfl)) (wq hw 2 rfl) (ty := .int) (by decide) rfl rfl (g := (mkF m 47 #[(vr oa), (vi p1), (vi 0), (vi p1)] [(.int (xli + (1 : Int32))), (.ref oa)])) rfl rfl (hb hby d20_47)
  have N23 := Fr.snoc X23 N17 B17.g0
  have B23 := B17.w_li hw W23
  have pre24 := Go.thn pre22 st23
  have pre25 : Go p e below T23 _ (mkF m 52 #[(vr oa), (vi p1), (vi 0), (vi p1)] [(.ref oa), (.ref oa)]) _ := fun t k => pre24 t (by
    refine XS.aloadN X23.here hx rfl (hb hby d20_50) rfl rfl ?_
    refine XS.aloadN X23.here hx rfl (hb hby d20_51) rfl rfl ?_
    exact k)
  obtain ⟨T26, X26, e26, st26⟩ := getF X23 hx hZ hown (host := "") (Or.inl (wq hw 40 rfl)) Via.refl e23 B23.f_hi (g := (mkF m 52 #[(vr oa), (vi p1), (vi 0), (vi p1)] [(.ref oa), (.ref oa)])) rfl rfl (hb hby d20_52)
  have pre27 := Go.thn pre25 st26
  have pre28 : Go p e below T26 _ (mkF m 56 #[(vr oa), (vi p1), (vi 0), (vi p1)] [(.int p1), (.ref qhi), (.ref oa)]) _ := fun t k => pre27 t (by
    refine XS.iloadN X26.here hx rfl (hb hby d20_55) rfl ?_
    exact k)
  obtain ⟨cl29, Ar29, Sz29, Mn29, Hs29⟩ := id B23.a_hi
  have ib29 : ¬ p1 < 0 ∧ p1 < 4096 := ⟨hp2, hp3⟩
  have hat29 : cl29.slots[(p1).toNatClampNeg]? = some (.int (xhi p1)) := Hs29 p1 ib29
  have pre30 : Go p e below T26 _ (mkF m 57 #[(vr oa), (vi p1), (vi 0), (vi p1)] [(.int (xhi p1)), (.ref oa)]) _ := fun t k => pre28 t (by
    show Steps p.tables e below (T26.setTop (mkF m 56 #[(vr oa), (vi p1), (vi 0), (vi p1)] [(.int p1), (.ref qhi), (.ref oa)])) _
    refine X26.iaload hx (j := p1) (v := (.int (xhi p1))) (by rw [e26]; exact Ar29.1) (State.isArrayOf_alike hZ.alike Ar29.2.1) Ar29.2.2 (inb_of Sz29 ib29) hat29 (g := (mkF m 56 #[(vr oa), (vi p1), (vi 0), (vi p1)] [(.int p1), (.ref qhi), (.ref oa)])) rfl rfl (hb hby d20_56) _ ?_
    exact k)
  have pre31 : Go p e below T26 _ (mkF m 59 #[(vr oa), (vi p1), (vi 0), (vi p1)] [(.ref oa), (.ref oa), (.int 1), (.ref oa)]) _ := fun t k => pre30 t (by
    show Steps p.tables e below (T26.setTop (mkF m 57 #[(vr oa), (vi p1), (vi 0), (vi p1)] [(.int (xhi p1)), (.ref oa)])) _
    rw [hhi]
    refine XS.aloadN X26.here hx rfl (hb hby d20_57) rfl rfl ?_
    refine XS.aloadN X26.here hx rfl (hb hby d20_58) rfl rfl ?_
    exact k)
  obtain ⟨T32, X32, e32, st32⟩ := getF X26 hx hZ hown (host := "") (Or.inl (wq hw 38 rfl)) Via.refl e26 B23.f_lo (g := (mkF m 59 #[(vr oa), (vi p1), (vi 0), (vi p1)] [(.ref oa), (.ref oa), (.int 1), (.ref oa)])) rfl rfl (hb hby d20_59)
  have pre33 := Go.thn pre31 st32
  have pre34 : Go p e below T32 _ (mkF m 63 #[(vr oa), (vi p1), (vi 0), (vi p1)] [(.int p1), (.ref qlo), (.ref oa), (.int 1), (.ref oa)]) _ := fun t k => pre33 t (by
    refine XS.iloadN X32.here hx rfl (hb hby d20_62) rfl ?_
    exact k)
  obtain ⟨cl35, Ar35, Sz35, Mn35, Hs35⟩ := id B23.a_lo
  have ib35 : ¬ p1 < 0 ∧ p1 < 4096 := ⟨hp2, hp3⟩
  have hat35 : cl35.slots[(p1).toNatClampNeg]? = some (.int (xlo p1)) := Hs35 p1 ib35
  have pre36 : Go p e below T32 _ (mkF m 64 #[(vr oa), (vi p1), (vi 0), (vi p1)] [(.int (xlo p1)), (.ref oa), (.int 1), (.ref oa)]) _ := fun t k => pre34 t (by
    show Steps p.tables e below (T32.setTop (mkF m 63 #[(vr oa), (vi p1), (vi 0), (vi p1)] [(.int p1), (.ref qlo), (.ref oa), (.int 1), (.ref oa)])) _
    refine X32.iaload hx (j := p1) (v := (.int (xlo p1))) (by rw [e32]; exact Ar35.1) (State.isArrayOf_alike hZ.alike Ar35.2.1) Ar35.2.2 (inb_of Sz35 ib35) hat35 (g := (mkF m 63 #[(vr oa), (vi p1), (vi 0), (vi p1)] [(.int p1), (.ref qlo), (.ref oa), (.int 1), (.ref oa)])) rfl rfl (hb hby d20_63) _ ?_
    exact k)
  have pre37 : Go p e below T32 _ (mkF m 65 #[(vr oa), (vi p1), (vi 0), (vi p1)] [(.int 0), (.int 0), (.ref oa), (.int 1), (.ref oa)]) _ := fun t k => pre36 t (by
    show Steps p.tables e below (T32.setTop (mkF m 64 #[(vr oa), (vi p1), (vi 0), (vi p1)] [(.int (xlo p1)), (.ref oa), (.int 1), (.ref oa)])) _
    rw [hlo]
    refine XS.iloadN X32.here hx rfl (hb hby d20_64) rfl ?_
    exact k)
  obtain ⟨cq38, q38, q38'⟩ := B23.e.cell
  obtain ⟨_, _, ⟨T38, L38, k38, n38⟩, -, X38, ⟨Lc38, hQ38, l38, y38, z38⟩, st38⟩ := X32.privateBack hx (y := Nm_21) hown (mq hZ hw 129 rfl) (mq hZ hw 130 rfl) (own_seli (mq hZ hw 2 rfl) (pq hZ hw 131 rfl) (mq hZ hw 130 rfl) (by decide)) (pq hZ hw 131 rfl) (mq hZ hw 132 rfl) (by decide) (backOf (W := 2) (rm21 l Z a0 hw [] (0 : Int32) (0 : Int32) h23 n0 B23.z B23 (by decide) (by decide) (by decide)) hZ (wq hw 132 rfl) (wq hw 3 rfl) (by decide) (by decide)) (g := (mkF m 65 #[(vr oa), (vi p1), (vi 0), (vi p1)] [(.int 0), (.int 0), (.ref oa), (.int 1), (.ref oa)])) rfl (by rw [hml]; rfl) (Steps.refl _) (a := oa) (by rw [e32]; exact q38) q38' (argsL := [(.int 0), (.int 0)]) (rest := [(.int 1), (.ref oa)]) (lenOf pd__II_I rfl) rfl (w00 rfl) (hb hby d20_65) (fun _ _ => ⟨rfl, e32, zz, zz⟩)
  dsimp only [Pt.U, Pt.locs, Pt.cells, Pt.slots] at X38 l38 y38 z38 st38 hQ38
  subst y38 z38
  obtain ⟨rfl, Nq38, Bq38⟩ := hQ38
  have N38 := FrE l38 N23 Nq38
  have B38 : Mg Z n0 T38.heap oa _ _ _ _ _ _ _ _ _ _ xn xs xff xfc xdp xcz (xli + 1) xpk xlv xlo xhi (own_up xrf p1 ((xrf p1) + 1)) xch xbk xca xcf (own_up (own_up xpe 0 p1) 0 0) := Bq38
  have pre39 : Go p e below T38 _ (mkF m 68 #[(vr oa), (vi p1), (vi 0), (vi p1)] [(.int 1), (.int 1), (.ref oa)]) _ := fun t k => pre37 t ((st38).trans k)
  obtain ⟨cq40, q40, q40'⟩ := B38.e.cell
  obtain ⟨_, _, ⟨T40, L40, k40, n40⟩, -, X40, ⟨Lc40, hQ40, l40, y40, z40⟩, st40⟩ := X38.privateBack hx (y := Nm_21) hown (mq hZ hw 129 rfl) (mq hZ hw 130 rfl) (own_seli (mq hZ hw 2 rfl) (pq hZ hw 131 rfl) (mq hZ hw 130 rfl) (by decide)) (pq hZ hw 131 rfl) (mq hZ hw 132 rfl) (by decide) (backOf (W := 0) (rm21 l Z a0 hw [] (1 : Int32) (1 : Int32) T38.heap n0 B38.z B38 (by decide) (by decide) (by decide)) hZ (wq hw 132 rfl) (wq hw 3 rfl) (by decide) (by decide)) (g := (mkF m 68 #[(vr oa), (vi p1), (vi 0), (vi p1)] [(.int 1), (.int 1), (.ref oa)])) rfl (by rw [hml]; rfl) (Steps.refl _) (a := oa) q40 q40' (argsL := [(.int 1), (.int 1)]) (rest := []) (lenOf pd__II_I rfl) rfl (w00 rfl) (hb hby d20_68) (fun _ _ => ⟨rfl, rfl, zz, zz⟩)
  dsimp only [Pt.U, Pt.locs, Pt.cells, Pt.slots] at X40 l40 y40 z40 st40 hQ40
  subst y40 z40
  obtain ⟨rfl, Nq40, Bq40⟩ := hQ40
  have N40 := FrE l40 N38 Nq40
  have B40 : Mg Z n0 T40.heap oa _ _ _ _ _ _ _ _ _ _ xn xs xff xfc xdp xcz (xli + 1) xpk xlv xlo xhi (own_up xrf p1 ((xrf p1) + 1)) xch xbk xca xcf (own_up (own_up (own_up xpe 0 p1) 0 0) 1 1) := Bq40
  have pre41 : Go p e below T40 _ (mkF m 71 #[(vr oa), (vi p1), (vi 0), (vi p1)] [(.int 2)]) _ := fun t k => pre39 t ((st40).trans k)
  have pre42 : Go p e below T40 _ (mkF m 12 #[(vr oa), (vi p1), (vi 2), (vi p1)] [(.ref oa)]) _ := fun t k => pre41 t (by
    refine XS.istoreN X40.here hx rfl (hb hby d20_71) rfl (l' := #[(vr oa), (vi p1), (vi 2), (vi p1)]) rfl ?_
    refine XS.goto X40.here hx rfl (pc0 := 72) (pc' := 7) rfl (hb hby d20_72) (by decide) (by decide) ?_
    refine XS.iloadN X40.here hx rfl (hb hby d20_7) rfl ?_
    refine XS.ifNo X40.here hx rfl (hb hby d20_8) rfl (by decide) ?_
    refine XS.aloadN X40.here hx rfl (hb hby d20_11) rfl rfl ?_
    exact k)
  obtain ⟨T43, X43, e43, st43⟩ := getF X40 hx hZ hown (host := "") (Or.inl (wq hw 22 rfl)) Via.refl rfl B40.f_pe (g := (mkF m 12 #[(vr oa), (vi p1), (vi 2), (vi p1)] [(.ref oa)])) rfl rfl (hb hby d20_12)
  have pre44 := Go.thn pre42 st43
  have pre45 : Go p e below T43 _ (mkF m 19 #[(vr oa), (vi p1), (vi 1), (vi p1)] [(.int 1), (.ref qpe)]) _ := fun t k => pre44 t (by
    refine XS.iinc X43.here hx rfl (hb hby d20_15) rfl (l' := #[(vr oa), (vi p1), (vi 1), (vi p1)]) rfl ?_
    refine XS.iloadN X43.here hx rfl (hb hby d20_18) rfl ?_
    exact k)
  obtain ⟨cl46, Ar46, Sz46, Mn46, Hs46⟩ := id B40.a_pe
  have ib46 : ¬ (1 : Int32) < 0 ∧ (1 : Int32) < 64 := ⟨by decide, by decide⟩
  have hat46 : cl46.slots[((1 : Int32)).toNatClampNeg]? = some (.int 1) := Hs46 (1 : Int32) ib46
  have pre47 : Go p e below T43 _ (mkF m 20 #[(vr oa), (vi p1), (vi 1), (vi p1)] [(.int 1)]) _ := fun t k => pre45 t (by
    show Steps p.tables e below (T43.setTop (mkF m 19 #[(vr oa), (vi p1), (vi 1), (vi p1)] [(.int 1), (.ref qpe)])) _
    refine X43.iaload hx (j := (1 : Int32)) (v := (.int 1)) (by rw [e43]; exact Ar46.1) (State.isArrayOf_alike hZ.alike Ar46.2.1) Ar46.2.2 (inb_of Sz46 ib46) hat46 (g := (mkF m 19 #[(vr oa), (vi p1), (vi 1), (vi p1)] [(.int 1), (.ref qpe)])) rfl rfl (hb hby d20_19) _ ?_
    exact k)
  have pre48 : Go p e below T43 _ (mkF m 12 #[(vr oa), (vi p1), (vi 1), (vi 1)] [(.ref oa)]) _ := fun t k => pre47 t (by
    refine XS.istoreN X43.here hx rfl (hb hby d20_20) rfl (l' := #[(vr oa), (vi p1), (vi 1), (vi 1)]) rfl ?_
    refine XS.iloadN X43.here hx rfl (hb hby d20_21) rfl ?_
    refine XS.iconst X43.here hx rfl (hb hby d20_22) ?_
    refine XS.icmpYes X43.here hx rfl (pc0 := 23) (pc' := 72) rfl (hb hby d20_23) rfl (by decide) (by decide) (by decide) ?_
    refine XS.goto X43.here hx rfl (pc0 := 72) (pc' := 7) rfl (hb hby d20_72) (by decide) (by decide) ?_
    refine XS.iloadN X43.here hx rfl (hb hby d20_7) rfl ?_
    refine XS.ifNo X43.here hx rfl (hb hby d20_8) rfl (by decide) ?_
    refine XS.aloadN X43.here hx rfl (hb hby d20_11) rfl rfl ?_
    exact k)
  obtain ⟨T49, X49, e49, st49⟩ := getF X43 hx hZ hown (host := "") (Or.inl (wq hw 22 rfl)) Via.refl e43 B40.f_pe (g := (mkF m 12 #[(vr oa), (vi p1), (vi 1), (vi 1)] [(.ref oa)])) rfl rfl (hb hby d20_12)
  have pre50 := Go.thn pre48 st49
  have pre51 : Go p e below T49 _ (mkF m 19 #[(vr oa), (vi p1), (vi 0), (vi 1)] [(.int 0), (.ref qpe)]) _ := fun t k => pre50 t (by
    refine XS.iinc X49.here hx rfl (hb hby d20_15) rfl (l' := #[(vr oa), (vi p1), (vi 0), (vi 1)]) rfl ?_
    refine XS.iloadN X49.here hx rfl (hb hby d20_18) rfl ?_
    exact k)
  obtain ⟨cl52, Ar52, Sz52, Mn52, Hs52⟩ := id B40.a_pe
  have ib52 : ¬ (0 : Int32) < 0 ∧ (0 : Int32) < 64 := ⟨by decide, by decide⟩
  have hat52 : cl52.slots[((0 : Int32)).toNatClampNeg]? = some (.int 0) := Hs52 (0 : Int32) ib52
  have pre53 : Go p e below T49 _ (mkF m 20 #[(vr oa), (vi p1), (vi 0), (vi 1)] [(.int 0)]) _ := fun t k => pre51 t (by
    show Steps p.tables e below (T49.setTop (mkF m 19 #[(vr oa), (vi p1), (vi 0), (vi 1)] [(.int 0), (.ref qpe)])) _
    refine X49.iaload hx (j := (0 : Int32)) (v := (.int 0)) (by rw [e49]; exact Ar52.1) (State.isArrayOf_alike hZ.alike Ar52.2.1) Ar52.2.2 (inb_of Sz52 ib52) hat52 (g := (mkF m 19 #[(vr oa), (vi p1), (vi 0), (vi 1)] [(.int 0), (.ref qpe)])) rfl rfl (hb hby d20_19) _ ?_
    exact k)
  have pre54 : Go p e below T49 _ (mkF m 75 #[(vr oa), (vi p1), (vi 0), (vi 0)] []) _ := fun t k => pre53 t (by
    refine XS.istoreN X49.here hx rfl (hb hby d20_20) rfl (l' := #[(vr oa), (vi p1), (vi 0), (vi 0)]) rfl ?_
    refine XS.iloadN X49.here hx rfl (hb hby d20_21) rfl ?_
    refine XS.iconst X49.here hx rfl (hb hby d20_22) ?_
    refine XS.icmpYes X49.here hx rfl (pc0 := 23) (pc' := 72) rfl (hb hby d20_23) rfl (by decide) (by decide) (by decide) ?_
    refine XS.goto X49.here hx rfl (pc0 := 72) (pc' := 7) rfl (hb hby d20_72) (by decide) (by decide) ?_
    refine XS.iloadN X49.here hx rfl (hb hby d20_7) rfl ?_
    refine XS.ifYes X49.here hx rfl (pc0 := 8) (pc' := 75) rfl (hb hby d20_8) rfl (by decide) (by decide) (by decide) ?_
    exact k)
  obtain ⟨fs, hr, hrun, hended, hW, hsame⟩ := X49.leave (v := none) (fun _ => rfl)
  refine ⟨_, _, ?_, hrun, hended, _, _, rfl, ?_, ⟨_, rfl⟩, hW, hsame.mono (by decide) (by decide)⟩
  · exact pre54 _ (X49.returnOut hx Bd.returns (hb hby d20_75) hr)
  · show QB _ _ _ _ T49.heap _
    rw [e49]
    exact ⟨rfl, N40, B40⟩
theorem rm20o (l : Launch) (Z : State) (a0 : Array Value) (hw : ∀ d ∈ tables_1, d.before a0 Z = true) (ws : List Jvm.Cond) {oa qcs qcf qpe qlv qlo qhi qrf qch qbk qca : Addr} {xn xs xff xfc xdp xcz xli xpk : Int32} {xlv xlo xhi xrf xch xbk xca xcf xpe : Int32 → Int32} (p1 : Int32) (h0 : Heap) (n0 : Nat) (Z0 : n0 ≤ h0.size) (B0 : Mg Z n0 h0 oa qcs qcf qpe qlv qlo qhi qrf qch qbk qca xn xs xff xfc xdp xcz xli xpk xlv xlo xhi xrf xch xbk xca xcf xpe) (hp1 : 1 < p1) (hp2 : ¬ p1 < 0) (hp3 : p1 < 4096) (hrf : ¬ (xrf p1) = 0) :
    Met1 l Nm_22 (Jvm.Cond.code Nm_22 prog_5_method_14_code 4 none) ws (rom 1 0 0 14) #[(.ref oa), (.int p1)] Z h0 (QB none n0 (fun h => Mg Z n0 h oa qcs qcf qpe qlv qlo qhi qrf qch qbk qca xn xs xff xfc xdp xcz xli xpk xlv xlo xhi (own_up xrf p1 ((xrf p1) + 1)) xch xbk xca xcf (own_up xpe 0 p1))) := by
  refine MetFree.of_bodySF (plainFor_of_name pn_20) hisR ?_
  intro p e s m args below meth c s₁ Bd hml0 hP hK
  obtain ⟨rfl, hZ, hh⟩ := hP
  have hx := Bd.exec
  have hby := Bd.bytes
  have hml : c.maxLocals = 4 := hml0
  have hown : s.vm.findClass "com/example/slim_kripke/slimkripke/bdd/BddManager" = some m.cls := findClass_of_methodNamed Bd.named
  have X0 : Stand p l e (rom 1 0 0 14) s m _ _ _ _ _ [] 0 0 := Stand.of_body Bd
  have e0 : s₁.heap = h0 := by rw [← hh, Bd.state]; rfl
  have N0 := Fr.nil n0
  have K0 : Keep h0 h0 [] := Keep.refl _ _
  have pre0 : Go p e below s₁ _ (mkF m 0 #[(vr oa), (vi p1), .unset, .unset] []) _ := fun t k => castTop (ef_20n m oa p1) k
  have pre1 : Go p e below s₁ _ (mkF m 3 #[(vr oa), (vi p1), .unset, .unset] [(.int 0), (.int p1), (.ref oa)]) _ := fun t k => pre0 t (by
    refine XS.aloadN X0.here hx rfl (hb hby d20_0) rfl rfl ?_
    refine XS.iloadN X0.here hx rfl (hb hby d20_1) rfl ?_
    refine XS.iconst X0.here hx rfl (hb hby d20_2) ?_
    exact k)
  obtain ⟨cq2, q2, q2'⟩ := B0.e.cell
  obtain ⟨_, _, ⟨T2, L2, k2, n2⟩, -, X2, ⟨Lc2, hQ2, l2, y2, z2⟩, st2⟩ := X0.privateBack hx (y := Nm_21) hown (mq hZ hw 129 rfl) (mq hZ hw 130 rfl) (own_seli (mq hZ hw 2 rfl) (pq hZ hw 131 rfl) (mq hZ hw 130 rfl) (by decide)) (pq hZ hw 131 rfl) (mq hZ hw 132 rfl) (by decide) (backOf (W := 0) (rm21 l Z a0 hw [] p1 (0 : Int32) h0 n0 B0.z B0 (by decide) (by decide) (by decide)) hZ (wq hw 132 rfl) (wq hw 3 rfl) (by decide) (by decide)) (g := (mkF m 3 #[(vr oa), (vi p1), .unset, .unset] [(.int 0), (.int p1), (.ref oa)])) rfl (by rw [hml]; rfl) (Steps.refl _) (a := oa) (by rw [e0]; exact q2) q2' (argsL := [(.int p1), (.int 0)]) (rest := []) (lenOf pd__II_I rfl) rfl (w00 rfl) (hb hby d20_3) (fun _ _ => ⟨rfl, e0, zz, zz⟩)
  dsimp only [Pt.U, Pt.locs, Pt.cells, Pt.slots] at X2 l2 y2 z2 st2 hQ2
  subst y2 z2
  obtain ⟨rfl, Nq2, Bq2⟩ := hQ2
  have N2 := FrE l2 N0 Nq2
  have B2 : Mg Z n0 T2.heap oa _ _ _ _ _ _ _ _ _ _ xn xs xff xfc xdp xcz xli xpk xlv xlo xhi xrf xch xbk xca xcf (own_up xpe 0 p1) := Bq2
  have pre3 : Go p e below T2 _ (mkF m 6 #[(vr oa), (vi p1), .unset, .unset] [(.int 1)]) _ := fun t k => pre1 t ((st2).trans k)
  have pre4 : Go p e below T2 _ (mkF m 12 #[(vr oa), (vi p1), (vi 1), .unset] [(.ref oa)]) _ := fun t k => pre3 t (by
    refine XS.istoreN X2.here hx rfl (hb hby d20_6) rfl (l' := #[(vr oa), (vi p1), (vi 1), .unset]) rfl ?_
    refine XS.iloadN X2.here hx rfl (hb hby d20_7) rfl ?_
    refine XS.ifNo X2.here hx rfl (hb hby d20_8) rfl (by decide) ?_
    refine XS.aloadN X2.here hx rfl (hb hby d20_11) rfl rfl ?_
    exact k)
  obtain ⟨T5, X5, e5, st5⟩ := getF X2 hx hZ hown (host := "") (Or.inl (wq hw 22 rfl)) Via.refl rfl B2.f_pe (g := (mkF m 12 #[(vr oa), (vi p1), (vi 1), .unset] [(.ref oa)])) rfl rfl (hb hby d20_12)
  have pre6 := Go.thn pre4 st5
  have pre7 : Go p e below T5 _ (mkF m 19 #[(vr oa), (vi p1), (vi 0), .unset] [(.int 0), (.ref qpe)]) _ := fun t k => pre6 t (by
    refine XS.iinc X5.here hx rfl (hb hby d20_15) rfl (l' := #[(vr oa), (vi p1), (vi 0), .unset]) rfl ?_
    refine XS.iloadN X5.here hx rfl (hb hby d20_18) rfl ?_
    exact k)
  obtain ⟨cl8, Ar8, Sz8, Mn8, Hs8⟩ := id B2.a_pe
  have ib8 : ¬ (0 : Int32) < 0 ∧ (0 : Int32) < 64 := ⟨by decide, by decide⟩
  have hat8 : cl8.slots[((0 : Int32)).toNatClampNeg]? = some (.int p1) := Hs8 (0 : Int32) ib8
  have pre9 : Go p e below T5 _ (mkF m 20 #[(vr oa), (vi p1), (vi 0), .unset] [(.int p1)]) _ := fun t k => pre7 t (by
    show Steps p.tables e below (T5.setTop (mkF m 19 #[(vr oa), (vi p1), (vi 0), .unset] [(.int 0), (.ref qpe)])) _
    refine X5.iaload hx (j := (0 : Int32)) (v := (.int p1)) (by rw [e5]; exact Ar8.1) (State.isArrayOf_alike hZ.alike Ar8.2.1) Ar8.2.2 (inb_of Sz8 ib8) hat8 (g := (mkF m 19 #[(vr oa), (vi p1), (vi 0), .unset] [(.int 0), (.ref qpe)])) rfl rfl (hb hby d20_19) _ ?_
    exact k)
  have pre10 : Go p e below T5 _ (mkF m 27 #[(vr oa), (vi p1), (vi 0), (vi p1)] [(.ref oa)]) _ := fun t k => pre9 t (by
    refine XS.istoreN X5.here hx rfl (hb hby d20_20) rfl (l' := #[(vr oa), (vi p1), (vi 0), (vi p1)]) rfl ?_
    refine XS.iloadN X5.here hx rfl (hb hby d20_21) rfl ?_
    refine XS.iconst X5.here hx rfl (hb hby d20_22) ?_
    refine XS.icmpNo X5.here hx rfl (hb hby d20_23) rfl (tlt hp1).2.2.2 ?_
    refine XS.aloadN X5.here hx rfl (hb hby d20_26) rfl rfl ?_
    exact k)
  obtain ⟨T11, X11, e11, st11⟩ := getF X5 hx hZ hown (host := "") (Or.inl (wq hw 42 rfl)) Via.refl e5 B2.f_rf (g := (mkF m 27 #[(vr oa), (vi p1), (vi 0), (vi p1)] [(.ref oa)])) rfl rfl (hb hby d20_27)
  have pre12 := Go.thn pre10 st11
  have pre13 : Go p e below T11 _ (mkF m 32 #[(vr oa), (vi p1), (vi 0), (vi p1)] [(.int p1), (.ref qrf), (.int p1), (.ref qrf)]) _ := fun t k => pre12 t (by
    refine XS.iloadN X11.here hx rfl (hb hby d20_30) rfl ?_
    refine XT.dup2 X11.here hx rfl (hb hby d20_31) rfl rfl rfl ?_
    exact k)
  obtain ⟨cl14, Ar14, Sz14, Mn14, Hs14⟩ := id B2.a_rf
  have ib14 : ¬ p1 < 0 ∧ p1 < 4096 := ⟨hp2, hp3⟩
  have hat14 : cl14.slots[(p1).toNatClampNeg]? = some (.int (xrf p1)) := Hs14 p1 ib14
  have pre15 : Go p e below T11 _ (mkF m 33 #[(vr oa), (vi p1), (vi 0), (vi p1)] [(.int (xrf p1)), (.int p1), (.ref qrf)]) _ := fun t k => pre13 t (by
    show Steps p.tables e below (T11.setTop (mkF m 32 #[(vr oa), (vi p1), (vi 0), (vi p1)] [(.int p1), (.ref qrf), (.int p1), (.ref qrf)])) _
    refine X11.iaload hx (j := p1) (v := (.int (xrf p1))) (by rw [e11]; exact Ar14.1) (State.isArrayOf_alike hZ.alike Ar14.2.1) Ar14.2.2 (inb_of Sz14 ib14) hat14 (g := (mkF m 32 #[(vr oa), (vi p1), (vi 0), (vi p1)] [(.int p1), (.ref qrf), (.int p1), (.ref qrf)])) rfl rfl (hb hby d20_32) _ ?_
    exact k)
  have pre16 : Go p e below T11 _ (mkF m 36 #[(vr oa), (vi p1), (vi 0), (vi p1)] [(.int ((xrf p1) + (1 : Int32))), (.int p1), (.ref qrf), (.int (xrf p1))]) _ := fun t k => pre15 t (by
    refine own_dupX2 X11.here hx rfl (hb hby d20_33) rfl rfl rfl rfl ?_
    refine XS.iconst X11.here hx rfl (hb hby d20_34) ?_
    refine XS.iadd X11.here hx rfl (hb hby d20_35) rfl ?_
    exact k)
  have ib17 : ¬ p1 < 0 ∧ p1 < 4096 := ⟨hp2, hp3⟩
  obtain ⟨cl17, Ar17, Sz17, -, -⟩ := id B2.a_rf
  obtain ⟨T17, h17, X17, e17, W17, st17⟩ := stI X11 hx hZ e11 Ar17 (j := p1) (inb_of Sz17 ib17) (g := (mkF m 36 #[(vr oa), (vi p1), (vi 0), (vi p1)] [(.int ((xrf p1) + (1 : Int32))), (.int p1), (.ref qrf), (.int (xrf p1))])) rfl rfl (hb hby d20_36)
  have N17 := Fr.snoc X17 N2 B2.g_rf
  have B17 := B2.t_rf W17 ib17
  have pre18 := Go.thn pre16 st17
  have pre19 : Go p e below T17 _ (mkF m 75 #[(vr oa), (vi p1), (vi 0), (vi p1)] []) _ := fun t k => pre18 t (by
    refine XS.ifYes X17.here hx rfl (pc0 := 37) (pc' := 72) rfl (hb hby d20_37) rfl ((if0 _ _).trans (feq hrf).2) (by decide) (by decide) ?_
    refine XS.goto X17.here hx rfl (pc0 := 72) (pc' := 7) rfl (hb hby d20_72) (by decide) (by decide) ?_
    refine XS.iloadN X17.here hx rfl (hb hby d20_7) rfl ?_
    refine XS.ifYes X17.here hx rfl (pc0 := 8) (pc' := 75) rfl (hb hby d20_8) rfl (by decide) (by decide) (by decide) ?_
    exact k)
  obtain ⟨fs, hr, hrun, hended, hW, hsame⟩ := X17.leave (v := none) (fun _ => rfl)
  refine ⟨_, _, ?_, hrun, hended, _, _, rfl, ?_, ⟨_, rfl⟩, hW, hsame.mono (by decide) (by decide)⟩
  · exact pre19 _ (X17.returnOut hx Bd.returns (hb hby d20_75) hr)
  · show QB _ _ _ _ T17.heap _
    rw [e17]
    exact ⟨rfl, N17, B17⟩
theorem d23_0 : DK cd23 0 (.aload_n 0) 1 := by decide +kernel
theorem d23_1 : DK cd23 1 (.invokespecial 1) 3 := by decide +kernel
theorem d23_4 : DK cd23 4 (.aload_n 0) 1 := by decide +kernel
theorem d23_5 : DK cd23 5 (.aload_n 1) 1 := by decide +kernel
theorem d23_6 : DK cd23 6 (.putfield 7) 3 := by decide +kernel
theorem d23_9 : DK cd23 9 (.aload_n 0) 1 := by decide +kernel
theorem d23_10 : DK cd23 10 (.iload_n 2) 1 := by decide +kernel
theorem d23_11 : DK cd23 11 (.putfield 13) 3 := by decide +kernel
theorem d23_14 : DK cd23 14 .return_ 1 := by decide +kernel
theorem pn_23 : plainName "com/example/slim_kripke/slimkripke/bdd/Bdd" = true := by first | (simp [plainName, overriddenIn]; done) | decide +kernel
theorem ef_23 (m : MethodId) (x0 : Addr) (x1 : Addr) (x2 : Int32) : entryFrame m #[(.ref x0), (.ref x1), (.int x2)] 3 = mkF m 0 #[.val (.ref x0), .val (.ref x1), .val (.int x2)] [] := by first | (simp [entryFrame, mkF, argsToLocals, Value.category]; done) | rfl
def Q23 (Z : State) (o0 : Addr) (o1 : Addr) (p2 : Int32) (h0 : Heap) (n0 : Nat) (v : Option Value) (h : Heap) (L : List Loc) : Prop := v = none ∧ Fr n0 L ∧ Keep h0 h [o0]
theorem rm23 (l : Launch) (Z : State) (a0 : Array Value) (hw : ∀ d ∈ tables_1, d.before a0 Z = true) (ws : List Jvm.Cond) (o0 : Addr) (o1 : Addr) (p2 : Int32) (h0 : Heap) (n0 : Nat) (Z0 : n0 ≤ h0.size) (I0 : Exa Z h0 o0 "com/example/slim_kripke/slimkripke/bdd/Bdd") (I1 : Fld Z h0 o0 "com/example/slim_kripke/slimkripke/bdd/Bdd" "manager" "Lcom/example/slim_kripke/slimkripke/bdd/BddManager;" .null) (I2 : Fld Z h0 o0 "com/example/slim_kripke/slimkripke/bdd/Bdd" "node" "I" (.int 0)) (gw_o0 : n0 ≤ o0) :
    Met1 l Nm_23 (Jvm.Cond.code Nm_23 prog_4_method_1_code 3 none) ws (rom 1 0 0 12) #[(.ref o0), (.ref o1), (.int p2)] Z h0 (Q23 Z o0 o1 p2 h0 n0) := by
  refine MetFree.of_bodySF (plainFor_of_name pn_23) hisR ?_
  intro p e s m args below meth c s₁ Bd hml0 hP hK
  obtain ⟨rfl, hZ, hh⟩ := hP
  have hx := Bd.exec
  have hby := Bd.bytes
  have hml : c.maxLocals = 3 := hml0
  have hown : s.vm.findClass "com/example/slim_kripke/slimkripke/bdd/Bdd" = some m.cls := findClass_of_methodNamed Bd.named
  have hnm := (name_of_methodNamed Bd.named Bd.method).1
  have X0 : Stand p l e (rom 1 0 0 12) s m _ _ _ _ _ [] 0 0 := Stand.of_body Bd
  have e0 : s₁.heap = h0 := by rw [← hh, Bd.state]; rfl
  have N0 := Fr.nil n0
  have K0 : Keep h0 h0 [o0] := Keep.refl _ _
  have pre0 : Go p e below s₁ _ (mkF m 0 #[(vr o0), (vr o1), (vi p2)] []) _ := fun t k => castTop (ef_23 m o0 o1 p2) k
  have pre1 : Go p e below s₁ _ (mkF m 1 #[(vr o0), (vr o1), (vi p2)] [(.ref o0)]) _ := fun t k => pre0 t (by
    refine XS.aloadN X0.here hx rfl (hb hby d23_0) rfl rfl ?_
    exact k)
  obtain ⟨T2, X2, e2, st2⟩ := initO X0 hx hZ hown (wq hw 142 rfl) (wq hw 8 rfl) (wq hw 9 rfl) e0 (g := (mkF m 1 #[(vr o0), (vr o1), (vi p2)] [(.ref o0)])) rfl (by rw [hml]; rfl) rfl (hb hby d23_1) (by decide) (W := 0) (w00 rfl) (by decide)
  have pre3 := Go.thn pre1 st2
  have pre4 : Go p e below T2 _ (mkF m 6 #[(vr o0), (vr o1), (vi p2)] [(.ref o1), (.ref o0)]) _ := fun t k => pre3 t (by
    refine XS.aloadN X2.here hx rfl (hb hby d23_4) rfl rfl ?_
    refine XS.aloadN X2.here hx rfl (hb hby d23_5) rfl rfl ?_
    exact k)
  obtain ⟨T5, h5, X5, e5, W5, st5⟩ := putF X2 hx hZ hown (host := "") (Or.inl (wq hw 143 rfl)) Via.refl e2 I1 I0 (Or.inr ⟨(wq hw 144 rfl), rfl, hnm⟩) (wq hw 137 rfl) (ty := (.object "com/example/slim_kripke/slimkripke/bdd/BddManager")) (by decide) rfl rfl (g := (mkF m 6 #[(vr o0), (vr o1), (vi p2)] [(.ref o1), (.ref o0)])) rfl rfl (hb hby d23_6)
  have N5 := Fr.snoc X5 N0 gw_o0
  have K5 : Keep h0 h5 [o0] := K0.wr W5 (Or.inl (List.mem_of_getElem? (i := 0) rfl))
  have Z5 : n0 ≤ h5.size := Nat.le_trans Z0 (Keep.of_wr W5).1
  have x6 := I0.wr W5
  have x7 := I1.same W5
  have x8 := I2.other W5 (Or.inr (slot_ne (Or.inl (wq hw 146 rfl)) (Or.inr (wq hw 144 rfl)) (by decide) (t := .int) (t' := (.object "com/example/slim_kripke/slimkripke/bdd/BddManager")) (by decide) (by decide)))
  have pre9 := Go.thn pre4 st5
  have pre10 : Go p e below T5 _ (mkF m 11 #[(vr o0), (vr o1), (vi p2)] [(.int p2), (.ref o0)]) _ := fun t k => pre9 t (by
    refine XS.aloadN X5.here hx rfl (hb hby d23_9) rfl rfl ?_
    refine XS.iloadN X5.here hx rfl (hb hby d23_10) rfl ?_
    exact k)
  obtain ⟨T11, h11, X11, e11, W11, st11⟩ := putF X5 hx hZ hown (host := "") (Or.inl (wq hw 145 rfl)) Via.refl e5 x8 x6 (Or.inl (wq hw 146 rfl)) (wq hw 137 rfl) (ty := .int) (by decide) rfl rfl (g := (mkF m 11 #[(vr o0), (vr o1), (vi p2)] [(.int p2), (.ref o0)])) rfl rfl (hb hby d23_11)
  have N11 := Fr.snoc X11 N5 gw_o0
  have K11 : Keep h0 h11 [o0] := K5.wr W11 (Or.inl (List.mem_of_getElem? (i := 0) rfl))
  have Z11 : n0 ≤ h11.size := Nat.le_trans Z5 (Keep.of_wr W11).1
  have x12 := x6.wr W11
  have x13 := x7.other W11 (Or.inr (slot_ne (Or.inr (wq hw 144 rfl)) (Or.inl (wq hw 146 rfl)) (by decide) (t := (.object "com/example/slim_kripke/slimkripke/bdd/BddManager")) (t' := .int) (by decide) (by decide)))
  have x14 := x8.same W11
  have pre15 := Go.thn pre10 st11
  obtain ⟨fs, hr, hrun, hended, hW, hsame⟩ := X11.leave (v := none) (fun _ => rfl)
  refine ⟨_, _, ?_, hrun, hended, _, _, rfl, ?_, ⟨_, rfl⟩, hW, hsame.mono (by decide) (by decide)⟩
  · exact pre15 _ (X11.returnOut hx Bd.returns (hb hby d23_14) hr)
  · show Q23 Z o0 o1 p2 h0 n0 _ T11.heap _
    rw [e11]
    exact ⟨rfl, N11, K11⟩
theorem d19_0 : DK cd19 0 (.aload_n 0) 1 := by decide +kernel
theorem d19_1 : DK cd19 1 (.iload_n 1) 1 := by decide +kernel
theorem d19_2 : DK cd19 2 (.invokevirtual 118) 3 := by decide +kernel
theorem d19_5 : DK cd19 5 (.aload_n 0) 1 := by decide +kernel
theorem d19_6 : DK cd19 6 (.aload_n 0) 1 := by decide +kernel
theorem d19_7 : DK cd19 7 (.getfield 27) 3 := by decide +kernel
theorem d19_10 : DK cd19 10 (.aload_n 0) 1 := by decide +kernel
theorem d19_11 : DK cd19 11 (.getfield 23) 3 := by decide +kernel
theorem d19_14 : DK cd19 14 (.invokestatic 121) 3 := by decide +kernel
theorem d19_17 : DK cd19 17 (.putfield 27) 3 := by decide +kernel
theorem d19_20 : DK cd19 20 (.new 127) 3 := by decide +kernel
theorem d19_23 : DK cd19 23 .dup 1 := by decide +kernel
theorem d19_24 : DK cd19 24 (.aload_n 0) 1 := by decide +kernel
theorem d19_25 : DK cd19 25 (.iload_n 1) 1 := by decide +kernel
theorem d19_26 : DK cd19 26 (.invokespecial 129) 3 := by decide +kernel
theorem d19_29 : DK cd19 29 .areturn 1 := by decide +kernel
theorem pn_19 : plainName "com/example/slim_kripke/slimkripke/bdd/BddManager" = true := by first | (simp [plainName, overriddenIn]; done) | decide +kernel
theorem pd__Lcom_example_slim_kripke_slimkripke_bdd_BddManager_I_V : parseMethodDescriptor "(Lcom/example/slim_kripke/slimkripke/bdd/BddManager;I)V" = some ⟨[(.object "com/example/slim_kripke/slimkripke/bdd/BddManager"), .int], none⟩ := by decide +kernel
theorem ef_19n (m : MethodId) (x0 : Addr) (x1 : Int32) : entryFrame m #[(.ref x0), (.int x1)] 2 = mkF m 0 #[.val (.ref x0), .val (.int x1)] [] := by first | (simp [entryFrame, mkF, argsToLocals, Value.category]; done) | rfl
theorem rm19n (l : Launch) (Z : State) (a0 : Array Value) (hw : ∀ d ∈ tables_1, d.before a0 Z = true) (ws : List Jvm.Cond) {oa qcs qcf qpe qlv qlo qhi qrf qch qbk qca : Addr} {xn xs xff xfc xdp xcz xli xpk : Int32} {xlv xlo xhi xrf xch xbk xca xcf xpe : Int32 → Int32} (p1 : Int32) (h0 : Heap) (n0 : Nat) (Z0 : n0 ≤ h0.size) (B0 : Mg Z n0 h0 oa qcs qcf qpe qlv qlo qhi qrf qch qbk qca xn xs xff xfc xdp xcz xli xpk xlv xlo xhi xrf xch xbk xca xcf xpe) (hp1 : 1 < p1) (hp2 : ¬ p1 < 0) (hp3 : p1 < 4096) (hrf : (xrf p1) = 0) (hlo : (xlo p1) = 0) (hhi : (xhi p1) = 1) :
    Met1 l Nm_24 (Jvm.Cond.code Nm_24 prog_5_method_12_code 2 (some (.object "com/example/slim_kripke/slimkripke/bdd/Bdd"))) ws (rom 2 1 2 31) #[(.ref oa), (.int p1)] Z h0 (QR n0 (fun h => Mg Z n0 h oa qcs qcf qpe qlv qlo qhi qrf qch qbk qca xn xs xff xfc xdp xcz (xli + 1) (f22 xpk (xli + 1)) xlv xlo xhi (own_up xrf p1 ((xrf p1) + 1)) xch xbk xca xcf (own_up (own_up (own_up xpe 0 p1) 0 0) 1 1))) := by
  refine MetFree.of_bodySF (plainFor_of_name pn_19) hisR ?_
  intro p e s m args below meth c s₁ Bd hml0 hP hK
  obtain ⟨rfl, hZ, hh⟩ := hP
  have hx := Bd.exec
  have hby := Bd.bytes
  have hml : c.maxLocals = 2 := hml0
  have hown : s.vm.findClass "com/example/slim_kripke/slimkripke/bdd/BddManager" = some m.cls := findClass_of_methodNamed Bd.named
  have X0 : Stand p l e (rom 2 1 2 31) s m _ _ _ _ _ [] 0 0 := Stand.of_body Bd
  have e0 : s₁.heap = h0 := by rw [← hh, Bd.state]; rfl
  have N0 := Fr.nil n0
  have K0 : Keep h0 h0 [] := Keep.refl _ _
  have pre0 : Go p e below s₁ _ (mkF m 0 #[(vr oa), (vi p1)] []) _ := fun t k => castTop (ef_19n m oa p1) k
  have pre1 : Go p e below s₁ _ (mkF m 2 #[(vr oa), (vi p1)] [(.int p1), (.ref oa)]) _ := fun t k => pre0 t (by
    refine XS.aloadN X0.here hx rfl (hb hby d19_0) rfl rfl ?_
    refine XS.iloadN X0.here hx rfl (hb hby d19_1) rfl ?_
    exact k)
  obtain ⟨cq2, q2, q2'⟩ := B0.e.cell
  obtain ⟨_, _, ⟨T2, L2, k2, n2⟩, -, X2, ⟨Lc2, hQ2, l2, y2, z2⟩, st2⟩ := X0.privateBack hx (y := Nm_22) hown (mq hZ hw 125 rfl) (mq hZ hw 126 rfl) (own_seli (mq hZ hw 2 rfl) (pq hZ hw 127 rfl) (mq hZ hw 126 rfl) (by decide)) (pq hZ hw 127 rfl) (mq hZ hw 128 rfl) (by decide) (backOf (W := 0) (rm20n l Z a0 hw [] p1 h0 n0 B0.z B0 hp1 hp2 hp3 hrf hlo hhi) hZ (wq hw 128 rfl) (wq hw 3 rfl) (by decide) (by decide)) (g := (mkF m 2 #[(vr oa), (vi p1)] [(.int p1), (.ref oa)])) rfl (by rw [hml]; rfl) (Steps.refl _) (a := oa) (by rw [e0]; exact q2) q2' (argsL := [(.int p1)]) (rest := []) (lenOf pd__I_V rfl) rfl (w00 rfl) (hb hby d19_2) (fun _ _ => ⟨rfl, e0, zz, zz⟩)
  dsimp only [Pt.U, Pt.locs, Pt.cells, Pt.slots] at X2 l2 y2 z2 st2 hQ2
  subst y2 z2
  obtain ⟨rfl, Nq2, Bq2⟩ := hQ2
  have N2 := FrE l2 N0 Nq2
  have B2 : Mg Z n0 T2.heap oa _ _ _ _ _ _ _ _ _ _ xn xs xff xfc xdp xcz (xli + 1) xpk xlv xlo xhi (own_up xrf p1 ((xrf p1) + 1)) xch xbk xca xcf (own_up (own_up (own_up xpe 0 p1) 0 0) 1 1) := Bq2
  have pre3 := Go.trn pre1 st2
  have pre4 : Go p e below T2 _ (mkF m 7 #[(vr oa), (vi p1)] [(.ref oa), (.ref oa)]) _ := fun t k => pre3 t (by
    refine XS.aloadN X2.here hx rfl (hb hby d19_5) rfl rfl ?_
    refine XS.aloadN X2.here hx rfl (hb hby d19_6) rfl rfl ?_
    exact k)
  obtain ⟨T5, X5, e5, st5⟩ := getF X2 hx hZ hown (host := "") (Or.inl (wq hw 26 rfl)) Via.refl rfl B2.f_pk (g := (mkF m 7 #[(vr oa), (vi p1)] [(.ref oa), (.ref oa)])) rfl rfl (hb hby d19_7)
  have pre6 := Go.thn pre4 st5
  have pre7 : Go p e below T5 _ (mkF m 11 #[(vr oa), (vi p1)] [(.ref oa), (.int xpk), (.ref oa)]) _ := fun t k => pre6 t (by
    refine XS.aloadN X5.here hx rfl (hb hby d19_10) rfl rfl ?_
    exact k)
  obtain ⟨T8, X8, e8, st8⟩ := getF X5 hx hZ hown (host := "") (Or.inl (wq hw 24 rfl)) Via.refl e5 B2.f_li (g := (mkF m 11 #[(vr oa), (vi p1)] [(.ref oa), (.int xpk), (.ref oa)])) rfl rfl (hb hby d19_11)
  have pre9 := Go.thn pre7 st8
  obtain ⟨_, _, ⟨T10, L10, k10, n10⟩, -, X10, ⟨Lc10, hQ10, l10, y10, z10⟩, st10⟩ := Jvm.LawKit.callS X8 hx (y := Nm_3) hown (mq hZ hw 133 rfl) (mq hZ hw 134 rfl) (mq hZ hw 72 rfl) (mq hZ hw 135 rfl) (by decide) (backOf (W := 1) (rm22 l Z a0 hw [] xpk (xli + (1 : Int32)) T2.heap n0 B2.z) hZ (wq hw 135 rfl) (wq hw 72 rfl) (by decide) (by decide)) (g := (mkF m 14 #[(vr oa), (vi p1)] [(.int (xli + (1 : Int32))), (.int xpk), (.ref oa)])) rfl (by rw [hml]; rfl) (argsL := [(.int xpk), (.int (xli + (1 : Int32)))]) (rest := [(.ref oa)]) (lenOf pd__II_I rfl) rfl (w00 rfl) (hb hby d19_14) (fun _ _ => ⟨rfl, e8, zz, zz⟩)
  dsimp only [Pt.U, Pt.locs, Pt.cells, Pt.slots] at X10 l10 y10 z10 st10 hQ10
  subst y10 z10
  obtain ⟨rfl, Nq10, e10⟩ := hQ10
  have N10 := FrE l10 N2 Nq10
  have pre11 := Go.thn pre9 st10
  obtain ⟨T12, h12, X12, e12, W12, st12⟩ := putF X10 hx hZ hown (host := "") (Or.inl (wq hw 26 rfl)) Via.refl e10 B2.f_pk B2.e (Or.inl (wq hw 27 rfl)) (wq hw 2 rfl) (ty := .int) (by decide) rfl rfl (g := (mkF m 17 #[(vr oa), (vi p1)] [(.int (f22 xpk (xli + (1 : Int32)))), (.ref oa)])) rfl rfl (hb hby d19_17)
  have N12 := Fr.snoc X12 N10 B2.g0
  have B12 := B2.w_pk hw W12
  have pre13 := Go.thn pre11 st12
  obtain ⟨T14, h14, X14, e14, E14, A14, D14, -, st14⟩ := newO X12 hx hZ hown (wq hw 136 rfl) (wq hw 137 rfl) (wq hw 138 rfl) e12 (g := (mkF m 20 #[(vr oa), (vi p1)] [])) rfl (hb hby d19_20) (by decide) (by decide)
  have tp14 := B12.top
  obtain ⟨b20, g14⟩ : ∃ z, z = h12.size := ⟨_, rfl⟩
  rw [← g14] at A14 D14 st14 tp14
  have gg14 : n0 ≤ b20 := Nat.le_trans B12.z (Nat.le_of_eq g14.symm)
  have B14 := B12.ext E14
  have Fn14_manager : Fld Z h14 b20 "com/example/slim_kripke/slimkripke/bdd/Bdd" "manager" "Lcom/example/slim_kripke/slimkripke/bdd/BddManager;" .null := D14 (Or.inr (wq hw 144 rfl)) (ty := (.object "com/example/slim_kripke/slimkripke/bdd/BddManager")) (by decide)
  have Fn14_node : Fld Z h14 b20 "com/example/slim_kripke/slimkripke/bdd/Bdd" "node" "I" (.int 0) := D14 (Or.inl (wq hw 146 rfl)) (ty := .int) (by decide)
  have pre15 := Go.thn pre13 st14
  have pre16 : Go p e below T14 _ (mkF m 26 #[(vr oa), (vi p1)] [(.int p1), (.ref oa), (.ref b20), (.ref b20)]) _ := fun t k => pre15 t (by
    refine XS.dup X14.here hx rfl (hb hby d19_23) rfl rfl ?_
    refine XS.aloadN X14.here hx rfl (hb hby d19_24) rfl rfl ?_
    refine XS.iloadN X14.here hx rfl (hb hby d19_25) rfl ?_
    exact k)
  obtain ⟨_, _, ⟨T17, L17, k17, n17⟩, -, X17, ⟨Lc17, hQ17, l17, y17, z17⟩, st17⟩ := X14.specialBack hx (y := Nm_23) rfl hown (mq hZ hw 139 rfl) (mq hZ hw 140 rfl) (mq hZ hw 141 rfl) (by decide) (backOf (W := 1) (rm23 l Z a0 hw [] b20 oa p1 h14 n0 B14.z A14 Fn14_manager Fn14_node gg14) hZ (wq hw 141 rfl) (wq hw 138 rfl) (by decide) (by decide)) (g := (mkF m 26 #[(vr oa), (vi p1)] [(.int p1), (.ref oa), (.ref b20), (.ref b20)])) rfl (by rw [hml]; rfl) (Steps.refl _) (a := b20) (argsL := [(.ref oa), (.int p1)]) (rest := [(.ref b20)]) (lenOf pd__Lcom_example_slim_kripke_slimkripke_bdd_BddManager_I_V rfl) rfl (w00 rfl) (hb hby d19_26) (fun _ _ => ⟨rfl, e14, (by decide : 1 + 0 ≤ _), (by decide : 2 + 0 ≤ _)⟩)
  dsimp only [Pt.U, Pt.locs, Pt.cells, Pt.slots] at X17 l17 y17 z17 st17 hQ17
  subst y17 z17
  obtain ⟨rfl, Nq17, Kq17⟩ := hQ17
  have N17 := FrE l17 N12 Nq17
  have B17 := B14.keepn Kq17 tp14
  have pre18 := Go.trn pre16 st17
  obtain ⟨fs, hr, hrun, hended, hW, hsame⟩ := X17.leave (v := some (.ref b20)) (fun h => by rw [Bd.returns] at h; cases h)
  refine ⟨_, _, ?_, hrun, hended, _, _, rfl, ?_, ⟨_, rfl⟩, hW, hsame.mono (by decide) (by decide)⟩
  · refine pre18 _ ?_
    jvm_step X17.here [X17.here.top, hx, (hb hby d19_29), X17.method', Bd.returns, Value.isRef, FieldType.isReference]
    first | (intro acts; rw [hr _ acts rfl rfl rfl]) | rw [hr _ _ rfl rfl rfl]
    exact Steps.refl _
  · show QR _ _ _ T17.heap _
    skip
    exact ⟨_, rfl, N17, B17⟩
theorem rm19o (l : Launch) (Z : State) (a0 : Array Value) (hw : ∀ d ∈ tables_1, d.before a0 Z = true) (ws : List Jvm.Cond) {oa qcs qcf qpe qlv qlo qhi qrf qch qbk qca : Addr} {xn xs xff xfc xdp xcz xli xpk : Int32} {xlv xlo xhi xrf xch xbk xca xcf xpe : Int32 → Int32} (p1 : Int32) (h0 : Heap) (n0 : Nat) (Z0 : n0 ≤ h0.size) (B0 : Mg Z n0 h0 oa qcs qcf qpe qlv qlo qhi qrf qch qbk qca xn xs xff xfc xdp xcz xli xpk xlv xlo xhi xrf xch xbk xca xcf xpe) (hp1 : 1 < p1) (hp2 : ¬ p1 < 0) (hp3 : p1 < 4096) (hrf : ¬ (xrf p1) = 0) :
    Met1 l Nm_24 (Jvm.Cond.code Nm_24 prog_5_method_12_code 2 (some (.object "com/example/slim_kripke/slimkripke/bdd/Bdd"))) ws (rom 2 1 2 29) #[(.ref oa), (.int p1)] Z h0 (QR n0 (fun h => Mg Z n0 h oa qcs qcf qpe qlv qlo qhi qrf qch qbk qca xn xs xff xfc xdp xcz xli (f22 xpk xli) xlv xlo xhi (own_up xrf p1 ((xrf p1) + 1)) xch xbk xca xcf (own_up xpe 0 p1))) := by
  refine MetFree.of_bodySF (plainFor_of_name pn_19) hisR ?_
  intro p e s m args below meth c s₁ Bd hml0 hP hK
  obtain ⟨rfl, hZ, hh⟩ := hP
  have hx := Bd.exec
  have hby := Bd.bytes
  have hml : c.maxLocals = 2 := hml0
  have hown : s.vm.findClass "com/example/slim_kripke/slimkripke/bdd/BddManager" = some m.cls := findClass_of_methodNamed Bd.named
  have X0 : Stand p l e (rom 2 1 2 29) s m _ _ _ _ _ [] 0 0 := Stand.of_body Bd
  have e0 : s₁.heap = h0 := by rw [← hh, Bd.state]; rfl
  have N0 := Fr.nil n0
  have K0 : Keep h0 h0 [] := Keep.refl _ _
  have pre0 : Go p e below s₁ _ (mkF m 0 #[(vr oa), (vi p1)] []) _ := fun t k => castTop (ef_19n m oa p1) k
  have pre1 : Go p e below s₁ _ (mkF m 2 #[(vr oa), (vi p1)] [(.int p1), (.ref oa)]) _ := fun t k => pre0 t (by
    refine XS.aloadN X0.here hx rfl (hb hby d19_0) rfl rfl ?_
    refine XS.iloadN X0.here hx rfl (hb hby d19_1) rfl ?_
    exact k)
  obtain ⟨cq2, q2, q2'⟩ := B0.e.cell
  obtain ⟨_, _, ⟨T2, L2, k2, n2⟩, -, X2, ⟨Lc2, hQ2, l2, y2, z2⟩, st2⟩ := X0.privateBack hx (y := Nm_22) hown (mq hZ hw 125 rfl) (mq hZ hw 126 rfl) (own_seli (mq hZ hw 2 rfl) (pq hZ hw 127 rfl) (mq hZ hw 126 rfl) (by decide)) (pq hZ hw 127 rfl) (mq hZ hw 128 rfl) (by decide) (backOf (W := 0) (rm20o l Z a0 hw [] p1 h0 n0 B0.z B0 hp1 hp2 hp3 hrf) hZ (wq hw 128 rfl) (wq hw 3 rfl) (by decide) (by decide)) (g := (mkF m 2 #[(vr oa), (vi p1)] [(.int p1), (.ref oa)])) rfl (by rw [hml]; rfl) (Steps.refl _) (a := oa) (by rw [e0]; exact q2) q2' (argsL := [(.int p1)]) (rest := []) (lenOf pd__I_V rfl) rfl (w00 rfl) (hb hby d19_2) (fun _ _ => ⟨rfl, e0, zz, zz⟩)
  dsimp only [Pt.U, Pt.locs, Pt.cells, Pt.slots] at X2 l2 y2 z2 st2 hQ2
  subst y2 z2
  obtain ⟨rfl, Nq2, Bq2⟩ := hQ2
  have N2 := FrE l2 N0 Nq2
  have B2 : Mg Z n0 T2.heap oa _ _ _ _ _ _ _ _ _ _ xn xs xff xfc xdp xcz xli xpk xlv xlo xhi (own_up xrf p1 ((xrf p1) + 1)) xch xbk xca xcf (own_up xpe 0 p1) := Bq2
  have pre3 := Go.trn pre1 st2
  have pre4 : Go p e below T2 _ (mkF m 7 #[(vr oa), (vi p1)] [(.ref oa), (.ref oa)]) _ := fun t k => pre3 t (by
    refine XS.aloadN X2.here hx rfl (hb hby d19_5) rfl rfl ?_
    refine XS.aloadN X2.here hx rfl (hb hby d19_6) rfl rfl ?_
    exact k)
  obtain ⟨T5, X5, e5, st5⟩ := getF X2 hx hZ hown (host := "") (Or.inl (wq hw 26 rfl)) Via.refl rfl B2.f_pk (g := (mkF m 7 #[(vr oa), (vi p1)] [(.ref oa), (.ref oa)])) rfl rfl (hb hby d19_7)
  have pre6 := Go.thn pre4 st5
  have pre7 : Go p e below T5 _ (mkF m 11 #[(vr oa), (vi p1)] [(.ref oa), (.int xpk), (.ref oa)]) _ := fun t k => pre6 t (by
    refine XS.aloadN X5.here hx rfl (hb hby d19_10) rfl rfl ?_
    exact k)
  obtain ⟨T8, X8, e8, st8⟩ := getF X5 hx hZ hown (host := "") (Or.inl (wq hw 24 rfl)) Via.refl e5 B2.f_li (g := (mkF m 11 #[(vr oa), (vi p1)] [(.ref oa), (.int xpk), (.ref oa)])) rfl rfl (hb hby d19_11)
  have pre9 := Go.thn pre7 st8
  obtain ⟨_, _, ⟨T10, L10, k10, n10⟩, -, X10, ⟨Lc10, hQ10, l10, y10, z10⟩, st10⟩ := Jvm.LawKit.callS X8 hx (y := Nm_3) hown (mq hZ hw 133 rfl) (mq hZ hw 134 rfl) (mq hZ hw 72 rfl) (mq hZ hw 135 rfl) (by decide) (backOf (W := 1) (rm22 l Z a0 hw [] xpk xli T2.heap n0 B2.z) hZ (wq hw 135 rfl) (wq hw 72 rfl) (by decide) (by decide)) (g := (mkF m 14 #[(vr oa), (vi p1)] [(.int xli), (.int xpk), (.ref oa)])) rfl (by rw [hml]; rfl) (argsL := [(.int xpk), (.int xli)]) (rest := [(.ref oa)]) (lenOf pd__II_I rfl) rfl (w00 rfl) (hb hby d19_14) (fun _ _ => ⟨rfl, e8, zz, zz⟩)
  dsimp only [Pt.U, Pt.locs, Pt.cells, Pt.slots] at X10 l10 y10 z10 st10 hQ10
  subst y10 z10
  obtain ⟨rfl, Nq10, e10⟩ := hQ10
  have N10 := FrE l10 N2 Nq10
  have pre11 := Go.thn pre9 st10
  obtain ⟨T12, h12, X12, e12, W12, st12⟩ := putF X10 hx hZ hown (host := "") (Or.inl (wq hw 26 rfl)) Via.refl e10 B2.f_pk B2.e (Or.inl (wq hw 27 rfl)) (wq hw 2 rfl) (ty := .int) (by decide) rfl rfl (g := (mkF m 17 #[(vr oa), (vi p1)] [(.int (f22 xpk xli)), (.ref oa)])) rfl rfl (hb hby d19_17)
  have N12 := Fr.snoc X12 N10 B2.g0
  have B12 := B2.w_pk hw W12
  have pre13 := Go.thn pre11 st12
  obtain ⟨T14, h14, X14, e14, E14, A14, D14, -, st14⟩ := newO X12 hx hZ hown (wq hw 136 rfl) (wq hw 137 rfl) (wq hw 138 rfl) e12 (g := (mkF m 20 #[(vr oa), (vi p1)] [])) rfl (hb hby d19_20) (by decide) (by decide)
  have tp14 := B12.top
  obtain ⟨b20, g14⟩ : ∃ z, z = h12.size := ⟨_, rfl⟩
  rw [← g14] at A14 D14 st14 tp14
  have gg14 : n0 ≤ b20 := Nat.le_trans B12.z (Nat.le_of_eq g14.symm)
  have B14 := B12.ext E14
  have Fn14_manager : Fld Z h14 b20 "com/example/slim_kripke/slimkripke/bdd/Bdd" "manager" "Lcom/example/slim_kripke/slimkripke/bdd/BddManager;" .null := D14 (Or.inr (wq hw 144 rfl)) (ty := (.object "com/example/slim_kripke/slimkripke/bdd/BddManager")) (by decide)
  have Fn14_node : Fld Z h14 b20 "com/example/slim_kripke/slimkripke/bdd/Bdd" "node" "I" (.int 0) := D14 (Or.inl (wq hw 146 rfl)) (ty := .int) (by decide)
  have pre15 := Go.thn pre13 st14
  have pre16 : Go p e below T14 _ (mkF m 26 #[(vr oa), (vi p1)] [(.int p1), (.ref oa), (.ref b20), (.ref b20)]) _ := fun t k => pre15 t (by
    refine XS.dup X14.here hx rfl (hb hby d19_23) rfl rfl ?_
    refine XS.aloadN X14.here hx rfl (hb hby d19_24) rfl rfl ?_
    refine XS.iloadN X14.here hx rfl (hb hby d19_25) rfl ?_
    exact k)
  obtain ⟨_, _, ⟨T17, L17, k17, n17⟩, -, X17, ⟨Lc17, hQ17, l17, y17, z17⟩, st17⟩ := X14.specialBack hx (y := Nm_23) rfl hown (mq hZ hw 139 rfl) (mq hZ hw 140 rfl) (mq hZ hw 141 rfl) (by decide) (backOf (W := 1) (rm23 l Z a0 hw [] b20 oa p1 h14 n0 B14.z A14 Fn14_manager Fn14_node gg14) hZ (wq hw 141 rfl) (wq hw 138 rfl) (by decide) (by decide)) (g := (mkF m 26 #[(vr oa), (vi p1)] [(.int p1), (.ref oa), (.ref b20), (.ref b20)])) rfl (by rw [hml]; rfl) (Steps.refl _) (a := b20) (argsL := [(.ref oa), (.int p1)]) (rest := [(.ref b20)]) (lenOf pd__Lcom_example_slim_kripke_slimkripke_bdd_BddManager_I_V rfl) rfl (w00 rfl) (hb hby d19_26) (fun _ _ => ⟨rfl, e14, (by decide : 1 + 0 ≤ _), (by decide : 2 + 0 ≤ _)⟩)
  dsimp only [Pt.U, Pt.locs, Pt.cells, Pt.slots] at X17 l17 y17 z17 st17 hQ17
  subst y17 z17
  obtain ⟨rfl, Nq17, Kq17⟩ := hQ17
  have N17 := FrE l17 N12 Nq17
  have B17 := B14.keepn Kq17 tp14
  have pre18 := Go.trn pre16 st17
  obtain ⟨fs, hr, hrun, hended, hW, hsame⟩ := X17.leave (v := some (.ref b20)) (fun h => by rw [Bd.returns] at h; cases h)
  refine ⟨_, _, ?_, hrun, hended, _, _, rfl, ?_, ⟨_, rfl⟩, hW, hsame.mono (by decide) (by decide)⟩
  · refine pre18 _ ?_
    jvm_step X17.here [X17.here.top, hx, (hb hby d19_29), X17.method', Bd.returns, Value.isRef, FieldType.isReference]
    first | (intro acts; rw [hr _ acts rfl rfl rfl]) | rw [hr _ _ rfl rfl rfl]
    exact Steps.refl _
  · show QR _ _ _ T17.heap _
    skip
    exact ⟨_, rfl, N17, B17⟩
theorem d16_32 : DK cd16 32 (.iload 5) 2 := by decide +kernel
theorem d16_34 : DK cd16 34 (.ifCond .lt 51) 3 := by decide +kernel
theorem d16_37 : DK cd16 37 (.aload_n 0) 1 := by decide +kernel
theorem d16_38 : DK cd16 38 (.getfield 179) 3 := by decide +kernel
theorem d16_41 : DK cd16 41 (.iload 5) 2 := by decide +kernel
theorem d16_43 : DK cd16 43 .iaload 1 := by decide +kernel
theorem d16_44 : DK cd16 44 (.iload_n 1) 1 := by decide +kernel
theorem d16_45 : DK cd16 45 (.if_icmp .ne 28) 3 := by decide +kernel
theorem d16_73 : DK cd16 73 (.aload_n 0) 1 := by decide +kernel
theorem d16_74 : DK cd16 74 (.getfield 379) 3 := by decide +kernel
theorem d16_77 : DK cd16 77 (.iload 5) 2 := by decide +kernel
theorem d16_79 : DK cd16 79 .iaload 1 := by decide +kernel
theorem d16_80 : DK cd16 80 (.istore 5) 2 := by decide +kernel
theorem d16_82 : DK cd16 82 (.goto (-50)) 3 := by decide +kernel
theorem tnNa {p : Program} {l : Launch} {e : Env} {s : State} {m : MethodId} {args : Array Value} {below : List Frame} {meth : Method} {c : Code} {T0 : State} {locs : List Loc} {Z : State} {a0 : Array Value} {h0 : Heap} {n0 : Nat} {oa : Addr} {p1 : Int32} {p2 : Int32} {p3 : Int32} {bu : Int32} {v : Int32} {qcs : Addr} {qcf : Addr} {qpe : Addr} {qlv : Addr} {qlo : Addr} {qhi : Addr} {qrf : Addr} {qch : Addr} {qbk : Addr} {qca : Addr} {xn : Int32} {xs : Int32} {xff : Int32} {xfc : Int32} {xdp : Int32} {xcz : Int32} {xli : Int32} {xpk : Int32} {xlv : Int32 → Int32} {xlo : Int32 → Int32} {xhi : Int32 → Int32} {xrf : Int32 → Int32} {xch : Int32 → Int32} {xbk : Int32 → Int32} {xca : Int32 → Int32} {xcf : Int32 → Int32} {xpe : Int32 → Int32}
    (X0 : Stand p l e (rom 2 0 0 40) s m args below meth c T0 locs 0 0) (hx : p.tables.exec = Jvm.exec) (hZ : Z.Warmed39 s.vm) (hw : ∀ d ∈ tables_1, d.before a0 Z = true) (hby : c.code = prog_5_method_55_code) (hml : c.maxLocals = 6) (hown : s.vm.findClass "com/example/slim_kripke/slimkripke/bdd/BddManager" = some m.cls) (e0 : T0.heap = h0) (N0 : Fr n0 locs) (Z0 : n0 ≤ h0.size) (B0 : Mg Z n0 h0 oa qcs qcf qpe qlv qlo qhi qrf qch qbk qca xn xs xff xfc xdp xcz xli xpk xlv xlo xhi xrf xch xbk xca xcf xpe) (hv : ¬ v < (0 : Int32)) (hv2 : v < 4096) (hx1 : ¬ (xlv v) = p1) :
    ∃ (T' : State) (L' : List Loc), Stand p l e (rom 2 0 0 40) s m args below meth c T' L' 0 0 ∧ T'.heap = h0 ∧ Fr n0 L' ∧ ∀ t, Steps p.tables e below (T'.setTop (mkF m 32 #[(vr oa), (vi p1), (vi p2), (vi p3), (vi bu), (vi (xch v))] [])) t → Steps p.tables e below (T0.setTop (mkF m 32 #[(vr oa), (vi p1), (vi p2), (vi p3), (vi bu), (vi v)] [])) t := by
  have pre0 : ∀ t, Steps p.tables e below (T0.setTop (mkF m 32 #[(vr oa), (vi p1), (vi p2), (vi p3), (vi bu), (vi v)] [])) t → Steps p.tables e below (T0.setTop (mkF m 32 #[(vr oa), (vi p1), (vi p2), (vi p3), (vi bu), (vi v)] [])) t := fun t k => k
  have pre1 : ∀ t, Steps p.tables e below (T0.setTop (mkF m 38 #[(vr oa), (vi p1), (vi p2), (vi p3), (vi bu), (vi v)] [(.ref oa)])) t → Steps p.tables e below (T0.setTop (mkF m 32 #[(vr oa), (vi p1), (vi p2), (vi p3), (vi bu), (vi v)] [])) t := fun t k => pre0 t (by
    refine XS.iload X0.here hx rfl (hb hby d16_32) rfl ?_
    refine XS.ifNo X0.here hx rfl (hb hby d16_34) rfl ((if0 _ _).trans (flt hv).1) ?_
    refine XS.aloadN X0.here hx rfl (hb hby d16_37) rfl rfl ?_
    exact k)
  obtain ⟨T2, X2, e2, st2⟩ := getF X0 hx hZ hown (host := "") (Or.inl (wq hw 36 rfl)) Via.refl e0 B0.f_lv (g := (mkF m 38 #[(vr oa), (vi p1), (vi p2), (vi p3), (vi bu), (vi v)] [(.ref oa)])) rfl rfl (hb hby d16_38)
  have pre3 : ∀ t, Steps p.tables e below (T2.setTop (mkF m 41 #[(vr oa), (vi p1), (vi p2), (vi p3), (vi bu), (vi v)] [(.ref qlv)])) t → Steps p.tables e below (T0.setTop (mkF m 32 #[(vr oa), (vi p1), (vi p2), (vi p3), (vi bu), (vi v)] [])) t := fun t k => pre1 t (st2 _ k)
  have pre4 : ∀ t, Steps p.tables e below (T2.setTop (mkF m 43 #[(vr oa), (vi p1), (vi p2), (vi p3), (vi bu), (vi v)] [(.int v), (.ref qlv)])) t → Steps p.tables e below (T0.setTop (mkF m 32 #[(vr oa), (vi p1), (vi p2), (vi p3), (vi bu), (vi v)] [])) t := fun t k => pre3 t (by
    refine XS.iload X2.here hx rfl (hb hby d16_41) rfl ?_
    exact k)
  obtain ⟨cl5, Ar5, Sz5, Mn5, Hs5⟩ := id B0.a_lv
  have ib5 : ¬ v < 0 ∧ v < 4096 := ⟨hv, hv2⟩
  have hat5 : cl5.slots[(v).toNatClampNeg]? = some (.int (xlv v)) := Hs5 v ib5
  have pre6 : ∀ t, Steps p.tables e below (T2.setTop (mkF m 44 #[(vr oa), (vi p1), (vi p2), (vi p3), (vi bu), (vi v)] [(.int (xlv v))])) t → Steps p.tables e below (T0.setTop (mkF m 32 #[(vr oa), (vi p1), (vi p2), (vi p3), (vi bu), (vi v)] [])) t := fun t k => pre4 t (by
    show Steps p.tables e below (T2.setTop (mkF m 43 #[(vr oa), (vi p1), (vi p2), (vi p3), (vi bu), (vi v)] [(.int v), (.ref qlv)])) _
    refine X2.iaload hx (j := v) (v := (.int (xlv v))) (by rw [e2]; exact Ar5.1) (State.isArrayOf_alike hZ.alike Ar5.2.1) Ar5.2.2 (inb_of Sz5 ib5) hat5 (g := (mkF m 43 #[(vr oa), (vi p1), (vi p2), (vi p3), (vi bu), (vi v)] [(.int v), (.ref qlv)])) rfl rfl (hb hby d16_43) _ ?_
    exact k)
  have pre7 : ∀ t, Steps p.tables e below (T2.setTop (mkF m 74 #[(vr oa), (vi p1), (vi p2), (vi p3), (vi bu), (vi v)] [(.ref oa)])) t → Steps p.tables e below (T0.setTop (mkF m 32 #[(vr oa), (vi p1), (vi p2), (vi p3), (vi bu), (vi v)] [])) t := fun t k => pre6 t (by
    refine XS.iloadN X2.here hx rfl (hb hby d16_44) rfl ?_
    refine XS.icmpYes X2.here hx rfl (pc0 := 45) (pc' := 73) rfl (hb hby d16_45) rfl (feq hx1).2 (by decide) (by decide) ?_
    refine XS.aloadN X2.here hx rfl (hb hby d16_73) rfl rfl ?_
    exact k)
  obtain ⟨T8, X8, e8, st8⟩ := getF X2 hx hZ hown (host := "") (Or.inl (wq hw 44 rfl)) Via.refl e2 B0.f_ch (g := (mkF m 74 #[(vr oa), (vi p1), (vi p2), (vi p3), (vi bu), (vi v)] [(.ref oa)])) rfl rfl (hb hby d16_74)
  have pre9 : ∀ t, Steps p.tables e below (T8.setTop (mkF m 77 #[(vr oa), (vi p1), (vi p2), (vi p3), (vi bu), (vi v)] [(.ref qch)])) t → Steps p.tables e below (T0.setTop (mkF m 32 #[(vr oa), (vi p1), (vi p2), (vi p3), (vi bu), (vi v)] [])) t := fun t k => pre7 t (st8 _ k)
  have pre10 : ∀ t, Steps p.tables e below (T8.setTop (mkF m 79 #[(vr oa), (vi p1), (vi p2), (vi p3), (vi bu), (vi v)] [(.int v), (.ref qch)])) t → Steps p.tables e below (T0.setTop (mkF m 32 #[(vr oa), (vi p1), (vi p2), (vi p3), (vi bu), (vi v)] [])) t := fun t k => pre9 t (by
    refine XS.iload X8.here hx rfl (hb hby d16_77) rfl ?_
    exact k)
  obtain ⟨cl11, Ar11, Sz11, Mn11, Hs11⟩ := id B0.a_ch
  have ib11 : ¬ v < 0 ∧ v < 4096 := ⟨hv, hv2⟩
  have hat11 : cl11.slots[(v).toNatClampNeg]? = some (.int (xch v)) := Hs11 v ib11
  have pre12 : ∀ t, Steps p.tables e below (T8.setTop (mkF m 80 #[(vr oa), (vi p1), (vi p2), (vi p3), (vi bu), (vi v)] [(.int (xch v))])) t → Steps p.tables e below (T0.setTop (mkF m 32 #[(vr oa), (vi p1), (vi p2), (vi p3), (vi bu), (vi v)] [])) t := fun t k => pre10 t (by
    show Steps p.tables e below (T8.setTop (mkF m 79 #[(vr oa), (vi p1), (vi p2), (vi p3), (vi bu), (vi v)] [(.int v), (.ref qch)])) _
    refine X8.iaload hx (j := v) (v := (.int (xch v))) (by rw [e8]; exact Ar11.1) (State.isArrayOf_alike hZ.alike Ar11.2.1) Ar11.2.2 (inb_of Sz11 ib11) hat11 (g := (mkF m 79 #[(vr oa), (vi p1), (vi p2), (vi p3), (vi bu), (vi v)] [(.int v), (.ref qch)])) rfl rfl (hb hby d16_79) _ ?_
    exact k)
  have pre13 : ∀ t, Steps p.tables e below (T8.setTop (mkF m 32 #[(vr oa), (vi p1), (vi p2), (vi p3), (vi bu), (vi (xch v))] [])) t → Steps p.tables e below (T0.setTop (mkF m 32 #[(vr oa), (vi p1), (vi p2), (vi p3), (vi bu), (vi v)] [])) t := fun t k => pre12 t (by
    refine XS.istore X8.here hx rfl (hb hby d16_80) rfl (l' := #[(vr oa), (vi p1), (vi p2), (vi p3), (vi bu), (vi (xch v))]) rfl ?_
    refine XS.goto X8.here hx rfl (pc0 := 82) (pc' := 32) rfl (hb hby d16_82) (by decide) (by decide) ?_
    exact k)
  exact ⟨T8, _, X8, e8, N0, fun t k => pre13 t k⟩
theorem d16_48 : DK cd16 48 (.aload_n 0) 1 := by decide +kernel
theorem d16_49 : DK cd16 49 (.getfield 144) 3 := by decide +kernel
theorem d16_52 : DK cd16 52 (.iload 5) 2 := by decide +kernel
theorem d16_54 : DK cd16 54 .iaload 1 := by decide +kernel
theorem d16_55 : DK cd16 55 (.iload_n 2) 1 := by decide +kernel
theorem d16_56 : DK cd16 56 (.if_icmp .ne 17) 3 := by decide +kernel
theorem tnNb {p : Program} {l : Launch} {e : Env} {s : State} {m : MethodId} {args : Array Value} {below : List Frame} {meth : Method} {c : Code} {T0 : State} {locs : List Loc} {Z : State} {a0 : Array Value} {h0 : Heap} {n0 : Nat} {oa : Addr} {p1 : Int32} {p2 : Int32} {p3 : Int32} {bu : Int32} {v : Int32} {qcs : Addr} {qcf : Addr} {qpe : Addr} {qlv : Addr} {qlo : Addr} {qhi : Addr} {qrf : Addr} {qch : Addr} {qbk : Addr} {qca : Addr} {xn : Int32} {xs : Int32} {xff : Int32} {xfc : Int32} {xdp : Int32} {xcz : Int32} {xli : Int32} {xpk : Int32} {xlv : Int32 → Int32} {xlo : Int32 → Int32} {xhi : Int32 → Int32} {xrf : Int32 → Int32} {xch : Int32 → Int32} {xbk : Int32 → Int32} {xca : Int32 → Int32} {xcf : Int32 → Int32} {xpe : Int32 → Int32}
    (X0 : Stand p l e (rom 2 0 0 40) s m args below meth c T0 locs 0 0) (hx : p.tables.exec = Jvm.exec) (hZ : Z.Warmed39 s.vm) (hw : ∀ d ∈ tables_1, d.before a0 Z = true) (hby : c.code = prog_5_method_55_code) (hml : c.maxLocals = 6) (hown : s.vm.findClass "com/example/slim_kripke/slimkripke/bdd/BddManager" = some m.cls) (e0 : T0.heap = h0) (N0 : Fr n0 locs) (Z0 : n0 ≤ h0.size) (B0 : Mg Z n0 h0 oa qcs qcf qpe qlv qlo qhi qrf qch qbk qca xn xs xff xfc xdp xcz xli xpk xlv xlo xhi xrf xch xbk xca xcf xpe) (hv : ¬ v < (0 : Int32)) (hv2 : v < 4096) (hx1 : (xlv v) = p1) (hx2 : ¬ (xlo v) = p2) :
    ∃ (T' : State) (L' : List Loc), Stand p l e (rom 2 0 0 40) s m args below meth c T' L' 0 0 ∧ T'.heap = h0 ∧ Fr n0 L' ∧ ∀ t, Steps p.tables e below (T'.setTop (mkF m 32 #[(vr oa), (vi p1), (vi p2), (vi p3), (vi bu), (vi (xch v))] [])) t → Steps p.tables e below (T0.setTop (mkF m 32 #[(vr oa), (vi p1), (vi p2), (vi p3), (vi bu), (vi v)] [])) t := by
  have pre0 : ∀ t, Steps p.tables e below (T0.setTop (mkF m 32 #[(vr oa), (vi p1), (vi p2), (vi p3), (vi bu), (vi v)] [])) t → Steps p.tables e below (T0.setTop (mkF m 32 #[(vr oa), (vi p1), (vi p2), (vi p3), (vi bu), (vi v)] [])) t := fun t k => k
  have pre1 : ∀ t, Steps p.tables e below (T0.setTop (mkF m 38 #[(vr oa), (vi p1), (vi p2), (vi p3), (vi bu), (vi v)] [(.ref oa)])) t → Steps p.tables e below (T0.setTop (mkF m 32 #[(vr oa), (vi p1), (vi p2), (vi p3), (vi bu), (vi v)] [])) t := fun t k => pre0 t (by
    refine XS.iload X0.here hx rfl (hb hby d16_32) rfl ?_
    refine XS.ifNo X0.here hx rfl (hb hby d16_34) rfl ((if0 _ _).trans (flt hv).1) ?_
    refine XS.aloadN X0.here hx rfl (hb hby d16_37) rfl rfl ?_
    exact k)
  obtain ⟨T2, X2, e2, st2⟩ := getF X0 hx hZ hown (host := "") (Or.inl (wq hw 36 rfl)) Via.refl e0 B0.f_lv (g := (mkF m 38 #[(vr oa), (vi p1), (vi p2), (vi p3), (vi bu), (vi v)] [(.ref oa)])) rfl rfl (hb hby d16_38)
  have pre3 : ∀ t, Steps p.tables e below (T2.setTop (mkF m 41 #[(vr oa), (vi p1), (vi p2), (vi p3), (vi bu), (vi v)] [(.ref qlv)])) t → Steps p.tables e below (T0.setTop (mkF m 32 #[(vr oa), (vi p1), (vi p2), (vi p3), (vi bu), (vi v)] [])) t := fun t k => pre1 t (st2 _ k)
  have pre4 : ∀ t, Steps p.tables e below (T2.setTop (mkF m 43 #[(vr oa), (vi p1), (vi p2), (vi p3), (vi bu), (vi v)] [(.int v), (.ref qlv)])) t → Steps p.tables e below (T0.setTop (mkF m 32 #[(vr oa), (vi p1), (vi p2), (vi p3), (vi bu), (vi v)] [])) t := fun t k => pre3 t (by
    refine XS.iload X2.here hx rfl (hb hby d16_41) rfl ?_
    exact k)
  obtain ⟨cl5, Ar5, Sz5, Mn5, Hs5⟩ := id B0.a_lv
  have ib5 : ¬ v < 0 ∧ v < 4096 := ⟨hv, hv2⟩
  have hat5 : cl5.slots[(v).toNatClampNeg]? = some (.int (xlv v)) := Hs5 v ib5
  have pre6 : ∀ t, Steps p.tables e below (T2.setTop (mkF m 44 #[(vr oa), (vi p1), (vi p2), (vi p3), (vi bu), (vi v)] [(.int (xlv v))])) t → Steps p.tables e below (T0.setTop (mkF m 32 #[(vr oa), (vi p1), (vi p2), (vi p3), (vi bu), (vi v)] [])) t := fun t k => pre4 t (by
    show Steps p.tables e below (T2.setTop (mkF m 43 #[(vr oa), (vi p1), (vi p2), (vi p3), (vi bu), (vi v)] [(.int v), (.ref qlv)])) _
    refine X2.iaload hx (j := v) (v := (.int (xlv v))) (by rw [e2]; exact Ar5.1) (State.isArrayOf_alike hZ.alike Ar5.2.1) Ar5.2.2 (inb_of Sz5 ib5) hat5 (g := (mkF m 43 #[(vr oa), (vi p1), (vi p2), (vi p3), (vi bu), (vi v)] [(.int v), (.ref qlv)])) rfl rfl (hb hby d16_43) _ ?_
    exact k)
  have pre7 : ∀ t, Steps p.tables e below (T2.setTop (mkF m 49 #[(vr oa), (vi p1), (vi p2), (vi p3), (vi bu), (vi v)] [(.ref oa)])) t → Steps p.tables e below (T0.setTop (mkF m 32 #[(vr oa), (vi p1), (vi p2), (vi p3), (vi bu), (vi v)] [])) t := fun t k => pre6 t (by
    refine XS.iloadN X2.here hx rfl (hb hby d16_44) rfl ?_
    refine XS.icmpNo X2.here hx rfl (hb hby d16_45) rfl (teq hx1).2 ?_
    refine XS.aloadN X2.here hx rfl (hb hby d16_48) rfl rfl ?_
    exact k)
  obtain ⟨T8, X8, e8, st8⟩ := getF X2 hx hZ hown (host := "") (Or.inl (wq hw 38 rfl)) Via.refl e2 B0.f_lo (g := (mkF m 49 #[(vr oa), (vi p1), (vi p2), (vi p3), (vi bu), (vi v)] [(.ref oa)])) rfl rfl (hb hby d16_49)
  have pre9 : ∀ t, Steps p.tables e below (T8.setTop (mkF m 52 #[(vr oa), (vi p1), (vi p2), (vi p3), (vi bu), (vi v)] [(.ref qlo)])) t → Steps p.tables e below (T0.setTop (mkF m 32 #[(vr oa), (vi p1), (vi p2), (vi p3), (vi bu), (vi v)] [])) t := fun t k => pre7 t (st8 _ k)
  have pre10 : ∀ t, Steps p.tables e below (T8.setTop (mkF m 54 #[(vr oa), (vi p1), (vi p2), (vi p3), (vi bu), (vi v)] [(.int v), (.ref qlo)])) t → Steps p.tables e below (T0.setTop (mkF m 32 #[(vr oa), (vi p1), (vi p2), (vi p3), (vi bu), (vi v)] [])) t := fun t k => pre9 t (by
    refine XS.iload X8.here hx rfl (hb hby d16_52) rfl ?_
    exact k)
  obtain ⟨cl11, Ar11, Sz11, Mn11, Hs11⟩ := id B0.a_lo
  have ib11 : ¬ v < 0 ∧ v < 4096 := ⟨hv, hv2⟩
  have hat11 : cl11.slots[(v).toNatClampNeg]? = some (.int (xlo v)) := Hs11 v ib11
  have pre12 : ∀ t, Steps p.tables e below (T8.setTop (mkF m 55 #[(vr oa), (vi p1), (vi p2), (vi p3), (vi bu), (vi v)] [(.int (xlo v))])) t → Steps p.tables e below (T0.setTop (mkF m 32 #[(vr oa), (vi p1), (vi p2), (vi p3), (vi bu), (vi v)] [])) t := fun t k => pre10 t (by
    show Steps p.tables e below (T8.setTop (mkF m 54 #[(vr oa), (vi p1), (vi p2), (vi p3), (vi bu), (vi v)] [(.int v), (.ref qlo)])) _
    refine X8.iaload hx (j := v) (v := (.int (xlo v))) (by rw [e8]; exact Ar11.1) (State.isArrayOf_alike hZ.alike Ar11.2.1) Ar11.2.2 (inb_of Sz11 ib11) hat11 (g := (mkF m 54 #[(vr oa), (vi p1), (vi p2), (vi p3), (vi bu), (vi v)] [(.int v), (.ref qlo)])) rfl rfl (hb hby d16_54) _ ?_
    exact k)
  have pre13 : ∀ t, Steps p.tables e below (T8.setTop (mkF m 74 #[(vr oa), (vi p1), (vi p2), (vi p3), (vi bu), (vi v)] [(.ref oa)])) t → Steps p.tables e below (T0.setTop (mkF m 32 #[(vr oa), (vi p1), (vi p2), (vi p3), (vi bu), (vi v)] [])) t := fun t k => pre12 t (by
    refine XS.iloadN X8.here hx rfl (hb hby d16_55) rfl ?_
    refine XS.icmpYes X8.here hx rfl (pc0 := 56) (pc' := 73) rfl (hb hby d16_56) rfl (feq hx2).2 (by decide) (by decide) ?_
    refine XS.aloadN X8.here hx rfl (hb hby d16_73) rfl rfl ?_
    exact k)
  obtain ⟨T14, X14, e14, st14⟩ := getF X8 hx hZ hown (host := "") (Or.inl (wq hw 44 rfl)) Via.refl e8 B0.f_ch (g := (mkF m 74 #[(vr oa), (vi p1), (vi p2), (vi p3), (vi bu), (vi v)] [(.ref oa)])) rfl rfl (hb hby d16_74)
  have pre15 : ∀ t, Steps p.tables e below (T14.setTop (mkF m 77 #[(vr oa), (vi p1), (vi p2), (vi p3), (vi bu), (vi v)] [(.ref qch)])) t → Steps p.tables e below (T0.setTop (mkF m 32 #[(vr oa), (vi p1), (vi p2), (vi p3), (vi bu), (vi v)] [])) t := fun t k => pre13 t (st14 _ k)
  have pre16 : ∀ t, Steps p.tables e below (T14.setTop (mkF m 79 #[(vr oa), (vi p1), (vi p2), (vi p3), (vi bu), (vi v)] [(.int v), (.ref qch)])) t → Steps p.tables e below (T0.setTop (mkF m 32 #[(vr oa), (vi p1), (vi p2), (vi p3), (vi bu), (vi v)] [])) t := fun t k => pre15 t (by
    refine XS.iload X14.here hx rfl (hb hby d16_77) rfl ?_
    exact k)
  obtain ⟨cl17, Ar17, Sz17, Mn17, Hs17⟩ := id B0.a_ch
  have ib17 : ¬ v < 0 ∧ v < 4096 := ⟨hv, hv2⟩
  have hat17 : cl17.slots[(v).toNatClampNeg]? = some (.int (xch v)) := Hs17 v ib17
  have pre18 : ∀ t, Steps p.tables e below (T14.setTop (mkF m 80 #[(vr oa), (vi p1), (vi p2), (vi p3), (vi bu), (vi v)] [(.int (xch v))])) t → Steps p.tables e below (T0.setTop (mkF m 32 #[(vr oa), (vi p1), (vi p2), (vi p3), (vi bu), (vi v)] [])) t := fun t k => pre16 t (by
    show Steps p.tables e below (T14.setTop (mkF m 79 #[(vr oa), (vi p1), (vi p2), (vi p3), (vi bu), (vi v)] [(.int v), (.ref qch)])) _
    refine X14.iaload hx (j := v) (v := (.int (xch v))) (by rw [e14]; exact Ar17.1) (State.isArrayOf_alike hZ.alike Ar17.2.1) Ar17.2.2 (inb_of Sz17 ib17) hat17 (g := (mkF m 79 #[(vr oa), (vi p1), (vi p2), (vi p3), (vi bu), (vi v)] [(.int v), (.ref qch)])) rfl rfl (hb hby d16_79) _ ?_
    exact k)
  have pre19 : ∀ t, Steps p.tables e below (T14.setTop (mkF m 32 #[(vr oa), (vi p1), (vi p2), (vi p3), (vi bu), (vi (xch v))] [])) t → Steps p.tables e below (T0.setTop (mkF m 32 #[(vr oa), (vi p1), (vi p2), (vi p3), (vi bu), (vi v)] [])) t := fun t k => pre18 t (by
    refine XS.istore X14.here hx rfl (hb hby d16_80) rfl (l' := #[(vr oa), (vi p1), (vi p2), (vi p3), (vi bu), (vi (xch v))]) rfl ?_
    refine XS.goto X14.here hx rfl (pc0 := 82) (pc' := 32) rfl (hb hby d16_82) (by decide) (by decide) ?_
    exact k)
  exact ⟨T14, _, X14, e14, N0, fun t k => pre19 t k⟩
theorem d16_59 : DK cd16 59 (.aload_n 0) 1 := by decide +kernel
theorem d16_60 : DK cd16 60 (.getfield 141) 3 := by decide +kernel
theorem d16_63 : DK cd16 63 (.iload 5) 2 := by decide +kernel
theorem d16_65 : DK cd16 65 .iaload 1 := by decide +kernel
theorem d16_66 : DK cd16 66 (.iload_n 3) 1 := by decide +kernel
theorem d16_67 : DK cd16 67 (.if_icmp .ne 6) 3 := by decide +kernel
theorem tnNc {p : Program} {l : Launch} {e : Env} {s : State} {m : MethodId} {args : Array Value} {below : List Frame} {meth : Method} {c : Code} {T0 : State} {locs : List Loc} {Z : State} {a0 : Array Value} {h0 : Heap} {n0 : Nat} {oa : Addr} {p1 : Int32} {p2 : Int32} {p3 : Int32} {bu : Int32} {v : Int32} {qcs : Addr} {qcf : Addr} {qpe : Addr} {qlv : Addr} {qlo : Addr} {qhi : Addr} {qrf : Addr} {qch : Addr} {qbk : Addr} {qca : Addr} {xn : Int32} {xs : Int32} {xff : Int32} {xfc : Int32} {xdp : Int32} {xcz : Int32} {xli : Int32} {xpk : Int32} {xlv : Int32 → Int32} {xlo : Int32 → Int32} {xhi : Int32 → Int32} {xrf : Int32 → Int32} {xch : Int32 → Int32} {xbk : Int32 → Int32} {xca : Int32 → Int32} {xcf : Int32 → Int32} {xpe : Int32 → Int32}
    (X0 : Stand p l e (rom 2 0 0 40) s m args below meth c T0 locs 0 0) (hx : p.tables.exec = Jvm.exec) (hZ : Z.Warmed39 s.vm) (hw : ∀ d ∈ tables_1, d.before a0 Z = true) (hby : c.code = prog_5_method_55_code) (hml : c.maxLocals = 6) (hown : s.vm.findClass "com/example/slim_kripke/slimkripke/bdd/BddManager" = some m.cls) (e0 : T0.heap = h0) (N0 : Fr n0 locs) (Z0 : n0 ≤ h0.size) (B0 : Mg Z n0 h0 oa qcs qcf qpe qlv qlo qhi qrf qch qbk qca xn xs xff xfc xdp xcz xli xpk xlv xlo xhi xrf xch xbk xca xcf xpe) (hv : ¬ v < (0 : Int32)) (hv2 : v < 4096) (hx1 : (xlv v) = p1) (hx2 : (xlo v) = p2) (hx3 : ¬ (xhi v) = p3) :
    ∃ (T' : State) (L' : List Loc), Stand p l e (rom 2 0 0 40) s m args below meth c T' L' 0 0 ∧ T'.heap = h0 ∧ Fr n0 L' ∧ ∀ t, Steps p.tables e below (T'.setTop (mkF m 32 #[(vr oa), (vi p1), (vi p2), (vi p3), (vi bu), (vi (xch v))] [])) t → Steps p.tables e below (T0.setTop (mkF m 32 #[(vr oa), (vi p1), (vi p2), (vi p3), (vi bu), (vi v)] [])) t := by
  have pre0 : ∀ t, Steps p.tables e below (T0.setTop (mkF m 32 #[(vr oa), (vi p1), (vi p2), (vi p3), (vi bu), (vi v)] [])) t → Steps p.tables e below (T0.setTop (mkF m 32 #[(vr oa), (vi p1), (vi p2), (vi p3), (vi bu), (vi v)] [])) t := fun t k => k
  have pre1 : ∀ t, Steps p.tables e below (T0.setTop (mkF m 38 #[(vr oa), (vi p1), (vi p2), (vi p3), (vi bu), (vi v)] [(.ref oa)])) t → Steps p.tables e below (T0.setTop (mkF m 32 #[(vr oa), (vi p1), (vi p2), (vi p3), (vi bu), (vi v)] [])) t := fun t k => pre0 t (by
    refine XS.iload X0.here hx rfl (hb hby d16_32) rfl ?_
    refine XS.ifNo X0.here hx rfl (hb hby d16_34) rfl ((if0 _ _).trans (flt hv).1) ?_
    refine XS.aloadN X0.here hx rfl (hb hby d16_37) rfl rfl ?_
    exact k)
  obtain ⟨T2, X2, e2, st2⟩ := getF X0 hx hZ hown (host := "") (Or.inl (wq hw 36 rfl)) Via.refl e0 B0.f_lv (g := (mkF m 38 #[(vr oa), (vi p1), (vi p2), (vi p3), (vi bu), (vi v)] [(.ref oa)])) rfl rfl (hb hby d16_38)
  have pre3 : ∀ t, Steps p.tables e below (T2.setTop (mkF m 41 #[(vr oa), (vi p1), (vi p2), (vi p3), (vi bu), (vi v)] [(.ref qlv)])) t → Steps p.tables e below (T0.setTop (mkF m 32 #[(vr oa), (vi p1), (vi p2), (vi p3), (vi bu), (vi v)] [])) t := fun t k => pre1 t (st2 _ k)
  have pre4 : ∀ t, Steps p.tables e below (T2.setTop (mkF m 43 #[(vr oa), (vi p1), (vi p2), (vi p3), (vi bu), (vi v)] [(.int v), (.ref qlv)])) t → Steps p.tables e below (T0.setTop (mkF m 32 #[(vr oa), (vi p1), (vi p2), (vi p3), (vi bu), (vi v)] [])) t := fun t k => pre3 t (by
    refine XS.iload X2.here hx rfl (hb hby d16_41) rfl ?_
    exact k)
  obtain ⟨cl5, Ar5, Sz5, Mn5, Hs5⟩ := id B0.a_lv
  have ib5 : ¬ v < 0 ∧ v < 4096 := ⟨hv, hv2⟩
  have hat5 : cl5.slots[(v).toNatClampNeg]? = some (.int (xlv v)) := Hs5 v ib5
  have pre6 : ∀ t, Steps p.tables e below (T2.setTop (mkF m 44 #[(vr oa), (vi p1), (vi p2), (vi p3), (vi bu), (vi v)] [(.int (xlv v))])) t → Steps p.tables e below (T0.setTop (mkF m 32 #[(vr oa), (vi p1), (vi p2), (vi p3), (vi bu), (vi v)] [])) t := fun t k => pre4 t (by
    show Steps p.tables e below (T2.setTop (mkF m 43 #[(vr oa), (vi p1), (vi p2), (vi p3), (vi bu), (vi v)] [(.int v), (.ref qlv)])) _
    refine X2.iaload hx (j := v) (v := (.int (xlv v))) (by rw [e2]; exact Ar5.1) (State.isArrayOf_alike hZ.alike Ar5.2.1) Ar5.2.2 (inb_of Sz5 ib5) hat5 (g := (mkF m 43 #[(vr oa), (vi p1), (vi p2), (vi p3), (vi bu), (vi v)] [(.int v), (.ref qlv)])) rfl rfl (hb hby d16_43) _ ?_
    exact k)
  have pre7 : ∀ t, Steps p.tables e below (T2.setTop (mkF m 49 #[(vr oa), (vi p1), (vi p2), (vi p3), (vi bu), (vi v)] [(.ref oa)])) t → Steps p.tables e below (T0.setTop (mkF m 32 #[(vr oa), (vi p1), (vi p2), (vi p3), (vi bu), (vi v)] [])) t := fun t k => pre6 t (by
    refine XS.iloadN X2.here hx rfl (hb hby d16_44) rfl ?_
    refine XS.icmpNo X2.here hx rfl (hb hby d16_45) rfl (teq hx1).2 ?_
    refine XS.aloadN X2.here hx rfl (hb hby d16_48) rfl rfl ?_
    exact k)
  obtain ⟨T8, X8, e8, st8⟩ := getF X2 hx hZ hown (host := "") (Or.inl (wq hw 38 rfl)) Via.refl e2 B0.f_lo (g := (mkF m 49 #[(vr oa), (vi p1), (vi p2), (vi p3), (vi bu), (vi v)] [(.ref oa)])) rfl rfl (hb hby d16_49)
  have pre9 : ∀ t, Steps p.tables e below (T8.setTop (mkF m 52 #[(vr oa), (vi p1), (vi p2), (vi p3), (vi bu), (vi v)] [(.ref qlo)])) t → Steps p.tables e below (T0.setTop (mkF m 32 #[(vr oa), (vi p1), (vi p2), (vi p3), (vi bu), (vi v)] [])) t := fun t k => pre7 t (st8 _ k)
  have pre10 : ∀ t, Steps p.tables e below (T8.setTop (mkF m 54 #[(vr oa), (vi p1), (vi p2), (vi p3), (vi bu), (vi v)] [(.int v), (.ref qlo)])) t → Steps p.tables e below (T0.setTop (mkF m 32 #[(vr oa), (vi p1), (vi p2), (vi p3), (vi bu), (vi v)] [])) t := fun t k => pre9 t (by
    refine XS.iload X8.here hx rfl (hb hby d16_52) rfl ?_
    exact k)
  obtain ⟨cl11, Ar11, Sz11, Mn11, Hs11⟩ := id B0.a_lo
  have ib11 : ¬ v < 0 ∧ v < 4096 := ⟨hv, hv2⟩
  have hat11 : cl11.slots[(v).toNatClampNeg]? = some (.int (xlo v)) := Hs11 v ib11
  have pre12 : ∀ t, Steps p.tables e below (T8.setTop (mkF m 55 #[(vr oa), (vi p1), (vi p2), (vi p3), (vi bu), (vi v)] [(.int (xlo v))])) t → Steps p.tables e below (T0.setTop (mkF m 32 #[(vr oa), (vi p1), (vi p2), (vi p3), (vi bu), (vi v)] [])) t := fun t k => pre10 t (by
    show Steps p.tables e below (T8.setTop (mkF m 54 #[(vr oa), (vi p1), (vi p2), (vi p3), (vi bu), (vi v)] [(.int v), (.ref qlo)])) _
    refine X8.iaload hx (j := v) (v := (.int (xlo v))) (by rw [e8]; exact Ar11.1) (State.isArrayOf_alike hZ.alike Ar11.2.1) Ar11.2.2 (inb_of Sz11 ib11) hat11 (g := (mkF m 54 #[(vr oa), (vi p1), (vi p2), (vi p3), (vi bu), (vi v)] [(.int v), (.ref qlo)])) rfl rfl (hb hby d16_54) _ ?_
    exact k)
  have pre13 : ∀ t, Steps p.tables e below (T8.setTop (mkF m 60 #[(vr oa), (vi p1), (vi p2), (vi p3), (vi bu), (vi v)] [(.ref oa)])) t → Steps p.tables e below (T0.setTop (mkF m 32 #[(vr oa), (vi p1), (vi p2), (vi p3), (vi bu), (vi v)] [])) t := fun t k => pre12 t (by
    refine XS.iloadN X8.here hx rfl (hb hby d16_55) rfl ?_
    refine XS.icmpNo X8.here hx rfl (hb hby d16_56) rfl (teq hx2).2 ?_
    refine XS.aloadN X8.here hx rfl (hb hby d16_59) rfl rfl ?_
    exact k)
  obtain ⟨T14, X14, e14, st14⟩ := getF X8 hx hZ hown (host := "") (Or.inl (wq hw 40 rfl)) Via.refl e8 B0.f_hi (g := (mkF m 60 #[(vr oa), (vi p1), (vi p2), (vi p3), (vi bu), (vi v)] [(.ref oa)])) rfl rfl (hb hby d16_60)
  have pre15 : ∀ t, Steps p.tables e below (T14.setTop (mkF m 63 #[(vr oa), (vi p1), (vi p2), (vi p3), (vi bu), (vi v)] [(.ref qhi)])) t → Steps p.tables e below (T0.setTop (mkF m 32 #[(vr oa), (vi p1), (vi p2), (vi p3), (vi bu), (vi v)] [])) t := fun t k => pre13 t (st14 _ k)
  have pre16 : ∀ t, Steps p.tables e below (T14.setTop (mkF m 65 #[(vr oa), (vi p1), (vi p2), (vi p3), (vi bu), (vi v)] [(.int v), (.ref qhi)])) t → Steps p.tables e below (T0.setTop (mkF m 32 #[(vr oa), (vi p1), (vi p2), (vi p3), (vi bu), (vi v)] [])) t := fun t k => pre15 t (by
    refine XS.iload X14.here hx rfl (hb hby d16_63) rfl ?_
    exact k)
  obtain ⟨cl17, Ar17, Sz17, Mn17, Hs17⟩ := id B0.a_hi
  have ib17 : ¬ v < 0 ∧ v < 4096 := ⟨hv, hv2⟩
  have hat17 : cl17.slots[(v).toNatClampNeg]? = some (.int (xhi v)) := Hs17 v ib17
  have pre18 : ∀ t, Steps p.tables e below (T14.setTop (mkF m 66 #[(vr oa), (vi p1), (vi p2), (vi p3), (vi bu), (vi v)] [(.int (xhi v))])) t → Steps p.tables e below (T0.setTop (mkF m 32 #[(vr oa), (vi p1), (vi p2), (vi p3), (vi bu), (vi v)] [])) t := fun t k => pre16 t (by
    show Steps p.tables e below (T14.setTop (mkF m 65 #[(vr oa), (vi p1), (vi p2), (vi p3), (vi bu), (vi v)] [(.int v), (.ref qhi)])) _
    refine X14.iaload hx (j := v) (v := (.int (xhi v))) (by rw [e14]; exact Ar17.1) (State.isArrayOf_alike hZ.alike Ar17.2.1) Ar17.2.2 (inb_of Sz17 ib17) hat17 (g := (mkF m 65 #[(vr oa), (vi p1), (vi p2), (vi p3), (vi bu), (vi v)] [(.int v), (.ref qhi)])) rfl rfl (hb hby d16_65) _ ?_
    exact k)
  have pre19 : ∀ t, Steps p.tables e below (T14.setTop (mkF m 74 #[(vr oa), (vi p1), (vi p2), (vi p3), (vi bu), (vi v)] [(.ref oa)])) t → Steps p.tables e below (T0.setTop (mkF m 32 #[(vr oa), (vi p1), (vi p2), (vi p3), (vi bu), (vi v)] [])) t := fun t k => pre18 t (by
    refine XS.iloadN X14.here hx rfl (hb hby d16_66) rfl ?_
    refine XS.icmpYes X14.here hx rfl (pc0 := 67) (pc' := 73) rfl (hb hby d16_67) rfl (feq hx3).2 (by decide) (by decide) ?_
    refine XS.aloadN X14.here hx rfl (hb hby d16_73) rfl rfl ?_
    exact k)
  obtain ⟨T20, X20, e20, st20⟩ := getF X14 hx hZ hown (host := "") (Or.inl (wq hw 44 rfl)) Via.refl e14 B0.f_ch (g := (mkF m 74 #[(vr oa), (vi p1), (vi p2), (vi p3), (vi bu), (vi v)] [(.ref oa)])) rfl rfl (hb hby d16_74)
  have pre21 : ∀ t, Steps p.tables e below (T20.setTop (mkF m 77 #[(vr oa), (vi p1), (vi p2), (vi p3), (vi bu), (vi v)] [(.ref qch)])) t → Steps p.tables e below (T0.setTop (mkF m 32 #[(vr oa), (vi p1), (vi p2), (vi p3), (vi bu), (vi v)] [])) t := fun t k => pre19 t (st20 _ k)
  have pre22 : ∀ t, Steps p.tables e below (T20.setTop (mkF m 79 #[(vr oa), (vi p1), (vi p2), (vi p3), (vi bu), (vi v)] [(.int v), (.ref qch)])) t → Steps p.tables e below (T0.setTop (mkF m 32 #[(vr oa), (vi p1), (vi p2), (vi p3), (vi bu), (vi v)] [])) t := fun t k => pre21 t (by
    refine XS.iload X20.here hx rfl (hb hby d16_77) rfl ?_
    exact k)
  obtain ⟨cl23, Ar23, Sz23, Mn23, Hs23⟩ := id B0.a_ch
  have ib23 : ¬ v < 0 ∧ v < 4096 := ⟨hv, hv2⟩
  have hat23 : cl23.slots[(v).toNatClampNeg]? = some (.int (xch v)) := Hs23 v ib23
  have pre24 : ∀ t, Steps p.tables e below (T20.setTop (mkF m 80 #[(vr oa), (vi p1), (vi p2), (vi p3), (vi bu), (vi v)] [(.int (xch v))])) t → Steps p.tables e below (T0.setTop (mkF m 32 #[(vr oa), (vi p1), (vi p2), (vi p3), (vi bu), (vi v)] [])) t := fun t k => pre22 t (by
    show Steps p.tables e below (T20.setTop (mkF m 79 #[(vr oa), (vi p1), (vi p2), (vi p3), (vi bu), (vi v)] [(.int v), (.ref qch)])) _
    refine X20.iaload hx (j := v) (v := (.int (xch v))) (by rw [e20]; exact Ar23.1) (State.isArrayOf_alike hZ.alike Ar23.2.1) Ar23.2.2 (inb_of Sz23 ib23) hat23 (g := (mkF m 79 #[(vr oa), (vi p1), (vi p2), (vi p3), (vi bu), (vi v)] [(.int v), (.ref qch)])) rfl rfl (hb hby d16_79) _ ?_
    exact k)
  have pre25 : ∀ t, Steps p.tables e below (T20.setTop (mkF m 32 #[(vr oa), (vi p1), (vi p2), (vi p3), (vi bu), (vi (xch v))] [])) t → Steps p.tables e below (T0.setTop (mkF m 32 #[(vr oa), (vi p1), (vi p2), (vi p3), (vi bu), (vi v)] [])) t := fun t k => pre24 t (by
    refine XS.istore X20.here hx rfl (hb hby d16_80) rfl (l' := #[(vr oa), (vi p1), (vi p2), (vi p3), (vi bu), (vi (xch v))]) rfl ?_
    refine XS.goto X20.here hx rfl (pc0 := 82) (pc' := 32) rfl (hb hby d16_82) (by decide) (by decide) ?_
    exact k)
  exact ⟨T20, _, X20, e20, N0, fun t k => pre25 t k⟩
theorem teN {p : Program} {l : Launch} {e : Env} {s : State} {m : MethodId} {args : Array Value} {below : List Frame} {meth : Method} {c : Code} {T0 : State} {locs : List Loc} {Z : State} {a0 : Array Value} {h0 : Heap} {n0 : Nat} {oa : Addr} {p1 : Int32} {p2 : Int32} {p3 : Int32} {bu : Int32} {qcs : Addr} {qcf : Addr} {qpe : Addr} {qlv : Addr} {qlo : Addr} {qhi : Addr} {qrf : Addr} {qch : Addr} {qbk : Addr} {qca : Addr} {xn : Int32} {xs : Int32} {xff : Int32} {xfc : Int32} {xdp : Int32} {xcz : Int32} {xli : Int32} {xpk : Int32} {xlv : Int32 → Int32} {xlo : Int32 → Int32} {xhi : Int32 → Int32} {xrf : Int32 → Int32} {xch : Int32 → Int32} {xbk : Int32 → Int32} {xca : Int32 → Int32} {xcf : Int32 → Int32} {xpe : Int32 → Int32}
    (X0 : Stand p l e (rom 2 0 0 40) s m args below meth c T0 locs 0 0) (hx : p.tables.exec = Jvm.exec) (hZ : Z.Warmed39 s.vm) (hw : ∀ d ∈ tables_1, d.before a0 Z = true) (hby : c.code = prog_5_method_55_code) (hml : c.maxLocals = 6) (hown : s.vm.findClass "com/example/slim_kripke/slimkripke/bdd/BddManager" = some m.cls) (e0 : T0.heap = h0) (N0 : Fr n0 locs) (Z0 : n0 ≤ h0.size) (B0 : Mg Z n0 h0 oa qcs qcf qpe qlv qlo qhi qrf qch qbk qca xn xs xff xfc xdp xcz xli xpk xlv xlo xhi xrf xch xbk xca xcf xpe) :
    ∃ (T' : State) (L' : List Loc), Stand p l e (rom 2 0 0 40) s m args below meth c T' L' 0 0 ∧ T'.heap = h0 ∧ Fr n0 L' ∧ ∀ t, Steps p.tables e below (T'.setTop (mkF m 85 #[(vr oa), (vi p1), (vi p2), (vi p3), (vi bu), (vi (-1))] [])) t → Steps p.tables e below (T0.setTop (mkF m 32 #[(vr oa), (vi p1), (vi p2), (vi p3), (vi bu), (vi (-1))] [])) t := by
  have pre0 : ∀ t, Steps p.tables e below (T0.setTop (mkF m 32 #[(vr oa), (vi p1), (vi p2), (vi p3), (vi bu), (vi (-1))] [])) t → Steps p.tables e below (T0.setTop (mkF m 32 #[(vr oa), (vi p1), (vi p2), (vi p3), (vi bu), (vi (-1))] [])) t := fun t k => k
  have pre1 : ∀ t, Steps p.tables e below (T0.setTop (mkF m 85 #[(vr oa), (vi p1), (vi p2), (vi p3), (vi bu), (vi (-1))] [])) t → Steps p.tables e below (T0.setTop (mkF m 32 #[(vr oa), (vi p1), (vi p2), (vi p3), (vi bu), (vi (-1))] [])) t := fun t k => pre0 t (by
    refine XS.iload X0.here hx rfl (hb hby d16_32) rfl ?_
    refine XS.ifYes X0.here hx rfl (pc0 := 34) (pc' := 85) rfl (hb hby d16_34) rfl (by decide) (by decide) (by decide) ?_
    exact k)
  exact ⟨T0, _, X0, e0, N0, fun t k => pre1 t k⟩
theorem own_nodeL {p : Program} {l : Launch} {e : Env} {s : State} {m : MethodId} {args : Array Value} {below : List Frame} {meth : Method} {c : Code} {Z : State} {a0 : Array Value} {n0 : Nat} {oa qcs qcf qpe qlv qlo qhi qrf qch qbk qca : Addr} {p1 p2 p3 bu : Int32} {xn xs xff xfc xdp xcz xli xpk : Int32} {xlv xlo xhi xrf xch xbk xca xcf xpe : Int32 → Int32} (hx : p.tables.exec = Jvm.exec) (hZ : Z.Warmed39 s.vm) (hw : ∀ d ∈ tables_1, d.before a0 Z = true) (hby : c.code = prog_5_method_55_code) (hml : c.maxLocals = 6) (hown : s.vm.findClass "com/example/slim_kripke/slimkripke/bdd/BddManager" = some m.cls) {h0 : Heap} (B0 : Mg Z n0 h0 oa qcs qcf qpe qlv qlo qhi qrf qch qbk qca xn xs xff xfc xdp xcz xli xpk xlv xlo xhi xrf xch xbk xca xcf xpe) :
    ∀ (k : Nat) (v : Int32) (T0 : State) (locs : List Loc), own_walk xlv xlo xhi xch p1 p2 p3 k v → Stand p l e (rom 2 0 0 40) s m args below meth c T0 locs 0 0 → T0.heap = h0 → Fr n0 locs → ∃ (T' : State) (L' : List Loc), Stand p l e (rom 2 0 0 40) s m args below meth c T' L' 0 0 ∧ T'.heap = h0 ∧ Fr n0 L' ∧ ∀ t, Steps p.tables e below (T'.setTop (mkF m 85 #[(vr oa), (vi p1), (vi p2), (vi p3), (vi bu), (vi (-1))] [])) t → Steps p.tables e below (T0.setTop (mkF m 32 #[(vr oa), (vi p1), (vi p2), (vi p3), (vi bu), (vi v)] [])) t := by
  intro k
  induction k with
  | zero =>
    intro v T0 locs hv X e0 N
    have hv : v = -1 := hv
    subst hv
    exact teN X hx hZ hw hby hml hown e0 N B0.z B0
  | succ k ih =>
    intro v T0 locs hv X e0 N
    rcases hv with hv | ⟨hp1, hp2, hp3, h4⟩
    · subst hv
      exact teN X hx hZ hw hby hml hown e0 N B0.z B0
    · by_cases q1 : xlv v = p1
      · by_cases q2 : xlo v = p2
        · have q3 : ¬ xhi v = p3 := fun q => hp3 ⟨q1, q2, q⟩
          obtain ⟨T1, L1, X1, e1, N1, st1⟩ := tnNc (bu := bu) X hx hZ hw hby hml hown e0 N B0.z B0 hp1 hp2 q1 q2 q3
          obtain ⟨T2, L2, X2, e2, N2, st2⟩ := ih _ T1 L1 h4 X1 e1 N1
          exact ⟨T2, L2, X2, e2, N2, fun t k => st1 t (st2 t k)⟩
        · obtain ⟨T1, L1, X1, e1, N1, st1⟩ := tnNb (bu := bu) (p3 := p3) X hx hZ hw hby hml hown e0 N B0.z B0 hp1 hp2 q1 q2
          obtain ⟨T2, L2, X2, e2, N2, st2⟩ := ih _ T1 L1 h4 X1 e1 N1
          exact ⟨T2, L2, X2, e2, N2, fun t k => st1 t (st2 t k)⟩
      · obtain ⟨T1, L1, X1, e1, N1, st1⟩ := tnNa (bu := bu) (p2 := p2) (p3 := p3) X hx hZ hw hby hml hown e0 N B0.z B0 hp1 hp2 q1
        obtain ⟨T2, L2, X2, e2, N2, st2⟩ := ih _ T1 L1 h4 X1 e1 N1
        exact ⟨T2, L2, X2, e2, N2, fun t k => st1 t (st2 t k)⟩
theorem d16_0 : DK cd16 0 (.iload_n 2) 1 := by decide +kernel
theorem d16_1 : DK cd16 1 (.iload_n 3) 1 := by decide +kernel
theorem d16_2 : DK cd16 2 (.if_icmp .ne 5) 3 := by decide +kernel
theorem d16_7 : DK cd16 7 (.iload_n 1) 1 := by decide +kernel
theorem d16_8 : DK cd16 8 (.iload_n 2) 1 := by decide +kernel
theorem d16_9 : DK cd16 9 (.iload_n 3) 1 := by decide +kernel
theorem d16_10 : DK cd16 10 (.invokestatic 373) 3 := by decide +kernel
theorem d16_13 : DK cd16 13 (.aload_n 0) 1 := by decide +kernel
theorem d16_14 : DK cd16 14 (.getfield 376) 3 := by decide +kernel
theorem d16_17 : DK cd16 17 .arraylength 1 := by decide +kernel
theorem d16_18 : DK cd16 18 (.iconst 1) 1 := by decide +kernel
theorem d16_19 : DK cd16 19 .isub 1 := by decide +kernel
theorem d16_20 : DK cd16 20 .iand 1 := by decide +kernel
theorem d16_21 : DK cd16 21 (.istore 4) 2 := by decide +kernel
theorem d16_23 : DK cd16 23 (.aload_n 0) 1 := by decide +kernel
theorem d16_24 : DK cd16 24 (.getfield 376) 3 := by decide +kernel
theorem d16_27 : DK cd16 27 (.iload 4) 2 := by decide +kernel
theorem d16_29 : DK cd16 29 .iaload 1 := by decide +kernel
theorem d16_30 : DK cd16 30 (.istore 5) 2 := by decide +kernel
theorem d16_85 : DK cd16 85 (.aload_n 0) 1 := by decide +kernel
theorem d16_86 : DK cd16 86 (.getfield 382) 3 := by decide +kernel
theorem d16_89 : DK cd16 89 (.ifCond .ne 23) 3 := by decide +kernel
theorem d16_112 : DK cd16 112 (.aload_n 0) 1 := by decide +kernel
theorem d16_113 : DK cd16 113 (.getfield 388) 3 := by decide +kernel
theorem d16_116 : DK cd16 116 (.istore 5) 2 := by decide +kernel
theorem d16_118 : DK cd16 118 (.aload_n 0) 1 := by decide +kernel
theorem d16_119 : DK cd16 119 (.aload_n 0) 1 := by decide +kernel
theorem d16_120 : DK cd16 120 (.getfield 379) 3 := by decide +kernel
theorem d16_123 : DK cd16 123 (.iload 5) 2 := by decide +kernel
theorem d16_125 : DK cd16 125 .iaload 1 := by decide +kernel
theorem d16_126 : DK cd16 126 (.putfield 388) 3 := by decide +kernel
theorem d16_129 : DK cd16 129 (.aload_n 0) 1 := by decide +kernel
theorem d16_130 : DK cd16 130 .dup 1 := by decide +kernel
theorem d16_131 : DK cd16 131 (.getfield 382) 3 := by decide +kernel
theorem d16_134 : DK cd16 134 (.iconst 1) 1 := by decide +kernel
theorem d16_135 : DK cd16 135 .isub 1 := by decide +kernel
theorem d16_136 : DK cd16 136 (.putfield 382) 3 := by decide +kernel
theorem d16_139 : DK cd16 139 (.aload_n 0) 1 := by decide +kernel
theorem d16_140 : DK cd16 140 (.getfield 179) 3 := by decide +kernel
theorem d16_143 : DK cd16 143 (.iload 5) 2 := by decide +kernel
theorem d16_145 : DK cd16 145 (.iload_n 1) 1 := by decide +kernel
theorem d16_146 : DK cd16 146 .iastore 1 := by decide +kernel
theorem d16_147 : DK cd16 147 (.aload_n 0) 1 := by decide +kernel
theorem d16_148 : DK cd16 148 (.getfield 144) 3 := by decide +kernel
theorem d16_151 : DK cd16 151 (.iload 5) 2 := by decide +kernel
theorem d16_153 : DK cd16 153 (.iload_n 2) 1 := by decide +kernel
theorem d16_154 : DK cd16 154 .iastore 1 := by decide +kernel
theorem d16_155 : DK cd16 155 (.aload_n 0) 1 := by decide +kernel
theorem d16_156 : DK cd16 156 (.getfield 141) 3 := by decide +kernel
theorem d16_159 : DK cd16 159 (.iload 5) 2 := by decide +kernel
theorem d16_161 : DK cd16 161 (.iload_n 3) 1 := by decide +kernel
theorem d16_162 : DK cd16 162 .iastore 1 := by decide +kernel
theorem d16_163 : DK cd16 163 (.aload_n 0) 1 := by decide +kernel
theorem d16_164 : DK cd16 164 (.getfield 138) 3 := by decide +kernel
theorem d16_167 : DK cd16 167 (.iload 5) 2 := by decide +kernel
theorem d16_169 : DK cd16 169 (.iconst 0) 1 := by decide +kernel
theorem d16_170 : DK cd16 170 .iastore 1 := by decide +kernel
theorem d16_171 : DK cd16 171 (.aload_n 0) 1 := by decide +kernel
theorem d16_172 : DK cd16 172 (.getfield 379) 3 := by decide +kernel
theorem d16_175 : DK cd16 175 (.iload 5) 2 := by decide +kernel
theorem d16_177 : DK cd16 177 (.aload_n 0) 1 := by decide +kernel
theorem d16_178 : DK cd16 178 (.getfield 376) 3 := by decide +kernel
theorem d16_181 : DK cd16 181 (.iload 4) 2 := by decide +kernel
theorem d16_183 : DK cd16 183 .iaload 1 := by decide +kernel
theorem d16_184 : DK cd16 184 .iastore 1 := by decide +kernel
theorem d16_185 : DK cd16 185 (.aload_n 0) 1 := by decide +kernel
theorem d16_186 : DK cd16 186 (.getfield 376) 3 := by decide +kernel
theorem d16_189 : DK cd16 189 (.iload 4) 2 := by decide +kernel
theorem d16_191 : DK cd16 191 (.iload 5) 2 := by decide +kernel
theorem d16_193 : DK cd16 193 .iastore 1 := by decide +kernel
theorem d16_194 : DK cd16 194 (.iload 5) 2 := by decide +kernel
theorem d16_196 : DK cd16 196 .ireturn 1 := by decide +kernel
theorem pn_16 : plainName "com/example/slim_kripke/slimkripke/bdd/BddManager" = true := by first | (simp [plainName, overriddenIn]; done) | decide +kernel
theorem pd__III_I : parseMethodDescriptor "(III)I" = some ⟨[.int, .int, .int], some .int⟩ := by decide +kernel
theorem ef_16n (m : MethodId) (x0 : Addr) (x1 : Int32) (x2 : Int32) (x3 : Int32) : entryFrame m #[(.ref x0), (.int x1), (.int x2), (.int x3)] 6 = mkF m 0 #[.val (.ref x0), .val (.int x1), .val (.int x2), .val (.int x3), .unset, .unset] [] := by first | (simp [entryFrame, mkF, argsToLocals, Value.category]; done) | rfl
theorem rm16n (l : Launch) (Z : State) (a0 : Array Value) (hw : ∀ d ∈ tables_1, d.before a0 Z = true) (ws : List Jvm.Cond) {oa qcs qcf qpe qlv qlo qhi qrf qch qbk qca : Addr} {xn xs kk xfc xdp xcz xli xpk : Int32} {xlv xlo xhi xrf xch xbk xca xcf xpe : Int32 → Int32} (p1 : Int32) (p2 : Int32) (p3 : Int32) (h0 : Heap) (n0 : Nat) (Z0 : n0 ≤ h0.size) (B0 : Mg Z n0 h0 oa qcs qcf qpe qlv qlo qhi qrf qch qbk qca xn xs kk xfc xdp xcz xli xpk xlv xlo xhi xrf xch xbk xca xcf xpe) (hne : ¬ p2 = p3) (hwk : own_walk xlv xlo xhi xch p1 p2 p3 3 (xbk ((f17 p1 p2 p3) &&& 4095))) (hf0 : ¬ xfc = 0) (hk : ¬ kk < 0 ∧ kk < 4096) :
    Met1 l Nm_25 (Jvm.Cond.code Nm_25 prog_5_method_55_code 6 (some .int)) ws (rom 2 0 0 40) #[(.ref oa), (.int p1), (.int p2), (.int p3)] Z h0 (QB (some (.int kk)) n0 (fun h => Mg Z n0 h oa qcs qcf qpe qlv qlo qhi qrf qch qbk qca xn xs (xch kk) (xfc - 1) xdp xcz xli xpk (own_up xlv kk p1) (own_up xlo kk p2) (own_up xhi kk p3) (own_up xrf kk 0) (own_up xch kk (xbk ((f17 p1 p2 p3) &&& 4095))) (own_up xbk ((f17 p1 p2 p3) &&& 4095) kk) xca xcf xpe)) := by
  refine MetFree.of_bodySF (plainFor_of_name pn_16) hisR ?_
  intro p e s m args below meth c s₁ Bd hml0 hP hK
  obtain ⟨rfl, hZ, hh⟩ := hP
  have hx := Bd.exec
  have hby := Bd.bytes
  have hml : c.maxLocals = 6 := hml0
  have hown : s.vm.findClass "com/example/slim_kripke/slimkripke/bdd/BddManager" = some m.cls := findClass_of_methodNamed Bd.named
  have X0 : Stand p l e (rom 2 0 0 40) s m _ _ _ _ _ [] 0 0 := Stand.of_body Bd
  have e0 : s₁.heap = h0 := by rw [← hh, Bd.state]; rfl
  have N0 := Fr.nil n0
  have K0 : Keep h0 h0 [] := Keep.refl _ _
  have pre0 : Go p e below s₁ _ (mkF m 0 #[(vr oa), (vi p1), (vi p2), (vi p3), .unset, .unset] []) _ := fun t k => castTop (ef_16n m oa p1 p2 p3) k
  have pre1 : Go p e below s₁ _ (mkF m 10 #[(vr oa), (vi p1), (vi p2), (vi p3), .unset, .unset] [(.int p3), (.int p2), (.int p1)]) _ := fun t k => pre0 t (by
    refine XS.iloadN X0.here hx rfl (hb hby d16_0) rfl ?_
    refine XS.iloadN X0.here hx rfl (hb hby d16_1) rfl ?_
    refine XS.icmpYes X0.here hx rfl (pc0 := 2) (pc' := 7) rfl (hb hby d16_2) rfl (feq hne).2 (by decide) (by decide) ?_
    refine XS.iloadN X0.here hx rfl (hb hby d16_7) rfl ?_
    refine XS.iloadN X0.here hx rfl (hb hby d16_8) rfl ?_
    refine XS.iloadN X0.here hx rfl (hb hby d16_9) rfl ?_
    exact k)
  obtain ⟨_, _, ⟨T2, L2, k2, n2⟩, -, X2, ⟨Lc2, hQ2, l2, y2, z2⟩, st2⟩ := Jvm.LawKit.callS X0 hx (y := Nm_1) hown (mq hZ hw 111 rfl) (mq hZ hw 112 rfl) (mq hZ hw 3 rfl) (mq hZ hw 113 rfl) (by decide) (backOf (W := 0) (rm17 l Z a0 hw [] p1 p2 p3 h0 n0 Z0) hZ (wq hw 113 rfl) (wq hw 3 rfl) (by decide) (by decide)) (g := (mkF m 10 #[(vr oa), (vi p1), (vi p2), (vi p3), .unset, .unset] [(.int p3), (.int p2), (.int p1)])) rfl (by rw [hml]; rfl) (argsL := [(.int p1), (.int p2), (.int p3)]) (rest := []) (lenOf pd__III_I rfl) rfl (w00 rfl) (hb hby d16_10) (fun _ _ => ⟨rfl, e0, zz, zz⟩)
  dsimp only [Pt.U, Pt.locs, Pt.cells, Pt.slots] at X2 l2 y2 z2 st2 hQ2
  subst y2 z2
  obtain ⟨rfl, Nq2, e2⟩ := hQ2
  have N2 := FrE l2 N0 Nq2
  have pre3 := Go.thn pre1 st2
  have pre4 : Go p e below T2 _ (mkF m 14 #[(vr oa), (vi p1), (vi p2), (vi p3), .unset, .unset] [(.ref oa), (.int (f17 p1 p2 p3))]) _ := fun t k => pre3 t (by
    refine XS.aloadN X2.here hx rfl (hb hby d16_13) rfl rfl ?_
    exact k)
  obtain ⟨T5, X5, e5, st5⟩ := getF X2 hx hZ hown (host := "") (Or.inl (wq hw 46 rfl)) Via.refl e2 B0.f_bk (g := (mkF m 14 #[(vr oa), (vi p1), (vi p2), (vi p3), .unset, .unset] [(.ref oa), (.int (f17 p1 p2 p3))])) rfl rfl (hb hby d16_14)
  have pre6 := Go.thn pre4 st5
  obtain ⟨cl7, Ar7, Sz7, Mn7, Hs7⟩ := id B0.a_bk
  have pre8 : Go p e below T5 _ (mkF m 18 #[(vr oa), (vi p1), (vi p2), (vi p3), .unset, .unset] [(.int 4096), (.int (f17 p1 p2 p3))]) _ := fun t k => pre6 t (by
    show Steps p.tables e below (T5.setTop (mkF m 17 #[(vr oa), (vi p1), (vi p2), (vi p3), .unset, .unset] [(.ref qbk), (.int (f17 p1 p2 p3))])) _
    refine X5.arraylength hx (by rw [e5]; exact Ar7.1) (State.isArrayOf_alike hZ.alike Ar7.2.1) (g := (mkF m 17 #[(vr oa), (vi p1), (vi p2), (vi p3), .unset, .unset] [(.ref qbk), (.int (f17 p1 p2 p3))])) rfl rfl (hb hby d16_17) _ ?_
    rw [len_of Sz7 Mn7]
    exact k)
  have pre9 : Go p e below T5 _ (mkF m 24 #[(vr oa), (vi p1), (vi p2), (vi p3), (vi ((f17 p1 p2 p3) &&& (4095 : Int32))), .unset] [(.ref oa)]) _ := fun t k => pre8 t (by
    refine XS.iconst X5.here hx rfl (hb hby d16_18) ?_
    refine XS.isub X5.here hx rfl (hb hby d16_19) rfl ?_
    refine XS.iand X5.here hx rfl (hb hby d16_20) rfl ?_
    refine XS.istore X5.here hx rfl (hb hby d16_21) rfl (l' := #[(vr oa), (vi p1), (vi p2), (vi p3), (vi ((f17 p1 p2 p3) &&& (4095 : Int32))), .unset]) rfl ?_
    refine XS.aloadN X5.here hx rfl (hb hby d16_23) rfl rfl ?_
    exact k)
  obtain ⟨T10, X10, e10, st10⟩ := getF X5 hx hZ hown (host := "") (Or.inl (wq hw 46 rfl)) Via.refl e5 B0.f_bk (g := (mkF m 24 #[(vr oa), (vi p1), (vi p2), (vi p3), (vi ((f17 p1 p2 p3) &&& (4095 : Int32))), .unset] [(.ref oa)])) rfl rfl (hb hby d16_24)
  have pre11 := Go.thn pre9 st10
  have pre12 : Go p e below T10 _ (mkF m 29 #[(vr oa), (vi p1), (vi p2), (vi p3), (vi ((f17 p1 p2 p3) &&& (4095 : Int32))), .unset] [(.int ((f17 p1 p2 p3) &&& (4095 : Int32))), (.ref qbk)]) _ := fun t k => pre11 t (by
    refine XS.iload X10.here hx rfl (hb hby d16_27) rfl ?_
    exact k)
  obtain ⟨cl13, Ar13, Sz13, Mn13, Hs13⟩ := id B0.a_bk
  have ib13 : ¬ ((f17 p1 p2 p3) &&& (4095 : Int32)) < 0 ∧ ((f17 p1 p2 p3) &&& (4095 : Int32)) < 4096 := (own_bu _)
  have hat13 : cl13.slots[(((f17 p1 p2 p3) &&& (4095 : Int32))).toNatClampNeg]? = some (.int (xbk ((f17 p1 p2 p3) &&& (4095 : Int32)))) := Hs13 ((f17 p1 p2 p3) &&& (4095 : Int32)) ib13
  have pre14 : Go p e below T10 _ (mkF m 30 #[(vr oa), (vi p1), (vi p2), (vi p3), (vi ((f17 p1 p2 p3) &&& (4095 : Int32))), .unset] [(.int (xbk ((f17 p1 p2 p3) &&& (4095 : Int32))))]) _ := fun t k => pre12 t (by
    show Steps p.tables e below (T10.setTop (mkF m 29 #[(vr oa), (vi p1), (vi p2), (vi p3), (vi ((f17 p1 p2 p3) &&& (4095 : Int32))), .unset] [(.int ((f17 p1 p2 p3) &&& (4095 : Int32))), (.ref qbk)])) _
    refine X10.iaload hx (j := ((f17 p1 p2 p3) &&& (4095 : Int32))) (v := (.int (xbk ((f17 p1 p2 p3) &&& (4095 : Int32))))) (by rw [e10]; exact Ar13.1) (State.isArrayOf_alike hZ.alike Ar13.2.1) Ar13.2.2 (inb_of Sz13 ib13) hat13 (g := (mkF m 29 #[(vr oa), (vi p1), (vi p2), (vi p3), (vi ((f17 p1 p2 p3) &&& (4095 : Int32))), .unset] [(.int ((f17 p1 p2 p3) &&& (4095 : Int32))), (.ref qbk)])) rfl rfl (hb hby d16_29) _ ?_
    exact k)
  have pre15 : Go p e below T10 _ (mkF m 32 #[(vr oa), (vi p1), (vi p2), (vi p3), (vi ((f17 p1 p2 p3) &&& (4095 : Int32))), (vi (xbk ((f17 p1 p2 p3) &&& (4095 : Int32))))] []) _ := fun t k => pre14 t (by
    refine XS.istore X10.here hx rfl (hb hby d16_30) rfl (l' := #[(vr oa), (vi p1), (vi p2), (vi p3), (vi ((f17 p1 p2 p3) &&& (4095 : Int32))), (vi (xbk ((f17 p1 p2 p3) &&& (4095 : Int32))))]) rfl ?_
    exact k)
  obtain ⟨T16, L16, X16, e16, N16, st16⟩ := own_nodeL hx hZ hw hby hml hown B0 3 _ _ _ hwk X10 e10 N2
  have pre17 := Go.thn pre15 st16
  have pre18 : Go p e below T16 _ (mkF m 86 #[(vr oa), (vi p1), (vi p2), (vi p3), (vi ((f17 p1 p2 p3) &&& (4095 : Int32))), (vi (-1))] [(.ref oa)]) _ := fun t k => pre17 t (by
    refine XS.aloadN X16.here hx rfl (hb hby d16_85) rfl rfl ?_
    exact k)
  obtain ⟨T19, X19, e19, st19⟩ := getF X16 hx hZ hown (host := "") (Or.inl (wq hw 54 rfl)) Via.refl e16 B0.f_fc (g := (mkF m 86 #[(vr oa), (vi p1), (vi p2), (vi p3), (vi ((f17 p1 p2 p3) &&& (4095 : Int32))), (vi (-1))] [(.ref oa)])) rfl rfl (hb hby d16_86)
  have pre20 := Go.thn pre18 st19
  have pre21 : Go p e below T19 _ (mkF m 113 #[(vr oa), (vi p1), (vi p2), (vi p3), (vi ((f17 p1 p2 p3) &&& (4095 : Int32))), (vi (-1))] [(.ref oa)]) _ := fun t k => pre20 t (by
    refine XS.ifYes X19.here hx rfl (pc0 := 89) (pc' := 112) rfl (hb hby d16_89) rfl ((if0 _ _).trans (feq hf0).2) (by decide) (by decide) ?_
    refine XS.aloadN X19.here hx rfl (hb hby d16_112) rfl rfl ?_
    exact k)
  obtain ⟨T22, X22, e22, st22⟩ := getF X19 hx hZ hown (host := "") (Or.inl (wq hw 52 rfl)) Via.refl e19 B0.f_ff (g := (mkF m 113 #[(vr oa), (vi p1), (vi p2), (vi p3), (vi ((f17 p1 p2 p3) &&& (4095 : Int32))), (vi (-1))] [(.ref oa)])) rfl rfl (hb hby d16_113)
  have pre23 := Go.thn pre21 st22
  have pre24 : Go p e below T22 _ (mkF m 120 #[(vr oa), (vi p1), (vi p2), (vi p3), (vi ((f17 p1 p2 p3) &&& (4095 : Int32))), (vi kk)] [(.ref oa), (.ref oa)]) _ := fun t k => pre23 t (by
    refine XS.istore X22.here hx rfl (hb hby d16_116) rfl (l' := #[(vr oa), (vi p1), (vi p2), (vi p3), (vi ((f17 p1 p2 p3) &&& (4095 : Int32))), (vi kk)]) rfl ?_
    refine XS.aloadN X22.here hx rfl (hb hby d16_118) rfl rfl ?_
    refine XS.aloadN X22.here hx rfl (hb hby d16_119) rfl rfl ?_
    exact k)
  obtain ⟨T25, X25, e25, st25⟩ := getF X22 hx hZ hown (host := "") (Or.inl (wq hw 44 rfl)) Via.refl e22 B0.f_ch (g := (mkF m 120 #[(vr oa), (vi p1), (vi p2), (vi p3), (vi ((f17 p1 p2 p3) &&& (4095 : Int32))), (vi kk)] [(.ref oa), (.ref oa)])) rfl rfl (hb hby d16_120)
  have pre26 := Go.thn pre24 st25
  have pre27 : Go p e below T25 _ (mkF m 125 #[(vr oa), (vi p1), (vi p2), (vi p3), (vi ((f17 p1 p2 p3) &&& (4095 : Int32))), (vi kk)] [(.int kk), (.ref qch), (.ref oa)]) _ := fun t k => pre26 t (by
    refine XS.iload X25.here hx rfl (hb hby d16_123) rfl ?_
    exact k)
  obtain ⟨cl28, Ar28, Sz28, Mn28, Hs28⟩ := id B0.a_ch
  have ib28 : ¬ kk < 0 ∧ kk < 4096 := hk
  have hat28 : cl28.slots[(kk).toNatClampNeg]? = some (.int (xch kk)) := Hs28 kk ib28
  have pre29 : Go p e below T25 _ (mkF m 126 #[(vr oa), (vi p1), (vi p2), (vi p3), (vi ((f17 p1 p2 p3) &&& (4095 : Int32))), (vi kk)] [(.int (xch kk)), (.ref oa)]) _ := fun t k => pre27 t (by
    show Steps p.tables e below (T25.setTop (mkF m 125 #[(vr oa), (vi p1), (vi p2), (vi p3), (vi ((f17 p1 p2 p3) &&& (4095 : Int32))), (vi kk)] [(.int kk), (.ref qch), (.ref oa)])) _
    refine X25.iaload hx (j := kk) (v := (.int (xch kk))) (by rw [e25]; exact Ar28.1) (State.isArrayOf_alike hZ.alike Ar28.2.1) Ar28.2.2 (inb_of Sz28 ib28) hat28 (g := (mkF m 125 #[(vr oa), (vi p1), (vi p2), (vi p3), (vi ((f17 p1 p2 p3) &&& (4095 : Int32))), (vi kk)] [(.int kk), (.ref qch), (.ref oa)])) rfl rfl (hb hby d16_125) _ ?_
    exact k)
  obtain ⟨T30, h30, X30, e30, W30, st30⟩ := putF X25 hx hZ hown (host := "") (Or.inl (wq hw 52 rfl)) Via.refl e25 B0.f_ff B0.e (Or.inl (wq hw 53 rfl)) (wq hw 2 rfl) (ty := .int) (by decide) rfl rfl (g := (mkF m 126 #[(vr oa), (vi p1), (vi p2), (vi p3), (vi ((f17 p1 p2 p3) &&& (4095 : Int32))), (vi kk)] [(.int (xch kk)), (.ref oa)])) rfl rfl (hb hby d16_126)
  have N30 := Fr.snoc X30 N16 B0.g0
  have B30 := B0.w_ff hw W30
  have pre31 := Go.thn pre29 st30
  have pre32 : Go p e below T30 _ (mkF m 131 #[(vr oa), (vi p1), (vi p2), (vi p3), (vi ((f17 p1 p2 p3) &&& (4095 : Int32))), (vi kk)] [(.ref oa), (.ref oa)]) _ := fun t k => pre31 t (by
    refine XS.aloadN X30.here hx rfl (hb hby d16_129) rfl rfl ?_
    refine XS.dup X30.here hx rfl (hb hby d16_130) rfl rfl ?_
    exact k)
  obtain ⟨T33, X33, e33, st33⟩ := getF X30 hx hZ hown (host := "") (Or.inl (wq hw 54 rfl)) Via.refl e30 B30.f_fc (g := (mkF m 131 #[(vr oa), (vi p1), (vi p2), (vi p3), (vi ((f17 p1 p2 p3) &&& (4095 : Int32))), (vi kk)] [(.ref oa), (.ref oa)])) rfl rfl (hb hby d16_131)
  have pre34 := Go.thn pre32 st33
  have pre35 : Go p e below T33 _ (mkF m 136 #[(vr oa), (vi p1), (vi p2), (vi p3), (vi ((f17 p1 p2 p3) &&& (4095 : Int32))), (vi kk)] [(.int (xfc - (1 : Int32))), (.ref oa)]) _ := fun t k => pre34 t (by
    refine XS.iconst X33.here hx rfl (hb hby d16_134) ?_
    refine XS.isub X33.here hx rfl (hb hby d16_135) rfl ?_
    exact k)
  obtain ⟨T36, h36, X36, e36, W36, st36⟩ := putF X33 hx hZ hown (host := "") (Or.inl (wq hw 54 rfl)) Via.refl e33 B30.f_fc B30.e (Or.inl (wq hw 55 rfl)) (wq hw 2 rfl) (ty := .int) (by decide) rfl rfl (g := (mkF m 136 #[(vr oa), (vi p1), (vi p2), (vi p3), (vi ((f17 p1 p2 p3) &&& (4095 : Int32))), (vi kk)] [(.int (xfc - (1 : Int32))), (.ref oa)])) rfl rfl (hb hby d16_136)
  have N36 := Fr.snoc X36 N30 B30.g0
  have B36 := B30.w_fc hw W36
  have pre37 := Go.thn pre35 st36
  have pre38 : Go p e below T36 _ (mkF m 140 #[(vr oa), (vi p1), (vi p2), (vi p3), (vi ((f17 p1 p2 p3) &&& (4095 : Int32))), (vi kk)] [(.ref oa)]) _ := fun t k => pre37 t (by
    refine XS.aloadN X36.here hx rfl (hb hby d16_139) rfl rfl ?_
    exact k)
  obtain ⟨T39, X39, e39, st39⟩ := getF X36 hx hZ hown (host := "") (Or.inl (wq hw 36 rfl)) Via.refl e36 B36.f_lv (g := (mkF m 140 #[(vr oa), (vi p1), (vi p2), (vi p3), (vi ((f17 p1 p2 p3) &&& (4095 : Int32))), (vi kk)] [(.ref oa)])) rfl rfl (hb hby d16_140)
  have pre40 := Go.thn pre38 st39
  have pre41 : Go p e below T39 _ (mkF m 146 #[(vr oa), (vi p1), (vi p2), (vi p3), (vi ((f17 p1 p2 p3) &&& (4095 : Int32))), (vi kk)] [(.int p1), (.int kk), (.ref qlv)]) _ := fun t k => pre40 t (by
    refine XS.iload X39.here hx rfl (hb hby d16_143) rfl ?_
    refine XS.iloadN X39.here hx rfl (hb hby d16_145) rfl ?_
    exact k)
  have ib42 : ¬ kk < 0 ∧ kk < 4096 := hk
  obtain ⟨cl42, Ar42, Sz42, -, -⟩ := id B36.a_lv
  obtain ⟨T42, h42, X42, e42, W42, st42⟩ := stI X39 hx hZ e39 Ar42 (j := kk) (inb_of Sz42 ib42) (g := (mkF m 146 #[(vr oa), (vi p1), (vi p2), (vi p3), (vi ((f17 p1 p2 p3) &&& (4095 : Int32))), (vi kk)] [(.int p1), (.int kk), (.ref qlv)])) rfl rfl (hb hby d16_146)
  have N42 := Fr.snoc X42 N36 B36.g_lv
  have B42 := B36.t_lv W42 ib42
  have pre43 := Go.thn pre41 st42
  have pre44 : Go p e below T42 _ (mkF m 148 #[(vr oa), (vi p1), (vi p2), (vi p3), (vi ((f17 p1 p2 p3) &&& (4095 : Int32))), (vi kk)] [(.ref oa)]) _ := fun t k => pre43 t (by
    refine XS.aloadN X42.here hx rfl (hb hby d16_147) rfl rfl ?_
    exact k)
  obtain ⟨T45, X45, e45, st45⟩ := getF X42 hx hZ hown (host := "") (Or.inl (wq hw 38 rfl)) Via.refl e42 B42.f_lo (g := (mkF m 148 #[(vr oa), (vi p1), (vi p2), (vi p3), (vi ((f17 p1 p2 p3) &&& (4095 : Int32))), (vi kk)] [(.ref oa)])) rfl rfl (hb hby d16_148)
  have pre46 := Go.thn pre44 st45
  have pre47 : Go p e below T45 _ (mkF m 154 #[(vr oa), (vi p1), (vi p2), (vi p3), (vi ((f17 p1 p2 p3) &&& (4095 : Int32))), (vi kk)] [(.int p2), (.int kk), (.ref qlo)]) _ := fun t k => pre46 t (by
    refine XS.iload X45.here hx rfl (hb hby d16_151) rfl ?_
    refine XS.iloadN X45.here hx rfl (hb hby d16_153) rfl ?_
    exact k)
  have ib48 : ¬ kk < 0 ∧ kk < 4096 := hk
  obtain ⟨cl48, Ar48, Sz48, -, -⟩ := id B42.a_lo
  obtain ⟨T48, h48, X48, e48, W48, st48⟩ := stI X45 hx hZ e45 Ar48 (j := kk) (inb_of Sz48 ib48) (g := (mkF m 154 #[(vr oa), (vi p1), (vi p2), (vi p3), (vi ((f17 p1 p2 p3) &&& (4095 : Int32))), (vi kk)] [(.int p2), (.int kk), (.ref qlo)])) rfl rfl (hb hby d16_154)
  have N48 := Fr.snoc X48 N42 B42.g_lo
  have B48 := B42.t_lo W48 ib48
  have pre49 := Go.thn pre47 st48
  have pre50 : Go p e below T48 _ (mkF m 156 #[(vr oa), (vi p1), (vi p2), (vi p3), (vi ((f17 p1 p2 p3) &&& (4095 : Int32))), (vi kk)] [(.ref oa)]) _ := fun t k => pre49 t (by
    refine XS.aloadN X48.here hx rfl (hb hby d16_155) rfl rfl ?_
    exact k)
  obtain ⟨T51, X51, e51, st51⟩ := getF X48 hx hZ hown (host := "") (Or.inl (wq hw 40 rfl)) Via.refl e48 B48.f_hi (g := (mkF m 156 #[(vr oa), (vi p1), (vi p2), (vi p3), (vi ((f17 p1 p2 p3) &&& (4095 : Int32))), (vi kk)] [(.ref oa)])) rfl rfl (hb hby d16_156)
  have pre52 := Go.thn pre50 st51
  have pre53 : Go p e below T51 _ (mkF m 162 #[(vr oa), (vi p1), (vi p2), (vi p3), (vi ((f17 p1 p2 p3) &&& (4095 : Int32))), (vi kk)] [(.int p3), (.int kk), (.ref qhi)]) _ := fun t k => pre52 t (by
    refine XS.iload X51.here hx rfl (hb hby d16_159) rfl ?_
    refine XS.iloadN X51.here hx rfl (hb hby d16_161) rfl ?_
    exact k)
  have ib54 : ¬ kk < 0 ∧ kk < 4096 := hk
  obtain ⟨cl54, Ar54, Sz54, -, -⟩ := id B48.a_hi
  obtain ⟨T54, h54, X54, e54, W54, st54⟩ := stI X51 hx hZ e51 Ar54 (j := kk) (inb_of Sz54 ib54) (g := (mkF m 162 #[(vr oa), (vi p1), (vi p2), (vi p3), (vi ((f17 p1 p2 p3) &&& (4095 : Int32))), (vi kk)] [(.int p3), (.int kk), (.ref qhi)])) rfl rfl (hb hby d16_162)
  have N54 := Fr.snoc X54 N48 B48.g_hi
  have B54 := B48.t_hi W54 ib54
  have pre55 := Go.thn pre53 st54
  have pre56 : Go p e below T54 _ (mkF m 164 #[(vr oa), (vi p1), (vi p2), (vi p3), (vi ((f17 p1 p2 p3) &&& (4095 : Int32))), (vi kk)] [(.ref oa)]) _ := fun t k => pre55 t (by
    refine XS.aloadN X54.here hx rfl (hb hby d16_163) rfl rfl ?_
    exact k)
  obtain ⟨T57, X57, e57, st57⟩ := getF X54 hx hZ hown (host := "") (Or.inl (wq hw 42 rfl)) Via.refl e54 B54.f_rf (g := (mkF m 164 #[(vr oa), (vi p1), (vi p2), (vi p3), (vi ((f17 p1 p2 p3) &&& (4095 : Int32))), (vi kk)] [(.ref oa)])) rfl rfl (hb hby d16_164)
  have pre58 := Go.thn pre56 st57
  have pre59 : Go p e below T57 _ (mkF m 170 #[(vr oa), (vi p1), (vi p2), (vi p3), (vi ((f17 p1 p2 p3) &&& (4095 : Int32))), (vi kk)] [(.int 0), (.int kk), (.ref qrf)]) _ := fun t k => pre58 t (by
    refine XS.iload X57.here hx rfl (hb hby d16_167) rfl ?_
    refine XS.iconst X57.here hx rfl (hb hby d16_169) ?_
    exact k)
  have ib60 : ¬ kk < 0 ∧ kk < 4096 := hk
  obtain ⟨cl60, Ar60, Sz60, -, -⟩ := id B54.a_rf
  obtain ⟨T60, h60, X60, e60, W60, st60⟩ := stI X57 hx hZ e57 Ar60 (j := kk) (inb_of Sz60 ib60) (g := (mkF m 170 #[(vr oa), (vi p1), (vi p2), (vi p3), (vi ((f17 p1 p2 p3) &&& (4095 : Int32))), (vi kk)] [(.int 0), (.int kk), (.ref qrf)])) rfl rfl (hb hby d16_170)
  have N60 := Fr.snoc X60 N54 B54.g_rf
  have B60 := B54.t_rf W60 ib60
  have pre61 := Go.thn pre59 st60
  have pre62 : Go p e below T60 _ (mkF m 172 #[(vr oa), (vi p1), (vi p2), (vi p3), (vi ((f17 p1 p2 p3) &&& (4095 : Int32))), (vi kk)] [(.ref oa)]) _ := fun t k => pre61 t (by
    refine XS.aloadN X60.here hx rfl (hb hby d16_171) rfl rfl ?_
    exact k)
  obtain ⟨T63, X63, e63, st63⟩ := getF X60 hx hZ hown (host := "") (Or.inl (wq hw 44 rfl)) Via.refl e60 B60.f_ch (g := (mkF m 172 #[(vr oa), (vi p1), (vi p2), (vi p3), (vi ((f17 p1 p2 p3) &&& (4095 : Int32))), (vi kk)] [(.ref oa)])) rfl rfl (hb hby d16_172)
  have pre64 := Go.thn pre62 st63
  have pre65 : Go p e below T63 _ (mkF m 178 #[(vr oa), (vi p1), (vi p2), (vi p3), (vi ((f17 p1 p2 p3) &&& (4095 : Int32))), (vi kk)] [(.ref oa), (.int kk), (.ref qch)]) _ := fun t k => pre64 t (by
    refine XS.iload X63.here hx rfl (hb hby d16_175) rfl ?_
    refine XS.aloadN X63.here hx rfl (hb hby d16_177) rfl rfl ?_
    exact k)
  obtain ⟨T66, X66, e66, st66⟩ := getF X63 hx hZ hown (host := "") (Or.inl (wq hw 46 rfl)) Via.refl e63 B60.f_bk (g := (mkF m 178 #[(vr oa), (vi p1), (vi p2), (vi p3), (vi ((f17 p1 p2 p3) &&& (4095 : Int32))), (vi kk)] [(.ref oa), (.int kk), (.ref qch)])) rfl rfl (hb hby d16_178)
  have pre67 := Go.thn pre65 st66
  have pre68 : Go p e below T66 _ (mkF m 183 #[(vr oa), (vi p1), (vi p2), (vi p3), (vi ((f17 p1 p2 p3) &&& (4095 : Int32))), (vi kk)] [(.int ((f17 p1 p2 p3) &&& (4095 : Int32))), (.ref qbk), (.int kk), (.ref qch)]) _ := fun t k => pre67 t (by
    refine XS.iload X66.here hx rfl (hb hby d16_181) rfl ?_
    exact k)
  obtain ⟨cl69, Ar69, Sz69, Mn69, Hs69⟩ := id B60.a_bk
  have ib69 : ¬ ((f17 p1 p2 p3) &&& (4095 : Int32)) < 0 ∧ ((f17 p1 p2 p3) &&& (4095 : Int32)) < 4096 := (own_bu _)
  have hat69 : cl69.slots[(((f17 p1 p2 p3) &&& (4095 : Int32))).toNatClampNeg]? = some (.int (xbk ((f17 p1 p2 p3) &&& (4095 : Int32)))) := Hs69 ((f17 p1 p2 p3) &&& (4095 : Int32)) ib69
  have pre70 : Go p e below T66 _ (mkF m 184 #[(vr oa), (vi p1), (vi p2), (vi p3), (vi ((f17 p1 p2 p3) &&& (4095 : Int32))), (vi kk)] [(.int (xbk ((f17 p1 p2 p3) &&& (4095 : Int32)))), (.int kk), (.ref qch)]) _ := fun t k => pre68 t (by
    show Steps p.tables e below (T66.setTop (mkF m 183 #[(vr oa), (vi p1), (vi p2), (vi p3), (vi ((f17 p1 p2 p3) &&& (4095 : Int32))), (vi kk)] [(.int ((f17 p1 p2 p3) &&& (4095 : Int32))), (.ref qbk), (.int kk), (.ref qch)])) _
    refine X66.iaload hx (j := ((f17 p1 p2 p3) &&& (4095 : Int32))) (v := (.int (xbk ((f17 p1 p2 p3) &&& (4095 : Int32))))) (by rw [e66]; exact Ar69.1) (State.isArrayOf_alike hZ.alike Ar69.2.1) Ar69.2.2 (inb_of Sz69 ib69) hat69 (g := (mkF m 183 #[(vr oa), (vi p1), (vi p2), (vi p3), (vi ((f17 p1 p2 p3) &&& (4095 : Int32))), (vi kk)] [(.int ((f17 p1 p2 p3) &&& (4095 : Int32))), (.ref qbk), (.int kk), (.ref qch)])) rfl rfl (hb hby d16_183) _ ?_
    exact k)
  have ib71 : ¬ kk < 0 ∧ kk < 4096 := hk
  obtain ⟨cl71, Ar71, Sz71, -, -⟩ := id B60.a_ch
  obtain ⟨T71, h71, X71, e71, W71, st71⟩ := stI X66 hx hZ e66 Ar71 (j := kk) (inb_of Sz71 ib71) (g := (mkF m 184 #[(vr oa), (vi p1), (vi p2), (vi p3), (vi ((f17 p1 p2 p3) &&& (4095 : Int32))), (vi kk)] [(.int (xbk ((f17 p1 p2 p3) &&& (4095 : Int32)))), (.int kk), (.ref qch)])) rfl rfl (hb hby d16_184)
  have N71 := Fr.snoc X71 N60 B60.g_ch
  have B71 := B60.t_ch W71 ib71
  have pre72 := Go.thn pre70 st71
  have pre73 : Go p e below T71 _ (mkF m 186 #[(vr oa), (vi p1), (vi p2), (vi p3), (vi ((f17 p1 p2 p3) &&& (4095 : Int32))), (vi kk)] [(.ref oa)]) _ := fun t k => pre72 t (by
    refine XS.aloadN X71.here hx rfl (hb hby d16_185) rfl rfl ?_
    exact k)
  obtain ⟨T74, X74, e74, st74⟩ := getF X71 hx hZ hown (host := "") (Or.inl (wq hw 46 rfl)) Via.refl e71 B71.f_bk (g := (mkF m 186 #[(vr oa), (vi p1), (vi p2), (vi p3), (vi ((f17 p1 p2 p3) &&& (4095 : Int32))), (vi kk)] [(.ref oa)])) rfl rfl (hb hby d16_186)
  have pre75 := Go.thn pre73 st74
  have pre76 : Go p e below T74 _ (mkF m 193 #[(vr oa), (vi p1), (vi p2), (vi p3), (vi ((f17 p1 p2 p3) &&& (4095 : Int32))), (vi kk)] [(.int kk), (.int ((f17 p1 p2 p3) &&& (4095 : Int32))), (.ref qbk)]) _ := fun t k => pre75 t (by
    refine XS.iload X74.here hx rfl (hb hby d16_189) rfl ?_
    refine XS.iload X74.here hx rfl (hb hby d16_191) rfl ?_
    exact k)
  have ib77 : ¬ ((f17 p1 p2 p3) &&& (4095 : Int32)) < 0 ∧ ((f17 p1 p2 p3) &&& (4095 : Int32)) < 4096 := (own_bu _)
  obtain ⟨cl77, Ar77, Sz77, -, -⟩ := id B71.a_bk
  obtain ⟨T77, h77, X77, e77, W77, st77⟩ := stI X74 hx hZ e74 Ar77 (j := ((f17 p1 p2 p3) &&& (4095 : Int32))) (inb_of Sz77 ib77) (g := (mkF m 193 #[(vr oa), (vi p1), (vi p2), (vi p3), (vi ((f17 p1 p2 p3) &&& (4095 : Int32))), (vi kk)] [(.int kk), (.int ((f17 p1 p2 p3) &&& (4095 : Int32))), (.ref qbk)])) rfl rfl (hb hby d16_193)
  have N77 := Fr.snoc X77 N71 B71.g_bk
  have B77 := B71.t_bk W77 ib77
  have pre78 := Go.thn pre76 st77
  have pre79 : Go p e below T77 _ (mkF m 196 #[(vr oa), (vi p1), (vi p2), (vi p3), (vi ((f17 p1 p2 p3) &&& (4095 : Int32))), (vi kk)] [(.int kk)]) _ := fun t k => pre78 t (by
    refine XS.iload X77.here hx rfl (hb hby d16_194) rfl ?_
    exact k)
  obtain ⟨fs, hr, hrun, hended, hW, hsame⟩ := X77.leave (v := some (.int kk)) (fun h => by rw [Bd.returns] at h; cases h)
  refine ⟨_, _, ?_, hrun, hended, _, _, rfl, ?_, ⟨_, rfl⟩, hW, hsame.mono (by decide) (by decide)⟩
  · exact pre79 _ (retI X77 hx Bd.returns (hb hby d16_196) hr)
  · show QB _ _ _ _ T77.heap _
    rw [e77]
    exact ⟨rfl, N77, B77⟩
theorem d16_70 : DK cd16 70 (.iload 5) 2 := by decide +kernel
theorem d16_72 : DK cd16 72 .ireturn 1 := by decide +kernel
theorem rm16f (l : Launch) (Z : State) (a0 : Array Value) (hw : ∀ d ∈ tables_1, d.before a0 Z = true) (ws : List Jvm.Cond) {oa qcs qcf qpe qlv qlo qhi qrf qch qbk qca : Addr} {xn xs xff xfc xdp xcz xli xpk : Int32} {xlv xlo xhi xrf xch xbk xca xcf xpe : Int32 → Int32} (p1 : Int32) (p2 : Int32) (p3 : Int32) (h0 : Heap) (n0 : Nat) (Z0 : n0 ≤ h0.size) (B0 : Mg Z n0 h0 oa qcs qcf qpe qlv qlo qhi qrf qch qbk qca xn xs xff xfc xdp xcz xli xpk xlv xlo xhi xrf xch xbk xca xcf xpe) (hne : ¬ p2 = p3) (hbk2 : (xbk ((f17 p1 p2 p3) &&& 4095)) = 2) (hx1 : (xlv 2) = p1) (hx2 : (xlo 2) = p2) (hx3 : (xhi 2) = p3) :
    Met1 l Nm_25 (Jvm.Cond.code Nm_25 prog_5_method_55_code 6 (some .int)) ws (rom 2 0 0 40) #[(.ref oa), (.int p1), (.int p2), (.int p3)] Z h0 (QP (some (.int 2)) h0 n0) := by
  refine MetFree.of_bodySF (plainFor_of_name pn_16) hisR ?_
  intro p e s m args below meth c s₁ Bd hml0 hP hK
  obtain ⟨rfl, hZ, hh⟩ := hP
  have hx := Bd.exec
  have hby := Bd.bytes
  have hml : c.maxLocals = 6 := hml0
  have hown : s.vm.findClass "com/example/slim_kripke/slimkripke/bdd/BddManager" = some m.cls := findClass_of_methodNamed Bd.named
  have X0 : Stand p l e (rom 2 0 0 40) s m _ _ _ _ _ [] 0 0 := Stand.of_body Bd
  have e0 : s₁.heap = h0 := by rw [← hh, Bd.state]; rfl
  have N0 := Fr.nil n0
  have K0 : Keep h0 h0 [] := Keep.refl _ _
  have pre0 : Go p e below s₁ _ (mkF m 0 #[(vr oa), (vi p1), (vi p2), (vi p3), .unset, .unset] []) _ := fun t k => castTop (ef_16n m oa p1 p2 p3) k
  have pre1 : Go p e below s₁ _ (mkF m 10 #[(vr oa), (vi p1), (vi p2), (vi p3), .unset, .unset] [(.int p3), (.int p2), (.int p1)]) _ := fun t k => pre0 t (by
    refine XS.iloadN X0.here hx rfl (hb hby d16_0) rfl ?_
    refine XS.iloadN X0.here hx rfl (hb hby d16_1) rfl ?_
    refine XS.icmpYes X0.here hx rfl (pc0 := 2) (pc' := 7) rfl (hb hby d16_2) rfl (feq hne).2 (by decide) (by decide) ?_
    refine XS.iloadN X0.here hx rfl (hb hby d16_7) rfl ?_
    refine XS.iloadN X0.here hx rfl (hb hby d16_8) rfl ?_
    refine XS.iloadN X0.here hx rfl (hb hby d16_9) rfl ?_
    exact k)
  obtain ⟨_, _, ⟨T2, L2, k2, n2⟩, -, X2, ⟨Lc2, hQ2, l2, y2, z2⟩, st2⟩ := Jvm.LawKit.callS X0 hx (y := Nm_1) hown (mq hZ hw 111 rfl) (mq hZ hw 112 rfl) (mq hZ hw 3 rfl) (mq hZ hw 113 rfl) (by decide) (backOf (W := 0) (rm17 l Z a0 hw [] p1 p2 p3 h0 n0 Z0) hZ (wq hw 113 rfl) (wq hw 3 rfl) (by decide) (by decide)) (g := (mkF m 10 #[(vr oa), (vi p1), (vi p2), (vi p3), .unset, .unset] [(.int p3), (.int p2), (.int p1)])) rfl (by rw [hml]; rfl) (argsL := [(.int p1), (.int p2), (.int p3)]) (rest := []) (lenOf pd__III_I rfl) rfl (w00 rfl) (hb hby d16_10) (fun _ _ => ⟨rfl, e0, zz, zz⟩)
  dsimp only [Pt.U, Pt.locs, Pt.cells, Pt.slots] at X2 l2 y2 z2 st2 hQ2
  subst y2 z2
  obtain ⟨rfl, Nq2, e2⟩ := hQ2
  have N2 := FrE l2 N0 Nq2
  have pre3 := Go.thn pre1 st2
  have pre4 : Go p e below T2 _ (mkF m 14 #[(vr oa), (vi p1), (vi p2), (vi p3), .unset, .unset] [(.ref oa), (.int (f17 p1 p2 p3))]) _ := fun t k => pre3 t (by
    refine XS.aloadN X2.here hx rfl (hb hby d16_13) rfl rfl ?_
    exact k)
  obtain ⟨T5, X5, e5, st5⟩ := getF X2 hx hZ hown (host := "") (Or.inl (wq hw 46 rfl)) Via.refl e2 B0.f_bk (g := (mkF m 14 #[(vr oa), (vi p1), (vi p2), (vi p3), .unset, .unset] [(.ref oa), (.int (f17 p1 p2 p3))])) rfl rfl (hb hby d16_14)
  have pre6 := Go.thn pre4 st5
  obtain ⟨cl7, Ar7, Sz7, Mn7, Hs7⟩ := id B0.a_bk
  have pre8 : Go p e below T5 _ (mkF m 18 #[(vr oa), (vi p1), (vi p2), (vi p3), .unset, .unset] [(.int 4096), (.int (f17 p1 p2 p3))]) _ := fun t k => pre6 t (by
    show Steps p.tables e below (T5.setTop (mkF m 17 #[(vr oa), (vi p1), (vi p2), (vi p3), .unset, .unset] [(.ref qbk), (.int (f17 p1 p2 p3))])) _
    refine X5.arraylength hx (by rw [e5]; exact Ar7.1) (State.isArrayOf_alike hZ.alike Ar7.2.1) (g := (mkF m 17 #[(vr oa), (vi p1), (vi p2), (vi p3), .unset, .unset] [(.ref qbk), (.int (f17 p1 p2 p3))])) rfl rfl (hb hby d16_17) _ ?_
    rw [len_of Sz7 Mn7]
    exact k)
  have pre9 : Go p e below T5 _ (mkF m 24 #[(vr oa), (vi p1), (vi p2), (vi p3), (vi ((f17 p1 p2 p3) &&& (4095 : Int32))), .unset] [(.ref oa)]) _ := fun t k => pre8 t (by
    refine XS.iconst X5.here hx rfl (hb hby d16_18) ?_
    refine XS.isub X5.here hx rfl (hb hby d16_19) rfl ?_
    refine XS.iand X5.here hx rfl (hb hby d16_20) rfl ?_
    refine XS.istore X5.here hx rfl (hb hby d16_21) rfl (l' := #[(vr oa), (vi p1), (vi p2), (vi p3), (vi ((f17 p1 p2 p3) &&& (4095 : Int32))), .unset]) rfl ?_
    refine XS.aloadN X5.here hx rfl (hb hby d16_23) rfl rfl ?_
    exact k)
  obtain ⟨T10, X10, e10, st10⟩ := getF X5 hx hZ hown (host := "") (Or.inl (wq hw 46 rfl)) Via.refl e5 B0.f_bk (g := (mkF m 24 #[(vr oa), (vi p1), (vi p2), (vi p3), (vi ((f17 p1 p2 p3) &&& (4095 : Int32))), .unset] [(.ref oa)])) rfl rfl (hb hby d16_24)
  have pre11 := Go.thn pre9 st10
  have pre12 : Go p e below T10 _ (mkF m 29 #[(vr oa), (vi p1), (vi p2), (vi p3), (vi ((f17 p1 p2 p3) &&& (4095 : Int32))), .unset] [(.int ((f17 p1 p2 p3) &&& (4095 : Int32))), (.ref qbk)]) _ := fun t k => pre11 t (by
    refine XS.iload X10.here hx rfl (hb hby d16_27) rfl ?_
    exact k)
  obtain ⟨cl13, Ar13, Sz13, Mn13, Hs13⟩ := id B0.a_bk
  have ib13 : ¬ ((f17 p1 p2 p3) &&& (4095 : Int32)) < 0 ∧ ((f17 p1 p2 p3) &&& (4095 : Int32)) < 4096 := (own_bu _)
  have hat13 : cl13.slots[(((f17 p1 p2 p3) &&& (4095 : Int32))).toNatClampNeg]? = some (.int (xbk ((f17 p1 p2 p3) &&& (4095 : Int32)))) := Hs13 ((f17 p1 p2 p3) &&& (4095 : Int32)) ib13
  have pre14 : Go p e below T10 _ (mkF m 30 #[(vr oa), (vi p1), (vi p2), (vi p3), (vi ((f17 p1 p2 p3) &&& (4095 : Int32))), .unset] [(.int (xbk ((f17 p1 p2 p3) &&& (4095 : Int32))))]) _ := fun t k => pre12 t (by
    show Steps p.tables e below (T10.setTop (mkF m 29 #[(vr oa), (vi p1), (vi p2), (vi p3), (vi ((f17 p1 p2 p3) &&& (4095 : Int32))), .unset] [(.int ((f17 p1 p2 p3) &&& (4095 : Int32))), (.ref qbk)])) _
    refine X10.iaload hx (j := ((f17 p1 p2 p3) &&& (4095 : Int32))) (v := (.int (xbk ((f17 p1 p2 p3) &&& (4095 : Int32))))) (by rw [e10]; exact Ar13.1) (State.isArrayOf_alike hZ.alike Ar13.2.1) Ar13.2.2 (inb_of Sz13 ib13) hat13 (g := (mkF m 29 #[(vr oa), (vi p1), (vi p2), (vi p3), (vi ((f17 p1 p2 p3) &&& (4095 : Int32))), .unset] [(.int ((f17 p1 p2 p3) &&& (4095 : Int32))), (.ref qbk)])) rfl rfl (hb hby d16_29) _ ?_
    exact k)
  have pre15 : Go p e below T10 _ (mkF m 38 #[(vr oa), (vi p1), (vi p2), (vi p3), (vi ((f17 p1 p2 p3) &&& (4095 : Int32))), (vi 2)] [(.ref oa)]) _ := fun t k => pre14 t (by
    show Steps p.tables e below (T10.setTop (mkF m 30 #[(vr oa), (vi p1), (vi p2), (vi p3), (vi ((f17 p1 p2 p3) &&& (4095 : Int32))), .unset] [(.int (xbk ((f17 p1 p2 p3) &&& (4095 : Int32))))])) _
    rw [hbk2]
    refine XS.istore X10.here hx rfl (hb hby d16_30) rfl (l' := #[(vr oa), (vi p1), (vi p2), (vi p3), (vi ((f17 p1 p2 p3) &&& (4095 : Int32))), (vi 2)]) rfl ?_
    refine XS.iload X10.here hx rfl (hb hby d16_32) rfl ?_
    refine XS.ifNo X10.here hx rfl (hb hby d16_34) rfl (by decide) ?_
    refine XS.aloadN X10.here hx rfl (hb hby d16_37) rfl rfl ?_
    exact k)
  obtain ⟨T16, X16, e16, st16⟩ := getF X10 hx hZ hown (host := "") (Or.inl (wq hw 36 rfl)) Via.refl e10 B0.f_lv (g := (mkF m 38 #[(vr oa), (vi p1), (vi p2), (vi p3), (vi ((f17 p1 p2 p3) &&& (4095 : Int32))), (vi 2)] [(.ref oa)])) rfl rfl (hb hby d16_38)
  have pre17 := Go.thn pre15 st16
  have pre18 : Go p e below T16 _ (mkF m 43 #[(vr oa), (vi p1), (vi p2), (vi p3), (vi ((f17 p1 p2 p3) &&& (4095 : Int32))), (vi 2)] [(.int 2), (.ref qlv)]) _ := fun t k => pre17 t (by
    refine XS.iload X16.here hx rfl (hb hby d16_41) rfl ?_
    exact k)
  obtain ⟨cl19, Ar19, Sz19, Mn19, Hs19⟩ := id B0.a_lv
  have ib19 : ¬ (2 : Int32) < 0 ∧ (2 : Int32) < 4096 := ⟨by decide, by decide⟩
  have hat19 : cl19.slots[((2 : Int32)).toNatClampNeg]? = some (.int (xlv 2)) := Hs19 (2 : Int32) ib19
  have pre20 : Go p e below T16 _ (mkF m 44 #[(vr oa), (vi p1), (vi p2), (vi p3), (vi ((f17 p1 p2 p3) &&& (4095 : Int32))), (vi 2)] [(.int (xlv 2))]) _ := fun t k => pre18 t (by
    show Steps p.tables e below (T16.setTop (mkF m 43 #[(vr oa), (vi p1), (vi p2), (vi p3), (vi ((f17 p1 p2 p3) &&& (4095 : Int32))), (vi 2)] [(.int 2), (.ref qlv)])) _
    refine X16.iaload hx (j := (2 : Int32)) (v := (.int (xlv 2))) (by rw [e16]; exact Ar19.1) (State.isArrayOf_alike hZ.alike Ar19.2.1) Ar19.2.2 (inb_of Sz19 ib19) hat19 (g := (mkF m 43 #[(vr oa), (vi p1), (vi p2), (vi p3), (vi ((f17 p1 p2 p3) &&& (4095 : Int32))), (vi 2)] [(.int 2), (.ref qlv)])) rfl rfl (hb hby d16_43) _ ?_
    exact k)
  have pre21 : Go p e below T16 _ (mkF m 49 #[(vr oa), (vi p1), (vi p2), (vi p3), (vi ((f17 p1 p2 p3) &&& (4095 : Int32))), (vi 2)] [(.ref oa)]) _ := fun t k => pre20 t (by
    refine XS.iloadN X16.here hx rfl (hb hby d16_44) rfl ?_
    refine XS.icmpNo X16.here hx rfl (hb hby d16_45) rfl (teq hx1).2 ?_
    refine XS.aloadN X16.here hx rfl (hb hby d16_48) rfl rfl ?_
    exact k)
  obtain ⟨T22, X22, e22, st22⟩ := getF X16 hx hZ hown (host := "") (Or.inl (wq hw 38 rfl)) Via.refl e16 B0.f_lo (g := (mkF m 49 #[(vr oa), (vi p1), (vi p2), (vi p3), (vi ((f17 p1 p2 p3) &&& (4095 : Int32))), (vi 2)] [(.ref oa)])) rfl rfl (hb hby d16_49)
  have pre23 := Go.thn pre21 st22
  have pre24 : Go p e below T22 _ (mkF m 54 #[(vr oa), (vi p1), (vi p2), (vi p3), (vi ((f17 p1 p2 p3) &&& (4095 : Int32))), (vi 2)] [(.int 2), (.ref qlo)]) _ := fun t k => pre23 t (by
    refine XS.iload X22.here hx rfl (hb hby d16_52) rfl ?_
    exact k)
  obtain ⟨cl25, Ar25, Sz25, Mn25, Hs25⟩ := id B0.a_lo
  have ib25 : ¬ (2 : Int32) < 0 ∧ (2 : Int32) < 4096 := ⟨by decide, by decide⟩
  have hat25 : cl25.slots[((2 : Int32)).toNatClampNeg]? = some (.int (xlo 2)) := Hs25 (2 : Int32) ib25
  have pre26 : Go p e below T22 _ (mkF m 55 #[(vr oa), (vi p1), (vi p2), (vi p3), (vi ((f17 p1 p2 p3) &&& (4095 : Int32))), (vi 2)] [(.int (xlo 2))]) _ := fun t k => pre24 t (by
    show Steps p.tables e below (T22.setTop (mkF m 54 #[(vr oa), (vi p1), (vi p2), (vi p3), (vi ((f17 p1 p2 p3) &&& (4095 : Int32))), (vi 2)] [(.int 2), (.ref qlo)])) _
    refine X22.iaload hx (j := (2 : Int32)) (v := (.int (xlo 2))) (by rw [e22]; exact Ar25.1) (State.isArrayOf_alike hZ.alike Ar25.2.1) Ar25.2.2 (inb_of Sz25 ib25) hat25 (g := (mkF m 54 #[(vr oa), (vi p1), (vi p2), (vi p3), (vi ((f17 p1 p2 p3) &&& (4095 : Int32))), (vi 2)] [(.int 2), (.ref qlo)])) rfl rfl (hb hby d16_54) _ ?_
    exact k)
  have pre27 : Go p e below T22 _ (mkF m 60 #[(vr oa), (vi p1), (vi p2), (vi p3), (vi ((f17 p1 p2 p3) &&& (4095 : Int32))), (vi 2)] [(.ref oa)]) _ := fun t k => pre26 t (by
    refine XS.iloadN X22.here hx rfl (hb hby d16_55) rfl ?_
    refine XS.icmpNo X22.here hx rfl (hb hby d16_56) rfl (teq hx2).2 ?_
    refine XS.aloadN X22.here hx rfl (hb hby d16_59) rfl rfl ?_
    exact k)
  obtain ⟨T28, X28, e28, st28⟩ := getF X22 hx hZ hown (host := "") (Or.inl (wq hw 40 rfl)) Via.refl e22 B0.f_hi (g := (mkF m 60 #[(vr oa), (vi p1), (vi p2), (vi p3), (vi ((f17 p1 p2 p3) &&& (4095 : Int32))), (vi 2)] [(.ref oa)])) rfl rfl (hb hby d16_60)
  have pre29 := Go.thn pre27 st28
  have pre30 : Go p e below T28 _ (mkF m 65 #[(vr oa), (vi p1), (vi p2), (vi p3), (vi ((f17 p1 p2 p3) &&& (4095 : Int32))), (vi 2)] [(.int 2), (.ref qhi)]) _ := fun t k => pre29 t (by
    refine XS.iload X28.here hx rfl (hb hby d16_63) rfl ?_
    exact k)
  obtain ⟨cl31, Ar31, Sz31, Mn31, Hs31⟩ := id B0.a_hi
  have ib31 : ¬ (2 : Int32) < 0 ∧ (2 : Int32) < 4096 := ⟨by decide, by decide⟩
  have hat31 : cl31.slots[((2 : Int32)).toNatClampNeg]? = some (.int (xhi 2)) := Hs31 (2 : Int32) ib31
  have pre32 : Go p e below T28 _ (mkF m 66 #[(vr oa), (vi p1), (vi p2), (vi p3), (vi ((f17 p1 p2 p3) &&& (4095 : Int32))), (vi 2)] [(.int (xhi 2))]) _ := fun t k => pre30 t (by
    show Steps p.tables e below (T28.setTop (mkF m 65 #[(vr oa), (vi p1), (vi p2), (vi p3), (vi ((f17 p1 p2 p3) &&& (4095 : Int32))), (vi 2)] [(.int 2), (.ref qhi)])) _
    refine X28.iaload hx (j := (2 : Int32)) (v := (.int (xhi 2))) (by rw [e28]; exact Ar31.1) (State.isArrayOf_alike hZ.alike Ar31.2.1) Ar31.2.2 (inb_of Sz31 ib31) hat31 (g := (mkF m 65 #[(vr oa), (vi p1), (vi p2), (vi p3), (vi ((f17 p1 p2 p3) &&& (4095 : Int32))), (vi 2)] [(.int 2), (.ref qhi)])) rfl rfl (hb hby d16_65) _ ?_
    exact k)
  have pre33 : Go p e below T28 _ (mkF m 72 #[(vr oa), (vi p1), (vi p2), (vi p3), (vi ((f17 p1 p2 p3) &&& (4095 : Int32))), (vi 2)] [(.int 2)]) _ := fun t k => pre32 t (by
    refine XS.iloadN X28.here hx rfl (hb hby d16_66) rfl ?_
    refine XS.icmpNo X28.here hx rfl (hb hby d16_67) rfl (teq hx3).2 ?_
    refine XS.iload X28.here hx rfl (hb hby d16_70) rfl ?_
    exact k)
  obtain ⟨fs, hr, hrun, hended, hW, hsame⟩ := X28.leave (v := some (.int 2)) (fun h => by rw [Bd.returns] at h; cases h)
  refine ⟨_, _, ?_, hrun, hended, _, _, rfl, ?_, ⟨_, rfl⟩, hW, hsame.mono (by decide) (by decide)⟩
  · exact pre33 _ (retI X28 hx Bd.returns (hb hby d16_72) hr)
  · exact ⟨rfl, N2, e28⟩
theorem d12_0 : DK cd12 0 (.aload_n 0) 1 := by decide +kernel
theorem d12_1 : DK cd12 1 (.iload_n 1) 1 := by decide +kernel
theorem d12_2 : DK cd12 2 (.invokevirtual 53) 3 := by decide +kernel
theorem d12_5 : DK cd12 5 (.aload_n 0) 1 := by decide +kernel
theorem d12_6 : DK cd12 6 (.invokevirtual 56) 3 := by decide +kernel
theorem d12_9 : DK cd12 9 (.aload_n 0) 1 := by decide +kernel
theorem d12_10 : DK cd12 10 (.aload_n 0) 1 := by decide +kernel
theorem d12_11 : DK cd12 11 (.iload_n 1) 1 := by decide +kernel
theorem d12_12 : DK cd12 12 (.iconst 0) 1 := by decide +kernel
theorem d12_13 : DK cd12 13 (.iconst 1) 1 := by decide +kernel
theorem d12_14 : DK cd12 14 (.invokevirtual 59) 3 := by decide +kernel
theorem d12_17 : DK cd12 17 (.invokevirtual 49) 3 := by decide +kernel
theorem d12_20 : DK cd12 20 .areturn 1 := by decide +kernel
theorem pn_12 : plainName "com/example/slim_kripke/slimkripke/bdd/BddManager" = true := by first | (simp [plainName, overriddenIn]; done) | decide +kernel
theorem pd__I_Lcom_example_slim_kripke_slimkripke_bdd_Bdd_ : parseMethodDescriptor "(I)Lcom/example/slim_kripke/slimkripke/bdd/Bdd;" = some ⟨[.int], some (.object "com/example/slim_kripke/slimkripke/bdd/Bdd")⟩ := by decide +kernel
theorem ef_12n (m : MethodId) (x0 : Addr) (x1 : Int32) : entryFrame m #[(.ref x0), (.int x1)] 2 = mkF m 0 #[.val (.ref x0), .val (.int x1)] [] := by first | (simp [entryFrame, mkF, argsToLocals, Value.category]; done) | rfl
theorem rm12n (l : Launch) (Z : State) (a0 : Array Value) (hw : ∀ d ∈ tables_1, d.before a0 Z = true) (ws : List Jvm.Cond) {oa qcs qcf qpe qlv qlo qhi qrf qch qbk qca : Addr} {xn xs kk xfc xdp xcz xli xpk : Int32} {xlv xlo xhi xrf xch xbk xca xcf xpe : Int32 → Int32} (p1 : Int32) (h0 : Heap) (n0 : Nat) (Z0 : n0 ≤ h0.size) (B0 : Mg Z n0 h0 oa qcs qcf qpe qlv qlo qhi qrf qch qbk qca xn xs kk xfc xdp xcz xli xpk xlv xlo xhi xrf xch xbk xca xcf xpe) (hp1 : ¬ p1 < 0) (hp2 : p1 < xn) (hfc : ¬ xfc < (4096 / 5)) (hf0 : ¬ xfc = 0) (hwk : own_walk xlv xlo xhi xch p1 0 1 3 (xbk ((f17 p1 0 1) &&& 4095))) (hk1 : 1 < kk) (hk : ¬ kk < 0 ∧ kk < 4096) :
    Met1 l Nm_26 (Jvm.Cond.code Nm_26 prog_5_method_7_code 2 (some (.object "com/example/slim_kripke/slimkripke/bdd/Bdd"))) ws (rom 3 1 2 58) #[(.ref oa), (.int p1)] Z h0 (QR n0 (fun h => Mg Z n0 h oa qcs qcf qpe qlv qlo qhi qrf qch qbk qca xn xs (xch kk) (xfc - 1) 0 0 (xli + 1) (f22 xpk (xli + 1)) (own_up xlv kk p1) (own_up xlo kk 0) (own_up xhi kk 1) (own_up (own_up xrf kk 0) kk (((own_up xrf kk 0) kk) + 1)) (own_up xch kk (xbk ((f17 p1 0 1) &&& 4095))) (own_up xbk ((f17 p1 0 1) &&& 4095) kk) xca xcf (own_up (own_up (own_up xpe 0 kk) 0 0) 1 1))) := by
  refine MetFree.of_bodySF (plainFor_of_name pn_12) hisR ?_
  intro p e s m args below meth c s₁ Bd hml0 hP hK
  obtain ⟨rfl, hZ, hh⟩ := hP
  have hx := Bd.exec
  have hby := Bd.bytes
  have hml : c.maxLocals = 2 := hml0
  have hown : s.vm.findClass "com/example/slim_kripke/slimkripke/bdd/BddManager" = some m.cls := findClass_of_methodNamed Bd.named
  have X0 : Stand p l e (rom 3 1 2 58) s m _ _ _ _ _ [] 0 0 := Stand.of_body Bd
  have e0 : s₁.heap = h0 := by rw [← hh, Bd.state]; rfl
  have N0 := Fr.nil n0
  have K0 : Keep h0 h0 [] := Keep.refl _ _
  have pre0 : Go p e below s₁ _ (mkF m 0 #[(vr oa), (vi p1)] []) _ := fun t k => castTop (ef_12n m oa p1) k
  have pre1 : Go p e below s₁ _ (mkF m 2 #[(vr oa), (vi p1)] [(.int p1), (.ref oa)]) _ := fun t k => pre0 t (by
    refine XS.aloadN X0.here hx rfl (hb hby d12_0) rfl rfl ?_
    refine XS.iloadN X0.here hx rfl (hb hby d12_1) rfl ?_
    exact k)
  obtain ⟨cq2, q2, q2'⟩ := B0.e.cell
  obtain ⟨_, _, ⟨T2, L2, k2, n2⟩, -, X2, ⟨Lc2, hQ2, l2, y2, z2⟩, st2⟩ := X0.privateBack hx (y := Nm_16) hown (mq hZ hw 90 rfl) (mq hZ hw 91 rfl) (own_seli (mq hZ hw 2 rfl) (pq hZ hw 92 rfl) (mq hZ hw 91 rfl) (by decide)) (pq hZ hw 92 rfl) (mq hZ hw 93 rfl) (by decide) (backOf (W := 0) (rm13 l Z a0 hw [] p1 h0 n0 B0.z B0 hp1 hp2) hZ (wq hw 93 rfl) (wq hw 3 rfl) (by decide) (by decide)) (g := (mkF m 2 #[(vr oa), (vi p1)] [(.int p1), (.ref oa)])) rfl (by rw [hml]; rfl) (Steps.refl _) (a := oa) (by rw [e0]; exact q2) q2' (argsL := [(.int p1)]) (rest := []) (lenOf pd__I_V rfl) rfl (w00 rfl) (hb hby d12_2) (fun _ _ => ⟨rfl, e0, zz, zz⟩)
  dsimp only [Pt.U, Pt.locs, Pt.cells, Pt.slots] at X2 l2 y2 z2 st2 hQ2
  subst y2 z2
  obtain ⟨rfl, Nq2, e2⟩ := hQ2
  have N2 := FrE l2 N0 Nq2
  have pre3 := Go.trn pre1 st2
  have pre4 : Go p e below T2 _ (mkF m 6 #[(vr oa), (vi p1)] [(.ref oa)]) _ := fun t k => pre3 t (by
    refine XS.aloadN X2.here hx rfl (hb hby d12_5) rfl rfl ?_
    exact k)
  obtain ⟨cq5, q5, q5'⟩ := B0.e.cell
  obtain ⟨_, _, ⟨T5, L5, k5, n5⟩, -, X5, ⟨Lc5, hQ5, l5, y5, z5⟩, st5⟩ := X2.privateBack hx (y := Nm_14) hown (mq hZ hw 94 rfl) (mq hZ hw 95 rfl) (own_seli (mq hZ hw 2 rfl) (pq hZ hw 96 rfl) (mq hZ hw 95 rfl) (by decide)) (pq hZ hw 96 rfl) (mq hZ hw 97 rfl) (by decide) (backOf (W := 0) (rm14 l Z a0 hw []  h0 n0 B0.z B0 hfc) hZ (wq hw 97 rfl) (wq hw 3 rfl) (by decide) (by decide)) (g := (mkF m 6 #[(vr oa), (vi p1)] [(.ref oa)])) rfl (by rw [hml]; rfl) (Steps.refl _) (a := oa) (by rw [e2]; exact q5) q5' (argsL := []) (rest := []) (lenOf pd___V rfl) rfl (w00 rfl) (hb hby d12_6) (fun _ _ => ⟨rfl, e2, zz, zz⟩)
  dsimp only [Pt.U, Pt.locs, Pt.cells, Pt.slots] at X5 l5 y5 z5 st5 hQ5
  subst y5 z5
  obtain ⟨rfl, Nq5, Bq5⟩ := hQ5
  have N5 := FrE l5 N2 Nq5
  have B5 : Mg Z n0 T5.heap oa _ _ _ _ _ _ _ _ _ _ xn xs kk xfc 0 0 xli xpk xlv xlo xhi xrf xch xbk xca xcf xpe := Bq5
  have pre6 := Go.trn pre4 st5
  have pre7 : Go p e below T5 _ (mkF m 14 #[(vr oa), (vi p1)] [(.int 1), (.int 0), (.int p1), (.ref oa), (.ref oa)]) _ := fun t k => pre6 t (by
    refine XS.aloadN X5.here hx rfl (hb hby d12_9) rfl rfl ?_
    refine XS.aloadN X5.here hx rfl (hb hby d12_10) rfl rfl ?_
    refine XS.iloadN X5.here hx rfl (hb hby d12_11) rfl ?_
    refine XS.iconst X5.here hx rfl (hb hby d12_12) ?_
    refine XS.iconst X5.here hx rfl (hb hby d12_13) ?_
    exact k)
  obtain ⟨cq8, q8, q8'⟩ := B5.e.cell
  obtain ⟨_, _, ⟨T8, L8, k8, n8⟩, -, X8, ⟨Lc8, hQ8, l8, y8, z8⟩, st8⟩ := X5.privateBack hx (y := Nm_25) hown (mq hZ hw 107 rfl) (mq hZ hw 108 rfl) (own_seli (mq hZ hw 2 rfl) (pq hZ hw 109 rfl) (mq hZ hw 108 rfl) (by decide)) (pq hZ hw 109 rfl) (mq hZ hw 110 rfl) (by decide) (backOf (W := 1) (rm16n l Z a0 hw [] p1 (0 : Int32) (1 : Int32) T5.heap n0 B5.z B5 (by decide) hwk hf0 hk) hZ (wq hw 110 rfl) (wq hw 3 rfl) (by decide) (by decide)) (g := (mkF m 14 #[(vr oa), (vi p1)] [(.int 1), (.int 0), (.int p1), (.ref oa), (.ref oa)])) rfl (by rw [hml]; rfl) (Steps.refl _) (a := oa) q8 q8' (argsL := [(.int p1), (.int 0), (.int 1)]) (rest := [(.ref oa)]) (lenOf pd__III_I rfl) rfl (w00 rfl) (hb hby d12_14) (fun _ _ => ⟨rfl, rfl, zz, zz⟩)
  dsimp only [Pt.U, Pt.locs, Pt.cells, Pt.slots] at X8 l8 y8 z8 st8 hQ8
  subst y8 z8
  obtain ⟨rfl, Nq8, Bq8⟩ := hQ8
  have N8 := FrE l8 N5 Nq8
  have B8 : Mg Z n0 T8.heap oa _ _ _ _ _ _ _ _ _ _ xn xs (xch kk) (xfc - 1) 0 0 xli xpk (own_up xlv kk p1) (own_up xlo kk 0) (own_up xhi kk 1) (own_up xrf kk 0) (own_up xch kk (xbk ((f17 p1 0 1) &&& 4095))) (own_up xbk ((f17 p1 0 1) &&& 4095) kk) xca xcf xpe := Bq8
  have pre9 := Go.trn pre7 st8
  obtain ⟨cq10, kq10, q10a, q10b, q10c⟩ := isOf hZ rfl B8.e
  obtain ⟨_, _, ⟨T10, L10, k10, n10⟩, -, X10, ⟨Lc10, hQ10, l10, y10, z10⟩, st10⟩ := X8.virtualBack hx (y := Nm_24) (z := Nm_24) hown (mq hZ hw 120 rfl) (mq hZ hw 121 rfl) (notFace_of_selects (args := #[]) (mq hZ hw 123 rfl)) (mq hZ hw 123 rfl) (mq hZ hw 122 rfl) (by decide) (backOf (W := 0) (rm19n l Z a0 hw [] kk T8.heap n0 B8.z B8 hk1 hk.1 hk.2 (own_up_s _ _ _) (own_up_s _ _ _) (own_up_s _ _ _)) hZ (wq hw 124 rfl) (wq hw 3 rfl) (by decide) (by decide)) q10a q10c (g := (mkF m 17 #[(vr oa), (vi p1)] [(.int kk), (.ref oa)])) rfl (by rw [hml]; rfl) (Steps.refl _) (argsL := [(.int kk)]) (rest := []) (lenOf pd__I_Lcom_example_slim_kripke_slimkripke_bdd_Bdd_ rfl) rfl (w00 rfl) (hb hby d12_17) (fun _ _ => ⟨rfl, rfl, (by decide : 0 + 1 ≤ _), (by decide : 0 + 2 ≤ _)⟩)
  dsimp only [Pt.U, Pt.locs, Pt.cells, Pt.slots] at X10 l10 y10 z10 st10 hQ10
  subst y10 z10
  obtain ⟨r17, rfl, Nq10, Bq10⟩ := hQ10
  have N10 := FrE l10 N8 Nq10
  have B10 : Mg Z n0 T10.heap oa _ _ _ _ _ _ _ _ _ _ xn xs (xch kk) (xfc - 1) 0 0 (xli + 1) (f22 xpk (xli + 1)) (own_up xlv kk p1) (own_up xlo kk 0) (own_up xhi kk 1) (own_up (own_up xrf kk 0) kk (((own_up xrf kk 0) kk) + 1)) (own_up xch kk (xbk ((f17 p1 0 1) &&& 4095))) (own_up xbk ((f17 p1 0 1) &&& 4095) kk) xca xcf (own_up (own_up (own_up xpe 0 kk) 0 0) 1 1) := Bq10
  have pre11 := Go.trn pre9 st10
  obtain ⟨fs, hr, hrun, hended, hW, hsame⟩ := X10.leave (v := some (.ref r17)) (fun h => by rw [Bd.returns] at h; cases h)
  refine ⟨_, _, ?_, hrun, hended, _, _, rfl, ?_, ⟨_, rfl⟩, hW, hsame.mono (by decide) (by decide)⟩
  · refine pre11 _ ?_
    jvm_step X10.here [X10.here.top, hx, (hb hby d12_20), X10.method', Bd.returns, Value.isRef, FieldType.isReference]
    first | (intro acts; rw [hr _ acts rfl rfl rfl]) | rw [hr _ _ rfl rfl rfl]
    exact Steps.refl _
  · show QR _ _ _ T10.heap _
    skip
    exact ⟨_, rfl, N10, B10⟩
theorem rm12f (l : Launch) (Z : State) (a0 : Array Value) (hw : ∀ d ∈ tables_1, d.before a0 Z = true) (ws : List Jvm.Cond) {oa qcs qcf qpe qlv qlo qhi qrf qch qbk qca : Addr} {xn xs xff xfc xdp xcz xli xpk : Int32} {xlv xlo xhi xrf xch xbk xca xcf xpe : Int32 → Int32} (p1 : Int32) (h0 : Heap) (n0 : Nat) (Z0 : n0 ≤ h0.size) (B0 : Mg Z n0 h0 oa qcs qcf qpe qlv qlo qhi qrf qch qbk qca xn xs xff xfc xdp xcz xli xpk xlv xlo xhi xrf xch xbk xca xcf xpe) (hp1 : ¬ p1 < 0) (hp2 : p1 < xn) (hfc : ¬ xfc < (4096 / 5)) (hbk2 : (xbk ((f17 p1 0 1) &&& 4095)) = 2) (hx1 : (xlv 2) = p1) (hx2 : (xlo 2) = 0) (hx3 : (xhi 2) = 1) (hrf : ¬ (xrf 2) = 0) :
    Met1 l Nm_26 (Jvm.Cond.code Nm_26 prog_5_method_7_code 2 (some (.object "com/example/slim_kripke/slimkripke/bdd/Bdd"))) ws (rom 3 1 2 58) #[(.ref oa), (.int p1)] Z h0 (QR n0 (fun h => Mg Z n0 h oa qcs qcf qpe qlv qlo qhi qrf qch qbk qca xn xs xff xfc 0 0 xli (f22 xpk xli) xlv xlo xhi (own_up xrf 2 ((xrf 2) + 1)) xch xbk xca xcf (own_up xpe 0 2))) := by
  refine MetFree.of_bodySF (plainFor_of_name pn_12) hisR ?_
  intro p e s m args below meth c s₁ Bd hml0 hP hK
  obtain ⟨rfl, hZ, hh⟩ := hP
  have hx := Bd.exec
  have hby := Bd.bytes
  have hml : c.maxLocals = 2 := hml0
  have hown : s.vm.findClass "com/example/slim_kripke/slimkripke/bdd/BddManager" = some m.cls := findClass_of_methodNamed Bd.named
  have X0 : Stand p l e (rom 3 1 2 58) s m _ _ _ _ _ [] 0 0 := Stand.of_body Bd
  have e0 : s₁.heap = h0 := by rw [← hh, Bd.state]; rfl
  have N0 := Fr.nil n0
  have K0 : Keep h0 h0 [] := Keep.refl _ _
  have pre0 : Go p e below s₁ _ (mkF m 0 #[(vr oa), (vi p1)] []) _ := fun t k => castTop (ef_12n m oa p1) k
  have pre1 : Go p e below s₁ _ (mkF m 2 #[(vr oa), (vi p1)] [(.int p1), (.ref oa)]) _ := fun t k => pre0 t (by
    refine XS.aloadN X0.here hx rfl (hb hby d12_0) rfl rfl ?_
    refine XS.iloadN X0.here hx rfl (hb hby d12_1) rfl ?_
    exact k)
  obtain ⟨cq2, q2, q2'⟩ := B0.e.cell
  obtain ⟨_, _, ⟨T2, L2, k2, n2⟩, -, X2, ⟨Lc2, hQ2, l2, y2, z2⟩, st2⟩ := X0.privateBack hx (y := Nm_16) hown (mq hZ hw 90 rfl) (mq hZ hw 91 rfl) (own_seli (mq hZ hw 2 rfl) (pq hZ hw 92 rfl) (mq hZ hw 91 rfl) (by decide)) (pq hZ hw 92 rfl) (mq hZ hw 93 rfl) (by decide) (backOf (W := 0) (rm13 l Z a0 hw [] p1 h0 n0 B0.z B0 hp1 hp2) hZ (wq hw 93 rfl) (wq hw 3 rfl) (by decide) (by decide)) (g := (mkF m 2 #[(vr oa), (vi p1)] [(.int p1), (.ref oa)])) rfl (by rw [hml]; rfl) (Steps.refl _) (a := oa) (by rw [e0]; exact q2) q2' (argsL := [(.int p1)]) (rest := []) (lenOf pd__I_V rfl) rfl (w00 rfl) (hb hby d12_2) (fun _ _ => ⟨rfl, e0, zz, zz⟩)
  dsimp only [Pt.U, Pt.locs, Pt.cells, Pt.slots] at X2 l2 y2 z2 st2 hQ2
  subst y2 z2
  obtain ⟨rfl, Nq2, e2⟩ := hQ2
  have N2 := FrE l2 N0 Nq2
  have pre3 := Go.trn pre1 st2
  have pre4 : Go p e below T2 _ (mkF m 6 #[(vr oa), (vi p1)] [(.ref oa)]) _ := fun t k => pre3 t (by
    refine XS.aloadN X2.here hx rfl (hb hby d12_5) rfl rfl ?_
    exact k)
  obtain ⟨cq5, q5, q5'⟩ := B0.e.cell
  obtain ⟨_, _, ⟨T5, L5, k5, n5⟩, -, X5, ⟨Lc5, hQ5, l5, y5, z5⟩, st5⟩ := X2.privateBack hx (y := Nm_14) hown (mq hZ hw 94 rfl) (mq hZ hw 95 rfl) (own_seli (mq hZ hw 2 rfl) (pq hZ hw 96 rfl) (mq hZ hw 95 rfl) (by decide)) (pq hZ hw 96 rfl) (mq hZ hw 97 rfl) (by decide) (backOf (W := 0) (rm14 l Z a0 hw []  h0 n0 B0.z B0 hfc) hZ (wq hw 97 rfl) (wq hw 3 rfl) (by decide) (by decide)) (g := (mkF m 6 #[(vr oa), (vi p1)] [(.ref oa)])) rfl (by rw [hml]; rfl) (Steps.refl _) (a := oa) (by rw [e2]; exact q5) q5' (argsL := []) (rest := []) (lenOf pd___V rfl) rfl (w00 rfl) (hb hby d12_6) (fun _ _ => ⟨rfl, e2, zz, zz⟩)
  dsimp only [Pt.U, Pt.locs, Pt.cells, Pt.slots] at X5 l5 y5 z5 st5 hQ5
  subst y5 z5
  obtain ⟨rfl, Nq5, Bq5⟩ := hQ5
  have N5 := FrE l5 N2 Nq5
  have B5 : Mg Z n0 T5.heap oa _ _ _ _ _ _ _ _ _ _ xn xs xff xfc 0 0 xli xpk xlv xlo xhi xrf xch xbk xca xcf xpe := Bq5
  have pre6 := Go.trn pre4 st5
  have pre7 : Go p e below T5 _ (mkF m 14 #[(vr oa), (vi p1)] [(.int 1), (.int 0), (.int p1), (.ref oa), (.ref oa)]) _ := fun t k => pre6 t (by
    refine XS.aloadN X5.here hx rfl (hb hby d12_9) rfl rfl ?_
    refine XS.aloadN X5.here hx rfl (hb hby d12_10) rfl rfl ?_
    refine XS.iloadN X5.here hx rfl (hb hby d12_11) rfl ?_
    refine XS.iconst X5.here hx rfl (hb hby d12_12) ?_
    refine XS.iconst X5.here hx rfl (hb hby d12_13) ?_
    exact k)
  obtain ⟨cq8, q8, q8'⟩ := B5.e.cell
  obtain ⟨_, _, ⟨T8, L8, k8, n8⟩, -, X8, ⟨Lc8, hQ8, l8, y8, z8⟩, st8⟩ := X5.privateBack hx (y := Nm_25) hown (mq hZ hw 107 rfl) (mq hZ hw 108 rfl) (own_seli (mq hZ hw 2 rfl) (pq hZ hw 109 rfl) (mq hZ hw 108 rfl) (by decide)) (pq hZ hw 109 rfl) (mq hZ hw 110 rfl) (by decide) (backOf (W := 1) (rm16f l Z a0 hw [] p1 (0 : Int32) (1 : Int32) T5.heap n0 B5.z B5 (by decide) hbk2 hx1 hx2 hx3) hZ (wq hw 110 rfl) (wq hw 3 rfl) (by decide) (by decide)) (g := (mkF m 14 #[(vr oa), (vi p1)] [(.int 1), (.int 0), (.int p1), (.ref oa), (.ref oa)])) rfl (by rw [hml]; rfl) (Steps.refl _) (a := oa) q8 q8' (argsL := [(.int p1), (.int 0), (.int 1)]) (rest := [(.ref oa)]) (lenOf pd__III_I rfl) rfl (w00 rfl) (hb hby d12_14) (fun _ _ => ⟨rfl, rfl, zz, zz⟩)
  dsimp only [Pt.U, Pt.locs, Pt.cells, Pt.slots] at X8 l8 y8 z8 st8 hQ8
  subst y8 z8
  obtain ⟨rfl, Nq8, e8⟩ := hQ8
  have N8 := FrE l8 N5 Nq8
  have pre9 := Go.trn pre7 st8
  obtain ⟨cq10, kq10, q10a, q10b, q10c⟩ := isOf hZ e8 B5.e
  obtain ⟨_, _, ⟨T10, L10, k10, n10⟩, -, X10, ⟨Lc10, hQ10, l10, y10, z10⟩, st10⟩ := X8.virtualBack hx (y := Nm_24) (z := Nm_24) hown (mq hZ hw 120 rfl) (mq hZ hw 121 rfl) (notFace_of_selects (args := #[]) (mq hZ hw 123 rfl)) (mq hZ hw 123 rfl) (mq hZ hw 122 rfl) (by decide) (backOf (W := 0) (rm19o l Z a0 hw [] (2 : Int32) T5.heap n0 B5.z B5 (by decide) (by decide) (by decide) hrf) hZ (wq hw 124 rfl) (wq hw 3 rfl) (by decide) (by decide)) q10a q10c (g := (mkF m 17 #[(vr oa), (vi p1)] [(.int 2), (.ref oa)])) rfl (by rw [hml]; rfl) (Steps.refl _) (argsL := [(.int 2)]) (rest := []) (lenOf pd__I_Lcom_example_slim_kripke_slimkripke_bdd_Bdd_ rfl) rfl (w00 rfl) (hb hby d12_17) (fun _ _ => ⟨rfl, e8, (by decide : 0 + 1 ≤ _), (by decide : 0 + 2 ≤ _)⟩)
  dsimp only [Pt.U, Pt.locs, Pt.cells, Pt.slots] at X10 l10 y10 z10 st10 hQ10
  subst y10 z10
  obtain ⟨r17, rfl, Nq10, Bq10⟩ := hQ10
  have N10 := FrE l10 N8 Nq10
  have B10 : Mg Z n0 T10.heap oa _ _ _ _ _ _ _ _ _ _ xn xs xff xfc 0 0 xli (f22 xpk xli) xlv xlo xhi (own_up xrf 2 ((xrf 2) + 1)) xch xbk xca xcf (own_up xpe 0 2) := Bq10
  have pre11 := Go.trn pre9 st10
  obtain ⟨fs, hr, hrun, hended, hW, hsame⟩ := X10.leave (v := some (.ref r17)) (fun h => by rw [Bd.returns] at h; cases h)
  refine ⟨_, _, ?_, hrun, hended, _, _, rfl, ?_, ⟨_, rfl⟩, hW, hsame.mono (by decide) (by decide)⟩
  · refine pre11 _ ?_
    jvm_step X10.here [X10.here.top, hx, (hb hby d12_20), X10.method', Bd.returns, Value.isRef, FieldType.isReference]
    first | (intro acts; rw [hr _ acts rfl rfl rfl]) | rw [hr _ _ rfl rfl rfl]
    exact Steps.refl _
  · show QR _ _ _ T10.heap _
    skip
    exact ⟨_, rfl, N10, B10⟩
theorem d34_0 : DK cd34 0 (.aload_n 0) 1 := by decide +kernel
theorem d34_1 : DK cd34 1 (.getfield 13) 3 := by decide +kernel
theorem d34_4 : DK cd34 4 .ireturn 1 := by decide +kernel
theorem pn_34 : plainName "com/example/slim_kripke/slimkripke/bdd/CallStack" = true := by first | (simp [plainName, overriddenIn]; done) | decide +kernel
theorem ef_34 (m : MethodId) (x0 : Addr) : entryFrame m #[(.ref x0)] 1 = mkF m 0 #[.val (.ref x0)] [] := by first | (simp [entryFrame, mkF, argsToLocals, Value.category]; done) | rfl
theorem rm34 (l : Launch) (Z : State) (a0 : Array Value) (hw : ∀ d ∈ tables_1, d.before a0 Z = true) (ws : List Jvm.Cond) {oa qcs qcf qpe qlv qlo qhi qrf qch qbk qca : Addr} {xn xs xff xfc xdp xcz xli xpk : Int32} {xlv xlo xhi xrf xch xbk xca xcf xpe : Int32 → Int32} (h0 : Heap) (n0 : Nat) (Z0 : n0 ≤ h0.size) (B0 : Mg Z n0 h0 oa qcs qcf qpe qlv qlo qhi qrf qch qbk qca xn xs xff xfc xdp xcz xli xpk xlv xlo xhi xrf xch xbk xca xcf xpe) :
    Met1 l Nm_27 (Jvm.Cond.code Nm_27 prog_7_method_2_code 1 (some .int)) ws (rom 0 0 0 0) #[(.ref qcs)] Z h0 (QP (some (.int xcz)) h0 n0) := by
  refine MetFree.of_bodySF (plainFor_of_name pn_34) hisR ?_
  intro p e s m args below meth c s₁ Bd hml0 hP hK
  obtain ⟨rfl, hZ, hh⟩ := hP
  have hx := Bd.exec
  have hby := Bd.bytes
  have hml : c.maxLocals = 1 := hml0
  have hown : s.vm.findClass "com/example/slim_kripke/slimkripke/bdd/CallStack" = some m.cls := findClass_of_methodNamed Bd.named
  have X0 : Stand p l e (rom 0 0 0 0) s m _ _ _ _ _ [] 0 0 := Stand.of_body Bd
  have e0 : s₁.heap = h0 := by rw [← hh, Bd.state]; rfl
  have N0 := Fr.nil n0
  have K0 : Keep h0 h0 [] := Keep.refl _ _
  have pre0 : Go p e below s₁ _ (mkF m 0 #[(vr qcs)] []) _ := fun t k => castTop (ef_34 m qcs) k
  have pre1 : Go p e below s₁ _ (mkF m 1 #[(vr qcs)] [(.ref qcs)]) _ := fun t k => pre0 t (by
    refine XS.aloadN X0.here hx rfl (hb hby d34_0) rfl rfl ?_
    exact k)
  obtain ⟨T2, X2, e2, st2⟩ := getF X0 hx hZ hown (host := "") (Or.inl (wq hw 105 rfl)) Via.refl e0 B0.f_cz (g := (mkF m 1 #[(vr qcs)] [(.ref qcs)])) rfl rfl (hb hby d34_1)
  have pre3 := Go.thn pre1 st2
  obtain ⟨fs, hr, hrun, hended, hW, hsame⟩ := X2.leave (v := some (.int xcz)) (fun h => by rw [Bd.returns] at h; cases h)
  refine ⟨_, _, ?_, hrun, hended, _, _, rfl, ?_, ⟨_, rfl⟩, hW, hsame.mono (by decide) (by decide)⟩
  · exact pre3 _ (retI X2 hx Bd.returns (hb hby d34_4) hr)
  · exact ⟨rfl, N0, e2⟩
theorem d36_0 : DK cd36 0 (.aload_n 0) 1 := by decide +kernel
theorem d36_1 : DK cd36 1 (.getfield 13) 3 := by decide +kernel
theorem d36_4 : DK cd36 4 (.iconst 1) 1 := by decide +kernel
theorem d36_5 : DK cd36 5 .isub 1 := by decide +kernel
theorem d36_6 : DK cd36 6 .ireturn 1 := by decide +kernel
theorem pn_36 : plainName "com/example/slim_kripke/slimkripke/bdd/CallStack" = true := by first | (simp [plainName, overriddenIn]; done) | decide +kernel
theorem ef_36 (m : MethodId) (x0 : Addr) : entryFrame m #[(.ref x0)] 1 = mkF m 0 #[.val (.ref x0)] [] := by first | (simp [entryFrame, mkF, argsToLocals, Value.category]; done) | rfl
theorem rm36 (l : Launch) (Z : State) (a0 : Array Value) (hw : ∀ d ∈ tables_1, d.before a0 Z = true) (ws : List Jvm.Cond) {oa qcs qcf qpe qlv qlo qhi qrf qch qbk qca : Addr} {xn xs xff xfc xdp xcz xli xpk : Int32} {xlv xlo xhi xrf xch xbk xca xcf xpe : Int32 → Int32} (h0 : Heap) (n0 : Nat) (Z0 : n0 ≤ h0.size) (B0 : Mg Z n0 h0 oa qcs qcf qpe qlv qlo qhi qrf qch qbk qca xn xs xff xfc xdp xcz xli xpk xlv xlo xhi xrf xch xbk xca xcf xpe) :
    Met1 l Nm_28 (Jvm.Cond.code Nm_28 prog_7_method_3_code 1 (some .int)) ws (rom 0 0 0 0) #[(.ref qcs)] Z h0 (QP (some (.int (xcz - 1))) h0 n0) := by
  refine MetFree.of_bodySF (plainFor_of_name pn_36) hisR ?_
  intro p e s m args below meth c s₁ Bd hml0 hP hK
  obtain ⟨rfl, hZ, hh⟩ := hP
  have hx := Bd.exec
  have hby := Bd.bytes
  have hml : c.maxLocals = 1 := hml0
  have hown : s.vm.findClass "com/example/slim_kripke/slimkripke/bdd/CallStack" = some m.cls := findClass_of_methodNamed Bd.named
  have X0 : Stand p l e (rom 0 0 0 0) s m _ _ _ _ _ [] 0 0 := Stand.of_body Bd
  have e0 : s₁.heap = h0 := by rw [← hh, Bd.state]; rfl
  have N0 := Fr.nil n0
  have K0 : Keep h0 h0 [] := Keep.refl _ _
  have pre0 : Go p e below s₁ _ (mkF m 0 #[(vr qcs)] []) _ := fun t k => castTop (ef_36 m qcs) k
  have pre1 : Go p e below s₁ _ (mkF m 1 #[(vr qcs)] [(.ref qcs)]) _ := fun t k => pre0 t (by
    refine XS.aloadN X0.here hx rfl (hb hby d36_0) rfl rfl ?_
    exact k)
  obtain ⟨T2, X2, e2, st2⟩ := getF X0 hx hZ hown (host := "") (Or.inl (wq hw 105 rfl)) Via.refl e0 B0.f_cz (g := (mkF m 1 #[(vr qcs)] [(.ref qcs)])) rfl rfl (hb hby d36_1)
  have pre3 := Go.thn pre1 st2
  have pre4 : Go p e below T2 _ (mkF m 6 #[(vr qcs)] [(.int (xcz - (1 : Int32)))]) _ := fun t k => pre3 t (by
    refine XS.iconst X2.here hx rfl (hb hby d36_4) ?_
    refine XS.isub X2.here hx rfl (hb hby d36_5) rfl ?_
    exact k)
  obtain ⟨fs, hr, hrun, hended, hW, hsame⟩ := X2.leave (v := some (.int (xcz - (1 : Int32)))) (fun h => by rw [Bd.returns] at h; cases h)
  refine ⟨_, _, ?_, hrun, hended, _, _, rfl, ?_, ⟨_, rfl⟩, hW, hsame.mono (by decide) (by decide)⟩
  · exact pre4 _ (retI X2 hx Bd.returns (hb hby d36_6) hr)
  · exact ⟨rfl, N0, e2⟩
theorem d35_0 : DK cd35 0 (.aload_n 0) 1 := by decide +kernel
theorem d35_1 : DK cd35 1 (.getfield 13) 3 := by decide +kernel
theorem d35_4 : DK cd35 4 (.iconst 1) 1 := by decide +kernel
theorem d35_5 : DK cd35 5 .iadd 1 := by decide +kernel
theorem d35_6 : DK cd35 6 (.iconst 5) 1 := by decide +kernel
theorem d35_7 : DK cd35 7 .imul 1 := by decide +kernel
theorem d35_8 : DK cd35 8 (.aload_n 0) 1 := by decide +kernel
theorem d35_9 : DK cd35 9 (.getfield 9) 3 := by decide +kernel
theorem d35_12 : DK cd35 12 .arraylength 1 := by decide +kernel
theorem d35_13 : DK cd35 13 (.if_icmp .le 41) 3 := by decide +kernel
theorem d35_54 : DK cd35 54 (.aload_n 0) 1 := by decide +kernel
theorem d35_55 : DK cd35 55 (.getfield 13) 3 := by decide +kernel
theorem d35_58 : DK cd35 58 (.iconst 5) 1 := by decide +kernel
theorem d35_59 : DK cd35 59 .imul 1 := by decide +kernel
theorem d35_60 : DK cd35 60 (.istore 6) 2 := by decide +kernel
theorem d35_62 : DK cd35 62 (.aload_n 0) 1 := by decide +kernel
theorem d35_63 : DK cd35 63 (.getfield 9) 3 := by decide +kernel
theorem d35_66 : DK cd35 66 (.iload 6) 2 := by decide +kernel
theorem d35_68 : DK cd35 68 (.iconst 0) 1 := by decide +kernel
theorem d35_69 : DK cd35 69 .iadd 1 := by decide +kernel
theorem d35_70 : DK cd35 70 (.iload_n 1) 1 := by decide +kernel
theorem d35_71 : DK cd35 71 .iastore 1 := by decide +kernel
theorem d35_72 : DK cd35 72 (.aload_n 0) 1 := by decide +kernel
theorem d35_73 : DK cd35 73 (.getfield 9) 3 := by decide +kernel
theorem d35_76 : DK cd35 76 (.iload 6) 2 := by decide +kernel
theorem d35_78 : DK cd35 78 (.iconst 1) 1 := by decide +kernel
theorem d35_79 : DK cd35 79 .iadd 1 := by decide +kernel
theorem d35_80 : DK cd35 80 (.iload_n 2) 1 := by decide +kernel
theorem d35_81 : DK cd35 81 .iastore 1 := by decide +kernel
theorem d35_82 : DK cd35 82 (.aload_n 0) 1 := by decide +kernel
theorem d35_83 : DK cd35 83 (.getfield 9) 3 := by decide +kernel
theorem d35_86 : DK cd35 86 (.iload 6) 2 := by decide +kernel
theorem d35_88 : DK cd35 88 (.iconst 2) 1 := by decide +kernel
theorem d35_89 : DK cd35 89 .iadd 1 := by decide +kernel
theorem d35_90 : DK cd35 90 (.iload_n 3) 1 := by decide +kernel
theorem d35_91 : DK cd35 91 .iastore 1 := by decide +kernel
theorem d35_92 : DK cd35 92 (.aload_n 0) 1 := by decide +kernel
theorem d35_93 : DK cd35 93 (.getfield 9) 3 := by decide +kernel
theorem d35_96 : DK cd35 96 (.iload 6) 2 := by decide +kernel
theorem d35_98 : DK cd35 98 (.iconst 3) 1 := by decide +kernel
theorem d35_99 : DK cd35 99 .iadd 1 := by decide +kernel
theorem d35_100 : DK cd35 100 (.iload 4) 2 := by decide +kernel
theorem d35_102 : DK cd35 102 .iastore 1 := by decide +kernel
theorem d35_103 : DK cd35 103 (.aload_n 0) 1 := by decide +kernel
theorem d35_104 : DK cd35 104 (.getfield 9) 3 := by decide +kernel
theorem d35_107 : DK cd35 107 (.iload 6) 2 := by decide +kernel
theorem d35_109 : DK cd35 109 (.iconst 4) 1 := by decide +kernel
theorem d35_110 : DK cd35 110 .iadd 1 := by decide +kernel
theorem d35_111 : DK cd35 111 (.iload 5) 2 := by decide +kernel
theorem d35_113 : DK cd35 113 .iastore 1 := by decide +kernel
theorem d35_114 : DK cd35 114 (.aload_n 0) 1 := by decide +kernel
theorem d35_115 : DK cd35 115 .dup 1 := by decide +kernel
theorem d35_116 : DK cd35 116 (.getfield 13) 3 := by decide +kernel
theorem d35_119 : DK cd35 119 (.iconst 1) 1 := by decide +kernel
theorem d35_120 : DK cd35 120 .iadd 1 := by decide +kernel
theorem d35_121 : DK cd35 121 (.putfield 13) 3 := by decide +kernel
theorem d35_124 : DK cd35 124 .return_ 1 := by decide +kernel
theorem pn_35 : plainName "com/example/slim_kripke/slimkripke/bdd/CallStack" = true := by first | (simp [plainName, overriddenIn]; done) | decide +kernel
theorem ef_35 (m : MethodId) (x0 : Addr) (x1 : Int32) (x2 : Int32) (x3 : Int32) (x4 : Int32) (x5 : Int32) : entryFrame m #[(.ref x0), (.int x1), (.int x2), (.int x3), (.int x4), (.int x5)] 7 = mkF m 0 #[.val (.ref x0), .val (.int x1), .val (.int x2), .val (.int x3), .val (.int x4), .val (.int x5), .unset] [] := by first | (simp [entryFrame, mkF, argsToLocals, Value.category]; done) | rfl
theorem rm35 (l : Launch) (Z : State) (a0 : Array Value) (hw : ∀ d ∈ tables_1, d.before a0 Z = true) (ws : List Jvm.Cond) {oa qcs qcf qpe qlv qlo qhi qrf qch qbk qca : Addr} {xn xs xff xfc xdp xli xpk : Int32} {xlv xlo xhi xrf xch xbk xca xcf xpe : Int32 → Int32} (p1 : Int32) (p2 : Int32) (p3 : Int32) (p4 : Int32) (p5 : Int32) (h0 : Heap) (n0 : Nat) (Z0 : n0 ≤ h0.size) (B0 : Mg Z n0 h0 oa qcs qcf qpe qlv qlo qhi qrf qch qbk qca xn xs xff xfc xdp 0 xli xpk xlv xlo xhi xrf xch xbk xca xcf xpe) :
    Met1 l Nm_29 (Jvm.Cond.code Nm_29 prog_7_method_4_code 7 none) ws (rom 0 0 0 0) #[(.ref qcs), (.int p1), (.int p2), (.int p3), (.int p4), (.int p5)] Z h0 (QB none n0 (fun h => Mg Z n0 h oa qcs qcf qpe qlv qlo qhi qrf qch qbk qca xn xs xff xfc xdp 1 xli xpk xlv xlo xhi xrf xch xbk xca (own_up (own_up (own_up (own_up (own_up xcf 0 p1) 1 p2) 2 p3) 3 p4) 4 p5) xpe)) := by
  refine MetFree.of_bodySF (plainFor_of_name pn_35) hisR ?_
  intro p e s m args below meth c s₁ Bd hml0 hP hK
  obtain ⟨rfl, hZ, hh⟩ := hP
  have hx := Bd.exec
  have hby := Bd.bytes
  have hml : c.maxLocals = 7 := hml0
  have hown : s.vm.findClass "com/example/slim_kripke/slimkripke/bdd/CallStack" = some m.cls := findClass_of_methodNamed Bd.named
  have X0 : Stand p l e (rom 0 0 0 0) s m _ _ _ _ _ [] 0 0 := Stand.of_body Bd
  have e0 : s₁.heap = h0 := by rw [← hh, Bd.state]; rfl
  have N0 := Fr.nil n0
  have K0 : Keep h0 h0 [] := Keep.refl _ _
  have pre0 : Go p e below s₁ _ (mkF m 0 #[(vr qcs), (vi p1), (vi p2), (vi p3), (vi p4), (vi p5), .unset] []) _ := fun t k => castTop (ef_35 m qcs p1 p2 p3 p4 p5) k
  have pre1 : Go p e below s₁ _ (mkF m 1 #[(vr qcs), (vi p1), (vi p2), (vi p3), (vi p4), (vi p5), .unset] [(.ref qcs)]) _ := fun t k => pre0 t (by
    refine XS.aloadN X0.here hx rfl (hb hby d35_0) rfl rfl ?_
    exact k)
  obtain ⟨T2, X2, e2, st2⟩ := getF X0 hx hZ hown (host := "") (Or.inl (wq hw 105 rfl)) Via.refl e0 B0.f_cz (g := (mkF m 1 #[(vr qcs), (vi p1), (vi p2), (vi p3), (vi p4), (vi p5), .unset] [(.ref qcs)])) rfl rfl (hb hby d35_1)
  have pre3 := Go.thn pre1 st2
  have pre4 : Go p e below T2 _ (mkF m 9 #[(vr qcs), (vi p1), (vi p2), (vi p3), (vi p4), (vi p5), .unset] [(.ref qcs), (.int 5)]) _ := fun t k => pre3 t (by
    refine XS.iconst X2.here hx rfl (hb hby d35_4) ?_
    refine XS.iadd X2.here hx rfl (hb hby d35_5) rfl ?_
    refine XS.iconst X2.here hx rfl (hb hby d35_6) ?_
    refine XS.imul X2.here hx rfl (hb hby d35_7) rfl ?_
    refine XS.aloadN X2.here hx rfl (hb hby d35_8) rfl rfl ?_
    exact k)
  obtain ⟨T5, X5, e5, st5⟩ := getF X2 hx hZ hown (host := "") (Or.inl (wq hw 18 rfl)) Via.refl e2 B0.f_cf (g := (mkF m 9 #[(vr qcs), (vi p1), (vi p2), (vi p3), (vi p4), (vi p5), .unset] [(.ref qcs), (.int 5)])) rfl rfl (hb hby d35_9)
  have pre6 := Go.thn pre4 st5
  obtain ⟨cl7, Ar7, Sz7, Mn7, Hs7⟩ := id B0.a_cf
  have pre8 : Go p e below T5 _ (mkF m 13 #[(vr qcs), (vi p1), (vi p2), (vi p3), (vi p4), (vi p5), .unset] [(.int 320), (.int 5)]) _ := fun t k => pre6 t (by
    show Steps p.tables e below (T5.setTop (mkF m 12 #[(vr qcs), (vi p1), (vi p2), (vi p3), (vi p4), (vi p5), .unset] [(.ref qcf), (.int 5)])) _
    refine X5.arraylength hx (by rw [e5]; exact Ar7.1) (State.isArrayOf_alike hZ.alike Ar7.2.1) (g := (mkF m 12 #[(vr qcs), (vi p1), (vi p2), (vi p3), (vi p4), (vi p5), .unset] [(.ref qcf), (.int 5)])) rfl rfl (hb hby d35_12) _ ?_
    rw [len_of Sz7 Mn7]
    exact k)
  have pre9 : Go p e below T5 _ (mkF m 55 #[(vr qcs), (vi p1), (vi p2), (vi p3), (vi p4), (vi p5), .unset] [(.ref qcs)]) _ := fun t k => pre8 t (by
    refine XS.icmpYes X5.here hx rfl (pc0 := 13) (pc' := 54) rfl (hb hby d35_13) rfl (by decide) (by decide) (by decide) ?_
    refine XS.aloadN X5.here hx rfl (hb hby d35_54) rfl rfl ?_
    exact k)
  obtain ⟨T10, X10, e10, st10⟩ := getF X5 hx hZ hown (host := "") (Or.inl (wq hw 105 rfl)) Via.refl e5 B0.f_cz (g := (mkF m 55 #[(vr qcs), (vi p1), (vi p2), (vi p3), (vi p4), (vi p5), .unset] [(.ref qcs)])) rfl rfl (hb hby d35_55)
  have pre11 := Go.thn pre9 st10
  have pre12 : Go p e below T10 _ (mkF m 63 #[(vr qcs), (vi p1), (vi p2), (vi p3), (vi p4), (vi p5), (vi 0)] [(.ref qcs)]) _ := fun t k => pre11 t (by
    refine XS.iconst X10.here hx rfl (hb hby d35_58) ?_
    refine XS.imul X10.here hx rfl (hb hby d35_59) rfl ?_
    refine XS.istore X10.here hx rfl (hb hby d35_60) rfl (l' := #[(vr qcs), (vi p1), (vi p2), (vi p3), (vi p4), (vi p5), (vi 0)]) rfl ?_
    refine XS.aloadN X10.here hx rfl (hb hby d35_62) rfl rfl ?_
    exact k)
  obtain ⟨T13, X13, e13, st13⟩ := getF X10 hx hZ hown (host := "") (Or.inl (wq hw 18 rfl)) Via.refl e10 B0.f_cf (g := (mkF m 63 #[(vr qcs), (vi p1), (vi p2), (vi p3), (vi p4), (vi p5), (vi 0)] [(.ref qcs)])) rfl rfl (hb hby d35_63)
  have pre14 := Go.thn pre12 st13
  have pre15 : Go p e below T13 _ (mkF m 71 #[(vr qcs), (vi p1), (vi p2), (vi p3), (vi p4), (vi p5), (vi 0)] [(.int p1), (.int 0), (.ref qcf)]) _ := fun t k => pre14 t (by
    refine XS.iload X13.here hx rfl (hb hby d35_66) rfl ?_
    refine XS.iconst X13.here hx rfl (hb hby d35_68) ?_
    refine XS.iadd X13.here hx rfl (hb hby d35_69) rfl ?_
    refine XS.iloadN X13.here hx rfl (hb hby d35_70) rfl ?_
    exact k)
  have ib16 : ¬ (0 : Int32) < 0 ∧ (0 : Int32) < 320 := ⟨by decide, by decide⟩
  obtain ⟨cl16, Ar16, Sz16, -, -⟩ := id B0.a_cf
  obtain ⟨T16, h16, X16, e16, W16, st16⟩ := stI X13 hx hZ e13 Ar16 (j := (0 : Int32)) (inb_of Sz16 ib16) (g := (mkF m 71 #[(vr qcs), (vi p1), (vi p2), (vi p3), (vi p4), (vi p5), (vi 0)] [(.int p1), (.int 0), (.ref qcf)])) rfl rfl (hb hby d35_71)
  have N16 := Fr.snoc X16 N0 B0.g_cf
  have B16 := B0.t_cf W16 ib16
  have pre17 := Go.thn pre15 st16
  have pre18 : Go p e below T16 _ (mkF m 73 #[(vr qcs), (vi p1), (vi p2), (vi p3), (vi p4), (vi p5), (vi 0)] [(.ref qcs)]) _ := fun t k => pre17 t (by
    refine XS.aloadN X16.here hx rfl (hb hby d35_72) rfl rfl ?_
    exact k)
  obtain ⟨T19, X19, e19, st19⟩ := getF X16 hx hZ hown (host := "") (Or.inl (wq hw 18 rfl)) Via.refl e16 B16.f_cf (g := (mkF m 73 #[(vr qcs), (vi p1), (vi p2), (vi p3), (vi p4), (vi p5), (vi 0)] [(.ref qcs)])) rfl rfl (hb hby d35_73)
  have pre20 := Go.thn pre18 st19
  have pre21 : Go p e below T19 _ (mkF m 81 #[(vr qcs), (vi p1), (vi p2), (vi p3), (vi p4), (vi p5), (vi 0)] [(.int p2), (.int 1), (.ref qcf)]) _ := fun t k => pre20 t (by
    refine XS.iload X19.here hx rfl (hb hby d35_76) rfl ?_
    refine XS.iconst X19.here hx rfl (hb hby d35_78) ?_
    refine XS.iadd X19.here hx rfl (hb hby d35_79) rfl ?_
    refine XS.iloadN X19.here hx rfl (hb hby d35_80) rfl ?_
    exact k)
  have ib22 : ¬ (1 : Int32) < 0 ∧ (1 : Int32) < 320 := ⟨by decide, by decide⟩
  obtain ⟨cl22, Ar22, Sz22, -, -⟩ := id B16.a_cf
  obtain ⟨T22, h22, X22, e22, W22, st22⟩ := stI X19 hx hZ e19 Ar22 (j := (1 : Int32)) (inb_of Sz22 ib22) (g := (mkF m 81 #[(vr qcs), (vi p1), (vi p2), (vi p3), (vi p4), (vi p5), (vi 0)] [(.int p2), (.int 1), (.ref qcf)])) rfl rfl (hb hby d35_81)
  have N22 := Fr.snoc X22 N16 B16.g_cf
  have B22 := B16.t_cf W22 ib22
  have pre23 := Go.thn pre21 st22
  have pre24 : Go p e below T22 _ (mkF m 83 #[(vr qcs), (vi p1), (vi p2), (vi p3), (vi p4), (vi p5), (vi 0)] [(.ref qcs)]) _ := fun t k => pre23 t (by
    refine XS.aloadN X22.here hx rfl (hb hby d35_82) rfl rfl ?_
    exact k)
  obtain ⟨T25, X25, e25, st25⟩ := getF X22 hx hZ hown (host := "") (Or.inl (wq hw 18 rfl)) Via.refl e22 B22.f_cf (g := (mkF m 83 #[(vr qcs), (vi p1), (vi p2), (vi p3), (vi p4), (vi p5), (vi 0)] [(.ref qcs)])) rfl rfl (hb hby d35_83)
  have pre26 := Go.thn pre24 st25
  have pre27 : Go p e below T25 _ (mkF m 91 #[(vr qcs), (vi p1), (vi p2), (vi p3), (vi p4), (vi p5), (vi 0)] [(.int p3), (.int 2), (.ref qcf)]) _ := fun t k => pre26 t (by
    refine XS.iload X25.here hx rfl (hb hby d35_86) rfl ?_
    refine XS.iconst X25.here hx rfl (hb hby d35_88) ?_
    refine XS.iadd X25.here hx rfl (hb hby d35_89) rfl ?_
    refine XS.iloadN X25.here hx rfl (hb hby d35_90) rfl ?_
    exact k)
  have ib28 : ¬ (2 : Int32) < 0 ∧ (2 : Int32) < 320 := ⟨by decide, by decide⟩
  obtain ⟨cl28, Ar28, Sz28, -, -⟩ := id B22.a_cf
  obtain ⟨T28, h28, X28, e28, W28, st28⟩ := stI X25 hx hZ e25 Ar28 (j := (2 : Int32)) (inb_of Sz28 ib28) (g := (mkF m 91 #[(vr qcs), (vi p1), (vi p2), (vi p3), (vi p4), (vi p5), (vi 0)] [(.int p3), (.int 2), (.ref qcf)])) rfl rfl (hb hby d35_91)
  have N28 := Fr.snoc X28 N22 B22.g_cf
  have B28 := B22.t_cf W28 ib28
  have pre29 := Go.thn pre27 st28
  have pre30 : Go p e below T28 _ (mkF m 93 #[(vr qcs), (vi p1), (vi p2), (vi p3), (vi p4), (vi p5), (vi 0)] [(.ref qcs)]) _ := fun t k => pre29 t (by
    refine XS.aloadN X28.here hx rfl (hb hby d35_92) rfl rfl ?_
    exact k)
  obtain ⟨T31, X31, e31, st31⟩ := getF X28 hx hZ hown (host := "") (Or.inl (wq hw 18 rfl)) Via.refl e28 B28.f_cf (g := (mkF m 93 #[(vr qcs), (vi p1), (vi p2), (vi p3), (vi p4), (vi p5), (vi 0)] [(.ref qcs)])) rfl rfl (hb hby d35_93)
  have pre32 := Go.thn pre30 st31
  have pre33 : Go p e below T31 _ (mkF m 102 #[(vr qcs), (vi p1), (vi p2), (vi p3), (vi p4), (vi p5), (vi 0)] [(.int p4), (.int 3), (.ref qcf)]) _ := fun t k => pre32 t (by
    refine XS.iload X31.here hx rfl (hb hby d35_96) rfl ?_
    refine XS.iconst X31.here hx rfl (hb hby d35_98) ?_
    refine XS.iadd X31.here hx rfl (hb hby d35_99) rfl ?_
    refine XS.iload X31.here hx rfl (hb hby d35_100) rfl ?_
    exact k)
  have ib34 : ¬ (3 : Int32) < 0 ∧ (3 : Int32) < 320 := ⟨by decide, by decide⟩
  obtain ⟨cl34, Ar34, Sz34, -, -⟩ := id B28.a_cf
  obtain ⟨T34, h34, X34, e34, W34, st34⟩ := stI X31 hx hZ e31 Ar34 (j := (3 : Int32)) (inb_of Sz34 ib34) (g := (mkF m 102 #[(vr qcs), (vi p1), (vi p2), (vi p3), (vi p4), (vi p5), (vi 0)] [(.int p4), (.int 3), (.ref qcf)])) rfl rfl (hb hby d35_102)
  have N34 := Fr.snoc X34 N28 B28.g_cf
  have B34 := B28.t_cf W34 ib34
  have pre35 := Go.thn pre33 st34
  have pre36 : Go p e below T34 _ (mkF m 104 #[(vr qcs), (vi p1), (vi p2), (vi p3), (vi p4), (vi p5), (vi 0)] [(.ref qcs)]) _ := fun t k => pre35 t (by
    refine XS.aloadN X34.here hx rfl (hb hby d35_103) rfl rfl ?_
    exact k)
  obtain ⟨T37, X37, e37, st37⟩ := getF X34 hx hZ hown (host := "") (Or.inl (wq hw 18 rfl)) Via.refl e34 B34.f_cf (g := (mkF m 104 #[(vr qcs), (vi p1), (vi p2), (vi p3), (vi p4), (vi p5), (vi 0)] [(.ref qcs)])) rfl rfl (hb hby d35_104)
  have pre38 := Go.thn pre36 st37
  have pre39 : Go p e below T37 _ (mkF m 113 #[(vr qcs), (vi p1), (vi p2), (vi p3), (vi p4), (vi p5), (vi 0)] [(.int p5), (.int 4), (.ref qcf)]) _ := fun t k => pre38 t (by
    refine XS.iload X37.here hx rfl (hb hby d35_107) rfl ?_
    refine XS.iconst X37.here hx rfl (hb hby d35_109) ?_
    refine XS.iadd X37.here hx rfl (hb hby d35_110) rfl ?_
    refine XS.iload X37.here hx rfl (hb hby d35_111) rfl ?_
    exact k)
  have ib40 : ¬ (4 : Int32) < 0 ∧ (4 : Int32) < 320 := ⟨by decide, by decide⟩
  obtain ⟨cl40, Ar40, Sz40, -, -⟩ := id B34.a_cf
  obtain ⟨T40, h40, X40, e40, W40, st40⟩ := stI X37 hx hZ e37 Ar40 (j := (4 : Int32)) (inb_of Sz40 ib40) (g := (mkF m 113 #[(vr qcs), (vi p1), (vi p2), (vi p3), (vi p4), (vi p5), (vi 0)] [(.int p5), (.int 4), (.ref qcf)])) rfl rfl (hb hby d35_113)
  have N40 := Fr.snoc X40 N34 B34.g_cf
  have B40 := B34.t_cf W40 ib40
  have pre41 := Go.thn pre39 st40
  have pre42 : Go p e below T40 _ (mkF m 116 #[(vr qcs), (vi p1), (vi p2), (vi p3), (vi p4), (vi p5), (vi 0)] [(.ref qcs), (.ref qcs)]) _ := fun t k => pre41 t (by
    refine XS.aloadN X40.here hx rfl (hb hby d35_114) rfl rfl ?_
    refine XS.dup X40.here hx rfl (hb hby d35_115) rfl rfl ?_
    exact k)
  obtain ⟨T43, X43, e43, st43⟩ := getF X40 hx hZ hown (host := "") (Or.inl (wq hw 105 rfl)) Via.refl e40 B40.f_cz (g := (mkF m 116 #[(vr qcs), (vi p1), (vi p2), (vi p3), (vi p4), (vi p5), (vi 0)] [(.ref qcs), (.ref qcs)])) rfl rfl (hb hby d35_116)
  have pre44 := Go.thn pre42 st43
  have pre45 : Go p e below T43 _ (mkF m 121 #[(vr qcs), (vi p1), (vi p2), (vi p3), (vi p4), (vi p5), (vi 0)] [(.int 1), (.ref qcs)]) _ := fun t k => pre44 t (by
    refine XS.iconst X43.here hx rfl (hb hby d35_119) ?_
    refine XS.iadd X43.here hx rfl (hb hby d35_120) rfl ?_
    exact k)
  obtain ⟨T46, h46, X46, e46, W46, st46⟩ := putF X43 hx hZ hown (host := "") (Or.inl (wq hw 105 rfl)) Via.refl e43 B40.f_cz B40.ec (Or.inl (wq hw 106 rfl)) (wq hw 11 rfl) (ty := .int) (by decide) rfl rfl (g := (mkF m 121 #[(vr qcs), (vi p1), (vi p2), (vi p3), (vi p4), (vi p5), (vi 0)] [(.int 1), (.ref qcs)])) rfl rfl (hb hby d35_121)
  have N46 := Fr.snoc X46 N40 B40.g_cs
  have B46 := B40.w_cz hw W46
  have pre47 := Go.thn pre45 st46
  obtain ⟨fs, hr, hrun, hended, hW, hsame⟩ := X46.leave (v := none) (fun _ => rfl)
  refine ⟨_, _, ?_, hrun, hended, _, _, rfl, ?_, ⟨_, rfl⟩, hW, hsame.mono (by decide) (by decide)⟩
  · exact pre47 _ (X46.returnOut hx Bd.returns (hb hby d35_124) hr)
  · show QB _ _ _ _ T46.heap _
    rw [e46]
    exact ⟨rfl, N46, B46⟩
theorem d37_0 : DK cd37 0 (.aload_n 0) 1 := by decide +kernel
theorem d37_1 : DK cd37 1 (.getfield 9) 3 := by decide +kernel
theorem d37_4 : DK cd37 4 (.iload_n 1) 1 := by decide +kernel
theorem d37_5 : DK cd37 5 (.iconst 5) 1 := by decide +kernel
theorem d37_6 : DK cd37 6 .imul 1 := by decide +kernel
theorem d37_7 : DK cd37 7 (.iconst 3) 1 := by decide +kernel
theorem d37_8 : DK cd37 8 .iadd 1 := by decide +kernel
theorem d37_9 : DK cd37 9 .iaload 1 := by decide +kernel
theorem d37_10 : DK cd37 10 .ireturn 1 := by decide +kernel
theorem pn_37 : plainName "com/example/slim_kripke/slimkripke/bdd/CallStack" = true := by first | (simp [plainName, overriddenIn]; done) | decide +kernel
theorem ef_37 (m : MethodId) (x0 : Addr) : entryFrame m #[(.ref x0), (.int 0)] 2 = mkF m 0 #[.val (.ref x0), .val (.int 0)] [] := by first | (simp [entryFrame, mkF, argsToLocals, Value.category]; done) | rfl
theorem rm37 (l : Launch) (Z : State) (a0 : Array Value) (hw : ∀ d ∈ tables_1, d.before a0 Z = true) (ws : List Jvm.Cond) {oa qcs qcf qpe qlv qlo qhi qrf qch qbk qca : Addr} {xn xs xff xfc xdp xcz xli xpk : Int32} {xlv xlo xhi xrf xch xbk xca xcf xpe : Int32 → Int32} (h0 : Heap) (n0 : Nat) (Z0 : n0 ≤ h0.size) (B0 : Mg Z n0 h0 oa qcs qcf qpe qlv qlo qhi qrf qch qbk qca xn xs xff xfc xdp xcz xli xpk xlv xlo xhi xrf xch xbk xca xcf xpe) :
    Met1 l Nm_30 (Jvm.Cond.code Nm_30 prog_7_method_10_code 2 (some .int)) ws (rom 0 0 0 0) #[(.ref qcs), (.int 0)] Z h0 (QP (some (.int (xcf 3))) h0 n0) := by
  refine MetFree.of_bodySF (plainFor_of_name pn_37) hisR ?_
  intro p e s m args below meth c s₁ Bd hml0 hP hK
  obtain ⟨rfl, hZ, hh⟩ := hP
  have hx := Bd.exec
  have hby := Bd.bytes
  have hml : c.maxLocals = 2 := hml0
  have hown : s.vm.findClass "com/example/slim_kripke/slimkripke/bdd/CallStack" = some m.cls := findClass_of_methodNamed Bd.named
  have X0 : Stand p l e (rom 0 0 0 0) s m _ _ _ _ _ [] 0 0 := Stand.of_body Bd
  have e0 : s₁.heap = h0 := by rw [← hh, Bd.state]; rfl
  have N0 := Fr.nil n0
  have K0 : Keep h0 h0 [] := Keep.refl _ _
  have pre0 : Go p e below s₁ _ (mkF m 0 #[(vr qcs), (vi 0)] []) _ := fun t k => castTop (ef_37 m qcs) k
  have pre1 : Go p e below s₁ _ (mkF m 1 #[(vr qcs), (vi 0)] [(.ref qcs)]) _ := fun t k => pre0 t (by
    refine XS.aloadN X0.here hx rfl (hb hby d37_0) rfl rfl ?_
    exact k)
  obtain ⟨T2, X2, e2, st2⟩ := getF X0 hx hZ hown (host := "") (Or.inl (wq hw 18 rfl)) Via.refl e0 B0.f_cf (g := (mkF m 1 #[(vr qcs), (vi 0)] [(.ref qcs)])) rfl rfl (hb hby d37_1)
  have pre3 := Go.thn pre1 st2
  have pre4 : Go p e below T2 _ (mkF m 9 #[(vr qcs), (vi 0)] [(.int 3), (.ref qcf)]) _ := fun t k => pre3 t (by
    refine XS.iloadN X2.here hx rfl (hb hby d37_4) rfl ?_
    refine XS.iconst X2.here hx rfl (hb hby d37_5) ?_
    refine XS.imul X2.here hx rfl (hb hby d37_6) rfl ?_
    refine XS.iconst X2.here hx rfl (hb hby d37_7) ?_
    refine XS.iadd X2.here hx rfl (hb hby d37_8) rfl ?_
    exact k)
  obtain ⟨cl5, Ar5, Sz5, Mn5, Hs5⟩ := id B0.a_cf
  have ib5 : ¬ (3 : Int32) < 0 ∧ (3 : Int32) < 320 := ⟨by decide, by decide⟩
  have hat5 : cl5.slots[((3 : Int32)).toNatClampNeg]? = some (.int (xcf 3)) := Hs5 (3 : Int32) ib5
  have pre6 : Go p e below T2 _ (mkF m 10 #[(vr qcs), (vi 0)] [(.int (xcf 3))]) _ := fun t k => pre4 t (by
    show Steps p.tables e below (T2.setTop (mkF m 9 #[(vr qcs), (vi 0)] [(.int 3), (.ref qcf)])) _
    refine X2.iaload hx (j := (3 : Int32)) (v := (.int (xcf 3))) (by rw [e2]; exact Ar5.1) (State.isArrayOf_alike hZ.alike Ar5.2.1) Ar5.2.2 (inb_of Sz5 ib5) hat5 (g := (mkF m 9 #[(vr qcs), (vi 0)] [(.int 3), (.ref qcf)])) rfl rfl (hb hby d37_9) _ ?_
    exact k)
  obtain ⟨fs, hr, hrun, hended, hW, hsame⟩ := X2.leave (v := some (.int (xcf 3))) (fun h => by rw [Bd.returns] at h; cases h)
  refine ⟨_, _, ?_, hrun, hended, _, _, rfl, ?_, ⟨_, rfl⟩, hW, hsame.mono (by decide) (by decide)⟩
  · exact pre6 _ (retI X2 hx Bd.returns (hb hby d37_10) hr)
  · exact ⟨rfl, N0, e2⟩
theorem d38_0 : DK cd38 0 (.aload_n 0) 1 := by decide +kernel
theorem d38_1 : DK cd38 1 (.getfield 9) 3 := by decide +kernel
theorem d38_4 : DK cd38 4 (.iload_n 1) 1 := by decide +kernel
theorem d38_5 : DK cd38 5 (.iconst 5) 1 := by decide +kernel
theorem d38_6 : DK cd38 6 .imul 1 := by decide +kernel
theorem d38_7 : DK cd38 7 (.iconst 4) 1 := by decide +kernel
theorem d38_8 : DK cd38 8 .iadd 1 := by decide +kernel
theorem d38_9 : DK cd38 9 .iaload 1 := by decide +kernel
theorem d38_10 : DK cd38 10 .ireturn 1 := by decide +kernel
theorem pn_38 : plainName "com/example/slim_kripke/slimkripke/bdd/CallStack" = true := by first | (simp [plainName, overriddenIn]; done) | decide +kernel
theorem ef_38 (m : MethodId) (x0 : Addr) : entryFrame m #[(.ref x0), (.int 0)] 2 = mkF m 0 #[.val (.ref x0), .val (.int 0)] [] := by first | (simp [entryFrame, mkF, argsToLocals, Value.category]; done) | rfl
theorem rm38 (l : Launch) (Z : State) (a0 : Array Value) (hw : ∀ d ∈ tables_1, d.before a0 Z = true) (ws : List Jvm.Cond) {oa qcs qcf qpe qlv qlo qhi qrf qch qbk qca : Addr} {xn xs xff xfc xdp xcz xli xpk : Int32} {xlv xlo xhi xrf xch xbk xca xcf xpe : Int32 → Int32} (h0 : Heap) (n0 : Nat) (Z0 : n0 ≤ h0.size) (B0 : Mg Z n0 h0 oa qcs qcf qpe qlv qlo qhi qrf qch qbk qca xn xs xff xfc xdp xcz xli xpk xlv xlo xhi xrf xch xbk xca xcf xpe) :
    Met1 l Nm_31 (Jvm.Cond.code Nm_31 prog_7_method_11_code 2 (some .int)) ws (rom 0 0 0 0) #[(.ref qcs), (.int 0)] Z h0 (QP (some (.int (xcf 4))) h0 n0) := by
  refine MetFree.of_bodySF (plainFor_of_name pn_38) hisR ?_
  intro p e s m args below meth c s₁ Bd hml0 hP hK
  obtain ⟨rfl, hZ, hh⟩ := hP
  have hx := Bd.exec
  have hby := Bd.bytes
  have hml : c.maxLocals = 2 := hml0
  have hown : s.vm.findClass "com/example/slim_kripke/slimkripke/bdd/CallStack" = some m.cls := findClass_of_methodNamed Bd.named
  have X0 : Stand p l e (rom 0 0 0 0) s m _ _ _ _ _ [] 0 0 := Stand.of_body Bd
  have e0 : s₁.heap = h0 := by rw [← hh, Bd.state]; rfl
  have N0 := Fr.nil n0
  have K0 : Keep h0 h0 [] := Keep.refl _ _
  have pre0 : Go p e below s₁ _ (mkF m 0 #[(vr qcs), (vi 0)] []) _ := fun t k => castTop (ef_38 m qcs) k
  have pre1 : Go p e below s₁ _ (mkF m 1 #[(vr qcs), (vi 0)] [(.ref qcs)]) _ := fun t k => pre0 t (by
    refine XS.aloadN X0.here hx rfl (hb hby d38_0) rfl rfl ?_
    exact k)
  obtain ⟨T2, X2, e2, st2⟩ := getF X0 hx hZ hown (host := "") (Or.inl (wq hw 18 rfl)) Via.refl e0 B0.f_cf (g := (mkF m 1 #[(vr qcs), (vi 0)] [(.ref qcs)])) rfl rfl (hb hby d38_1)
  have pre3 := Go.thn pre1 st2
  have pre4 : Go p e below T2 _ (mkF m 9 #[(vr qcs), (vi 0)] [(.int 4), (.ref qcf)]) _ := fun t k => pre3 t (by
    refine XS.iloadN X2.here hx rfl (hb hby d38_4) rfl ?_
    refine XS.iconst X2.here hx rfl (hb hby d38_5) ?_
    refine XS.imul X2.here hx rfl (hb hby d38_6) rfl ?_
    refine XS.iconst X2.here hx rfl (hb hby d38_7) ?_
    refine XS.iadd X2.here hx rfl (hb hby d38_8) rfl ?_
    exact k)
  obtain ⟨cl5, Ar5, Sz5, Mn5, Hs5⟩ := id B0.a_cf
  have ib5 : ¬ (4 : Int32) < 0 ∧ (4 : Int32) < 320 := ⟨by decide, by decide⟩
  have hat5 : cl5.slots[((4 : Int32)).toNatClampNeg]? = some (.int (xcf 4)) := Hs5 (4 : Int32) ib5
  have pre6 : Go p e below T2 _ (mkF m 10 #[(vr qcs), (vi 0)] [(.int (xcf 4))]) _ := fun t k => pre4 t (by
    show Steps p.tables e below (T2.setTop (mkF m 9 #[(vr qcs), (vi 0)] [(.int 4), (.ref qcf)])) _
    refine X2.iaload hx (j := (4 : Int32)) (v := (.int (xcf 4))) (by rw [e2]; exact Ar5.1) (State.isArrayOf_alike hZ.alike Ar5.2.1) Ar5.2.2 (inb_of Sz5 ib5) hat5 (g := (mkF m 9 #[(vr qcs), (vi 0)] [(.int 4), (.ref qcf)])) rfl rfl (hb hby d38_9) _ ?_
    exact k)
  obtain ⟨fs, hr, hrun, hended, hW, hsame⟩ := X2.leave (v := some (.int (xcf 4))) (fun h => by rw [Bd.returns] at h; cases h)
  refine ⟨_, _, ?_, hrun, hended, _, _, rfl, ?_, ⟨_, rfl⟩, hW, hsame.mono (by decide) (by decide)⟩
  · exact pre6 _ (retI X2 hx Bd.returns (hb hby d38_10) hr)
  · exact ⟨rfl, N0, e2⟩
theorem d40_0 : DK cd40 0 (.aload_n 0) 1 := by decide +kernel
theorem d40_1 : DK cd40 1 (.getfield 9) 3 := by decide +kernel
theorem d40_4 : DK cd40 4 (.iload_n 1) 1 := by decide +kernel
theorem d40_5 : DK cd40 5 (.iconst 5) 1 := by decide +kernel
theorem d40_6 : DK cd40 6 .imul 1 := by decide +kernel
theorem d40_7 : DK cd40 7 (.iconst 0) 1 := by decide +kernel
theorem d40_8 : DK cd40 8 .iadd 1 := by decide +kernel
theorem d40_9 : DK cd40 9 .iaload 1 := by decide +kernel
theorem d40_10 : DK cd40 10 .ireturn 1 := by decide +kernel
theorem pn_40 : plainName "com/example/slim_kripke/slimkripke/bdd/CallStack" = true := by first | (simp [plainName, overriddenIn]; done) | decide +kernel
theorem ef_40 (m : MethodId) (x0 : Addr) : entryFrame m #[(.ref x0), (.int 0)] 2 = mkF m 0 #[.val (.ref x0), .val (.int 0)] [] := by first | (simp [entryFrame, mkF, argsToLocals, Value.category]; done) | rfl
theorem rm40 (l : Launch) (Z : State) (a0 : Array Value) (hw : ∀ d ∈ tables_1, d.before a0 Z = true) (ws : List Jvm.Cond) {oa qcs qcf qpe qlv qlo qhi qrf qch qbk qca : Addr} {xn xs xff xfc xdp xcz xli xpk : Int32} {xlv xlo xhi xrf xch xbk xca xcf xpe : Int32 → Int32} (h0 : Heap) (n0 : Nat) (Z0 : n0 ≤ h0.size) (B0 : Mg Z n0 h0 oa qcs qcf qpe qlv qlo qhi qrf qch qbk qca xn xs xff xfc xdp xcz xli xpk xlv xlo xhi xrf xch xbk xca xcf xpe) :
    Met1 l Nm_32 (Jvm.Cond.code Nm_32 prog_7_method_7_code 2 (some .int)) ws (rom 0 0 0 0) #[(.ref qcs), (.int 0)] Z h0 (QP (some (.int (xcf 0))) h0 n0) := by
  refine MetFree.of_bodySF (plainFor_of_name pn_40) hisR ?_
  intro p e s m args below meth c s₁ Bd hml0 hP hK
  obtain ⟨rfl, hZ, hh⟩ := hP
  have hx := Bd.exec
  have hby := Bd.bytes
  have hml : c.maxLocals = 2 := hml0
  have hown : s.vm.findClass "com/example/slim_kripke/slimkripke/bdd/CallStack" = some m.cls := findClass_of_methodNamed Bd.named
  have X0 : Stand p l e (rom 0 0 0 0) s m _ _ _ _ _ [] 0 0 := Stand.of_body Bd
  have e0 : s₁.heap = h0 := by rw [← hh, Bd.state]; rfl
  have N0 := Fr.nil n0
  have K0 : Keep h0 h0 [] := Keep.refl _ _
  have pre0 : Go p e below s₁ _ (mkF m 0 #[(vr qcs), (vi 0)] []) _ := fun t k => castTop (ef_40 m qcs) k
  have pre1 : Go p e below s₁ _ (mkF m 1 #[(vr qcs), (vi 0)] [(.ref qcs)]) _ := fun t k => pre0 t (by
    refine XS.aloadN X0.here hx rfl (hb hby d40_0) rfl rfl ?_
    exact k)
  obtain ⟨T2, X2, e2, st2⟩ := getF X0 hx hZ hown (host := "") (Or.inl (wq hw 18 rfl)) Via.refl e0 B0.f_cf (g := (mkF m 1 #[(vr qcs), (vi 0)] [(.ref qcs)])) rfl rfl (hb hby d40_1)
  have pre3 := Go.thn pre1 st2
  have pre4 : Go p e below T2 _ (mkF m 9 #[(vr qcs), (vi 0)] [(.int 0), (.ref qcf)]) _ := fun t k => pre3 t (by
    refine XS.iloadN X2.here hx rfl (hb hby d40_4) rfl ?_
    refine XS.iconst X2.here hx rfl (hb hby d40_5) ?_
    refine XS.imul X2.here hx rfl (hb hby d40_6) rfl ?_
    refine XS.iconst X2.here hx rfl (hb hby d40_7) ?_
    refine XS.iadd X2.here hx rfl (hb hby d40_8) rfl ?_
    exact k)
  obtain ⟨cl5, Ar5, Sz5, Mn5, Hs5⟩ := id B0.a_cf
  have ib5 : ¬ (0 : Int32) < 0 ∧ (0 : Int32) < 320 := ⟨by decide, by decide⟩
  have hat5 : cl5.slots[((0 : Int32)).toNatClampNeg]? = some (.int (xcf 0)) := Hs5 (0 : Int32) ib5
  have pre6 : Go p e below T2 _ (mkF m 10 #[(vr qcs), (vi 0)] [(.int (xcf 0))]) _ := fun t k => pre4 t (by
    show Steps p.tables e below (T2.setTop (mkF m 9 #[(vr qcs), (vi 0)] [(.int 0), (.ref qcf)])) _
    refine X2.iaload hx (j := (0 : Int32)) (v := (.int (xcf 0))) (by rw [e2]; exact Ar5.1) (State.isArrayOf_alike hZ.alike Ar5.2.1) Ar5.2.2 (inb_of Sz5 ib5) hat5 (g := (mkF m 9 #[(vr qcs), (vi 0)] [(.int 0), (.ref qcf)])) rfl rfl (hb hby d40_9) _ ?_
    exact k)
  obtain ⟨fs, hr, hrun, hended, hW, hsame⟩ := X2.leave (v := some (.int (xcf 0))) (fun h => by rw [Bd.returns] at h; cases h)
  refine ⟨_, _, ?_, hrun, hended, _, _, rfl, ?_, ⟨_, rfl⟩, hW, hsame.mono (by decide) (by decide)⟩
  · exact pre6 _ (retI X2 hx Bd.returns (hb hby d40_10) hr)
  · exact ⟨rfl, N0, e2⟩
theorem d41_0 : DK cd41 0 (.aload_n 0) 1 := by decide +kernel
theorem d41_1 : DK cd41 1 (.getfield 9) 3 := by decide +kernel
theorem d41_4 : DK cd41 4 (.iload_n 1) 1 := by decide +kernel
theorem d41_5 : DK cd41 5 (.iconst 5) 1 := by decide +kernel
theorem d41_6 : DK cd41 6 .imul 1 := by decide +kernel
theorem d41_7 : DK cd41 7 (.iconst 1) 1 := by decide +kernel
theorem d41_8 : DK cd41 8 .iadd 1 := by decide +kernel
theorem d41_9 : DK cd41 9 .iaload 1 := by decide +kernel
theorem d41_10 : DK cd41 10 .ireturn 1 := by decide +kernel
theorem pn_41 : plainName "com/example/slim_kripke/slimkripke/bdd/CallStack" = true := by first | (simp [plainName, overriddenIn]; done) | decide +kernel
theorem ef_41 (m : MethodId) (x0 : Addr) : entryFrame m #[(.ref x0), (.int 0)] 2 = mkF m 0 #[.val (.ref x0), .val (.int 0)] [] := by first | (simp [entryFrame, mkF, argsToLocals, Value.category]; done) | rfl
theorem rm41 (l : Launch) (Z : State) (a0 : Array Value) (hw : ∀ d ∈ tables_1, d.before a0 Z = true) (ws : List Jvm.Cond) {oa qcs qcf qpe qlv qlo qhi qrf qch qbk qca : Addr} {xn xs xff xfc xdp xcz xli xpk : Int32} {xlv xlo xhi xrf xch xbk xca xcf xpe : Int32 → Int32} (h0 : Heap) (n0 : Nat) (Z0 : n0 ≤ h0.size) (B0 : Mg Z n0 h0 oa qcs qcf qpe qlv qlo qhi qrf qch qbk qca xn xs xff xfc xdp xcz xli xpk xlv xlo xhi xrf xch xbk xca xcf xpe) :
    Met1 l Nm_33 (Jvm.Cond.code Nm_33 prog_7_method_8_code 2 (some .int)) ws (rom 0 0 0 0) #[(.ref qcs), (.int 0)] Z h0 (QP (some (.int (xcf 1))) h0 n0) := by
  refine MetFree.of_bodySF (plainFor_of_name pn_41) hisR ?_
  intro p e s m args below meth c s₁ Bd hml0 hP hK
  obtain ⟨rfl, hZ, hh⟩ := hP
  have hx := Bd.exec
  have hby := Bd.bytes
  have hml : c.maxLocals = 2 := hml0
  have hown : s.vm.findClass "com/example/slim_kripke/slimkripke/bdd/CallStack" = some m.cls := findClass_of_methodNamed Bd.named
  have X0 : Stand p l e (rom 0 0 0 0) s m _ _ _ _ _ [] 0 0 := Stand.of_body Bd
  have e0 : s₁.heap = h0 := by rw [← hh, Bd.state]; rfl
  have N0 := Fr.nil n0
  have K0 : Keep h0 h0 [] := Keep.refl _ _
  have pre0 : Go p e below s₁ _ (mkF m 0 #[(vr qcs), (vi 0)] []) _ := fun t k => castTop (ef_41 m qcs) k
  have pre1 : Go p e below s₁ _ (mkF m 1 #[(vr qcs), (vi 0)] [(.ref qcs)]) _ := fun t k => pre0 t (by
    refine XS.aloadN X0.here hx rfl (hb hby d41_0) rfl rfl ?_
    exact k)
  obtain ⟨T2, X2, e2, st2⟩ := getF X0 hx hZ hown (host := "") (Or.inl (wq hw 18 rfl)) Via.refl e0 B0.f_cf (g := (mkF m 1 #[(vr qcs), (vi 0)] [(.ref qcs)])) rfl rfl (hb hby d41_1)
  have pre3 := Go.thn pre1 st2
  have pre4 : Go p e below T2 _ (mkF m 9 #[(vr qcs), (vi 0)] [(.int 1), (.ref qcf)]) _ := fun t k => pre3 t (by
    refine XS.iloadN X2.here hx rfl (hb hby d41_4) rfl ?_
    refine XS.iconst X2.here hx rfl (hb hby d41_5) ?_
    refine XS.imul X2.here hx rfl (hb hby d41_6) rfl ?_
    refine XS.iconst X2.here hx rfl (hb hby d41_7) ?_
    refine XS.iadd X2.here hx rfl (hb hby d41_8) rfl ?_
    exact k)
  obtain ⟨cl5, Ar5, Sz5, Mn5, Hs5⟩ := id B0.a_cf
  have ib5 : ¬ (1 : Int32) < 0 ∧ (1 : Int32) < 320 := ⟨by decide, by decide⟩
  have hat5 : cl5.slots[((1 : Int32)).toNatClampNeg]? = some (.int (xcf 1)) := Hs5 (1 : Int32) ib5
  have pre6 : Go p e below T2 _ (mkF m 10 #[(vr qcs), (vi 0)] [(.int (xcf 1))]) _ := fun t k => pre4 t (by
    show Steps p.tables e below (T2.setTop (mkF m 9 #[(vr qcs), (vi 0)] [(.int 1), (.ref qcf)])) _
    refine X2.iaload hx (j := (1 : Int32)) (v := (.int (xcf 1))) (by rw [e2]; exact Ar5.1) (State.isArrayOf_alike hZ.alike Ar5.2.1) Ar5.2.2 (inb_of Sz5 ib5) hat5 (g := (mkF m 9 #[(vr qcs), (vi 0)] [(.int 1), (.ref qcf)])) rfl rfl (hb hby d41_9) _ ?_
    exact k)
  obtain ⟨fs, hr, hrun, hended, hW, hsame⟩ := X2.leave (v := some (.int (xcf 1))) (fun h => by rw [Bd.returns] at h; cases h)
  refine ⟨_, _, ?_, hrun, hended, _, _, rfl, ?_, ⟨_, rfl⟩, hW, hsame.mono (by decide) (by decide)⟩
  · exact pre6 _ (retI X2 hx Bd.returns (hb hby d41_10) hr)
  · exact ⟨rfl, N0, e2⟩
theorem d43_0 : DK cd43 0 (.aload_n 0) 1 := by decide +kernel
theorem d43_1 : DK cd43 1 (.getfield 9) 3 := by decide +kernel
theorem d43_4 : DK cd43 4 (.iload_n 1) 1 := by decide +kernel
theorem d43_5 : DK cd43 5 (.iconst 5) 1 := by decide +kernel
theorem d43_6 : DK cd43 6 .imul 1 := by decide +kernel
theorem d43_7 : DK cd43 7 (.iconst 2) 1 := by decide +kernel
theorem d43_8 : DK cd43 8 .iadd 1 := by decide +kernel
theorem d43_9 : DK cd43 9 .iaload 1 := by decide +kernel
theorem d43_10 : DK cd43 10 .ireturn 1 := by decide +kernel
theorem pn_43 : plainName "com/example/slim_kripke/slimkripke/bdd/CallStack" = true := by first | (simp [plainName, overriddenIn]; done) | decide +kernel
theorem ef_43 (m : MethodId) (x0 : Addr) : entryFrame m #[(.ref x0), (.int 0)] 2 = mkF m 0 #[.val (.ref x0), .val (.int 0)] [] := by first | (simp [entryFrame, mkF, argsToLocals, Value.category]; done) | rfl
theorem rm43 (l : Launch) (Z : State) (a0 : Array Value) (hw : ∀ d ∈ tables_1, d.before a0 Z = true) (ws : List Jvm.Cond) {oa qcs qcf qpe qlv qlo qhi qrf qch qbk qca : Addr} {xn xs xff xfc xdp xcz xli xpk : Int32} {xlv xlo xhi xrf xch xbk xca xcf xpe : Int32 → Int32} (h0 : Heap) (n0 : Nat) (Z0 : n0 ≤ h0.size) (B0 : Mg Z n0 h0 oa qcs qcf qpe qlv qlo qhi qrf qch qbk qca xn xs xff xfc xdp xcz xli xpk xlv xlo xhi xrf xch xbk xca xcf xpe) :
    Met1 l Nm_34 (Jvm.Cond.code Nm_34 prog_7_method_9_code 2 (some .int)) ws (rom 0 0 0 0) #[(.ref qcs), (.int 0)] Z h0 (QP (some (.int (xcf 2))) h0 n0) := by
  refine MetFree.of_bodySF (plainFor_of_name pn_43) hisR ?_
  intro p e s m args below meth c s₁ Bd hml0 hP hK
  obtain ⟨rfl, hZ, hh⟩ := hP
  have hx := Bd.exec
  have hby := Bd.bytes
  have hml : c.maxLocals = 2 := hml0
  have hown : s.vm.findClass "com/example/slim_kripke/slimkripke/bdd/CallStack" = some m.cls := findClass_of_methodNamed Bd.named
  have X0 : Stand p l e (rom 0 0 0 0) s m _ _ _ _ _ [] 0 0 := Stand.of_body Bd
  have e0 : s₁.heap = h0 := by rw [← hh, Bd.state]; rfl
  have N0 := Fr.nil n0
  have K0 : Keep h0 h0 [] := Keep.refl _ _
  have pre0 : Go p e below s₁ _ (mkF m 0 #[(vr qcs), (vi 0)] []) _ := fun t k => castTop (ef_43 m qcs) k
  have pre1 : Go p e below s₁ _ (mkF m 1 #[(vr qcs), (vi 0)] [(.ref qcs)]) _ := fun t k => pre0 t (by
    refine XS.aloadN X0.here hx rfl (hb hby d43_0) rfl rfl ?_
    exact k)
  obtain ⟨T2, X2, e2, st2⟩ := getF X0 hx hZ hown (host := "") (Or.inl (wq hw 18 rfl)) Via.refl e0 B0.f_cf (g := (mkF m 1 #[(vr qcs), (vi 0)] [(.ref qcs)])) rfl rfl (hb hby d43_1)
  have pre3 := Go.thn pre1 st2
  have pre4 : Go p e below T2 _ (mkF m 9 #[(vr qcs), (vi 0)] [(.int 2), (.ref qcf)]) _ := fun t k => pre3 t (by
    refine XS.iloadN X2.here hx rfl (hb hby d43_4) rfl ?_
    refine XS.iconst X2.here hx rfl (hb hby d43_5) ?_
    refine XS.imul X2.here hx rfl (hb hby d43_6) rfl ?_
    refine XS.iconst X2.here hx rfl (hb hby d43_7) ?_
    refine XS.iadd X2.here hx rfl (hb hby d43_8) rfl ?_
    exact k)
  obtain ⟨cl5, Ar5, Sz5, Mn5, Hs5⟩ := id B0.a_cf
  have ib5 : ¬ (2 : Int32) < 0 ∧ (2 : Int32) < 320 := ⟨by decide, by decide⟩
  have hat5 : cl5.slots[((2 : Int32)).toNatClampNeg]? = some (.int (xcf 2)) := Hs5 (2 : Int32) ib5
  have pre6 : Go p e below T2 _ (mkF m 10 #[(vr qcs), (vi 0)] [(.int (xcf 2))]) _ := fun t k => pre4 t (by
    show Steps p.tables e below (T2.setTop (mkF m 9 #[(vr qcs), (vi 0)] [(.int 2), (.ref qcf)])) _
    refine X2.iaload hx (j := (2 : Int32)) (v := (.int (xcf 2))) (by rw [e2]; exact Ar5.1) (State.isArrayOf_alike hZ.alike Ar5.2.1) Ar5.2.2 (inb_of Sz5 ib5) hat5 (g := (mkF m 9 #[(vr qcs), (vi 0)] [(.int 2), (.ref qcf)])) rfl rfl (hb hby d43_9) _ ?_
    exact k)
  obtain ⟨fs, hr, hrun, hended, hW, hsame⟩ := X2.leave (v := some (.int (xcf 2))) (fun h => by rw [Bd.returns] at h; cases h)
  refine ⟨_, _, ?_, hrun, hended, _, _, rfl, ?_, ⟨_, rfl⟩, hW, hsame.mono (by decide) (by decide)⟩
  · exact pre6 _ (retI X2 hx Bd.returns (hb hby d43_10) hr)
  · exact ⟨rfl, N0, e2⟩
theorem d39_0 : DK cd39 0 (.aload_n 0) 1 := by decide +kernel
theorem d39_1 : DK cd39 1 (.getfield 9) 3 := by decide +kernel
theorem d39_4 : DK cd39 4 (.iload_n 1) 1 := by decide +kernel
theorem d39_5 : DK cd39 5 (.iconst 5) 1 := by decide +kernel
theorem d39_6 : DK cd39 6 .imul 1 := by decide +kernel
theorem d39_7 : DK cd39 7 (.iconst 4) 1 := by decide +kernel
theorem d39_8 : DK cd39 8 .iadd 1 := by decide +kernel
theorem d39_9 : DK cd39 9 (.iload_n 2) 1 := by decide +kernel
theorem d39_10 : DK cd39 10 .iastore 1 := by decide +kernel
theorem d39_11 : DK cd39 11 .return_ 1 := by decide +kernel
theorem pn_39 : plainName "com/example/slim_kripke/slimkripke/bdd/CallStack" = true := by first | (simp [plainName, overriddenIn]; done) | decide +kernel
theorem ef_39 (m : MethodId) (x0 : Addr) (x2 : Int32) : entryFrame m #[(.ref x0), (.int 0), (.int x2)] 3 = mkF m 0 #[.val (.ref x0), .val (.int 0), .val (.int x2)] [] := by first | (simp [entryFrame, mkF, argsToLocals, Value.category]; done) | rfl
theorem rm39 (l : Launch) (Z : State) (a0 : Array Value) (hw : ∀ d ∈ tables_1, d.before a0 Z = true) (ws : List Jvm.Cond) {oa qcs qcf qpe qlv qlo qhi qrf qch qbk qca : Addr} {xn xs xff xfc xdp xcz xli xpk : Int32} {xlv xlo xhi xrf xch xbk xca xcf xpe : Int32 → Int32} (p2 : Int32) (h0 : Heap) (n0 : Nat) (Z0 : n0 ≤ h0.size) (B0 : Mg Z n0 h0 oa qcs qcf qpe qlv qlo qhi qrf qch qbk qca xn xs xff xfc xdp xcz xli xpk xlv xlo xhi xrf xch xbk xca xcf xpe) :
    Met1 l Nm_35 (Jvm.Cond.code Nm_35 prog_7_method_12_code 3 none) ws (rom 0 0 0 0) #[(.ref qcs), (.int 0), (.int p2)] Z h0 (QB none n0 (fun h => Mg Z n0 h oa qcs qcf qpe qlv qlo qhi qrf qch qbk qca xn xs xff xfc xdp xcz xli xpk xlv xlo xhi xrf xch xbk xca (own_up xcf 4 p2) xpe)) := by
  refine MetFree.of_bodySF (plainFor_of_name pn_39) hisR ?_
  intro p e s m args below meth c s₁ Bd hml0 hP hK
  obtain ⟨rfl, hZ, hh⟩ := hP
  have hx := Bd.exec
  have hby := Bd.bytes
  have hml : c.maxLocals = 3 := hml0
  have hown : s.vm.findClass "com/example/slim_kripke/slimkripke/bdd/CallStack" = some m.cls := findClass_of_methodNamed Bd.named
  have X0 : Stand p l e (rom 0 0 0 0) s m _ _ _ _ _ [] 0 0 := Stand.of_body Bd
  have e0 : s₁.heap = h0 := by rw [← hh, Bd.state]; rfl
  have N0 := Fr.nil n0
  have K0 : Keep h0 h0 [] := Keep.refl _ _
  have pre0 : Go p e below s₁ _ (mkF m 0 #[(vr qcs), (vi 0), (vi p2)] []) _ := fun t k => castTop (ef_39 m qcs p2) k
  have pre1 : Go p e below s₁ _ (mkF m 1 #[(vr qcs), (vi 0), (vi p2)] [(.ref qcs)]) _ := fun t k => pre0 t (by
    refine XS.aloadN X0.here hx rfl (hb hby d39_0) rfl rfl ?_
    exact k)
  obtain ⟨T2, X2, e2, st2⟩ := getF X0 hx hZ hown (host := "") (Or.inl (wq hw 18 rfl)) Via.refl e0 B0.f_cf (g := (mkF m 1 #[(vr qcs), (vi 0), (vi p2)] [(.ref qcs)])) rfl rfl (hb hby d39_1)
  have pre3 := Go.thn pre1 st2
  have pre4 : Go p e below T2 _ (mkF m 10 #[(vr qcs), (vi 0), (vi p2)] [(.int p2), (.int 4), (.ref qcf)]) _ := fun t k => pre3 t (by
    refine XS.iloadN X2.here hx rfl (hb hby d39_4) rfl ?_
    refine XS.iconst X2.here hx rfl (hb hby d39_5) ?_
    refine XS.imul X2.here hx rfl (hb hby d39_6) rfl ?_
    refine XS.iconst X2.here hx rfl (hb hby d39_7) ?_
    refine XS.iadd X2.here hx rfl (hb hby d39_8) rfl ?_
    refine XS.iloadN X2.here hx rfl (hb hby d39_9) rfl ?_
    exact k)
  have ib5 : ¬ (4 : Int32) < 0 ∧ (4 : Int32) < 320 := ⟨by decide, by decide⟩
  obtain ⟨cl5, Ar5, Sz5, -, -⟩ := id B0.a_cf
  obtain ⟨T5, h5, X5, e5, W5, st5⟩ := stI X2 hx hZ e2 Ar5 (j := (4 : Int32)) (inb_of Sz5 ib5) (g := (mkF m 10 #[(vr qcs), (vi 0), (vi p2)] [(.int p2), (.int 4), (.ref qcf)])) rfl rfl (hb hby d39_10)
  have N5 := Fr.snoc X5 N0 B0.g_cf
  have B5 := B0.t_cf W5 ib5
  have pre6 := Go.thn pre4 st5
  obtain ⟨fs, hr, hrun, hended, hW, hsame⟩ := X5.leave (v := none) (fun _ => rfl)
  refine ⟨_, _, ?_, hrun, hended, _, _, rfl, ?_, ⟨_, rfl⟩, hW, hsame.mono (by decide) (by decide)⟩
  · exact pre6 _ (X5.returnOut hx Bd.returns (hb hby d39_11) hr)
  · show QB _ _ _ _ T5.heap _
    rw [e5]
    exact ⟨rfl, N5, B5⟩
theorem d44_0 : DK cd44 0 (.aload_n 0) 1 := by decide +kernel
theorem d44_1 : DK cd44 1 .dup 1 := by decide +kernel
theorem d44_2 : DK cd44 2 (.getfield 13) 3 := by decide +kernel
theorem d44_5 : DK cd44 5 (.iconst 1) 1 := by decide +kernel
theorem d44_6 : DK cd44 6 .isub 1 := by decide +kernel
theorem d44_7 : DK cd44 7 (.putfield 13) 3 := by decide +kernel
theorem d44_10 : DK cd44 10 .return_ 1 := by decide +kernel
theorem pn_44 : plainName "com/example/slim_kripke/slimkripke/bdd/CallStack" = true := by first | (simp [plainName, overriddenIn]; done) | decide +kernel
theorem ef_44 (m : MethodId) (x0 : Addr) : entryFrame m #[(.ref x0)] 1 = mkF m 0 #[.val (.ref x0)] [] := by first | (simp [entryFrame, mkF, argsToLocals, Value.category]; done) | rfl
theorem rm44 (l : Launch) (Z : State) (a0 : Array Value) (hw : ∀ d ∈ tables_1, d.before a0 Z = true) (ws : List Jvm.Cond) {oa qcs qcf qpe qlv qlo qhi qrf qch qbk qca : Addr} {xn xs xff xfc xdp xcz xli xpk : Int32} {xlv xlo xhi xrf xch xbk xca xcf xpe : Int32 → Int32} (h0 : Heap) (n0 : Nat) (Z0 : n0 ≤ h0.size) (B0 : Mg Z n0 h0 oa qcs qcf qpe qlv qlo qhi qrf qch qbk qca xn xs xff xfc xdp xcz xli xpk xlv xlo xhi xrf xch xbk xca xcf xpe) :
    Met1 l Nm_36 (Jvm.Cond.code Nm_36 prog_7_method_5_code 1 none) ws (rom 0 0 0 0) #[(.ref qcs)] Z h0 (QB none n0 (fun h => Mg Z n0 h oa qcs qcf qpe qlv qlo qhi qrf qch qbk qca xn xs xff xfc xdp (xcz - 1) xli xpk xlv xlo xhi xrf xch xbk xca xcf xpe)) := by
  refine MetFree.of_bodySF (plainFor_of_name pn_44) hisR ?_
  intro p e s m args below meth c s₁ Bd hml0 hP hK
  obtain ⟨rfl, hZ, hh⟩ := hP
  have hx := Bd.exec
  have hby := Bd.bytes
  have hml : c.maxLocals = 1 := hml0
  have hown : s.vm.findClass "com/example/slim_kripke/slimkripke/bdd/CallStack" = some m.cls := findClass_of_methodNamed Bd.named
  have X0 : Stand p l e (rom 0 0 0 0) s m _ _ _ _ _ [] 0 0 := Stand.of_body Bd
  have e0 : s₁.heap = h0 := by rw [← hh, Bd.state]; rfl
  have N0 := Fr.nil n0
  have K0 : Keep h0 h0 [] := Keep.refl _ _
  have pre0 : Go p e below s₁ _ (mkF m 0 #[(vr qcs)] []) _ := fun t k => castTop (ef_44 m qcs) k
  have pre1 : Go p e below s₁ _ (mkF m 2 #[(vr qcs)] [(.ref qcs), (.ref qcs)]) _ := fun t k => pre0 t (by
    refine XS.aloadN X0.here hx rfl (hb hby d44_0) rfl rfl ?_
    refine XS.dup X0.here hx rfl (hb hby d44_1) rfl rfl ?_
    exact k)
  obtain ⟨T2, X2, e2, st2⟩ := getF X0 hx hZ hown (host := "") (Or.inl (wq hw 105 rfl)) Via.refl e0 B0.f_cz (g := (mkF m 2 #[(vr qcs)] [(.ref qcs), (.ref qcs)])) rfl rfl (hb hby d44_2)
  have pre3 := Go.thn pre1 st2
  have pre4 : Go p e below T2 _ (mkF m 7 #[(vr qcs)] [(.int (xcz - (1 : Int32))), (.ref qcs)]) _ := fun t k => pre3 t (by
    refine XS.iconst X2.here hx rfl (hb hby d44_5) ?_
    refine XS.isub X2.here hx rfl (hb hby d44_6) rfl ?_
    exact k)
  obtain ⟨T5, h5, X5, e5, W5, st5⟩ := putF X2 hx hZ hown (host := "") (Or.inl (wq hw 105 rfl)) Via.refl e2 B0.f_cz B0.ec (Or.inl (wq hw 106 rfl)) (wq hw 11 rfl) (ty := .int) (by decide) rfl rfl (g := (mkF m 7 #[(vr qcs)] [(.int (xcz - (1 : Int32))), (.ref qcs)])) rfl rfl (hb hby d44_7)
  have N5 := Fr.snoc X5 N0 B0.g_cs
  have B5 := B0.w_cz hw W5
  have pre6 := Go.thn pre4 st5
  obtain ⟨fs, hr, hrun, hended, hW, hsame⟩ := X5.leave (v := none) (fun _ => rfl)
  refine ⟨_, _, ?_, hrun, hended, _, _, rfl, ?_, ⟨_, rfl⟩, hW, hsame.mono (by decide) (by decide)⟩
  · exact pre6 _ (X5.returnOut hx Bd.returns (hb hby d44_10) hr)
  · show QB _ _ _ _ T5.heap _
    rw [e5]
    exact ⟨rfl, N5, B5⟩
theorem d42_0 : DK cd42 0 (.aload_n 0) 1 := by decide +kernel
theorem d42_1 : DK cd42 1 (.iload_n 1) 1 := by decide +kernel
theorem d42_2 : DK cd42 2 (.aload_n 0) 1 := by decide +kernel
theorem d42_3 : DK cd42 3 (.getfield 15) 3 := by decide +kernel
theorem d42_6 : DK cd42 6 (.iload_n 2) 1 := by decide +kernel
theorem d42_7 : DK cd42 7 (.invokevirtual 325) 3 := by decide +kernel
theorem d42_10 : DK cd42 10 (.aload_n 0) 1 := by decide +kernel
theorem d42_11 : DK cd42 11 (.getfield 15) 3 := by decide +kernel
theorem d42_14 : DK cd42 14 (.iload_n 2) 1 := by decide +kernel
theorem d42_15 : DK cd42 15 (.invokevirtual 332) 3 := by decide +kernel
theorem d42_18 : DK cd42 18 (.aload_n 0) 1 := by decide +kernel
theorem d42_19 : DK cd42 19 (.getfield 15) 3 := by decide +kernel
theorem d42_22 : DK cd42 22 (.iload_n 2) 1 := by decide +kernel
theorem d42_23 : DK cd42 23 (.invokevirtual 335) 3 := by decide +kernel
theorem d42_26 : DK cd42 26 (.iload_n 3) 1 := by decide +kernel
theorem d42_27 : DK cd42 27 (.invokevirtual 257) 3 := by decide +kernel
theorem d42_30 : DK cd42 30 (.aload_n 0) 1 := by decide +kernel
theorem d42_31 : DK cd42 31 (.getfield 15) 3 := by decide +kernel
theorem d42_34 : DK cd42 34 (.invokevirtual 338) 3 := by decide +kernel
theorem d42_37 : DK cd42 37 (.iload_n 3) 1 := by decide +kernel
theorem d42_38 : DK cd42 38 .ireturn 1 := by decide +kernel
theorem pn_42 : plainName "com/example/slim_kripke/slimkripke/bdd/BddManager" = true := by first | (simp [plainName, overriddenIn]; done) | decide +kernel
theorem pd__IIIII_V : parseMethodDescriptor "(IIIII)V" = some ⟨[.int, .int, .int, .int, .int], none⟩ := by decide +kernel
theorem ef_42 (m : MethodId) (x0 : Addr) (x1 : Int32) (x3 : Int32) : entryFrame m #[(.ref x0), (.int x1), (.int 0), (.int x3)] 4 = mkF m 0 #[.val (.ref x0), .val (.int x1), .val (.int 0), .val (.int x3)] [] := by first | (simp [entryFrame, mkF, argsToLocals, Value.category]; done) | rfl
theorem rm42 (l : Launch) (Z : State) (a0 : Array Value) (hw : ∀ d ∈ tables_1, d.before a0 Z = true) (ws : List Jvm.Cond) {oa qcs qcf qpe qlv qlo qhi qrf qch qbk qca : Addr} {xn xs xff xfc xdp xcz xli xpk : Int32} {xlv xlo xhi xrf xch xbk xca xcf xpe : Int32 → Int32} (p1 : Int32) (p3 : Int32) (h0 : Heap) (n0 : Nat) (Z0 : n0 ≤ h0.size) (B0 : Mg Z n0 h0 oa qcs qcf qpe qlv qlo qhi qrf qch qbk qca xn xs xff xfc xdp xcz xli xpk xlv xlo xhi xrf xch xbk xca xcf xpe) :
    Met1 l Nm_37 (Jvm.Cond.code Nm_37 prog_5_method_53_code 4 (some .int)) ws (rom 3 0 0 52) #[(.ref oa), (.int p1), (.int 0), (.int p3)] Z h0 (QB (some (.int p3)) n0 (fun h => Mg Z n0 h oa qcs qcf qpe qlv qlo qhi qrf qch qbk qca xn xs xff xfc xdp (xcz - 1) xli xpk xlv xlo xhi xrf xch xbk (own_up (own_up (own_up (own_up (own_up xca ((f28 p1 (xcf 0) (xcf 1) (xcf 2)) + 0) p1) ((f28 p1 (xcf 0) (xcf 1) (xcf 2)) + 1) (xcf 0)) ((f28 p1 (xcf 0) (xcf 1) (xcf 2)) + 2) (xcf 1)) ((f28 p1 (xcf 0) (xcf 1) (xcf 2)) + 3) (xcf 2)) ((f28 p1 (xcf 0) (xcf 1) (xcf 2)) + 4) p3) xcf xpe)) := by
  refine MetFree.of_bodySF (plainFor_of_name pn_42) hisR ?_
  intro p e s m args below meth c s₁ Bd hml0 hP hK
  obtain ⟨rfl, hZ, hh⟩ := hP
  have hx := Bd.exec
  have hby := Bd.bytes
  have hml : c.maxLocals = 4 := hml0
  have hown : s.vm.findClass "com/example/slim_kripke/slimkripke/bdd/BddManager" = some m.cls := findClass_of_methodNamed Bd.named
  have X0 : Stand p l e (rom 3 0 0 52) s m _ _ _ _ _ [] 0 0 := Stand.of_body Bd
  have e0 : s₁.heap = h0 := by rw [← hh, Bd.state]; rfl
  have N0 := Fr.nil n0
  have K0 : Keep h0 h0 [] := Keep.refl _ _
  have pre0 : Go p e below s₁ _ (mkF m 0 #[(vr oa), (vi p1), (vi 0), (vi p3)] []) _ := fun t k => castTop (ef_42 m oa p1 p3) k
  have pre1 : Go p e below s₁ _ (mkF m 3 #[(vr oa), (vi p1), (vi 0), (vi p3)] [(.ref oa), (.int p1), (.ref oa)]) _ := fun t k => pre0 t (by
    refine XS.aloadN X0.here hx rfl (hb hby d42_0) rfl rfl ?_
    refine XS.iloadN X0.here hx rfl (hb hby d42_1) rfl ?_
    refine XS.aloadN X0.here hx rfl (hb hby d42_2) rfl rfl ?_
    exact k)
  obtain ⟨T2, X2, e2, st2⟩ := getF X0 hx hZ hown (host := "") (Or.inl (wq hw 20 rfl)) Via.refl e0 B0.f_cs (g := (mkF m 3 #[(vr oa), (vi p1), (vi 0), (vi p3)] [(.ref oa), (.int p1), (.ref oa)])) rfl rfl (hb hby d42_3)
  have pre3 := Go.thn pre1 st2
  have pre4 : Go p e below T2 _ (mkF m 7 #[(vr oa), (vi p1), (vi 0), (vi p3)] [(.int 0), (.ref qcs), (.int p1), (.ref oa)]) _ := fun t k => pre3 t (by
    refine XS.iloadN X2.here hx rfl (hb hby d42_6) rfl ?_
    exact k)
  obtain ⟨cq5, kq5, q5a, q5b, q5c⟩ := isOf hZ e2 B0.ec
  obtain ⟨_, _, ⟨T5, L5, k5, n5⟩, -, X5, ⟨Lc5, hQ5, l5, y5, z5⟩, st5⟩ := X2.virtualBack hx (y := Nm_32) (z := Nm_32) hown (mq hZ hw 220 rfl) (mq hZ hw 221 rfl) (notFace_of_selects (args := #[]) (mq hZ hw 223 rfl)) (mq hZ hw 223 rfl) (mq hZ hw 222 rfl) (by decide) (backOf (W := 2) (rm40 l Z a0 hw []  h0 n0 B0.z B0) hZ (wq hw 224 rfl) (wq hw 12 rfl) (by decide) (by decide)) q5a q5c (g := (mkF m 7 #[(vr oa), (vi p1), (vi 0), (vi p3)] [(.int 0), (.ref qcs), (.int p1), (.ref oa)])) rfl (by rw [hml]; rfl) (Steps.refl _) (argsL := [(.int 0)]) (rest := [(.int p1), (.ref oa)]) (lenOf pd__I_I rfl) rfl (w00 rfl) (hb hby d42_7) (fun _ _ => ⟨rfl, e2, zz, zz⟩)
  dsimp only [Pt.U, Pt.locs, Pt.cells, Pt.slots] at X5 l5 y5 z5 st5 hQ5
  subst y5 z5
  obtain ⟨rfl, Nq5, e5⟩ := hQ5
  have N5 := FrE l5 N0 Nq5
  have pre6 := Go.trn pre4 st5
  have pre7 : Go p e below T5 _ (mkF m 11 #[(vr oa), (vi p1), (vi 0), (vi p3)] [(.ref oa), (.int (xcf 0)), (.int p1), (.ref oa)]) _ := fun t k => pre6 t (by
    refine XS.aloadN X5.here hx rfl (hb hby d42_10) rfl rfl ?_
    exact k)
  obtain ⟨T8, X8, e8, st8⟩ := getF X5 hx hZ hown (host := "") (Or.inl (wq hw 20 rfl)) Via.refl e5 B0.f_cs (g := (mkF m 11 #[(vr oa), (vi p1), (vi 0), (vi p3)] [(.ref oa), (.int (xcf 0)), (.int p1), (.ref oa)])) rfl rfl (hb hby d42_11)
  have pre9 := Go.thn pre7 st8
  have pre10 : Go p e below T8 _ (mkF m 15 #[(vr oa), (vi p1), (vi 0), (vi p3)] [(.int 0), (.ref qcs), (.int (xcf 0)), (.int p1), (.ref oa)]) _ := fun t k => pre9 t (by
    refine XS.iloadN X8.here hx rfl (hb hby d42_14) rfl ?_
    exact k)
  obtain ⟨cq11, kq11, q11a, q11b, q11c⟩ := isOf hZ e8 B0.ec
  obtain ⟨_, _, ⟨T11, L11, k11, n11⟩, -, X11, ⟨Lc11, hQ11, l11, y11, z11⟩, st11⟩ := X8.virtualBack hx (y := Nm_33) (z := Nm_33) hown (mq hZ hw 225 rfl) (mq hZ hw 226 rfl) (notFace_of_selects (args := #[]) (mq hZ hw 228 rfl)) (mq hZ hw 228 rfl) (mq hZ hw 227 rfl) (by decide) (backOf (W := 3) (rm41 l Z a0 hw []  h0 n0 B0.z B0) hZ (wq hw 229 rfl) (wq hw 12 rfl) (by decide) (by decide)) q11a q11c (g := (mkF m 15 #[(vr oa), (vi p1), (vi 0), (vi p3)] [(.int 0), (.ref qcs), (.int (xcf 0)), (.int p1), (.ref oa)])) rfl (by rw [hml]; rfl) (Steps.refl _) (argsL := [(.int 0)]) (rest := [(.int (xcf 0)), (.int p1), (.ref oa)]) (lenOf pd__I_I rfl) rfl (w00 rfl) (hb hby d42_15) (fun _ _ => ⟨rfl, e8, zz, zz⟩)
  dsimp only [Pt.U, Pt.locs, Pt.cells, Pt.slots] at X11 l11 y11 z11 st11 hQ11
  subst y11 z11
  obtain ⟨rfl, Nq11, e11⟩ := hQ11
  have N11 := FrE l11 N5 Nq11
  have pre12 := Go.trn pre10 st11
  have pre13 : Go p e below T11 _ (mkF m 19 #[(vr oa), (vi p1), (vi 0), (vi p3)] [(.ref oa), (.int (xcf 1)), (.int (xcf 0)), (.int p1), (.ref oa)]) _ := fun t k => pre12 t (by
    refine XS.aloadN X11.here hx rfl (hb hby d42_18) rfl rfl ?_
    exact k)
  obtain ⟨T14, X14, e14, st14⟩ := getF X11 hx hZ hown (host := "") (Or.inl (wq hw 20 rfl)) Via.refl e11 B0.f_cs (g := (mkF m 19 #[(vr oa), (vi p1), (vi 0), (vi p3)] [(.ref oa), (.int (xcf 1)), (.int (xcf 0)), (.int p1), (.ref oa)])) rfl rfl (hb hby d42_19)
  have pre15 := Go.thn pre13 st14
  have pre16 : Go p e below T14 _ (mkF m 23 #[(vr oa), (vi p1), (vi 0), (vi p3)] [(.int 0), (.ref qcs), (.int (xcf 1)), (.int (xcf 0)), (.int p1), (.ref oa)]) _ := fun t k => pre15 t (by
    refine XS.iloadN X14.here hx rfl (hb hby d42_22) rfl ?_
    exact k)
  obtain ⟨cq17, kq17, q17a, q17b, q17c⟩ := isOf hZ e14 B0.ec
  obtain ⟨_, _, ⟨T17, L17, k17, n17⟩, -, X17, ⟨Lc17, hQ17, l17, y17, z17⟩, st17⟩ := X14.virtualBack hx (y := Nm_34) (z := Nm_34) hown (mq hZ hw 234 rfl) (mq hZ hw 235 rfl) (notFace_of_selects (args := #[]) (mq hZ hw 237 rfl)) (mq hZ hw 237 rfl) (mq hZ hw 236 rfl) (by decide) (backOf (W := 4) (rm43 l Z a0 hw []  h0 n0 B0.z B0) hZ (wq hw 238 rfl) (wq hw 12 rfl) (by decide) (by decide)) q17a q17c (g := (mkF m 23 #[(vr oa), (vi p1), (vi 0), (vi p3)] [(.int 0), (.ref qcs), (.int (xcf 1)), (.int (xcf 0)), (.int p1), (.ref oa)])) rfl (by rw [hml]; rfl) (Steps.refl _) (argsL := [(.int 0)]) (rest := [(.int (xcf 1)), (.int (xcf 0)), (.int p1), (.ref oa)]) (lenOf pd__I_I rfl) rfl (w00 rfl) (hb hby d42_23) (fun _ _ => ⟨rfl, e14, zz, zz⟩)
  dsimp only [Pt.U, Pt.locs, Pt.cells, Pt.slots] at X17 l17 y17 z17 st17 hQ17
  subst y17 z17
  obtain ⟨rfl, Nq17, e17⟩ := hQ17
  have N17 := FrE l17 N11 Nq17
  have pre18 := Go.trn pre16 st17
  have pre19 : Go p e below T17 _ (mkF m 27 #[(vr oa), (vi p1), (vi 0), (vi p3)] [(.int p3), (.int (xcf 2)), (.int (xcf 1)), (.int (xcf 0)), (.int p1), (.ref oa)]) _ := fun t k => pre18 t (by
    refine XS.iloadN X17.here hx rfl (hb hby d42_26) rfl ?_
    exact k)
  obtain ⟨cq20, q20, q20'⟩ := B0.e.cell
  obtain ⟨_, _, ⟨T20, L20, k20, n20⟩, -, X20, ⟨Lc20, hQ20, l20, y20, z20⟩, st20⟩ := X17.privateBack hx (y := Nm_20) hown (mq hZ hw 172 rfl) (mq hZ hw 173 rfl) (own_seli (mq hZ hw 2 rfl) (pq hZ hw 174 rfl) (mq hZ hw 173 rfl) (by decide)) (pq hZ hw 174 rfl) (mq hZ hw 175 rfl) (by decide) (backOf (W := 0) (rm30 l Z a0 hw [] p1 (xcf 0) (xcf 1) (xcf 2) p3 h0 n0 B0.z B0) hZ (wq hw 175 rfl) (wq hw 3 rfl) (by decide) (by decide)) (g := (mkF m 27 #[(vr oa), (vi p1), (vi 0), (vi p3)] [(.int p3), (.int (xcf 2)), (.int (xcf 1)), (.int (xcf 0)), (.int p1), (.ref oa)])) rfl (by rw [hml]; rfl) (Steps.refl _) (a := oa) (by rw [e17]; exact q20) q20' (argsL := [(.int p1), (.int (xcf 0)), (.int (xcf 1)), (.int (xcf 2)), (.int p3)]) (rest := []) (lenOf pd__IIIII_V rfl) rfl (w00 rfl) (hb hby d42_27) (fun _ _ => ⟨rfl, e17, zz, zz⟩)
  dsimp only [Pt.U, Pt.locs, Pt.cells, Pt.slots] at X20 l20 y20 z20 st20 hQ20
  subst y20 z20
  obtain ⟨rfl, Nq20, Bq20⟩ := hQ20
  have N20 := FrE l20 N17 Nq20
  have B20 : Mg Z n0 T20.heap oa _ _ _ _ _ _ _ _ _ _ xn xs xff xfc xdp xcz xli xpk xlv xlo xhi xrf xch xbk (own_up (own_up (own_up (own_up (own_up xca ((f28 p1 (xcf 0) (xcf 1) (xcf 2)) + 0) p1) ((f28 p1 (xcf 0) (xcf 1) (xcf 2)) + 1) (xcf 0)) ((f28 p1 (xcf 0) (xcf 1) (xcf 2)) + 2) (xcf 1)) ((f28 p1 (xcf 0) (xcf 1) (xcf 2)) + 3) (xcf 2)) ((f28 p1 (xcf 0) (xcf 1) (xcf 2)) + 4) p3) xcf xpe := Bq20
  have pre21 := Go.trn pre19 st20
  have pre22 : Go p e below T20 _ (mkF m 31 #[(vr oa), (vi p1), (vi 0), (vi p3)] [(.ref oa)]) _ := fun t k => pre21 t (by
    refine XS.aloadN X20.here hx rfl (hb hby d42_30) rfl rfl ?_
    exact k)
  obtain ⟨T23, X23, e23, st23⟩ := getF X20 hx hZ hown (host := "") (Or.inl (wq hw 20 rfl)) Via.refl rfl B20.f_cs (g := (mkF m 31 #[(vr oa), (vi p1), (vi 0), (vi p3)] [(.ref oa)])) rfl rfl (hb hby d42_31)
  have pre24 := Go.thn pre22 st23
  obtain ⟨cq25, kq25, q25a, q25b, q25c⟩ := isOf hZ e23 B20.ec
  obtain ⟨_, _, ⟨T25, L25, k25, n25⟩, -, X25, ⟨Lc25, hQ25, l25, y25, z25⟩, st25⟩ := X23.virtualBack hx (y := Nm_36) (z := Nm_36) hown (mq hZ hw 239 rfl) (mq hZ hw 240 rfl) (notFace_of_selects (args := #[]) (mq hZ hw 242 rfl)) (mq hZ hw 242 rfl) (mq hZ hw 241 rfl) (by decide) (backOf (W := 0) (rm44 l Z a0 hw []  T20.heap n0 B20.z B20) hZ (wq hw 243 rfl) (wq hw 12 rfl) (by decide) (by decide)) q25a q25c (g := (mkF m 34 #[(vr oa), (vi p1), (vi 0), (vi p3)] [(.ref qcs)])) rfl (by rw [hml]; rfl) (Steps.refl _) (argsL := []) (rest := []) (lenOf pd___V rfl) rfl (w00 rfl) (hb hby d42_34) (fun _ _ => ⟨rfl, e23, zz, zz⟩)
  dsimp only [Pt.U, Pt.locs, Pt.cells, Pt.slots] at X25 l25 y25 z25 st25 hQ25
  subst y25 z25
  obtain ⟨rfl, Nq25, Bq25⟩ := hQ25
  have N25 := FrE l25 N20 Nq25
  have B25 : Mg Z n0 T25.heap oa _ _ _ _ _ _ _ _ _ _ xn xs xff xfc xdp (xcz - 1) xli xpk xlv xlo xhi xrf xch xbk (own_up (own_up (own_up (own_up (own_up xca ((f28 p1 (xcf 0) (xcf 1) (xcf 2)) + 0) p1) ((f28 p1 (xcf 0) (xcf 1) (xcf 2)) + 1) (xcf 0)) ((f28 p1 (xcf 0) (xcf 1) (xcf 2)) + 2) (xcf 1)) ((f28 p1 (xcf 0) (xcf 1) (xcf 2)) + 3) (xcf 2)) ((f28 p1 (xcf 0) (xcf 1) (xcf 2)) + 4) p3) xcf xpe := Bq25
  have pre26 := Go.trn pre24 st25
  have pre27 : Go p e below T25 _ (mkF m 38 #[(vr oa), (vi p1), (vi 0), (vi p3)] [(.int p3)]) _ := fun t k => pre26 t (by
    refine XS.iloadN X25.here hx rfl (hb hby d42_37) rfl ?_
    exact k)
  obtain ⟨fs, hr, hrun, hended, hW, hsame⟩ := X25.leave (v := some (.int p3)) (fun h => by rw [Bd.returns] at h; cases h)
  refine ⟨_, _, ?_, hrun, hended, _, _, rfl, ?_, ⟨_, rfl⟩, hW, hsame.mono (by decide) (by decide)⟩
  · exact pre27 _ (retI X25 hx Bd.returns (hb hby d42_38) hr)
  · show QB _ _ _ _ T25.heap _
    skip
    exact ⟨rfl, N25, B25⟩
theorem own_mnl {a b : Int32} (h : a < b) : a = f9 a b := by
  have q : ¬ b < a := by rw [Int32.lt_iff_toInt_lt] at *; omega
  unfold f9; rw [if_neg q]
theorem own_mnr {a b : Int32} (h : b < a) : b = f9 a b := by unfold f9; rw [if_pos h]
theorem own_mnl' {a b : Int32} (h : a < b) : ¬ b = f9 a b := fun q => by
  rw [← own_mnl h] at q; subst q; rw [Int32.lt_iff_toInt_lt] at h; omega
theorem own_mnr' {a b : Int32} (h : b < a) : ¬ a = f9 a b := fun q => by
  rw [← own_mnr h] at q; subst q; rw [Int32.lt_iff_toInt_lt] at h; omega
theorem own_mne {a b : Int32} (h : a = b) : a = f9 a b := by subst h; unfold f9; rw [if_neg (by rw [Int32.lt_iff_toInt_lt]; omega)]
theorem d25_0 : DK cd25 0 (.iload_n 1) 1 := by decide +kernel
theorem d25_1 : DK cd25 1 (.iload_n 2) 1 := by decide +kernel
theorem d25_2 : DK cd25 2 (.iload_n 3) 1 := by decide +kernel
theorem d25_3 : DK cd25 3 (.invokestatic 261) 3 := by decide +kernel
theorem d25_6 : DK cd25 6 (.istore 4) 2 := by decide +kernel
theorem d25_8 : DK cd25 8 (.iload 4) 2 := by decide +kernel
theorem d25_10 : DK cd25 10 (.iconst (-1)) 1 := by decide +kernel
theorem d25_11 : DK cd25 11 (.if_icmp .eq 6) 3 := by decide +kernel
theorem d25_14 : DK cd25 14 (.iload 4) 2 := by decide +kernel
theorem d25_16 : DK cd25 16 .ireturn 1 := by decide +kernel
theorem pn_25 : plainName "com/example/slim_kripke/slimkripke/bdd/BddManager" = true := by first | (simp [plainName, overriddenIn]; done) | decide +kernel
theorem ef_25t (m : MethodId) (x0 : Addr) (x2 : Int32) (x3 : Int32) : entryFrame m #[(.ref x0), (.int 0), (.int x2), (.int x3)] 11 = mkF m 0 #[.val (.ref x0), .val (.int 0), .val (.int x2), .val (.int x3), .unset, .unset, .unset, .unset, .unset, .unset, .unset] [] := by first | (simp [entryFrame, mkF, argsToLocals, Value.category]; done) | rfl
theorem rm25t (l : Launch) (Z : State) (a0 : Array Value) (hw : ∀ d ∈ tables_1, d.before a0 Z = true) (ws : List Jvm.Cond) {oa qcs qcf qpe qlv qlo qhi qrf qch qbk qca : Addr} {xn xs xff xfc xdp xcz xli xpk : Int32} {xlv xlo xhi xrf xch xbk xca xcf xpe : Int32 → Int32} (p2 : Int32) (p3 : Int32) (h0 : Heap) (n0 : Nat) (Z0 : n0 ≤ h0.size) (B0 : Mg Z n0 h0 oa qcs qcf qpe qlv qlo qhi qrf qch qbk qca xn xs xff xfc xdp xcz xli xpk xlv xlo xhi xrf xch xbk xca xcf xpe) (ht : ¬ (f26 p2 p3) = (-1 : Int32)) :
    Met1 l Nm_38 (Jvm.Cond.code Nm_38 prog_5_method_36_code 11 (some .int)) ws (rom 1 0 0 15) #[(.ref oa), (.int 0), (.int p2), (.int p3)] Z h0 (QP (some (.int (f26 p2 p3))) h0 n0) := by
  refine MetFree.of_bodySF (plainFor_of_name pn_25) hisR ?_
  intro p e s m args below meth c s₁ Bd hml0 hP hK
  obtain ⟨rfl, hZ, hh⟩ := hP
  have hx := Bd.exec
  have hby := Bd.bytes
  have hml : c.maxLocals = 11 := hml0
  have hown : s.vm.findClass "com/example/slim_kripke/slimkripke/bdd/BddManager" = some m.cls := findClass_of_methodNamed Bd.named
  have X0 : Stand p l e (rom 1 0 0 15) s m _ _ _ _ _ [] 0 0 := Stand.of_body Bd
  have e0 : s₁.heap = h0 := by rw [← hh, Bd.state]; rfl
  have N0 := Fr.nil n0
  have K0 : Keep h0 h0 [] := Keep.refl _ _
  have pre0 : Go p e below s₁ _ (mkF m 0 #[(vr oa), (vi 0), (vi p2), (vi p3), .unset, .unset, .unset, .unset, .unset, .unset, .unset] []) _ := fun t k => castTop (ef_25t m oa p2 p3) k
  have pre1 : Go p e below s₁ _ (mkF m 3 #[(vr oa), (vi 0), (vi p2), (vi p3), .unset, .unset, .unset, .unset, .unset, .unset, .unset] [(.int p3), (.int p2), (.int 0)]) _ := fun t k => pre0 t (by
    refine XS.iloadN X0.here hx rfl (hb hby d25_0) rfl ?_
    refine XS.iloadN X0.here hx rfl (hb hby d25_1) rfl ?_
    refine XS.iloadN X0.here hx rfl (hb hby d25_2) rfl ?_
    exact k)
  obtain ⟨_, _, ⟨T2, L2, k2, n2⟩, -, X2, ⟨Lc2, hQ2, l2, y2, z2⟩, st2⟩ := Jvm.LawKit.callS X0 hx (y := Nm_6) hown (mq hZ hw 156 rfl) (mq hZ hw 157 rfl) (mq hZ hw 3 rfl) (mq hZ hw 158 rfl) (by decide) (backOf (W := 0) (rm26 l Z a0 hw [] p2 p3 h0 n0 Z0) hZ (wq hw 158 rfl) (wq hw 3 rfl) (by decide) (by decide)) (g := (mkF m 3 #[(vr oa), (vi 0), (vi p2), (vi p3), .unset, .unset, .unset, .unset, .unset, .unset, .unset] [(.int p3), (.int p2), (.int 0)])) rfl (by rw [hml]; rfl) (argsL := [(.int 0), (.int p2), (.int p3)]) (rest := []) (lenOf pd__III_I rfl) rfl (w00 rfl) (hb hby d25_3) (fun _ _ => ⟨rfl, e0, zz, zz⟩)
  dsimp only [Pt.U, Pt.locs, Pt.cells, Pt.slots] at X2 l2 y2 z2 st2 hQ2
  subst y2 z2
  obtain ⟨rfl, Nq2, e2⟩ := hQ2
  have N2 := FrE l2 N0 Nq2
  have pre3 := Go.thn pre1 st2
  have pre4 : Go p e below T2 _ (mkF m 16 #[(vr oa), (vi 0), (vi p2), (vi p3), (vi (f26 p2 p3)), .unset, .unset, .unset, .unset, .unset, .unset] [(.int (f26 p2 p3))]) _ := fun t k => pre3 t (by
    refine XS.istore X2.here hx rfl (hb hby d25_6) rfl (l' := #[(vr oa), (vi 0), (vi p2), (vi p3), (vi (f26 p2 p3)), .unset, .unset, .unset, .unset, .unset, .unset]) rfl ?_
    refine XS.iload X2.here hx rfl (hb hby d25_8) rfl ?_
    refine XS.iconst X2.here hx rfl (hb hby d25_10) ?_
    refine XS.icmpNo X2.here hx rfl (hb hby d25_11) rfl (feq ht).1 ?_
    refine XS.iload X2.here hx rfl (hb hby d25_14) rfl ?_
    exact k)
  obtain ⟨fs, hr, hrun, hended, hW, hsame⟩ := X2.leave (v := some (.int (f26 p2 p3))) (fun h => by rw [Bd.returns] at h; cases h)
  refine ⟨_, _, ?_, hrun, hended, _, _, rfl, ?_, ⟨_, rfl⟩, hW, hsame.mono (by decide) (by decide)⟩
  · exact pre4 _ (retI X2 hx Bd.returns (hb hby d25_16) hr)
  · exact ⟨rfl, N2, e2⟩
theorem d25_17 : DK cd25 17 (.iload_n 2) 1 := by decide +kernel
theorem d25_18 : DK cd25 18 (.istore 5) 2 := by decide +kernel
theorem d25_20 : DK cd25 20 (.iload_n 3) 1 := by decide +kernel
theorem d25_21 : DK cd25 21 (.istore 6) 2 := by decide +kernel
theorem d25_23 : DK cd25 23 (.iload_n 1) 1 := by decide +kernel
theorem d25_24 : DK cd25 24 (.iconst 3) 1 := by decide +kernel
theorem d25_25 : DK cd25 25 (.if_icmp .eq 21) 3 := by decide +kernel
theorem d25_28 : DK cd25 28 (.iload_n 1) 1 := by decide +kernel
theorem d25_29 : DK cd25 29 (.iconst 4) 1 := by decide +kernel
theorem d25_30 : DK cd25 30 (.if_icmp .eq 16) 3 := by decide +kernel
theorem d25_33 : DK cd25 33 (.iload 5) 2 := by decide +kernel
theorem d25_35 : DK cd25 35 (.iload 6) 2 := by decide +kernel
theorem d25_37 : DK cd25 37 (.if_icmp .le 9) 3 := by decide +kernel
theorem d25_46 : DK cd25 46 (.aload_n 0) 1 := by decide +kernel
theorem d25_47 : DK cd25 47 (.iload_n 1) 1 := by decide +kernel
theorem d25_48 : DK cd25 48 (.iload 5) 2 := by decide +kernel
theorem d25_50 : DK cd25 50 (.iload 6) 2 := by decide +kernel
theorem d25_52 : DK cd25 52 (.iconst 0) 1 := by decide +kernel
theorem d25_53 : DK cd25 53 (.invokevirtual 247) 3 := by decide +kernel
theorem d25_56 : DK cd25 56 (.istore 7) 2 := by decide +kernel
theorem d25_58 : DK cd25 58 (.iload 7) 2 := by decide +kernel
theorem d25_60 : DK cd25 60 (.iconst (-1)) 1 := by decide +kernel
theorem d25_61 : DK cd25 61 (.if_icmp .ne 28) 3 := by decide +kernel
theorem d25_64 : DK cd25 64 (.aload_n 0) 1 := by decide +kernel
theorem d25_65 : DK cd25 65 (.getfield 251) 3 := by decide +kernel
theorem d25_68 : DK cd25 68 (.aload_n 0) 1 := by decide +kernel
theorem d25_69 : DK cd25 69 (.getfield 42) 3 := by decide +kernel
theorem d25_72 : DK cd25 72 (.if_icmp .ne 17) 3 := by decide +kernel
theorem d25_89 : DK cd25 89 (.iload 7) 2 := by decide +kernel
theorem d25_91 : DK cd25 91 (.iconst (-1)) 1 := by decide +kernel
theorem d25_92 : DK cd25 92 (.if_icmp .ne 114) 3 := by decide +kernel
theorem d25_95 : DK cd25 95 (.aload_n 0) 1 := by decide +kernel
theorem d25_96 : DK cd25 96 .dup 1 := by decide +kernel
theorem d25_97 : DK cd25 97 (.getfield 251) 3 := by decide +kernel
theorem d25_100 : DK cd25 100 (.iconst 1) 1 := by decide +kernel
theorem d25_101 : DK cd25 101 .iadd 1 := by decide +kernel
theorem d25_102 : DK cd25 102 (.putfield 251) 3 := by decide +kernel
theorem d25_105 : DK cd25 105 (.aload_n 0) 1 := by decide +kernel
theorem d25_106 : DK cd25 106 (.iload 5) 2 := by decide +kernel
theorem d25_108 : DK cd25 108 (.invokevirtual 186) 3 := by decide +kernel
theorem d25_111 : DK cd25 111 (.aload_n 0) 1 := by decide +kernel
theorem d25_112 : DK cd25 112 (.iload 6) 2 := by decide +kernel
theorem d25_114 : DK cd25 114 (.invokevirtual 186) 3 := by decide +kernel
theorem d25_117 : DK cd25 117 (.invokestatic 267) 3 := by decide +kernel
theorem d25_120 : DK cd25 120 (.istore 8) 2 := by decide +kernel
theorem d25_122 : DK cd25 122 (.aload_n 0) 1 := by decide +kernel
theorem d25_123 : DK cd25 123 (.iload_n 1) 1 := by decide +kernel
theorem d25_124 : DK cd25 124 (.aload_n 0) 1 := by decide +kernel
theorem d25_125 : DK cd25 125 (.iload 5) 2 := by decide +kernel
theorem d25_127 : DK cd25 127 (.iload 8) 2 := by decide +kernel
theorem d25_129 : DK cd25 129 (.iconst 0) 1 := by decide +kernel
theorem d25_130 : DK cd25 130 (.invokevirtual 270) 3 := by decide +kernel
theorem d25_133 : DK cd25 133 (.aload_n 0) 1 := by decide +kernel
theorem d25_134 : DK cd25 134 (.iload 6) 2 := by decide +kernel
theorem d25_136 : DK cd25 136 (.iload 8) 2 := by decide +kernel
theorem d25_138 : DK cd25 138 (.iconst 0) 1 := by decide +kernel
theorem d25_139 : DK cd25 139 (.invokevirtual 270) 3 := by decide +kernel
theorem d25_142 : DK cd25 142 (.invokevirtual 155) 3 := by decide +kernel
theorem d25_145 : DK cd25 145 (.istore 9) 2 := by decide +kernel
theorem d25_147 : DK cd25 147 (.aload_n 0) 1 := by decide +kernel
theorem d25_148 : DK cd25 148 (.iload_n 1) 1 := by decide +kernel
theorem d25_149 : DK cd25 149 (.aload_n 0) 1 := by decide +kernel
theorem d25_150 : DK cd25 150 (.iload 5) 2 := by decide +kernel
theorem d25_152 : DK cd25 152 (.iload 8) 2 := by decide +kernel
theorem d25_154 : DK cd25 154 (.iconst 1) 1 := by decide +kernel
theorem d25_155 : DK cd25 155 (.invokevirtual 270) 3 := by decide +kernel
theorem d25_158 : DK cd25 158 (.aload_n 0) 1 := by decide +kernel
theorem d25_159 : DK cd25 159 (.iload 6) 2 := by decide +kernel
theorem d25_161 : DK cd25 161 (.iload 8) 2 := by decide +kernel
theorem d25_163 : DK cd25 163 (.iconst 1) 1 := by decide +kernel
theorem d25_164 : DK cd25 164 (.invokevirtual 270) 3 := by decide +kernel
theorem d25_167 : DK cd25 167 (.invokevirtual 155) 3 := by decide +kernel
theorem d25_170 : DK cd25 170 (.istore 10) 2 := by decide +kernel
theorem d25_172 : DK cd25 172 (.aload_n 0) 1 := by decide +kernel
theorem d25_173 : DK cd25 173 .dup 1 := by decide +kernel
theorem d25_174 : DK cd25 174 (.getfield 251) 3 := by decide +kernel
theorem d25_177 : DK cd25 177 (.iconst 1) 1 := by decide +kernel
theorem d25_178 : DK cd25 178 .isub 1 := by decide +kernel
theorem d25_179 : DK cd25 179 (.putfield 251) 3 := by decide +kernel
theorem d25_182 : DK cd25 182 (.aload_n 0) 1 := by decide +kernel
theorem d25_183 : DK cd25 183 (.iload 8) 2 := by decide +kernel
theorem d25_185 : DK cd25 185 (.iload 9) 2 := by decide +kernel
theorem d25_187 : DK cd25 187 (.iload 10) 2 := by decide +kernel
theorem d25_189 : DK cd25 189 (.invokevirtual 59) 3 := by decide +kernel
theorem d25_192 : DK cd25 192 (.istore 7) 2 := by decide +kernel
theorem d25_194 : DK cd25 194 (.aload_n 0) 1 := by decide +kernel
theorem d25_195 : DK cd25 195 (.iload_n 1) 1 := by decide +kernel
theorem d25_196 : DK cd25 196 (.iload 5) 2 := by decide +kernel
theorem d25_198 : DK cd25 198 (.iload 6) 2 := by decide +kernel
theorem d25_200 : DK cd25 200 (.iconst 0) 1 := by decide +kernel
theorem d25_201 : DK cd25 201 (.iload 7) 2 := by decide +kernel
theorem d25_203 : DK cd25 203 (.invokevirtual 257) 3 := by decide +kernel
theorem d25_206 : DK cd25 206 (.iload 7) 2 := by decide +kernel
theorem d25_208 : DK cd25 208 .ireturn 1 := by decide +kernel
theorem pd__IIZ_I : parseMethodDescriptor "(IIZ)I" = some ⟨[.int, .int, .boolean], some .int⟩ := by decide +kernel
theorem ef_25r (m : MethodId) (x0 : Addr) : entryFrame m #[(.ref x0), (.int 0), (.int 2), (.int 3)] 11 = mkF m 0 #[.val (.ref x0), .val (.int 0), .val (.int 2), .val (.int 3), .unset, .unset, .unset, .unset, .unset, .unset, .unset] [] := by first | (simp [entryFrame, mkF, argsToLocals, Value.category]; done) | rfl
theorem rm25r (l : Launch) (Z : State) (a0 : Array Value) (hw : ∀ d ∈ tables_1, d.before a0 Z = true) (ws : List Jvm.Cond) {oa qcs qcf qpe qlv qlo qhi qrf qch qbk qca : Addr} {u1 u2 w1 w2 z : Int32} {xn xs xfc xcz xli xpk : Int32} {xlv xlo xhi xrf xch xbk xca xcf xpe : Int32 → Int32} (h0 : Heap) (n0 : Nat) (Z0 : n0 ≤ h0.size) (B0 : Mg Z n0 h0 oa qcs qcf qpe qlv qlo qhi qrf qch qbk qca xn xs 4 xfc 0 xcz xli xpk xlv xlo xhi xrf xch xbk xca xcf xpe) (hs : ¬ 0 = xs) (hu1 : (v29z_33_l4 2 (f9 (xlv 2) (xlv 3)) xlv xlo) = u1) (hu2 : (v29z_33_l4 3 (f9 (xlv 2) (xlv 3)) xlv xlo) = u2) (hw1 : (v29o_33_l4 2 (f9 (xlv 2) (xlv 3)) xlv xhi) = w1) (hw2 : (v29o_33_l4 3 (f9 (xlv 2) (xlv 3)) xlv xhi) = w2) (ht0 : (f26 u1 u2) = 0) (ht1 : (f26 w1 w2) = z) (hz : ¬ z = (-1 : Int32)) (hz0 : ¬ 0 = z) (hms : ¬ (xca ((f28 0 2 3 0) + 0)) = 0) (hwk : own_walk xlv xlo xhi xch (f9 (xlv 2) (xlv 3)) 0 z 3 (xbk ((f17 (f9 (xlv 2) (xlv 3)) 0 z) &&& 4095))) (hf0 : ¬ xfc = 0) :
    Met1 l Nm_38 (Jvm.Cond.code Nm_38 prog_5_method_36_code 11 (some .int)) ws (rom 3 0 0 57) #[(.ref oa), (.int 0), (.int 2), (.int 3)] Z h0 (QB (some (.int 4)) n0 (fun h => Mg Z n0 h oa qcs qcf qpe qlv qlo qhi qrf qch qbk qca xn xs (xch 4) (xfc - 1) 0 xcz xli xpk (own_up xlv 4 (f9 (xlv 2) (xlv 3))) (own_up xlo 4 0) (own_up xhi 4 z) (own_up xrf 4 0) (own_up xch 4 (xbk ((f17 (f9 (xlv 2) (xlv 3)) 0 z) &&& 4095))) (own_up xbk ((f17 (f9 (xlv 2) (xlv 3)) 0 z) &&& 4095) 4) (own_up (own_up (own_up (own_up (own_up xca ((f28 0 2 3 0) + 0) 0) ((f28 0 2 3 0) + 1) 2) ((f28 0 2 3 0) + 2) 3) ((f28 0 2 3 0) + 3) 0) ((f28 0 2 3 0) + 4) 4) xcf xpe)) := by
  refine MetFree.of_bodySF (plainFor_of_name pn_25) hisR ?_
  intro p e s m args below meth c s₁ Bd hml0 hP hK
  obtain ⟨rfl, hZ, hh⟩ := hP
  have hx := Bd.exec
  have hby := Bd.bytes
  have hml : c.maxLocals = 11 := hml0
  have hown : s.vm.findClass "com/example/slim_kripke/slimkripke/bdd/BddManager" = some m.cls := findClass_of_methodNamed Bd.named
  have X0 : Stand p l e (rom 3 0 0 57) s m _ _ _ _ _ [] 0 0 := Stand.of_body Bd
  have e0 : s₁.heap = h0 := by rw [← hh, Bd.state]; rfl
  have N0 := Fr.nil n0
  have K0 : Keep h0 h0 [] := Keep.refl _ _
  have pre0 : Go p e below s₁ _ (mkF m 0 #[(vr oa), (vi 0), (vi 2), (vi 3), .unset, .unset, .unset, .unset, .unset, .unset, .unset] []) _ := fun t k => castTop (ef_25r m oa) k
  have pre1 : Go p e below s₁ _ (mkF m 3 #[(vr oa), (vi 0), (vi 2), (vi 3), .unset, .unset, .unset, .unset, .unset, .unset, .unset] [(.int 3), (.int 2), (.int 0)]) _ := fun t k => pre0 t (by
    refine XS.iloadN X0.here hx rfl (hb hby d25_0) rfl ?_
    refine XS.iloadN X0.here hx rfl (hb hby d25_1) rfl ?_
    refine XS.iloadN X0.here hx rfl (hb hby d25_2) rfl ?_
    exact k)
  obtain ⟨_, _, ⟨T2, L2, k2, n2⟩, -, X2, ⟨Lc2, hQ2, l2, y2, z2⟩, st2⟩ := Jvm.LawKit.callS X0 hx (y := Nm_6) hown (mq hZ hw 156 rfl) (mq hZ hw 157 rfl) (mq hZ hw 3 rfl) (mq hZ hw 158 rfl) (by decide) (backOf (W := 0) (rm26 l Z a0 hw [] (2 : Int32) (3 : Int32) h0 n0 Z0) hZ (wq hw 158 rfl) (wq hw 3 rfl) (by decide) (by decide)) (g := (mkF m 3 #[(vr oa), (vi 0), (vi 2), (vi 3), .unset, .unset, .unset, .unset, .unset, .unset, .unset] [(.int 3), (.int 2), (.int 0)])) rfl (by rw [hml]; rfl) (argsL := [(.int 0), (.int 2), (.int 3)]) (rest := []) (lenOf pd__III_I rfl) rfl (w00 rfl) (hb hby d25_3) (fun _ _ => ⟨rfl, e0, zz, zz⟩)
  dsimp only [Pt.U, Pt.locs, Pt.cells, Pt.slots] at X2 l2 y2 z2 st2 hQ2
  subst y2 z2
  obtain ⟨rfl, Nq2, e2⟩ := hQ2
  have N2 := FrE l2 N0 Nq2
  have pre3 := Go.thn pre1 st2
  have pre4 : Go p e below T2 _ (mkF m 53 #[(vr oa), (vi 0), (vi 2), (vi 3), (vi (-1)), (vi 2), (vi 3), .unset, .unset, .unset, .unset] [(.int 0), (.int 3), (.int 2), (.int 0), (.ref oa)]) _ := fun t k => pre3 t (by
    refine XS.istore X2.here hx rfl (hb hby d25_6) rfl (l' := #[(vr oa), (vi 0), (vi 2), (vi 3), (vi (-1)), .unset, .unset, .unset, .unset, .unset, .unset]) rfl ?_
    refine XS.iload X2.here hx rfl (hb hby d25_8) rfl ?_
    refine XS.iconst X2.here hx rfl (hb hby d25_10) ?_
    refine XS.icmpYes X2.here hx rfl (pc0 := 11) (pc' := 17) rfl (hb hby d25_11) rfl (by decide) (by decide) (by decide) ?_
    refine XS.iloadN X2.here hx rfl (hb hby d25_17) rfl ?_
    refine XS.istore X2.here hx rfl (hb hby d25_18) rfl (l' := #[(vr oa), (vi 0), (vi 2), (vi 3), (vi (-1)), (vi 2), .unset, .unset, .unset, .unset, .unset]) rfl ?_
    refine XS.iloadN X2.here hx rfl (hb hby d25_20) rfl ?_
    refine XS.istore X2.here hx rfl (hb hby d25_21) rfl (l' := #[(vr oa), (vi 0), (vi 2), (vi 3), (vi (-1)), (vi 2), (vi 3), .unset, .unset, .unset, .unset]) rfl ?_
    refine XS.iloadN X2.here hx rfl (hb hby d25_23) rfl ?_
    refine XS.iconst X2.here hx rfl (hb hby d25_24) ?_
    refine XS.icmpNo X2.here hx rfl (hb hby d25_25) rfl (by decide) ?_
    refine XS.iloadN X2.here hx rfl (hb hby d25_28) rfl ?_
    refine XS.iconst X2.here hx rfl (hb hby d25_29) ?_
    refine XS.icmpNo X2.here hx rfl (hb hby d25_30) rfl (by decide) ?_
    refine XS.iload X2.here hx rfl (hb hby d25_33) rfl ?_
    refine XS.iload X2.here hx rfl (hb hby d25_35) rfl ?_
    refine XS.icmpYes X2.here hx rfl (pc0 := 37) (pc' := 46) rfl (hb hby d25_37) rfl (by decide) (by decide) (by decide) ?_
    refine XS.aloadN X2.here hx rfl (hb hby d25_46) rfl rfl ?_
    refine XS.iloadN X2.here hx rfl (hb hby d25_47) rfl ?_
    refine XS.iload X2.here hx rfl (hb hby d25_48) rfl ?_
    refine XS.iload X2.here hx rfl (hb hby d25_50) rfl ?_
    refine XS.iconst X2.here hx rfl (hb hby d25_52) ?_
    exact k)
  obtain ⟨cq5, q5, q5'⟩ := B0.e.cell
  obtain ⟨_, _, ⟨T5, L5, k5, n5⟩, -, X5, ⟨Lc5, hQ5, l5, y5, z5⟩, st5⟩ := X2.privateBack hx (y := Nm_18) hown (mq hZ hw 159 rfl) (mq hZ hw 160 rfl) (own_seli (mq hZ hw 2 rfl) (pq hZ hw 161 rfl) (mq hZ hw 160 rfl) (by decide)) (pq hZ hw 161 rfl) (mq hZ hw 162 rfl) (by decide) (backOf (W := 0) (rm27 l Z a0 hw [] (0 : Int32) (2 : Int32) (3 : Int32) (0 : Int32) h0 n0 B0.z B0 hms) hZ (wq hw 162 rfl) (wq hw 3 rfl) (by decide) (by decide)) (g := (mkF m 53 #[(vr oa), (vi 0), (vi 2), (vi 3), (vi (-1)), (vi 2), (vi 3), .unset, .unset, .unset, .unset] [(.int 0), (.int 3), (.int 2), (.int 0), (.ref oa)])) rfl (by rw [hml]; rfl) (Steps.refl _) (a := oa) (by rw [e2]; exact q5) q5' (argsL := [(.int 0), (.int 2), (.int 3), (.int 0)]) (rest := []) (lenOf pd__IIII_I rfl) rfl (w00 rfl) (hb hby d25_53) (fun _ _ => ⟨rfl, e2, zz, zz⟩)
  dsimp only [Pt.U, Pt.locs, Pt.cells, Pt.slots] at X5 l5 y5 z5 st5 hQ5
  subst y5 z5
  obtain ⟨rfl, Nq5, e5⟩ := hQ5
  have N5 := FrE l5 N2 Nq5
  have pre6 := Go.trn pre4 st5
  have pre7 : Go p e below T5 _ (mkF m 65 #[(vr oa), (vi 0), (vi 2), (vi 3), (vi (-1)), (vi 2), (vi 3), (vi (-1)), .unset, .unset, .unset] [(.ref oa)]) _ := fun t k => pre6 t (by
    refine XS.istore X5.here hx rfl (hb hby d25_56) rfl (l' := #[(vr oa), (vi 0), (vi 2), (vi 3), (vi (-1)), (vi 2), (vi 3), (vi (-1)), .unset, .unset, .unset]) rfl ?_
    refine XS.iload X5.here hx rfl (hb hby d25_58) rfl ?_
    refine XS.iconst X5.here hx rfl (hb hby d25_60) ?_
    refine XS.icmpNo X5.here hx rfl (hb hby d25_61) rfl (by decide) ?_
    refine XS.aloadN X5.here hx rfl (hb hby d25_64) rfl rfl ?_
    exact k)
  obtain ⟨T8, X8, e8, st8⟩ := getF X5 hx hZ hown (host := "") (Or.inl (wq hw 98 rfl)) Via.refl e5 B0.f_dp (g := (mkF m 65 #[(vr oa), (vi 0), (vi 2), (vi 3), (vi (-1)), (vi 2), (vi 3), (vi (-1)), .unset, .unset, .unset] [(.ref oa)])) rfl rfl (hb hby d25_65)
  have pre9 := Go.thn pre7 st8
  have pre10 : Go p e below T8 _ (mkF m 69 #[(vr oa), (vi 0), (vi 2), (vi 3), (vi (-1)), (vi 2), (vi 3), (vi (-1)), .unset, .unset, .unset] [(.ref oa), (.int 0)]) _ := fun t k => pre9 t (by
    refine XS.aloadN X8.here hx rfl (hb hby d25_68) rfl rfl ?_
    exact k)
  obtain ⟨T11, X11, e11, st11⟩ := getF X8 hx hZ hown (host := "") (Or.inl (wq hw 30 rfl)) Via.refl e8 B0.f_s (g := (mkF m 69 #[(vr oa), (vi 0), (vi 2), (vi 3), (vi (-1)), (vi 2), (vi 3), (vi (-1)), .unset, .unset, .unset] [(.ref oa), (.int 0)])) rfl rfl (hb hby d25_69)
  have pre12 := Go.thn pre10 st11
  have pre13 : Go p e below T11 _ (mkF m 97 #[(vr oa), (vi 0), (vi 2), (vi 3), (vi (-1)), (vi 2), (vi 3), (vi (-1)), .unset, .unset, .unset] [(.ref oa), (.ref oa)]) _ := fun t k => pre12 t (by
    refine XS.icmpYes X11.here hx rfl (pc0 := 72) (pc' := 89) rfl (hb hby d25_72) rfl (feq hs).2 (by decide) (by decide) ?_
    refine XS.iload X11.here hx rfl (hb hby d25_89) rfl ?_
    refine XS.iconst X11.here hx rfl (hb hby d25_91) ?_
    refine XS.icmpNo X11.here hx rfl (hb hby d25_92) rfl (by decide) ?_
    refine XS.aloadN X11.here hx rfl (hb hby d25_95) rfl rfl ?_
    refine XS.dup X11.here hx rfl (hb hby d25_96) rfl rfl ?_
    exact k)
  obtain ⟨T14, X14, e14, st14⟩ := getF X11 hx hZ hown (host := "") (Or.inl (wq hw 98 rfl)) Via.refl e11 B0.f_dp (g := (mkF m 97 #[(vr oa), (vi 0), (vi 2), (vi 3), (vi (-1)), (vi 2), (vi 3), (vi (-1)), .unset, .unset, .unset] [(.ref oa), (.ref oa)])) rfl rfl (hb hby d25_97)
  have pre15 := Go.thn pre13 st14
  have pre16 : Go p e below T14 _ (mkF m 102 #[(vr oa), (vi 0), (vi 2), (vi 3), (vi (-1)), (vi 2), (vi 3), (vi (-1)), .unset, .unset, .unset] [(.int 1), (.ref oa)]) _ := fun t k => pre15 t (by
    refine XS.iconst X14.here hx rfl (hb hby d25_100) ?_
    refine XS.iadd X14.here hx rfl (hb hby d25_101) rfl ?_
    exact k)
  obtain ⟨T17, h17, X17, e17, W17, st17⟩ := putF X14 hx hZ hown (host := "") (Or.inl (wq hw 98 rfl)) Via.refl e14 B0.f_dp B0.e (Or.inl (wq hw 99 rfl)) (wq hw 2 rfl) (ty := .int) (by decide) rfl rfl (g := (mkF m 102 #[(vr oa), (vi 0), (vi 2), (vi 3), (vi (-1)), (vi 2), (vi 3), (vi (-1)), .unset, .unset, .unset] [(.int 1), (.ref oa)])) rfl rfl (hb hby d25_102)
  have N17 := Fr.snoc X17 N5 B0.g0
  have B17 := B0.w_dp hw W17
  have pre18 := Go.thn pre16 st17
  have pre19 : Go p e below T17 _ (mkF m 108 #[(vr oa), (vi 0), (vi 2), (vi 3), (vi (-1)), (vi 2), (vi 3), (vi (-1)), .unset, .unset, .unset] [(.int 2), (.ref oa)]) _ := fun t k => pre18 t (by
    refine XS.aloadN X17.here hx rfl (hb hby d25_105) rfl rfl ?_
    refine XS.iload X17.here hx rfl (hb hby d25_106) rfl ?_
    exact k)
  obtain ⟨cq20, kq20, q20a, q20b, q20c⟩ := isOf hZ e17 B17.e
  obtain ⟨_, _, ⟨T20, L20, k20, n20⟩, -, X20, ⟨Lc20, hQ20, l20, y20, z20⟩, st20⟩ := X17.virtualBack hx (y := Nm_15) (z := Nm_15) hown (mq hZ hw 167 rfl) (mq hZ hw 81 rfl) (notFace_of_selects (args := #[]) (mq hZ hw 83 rfl)) (mq hZ hw 83 rfl) (mq hZ hw 82 rfl) (by decide) (backOf (W := 0) (rm11n l Z a0 hw [] (2 : Int32) h17 n0 B17.z B17 (by decide) (by decide) (by decide)) hZ (wq hw 84 rfl) (wq hw 3 rfl) (by decide) (by decide)) q20a q20c (g := (mkF m 108 #[(vr oa), (vi 0), (vi 2), (vi 3), (vi (-1)), (vi 2), (vi 3), (vi (-1)), .unset, .unset, .unset] [(.int 2), (.ref oa)])) rfl (by rw [hml]; rfl) (Steps.refl _) (argsL := [(.int 2)]) (rest := []) (lenOf pd__I_I rfl) rfl (w00 rfl) (hb hby d25_108) (fun _ _ => ⟨rfl, e17, zz, zz⟩)
  dsimp only [Pt.U, Pt.locs, Pt.cells, Pt.slots] at X20 l20 y20 z20 st20 hQ20
  subst y20 z20
  obtain ⟨rfl, Nq20, e20⟩ := hQ20
  have N20 := FrE l20 N17 Nq20
  have pre21 := Go.trn pre19 st20
  have pre22 : Go p e below T20 _ (mkF m 114 #[(vr oa), (vi 0), (vi 2), (vi 3), (vi (-1)), (vi 2), (vi 3), (vi (-1)), .unset, .unset, .unset] [(.int 3), (.ref oa), (.int (xlv 2))]) _ := fun t k => pre21 t (by
    refine XS.aloadN X20.here hx rfl (hb hby d25_111) rfl rfl ?_
    refine XS.iload X20.here hx rfl (hb hby d25_112) rfl ?_
    exact k)
  obtain ⟨cq23, kq23, q23a, q23b, q23c⟩ := isOf hZ e20 B17.e
  obtain ⟨_, _, ⟨T23, L23, k23, n23⟩, -, X23, ⟨Lc23, hQ23, l23, y23, z23⟩, st23⟩ := X20.virtualBack hx (y := Nm_15) (z := Nm_15) hown (mq hZ hw 167 rfl) (mq hZ hw 81 rfl) (notFace_of_selects (args := #[]) (mq hZ hw 83 rfl)) (mq hZ hw 83 rfl) (mq hZ hw 82 rfl) (by decide) (backOf (W := 1) (rm11n l Z a0 hw [] (3 : Int32) h17 n0 B17.z B17 (by decide) (by decide) (by decide)) hZ (wq hw 84 rfl) (wq hw 3 rfl) (by decide) (by decide)) q23a q23c (g := (mkF m 114 #[(vr oa), (vi 0), (vi 2), (vi 3), (vi (-1)), (vi 2), (vi 3), (vi (-1)), .unset, .unset, .unset] [(.int 3), (.ref oa), (.int (xlv 2))])) rfl (by rw [hml]; rfl) (Steps.refl _) (argsL := [(.int 3)]) (rest := [(.int (xlv 2))]) (lenOf pd__I_I rfl) rfl (w00 rfl) (hb hby d25_114) (fun _ _ => ⟨rfl, e20, zz, zz⟩)
  dsimp only [Pt.U, Pt.locs, Pt.cells, Pt.slots] at X23 l23 y23 z23 st23 hQ23
  subst y23 z23
  obtain ⟨rfl, Nq23, e23⟩ := hQ23
  have N23 := FrE l23 N20 Nq23
  have pre24 := Go.trn pre22 st23
  obtain ⟨_, _, ⟨T25, L25, k25, n25⟩, -, X25, ⟨Lc25, hQ25, l25, y25, z25⟩, st25⟩ := Jvm.LawKit.callS X23 hx (y := Nm_2) hown (mq hZ hw 70 rfl) (mq hZ hw 71 rfl) (mq hZ hw 72 rfl) (mq hZ hw 73 rfl) (by decide) (backOf (W := 0) (rm9 l Z a0 hw [] (xlv 2) (xlv 3) h17 n0 B17.z) hZ (wq hw 73 rfl) (wq hw 72 rfl) (by decide) (by decide)) (g := (mkF m 117 #[(vr oa), (vi 0), (vi 2), (vi 3), (vi (-1)), (vi 2), (vi 3), (vi (-1)), .unset, .unset, .unset] [(.int (xlv 3)), (.int (xlv 2))])) rfl (by rw [hml]; rfl) (argsL := [(.int (xlv 2)), (.int (xlv 3))]) (rest := []) (lenOf pd__II_I rfl) rfl (w00 rfl) (hb hby d25_117) (fun _ _ => ⟨rfl, e23, zz, zz⟩)
  dsimp only [Pt.U, Pt.locs, Pt.cells, Pt.slots] at X25 l25 y25 z25 st25 hQ25
  subst y25 z25
  obtain ⟨rfl, Nq25, e25⟩ := hQ25
  have N25 := FrE l25 N23 Nq25
  have pre26 := Go.thn pre24 st25
  have pre27 : Go p e below T25 _ (mkF m 130 #[(vr oa), (vi 0), (vi 2), (vi 3), (vi (-1)), (vi 2), (vi 3), (vi (-1)), (vi (f9 (xlv 2) (xlv 3))), .unset, .unset] [(.int 0), (.int (f9 (xlv 2) (xlv 3))), (.int 2), (.ref oa), (.int 0), (.ref oa)]) _ := fun t k => pre26 t (by
    refine XS.istore X25.here hx rfl (hb hby d25_120) rfl (l' := #[(vr oa), (vi 0), (vi 2), (vi 3), (vi (-1)), (vi 2), (vi 3), (vi (-1)), (vi (f9 (xlv 2) (xlv 3))), .unset, .unset]) rfl ?_
    refine XS.aloadN X25.here hx rfl (hb hby d25_122) rfl rfl ?_
    refine XS.iloadN X25.here hx rfl (hb hby d25_123) rfl ?_
    refine XS.aloadN X25.here hx rfl (hb hby d25_124) rfl rfl ?_
    refine XS.iload X25.here hx rfl (hb hby d25_125) rfl ?_
    refine XS.iload X25.here hx rfl (hb hby d25_127) rfl ?_
    refine XS.iconst X25.here hx rfl (hb hby d25_129) ?_
    exact k)
  obtain ⟨cq28, q28, q28'⟩ := B17.e.cell
  obtain ⟨_, _, ⟨T28, L28, k28, n28⟩, -, X28, ⟨Lc28, hQ28, l28, y28, z28⟩, st28⟩ := X25.privateBack hx (y := Nm_19) hown (mq hZ hw 168 rfl) (mq hZ hw 169 rfl) (own_seli (mq hZ hw 2 rfl) (pq hZ hw 170 rfl) (mq hZ hw 169 rfl) (by decide)) (pq hZ hw 170 rfl) (mq hZ hw 171 rfl) (by decide) (backOf (W := 2) (rm29z l Z a0 hw [] (2 : Int32) (f9 (xlv 2) (xlv 3)) h17 n0 B17.z B17 (by decide) (by decide) (by decide)) hZ (wq hw 171 rfl) (wq hw 3 rfl) (by decide) (by decide)) (g := (mkF m 130 #[(vr oa), (vi 0), (vi 2), (vi 3), (vi (-1)), (vi 2), (vi 3), (vi (-1)), (vi (f9 (xlv 2) (xlv 3))), .unset, .unset] [(.int 0), (.int (f9 (xlv 2) (xlv 3))), (.int 2), (.ref oa), (.int 0), (.ref oa)])) rfl (by rw [hml]; rfl) (Steps.refl _) (a := oa) (by rw [e25]; exact q28) q28' (argsL := [(.int 2), (.int (f9 (xlv 2) (xlv 3))), (.int 0)]) (rest := [(.int 0), (.ref oa)]) (lenOf pd__IIZ_I rfl) rfl (w00 rfl) (hb hby d25_130) (fun _ _ => ⟨rfl, e25, zz, zz⟩)
  dsimp only [Pt.U, Pt.locs, Pt.cells, Pt.slots] at X28 l28 y28 z28 st28 hQ28
  subst y28 z28
  obtain ⟨rfl, Nq28, e28⟩ := hQ28
  have N28 := FrE l28 N25 Nq28
  have pre29 := Go.trn pre27 st28
  have pre30 : Go p e below T28 _ (mkF m 139 #[(vr oa), (vi 0), (vi 2), (vi 3), (vi (-1)), (vi 2), (vi 3), (vi (-1)), (vi (f9 (xlv 2) (xlv 3))), .unset, .unset] [(.int 0), (.int (f9 (xlv 2) (xlv 3))), (.int 3), (.ref oa), (.int u1), (.int 0), (.ref oa)]) _ := fun t k => pre29 t (by
    show Steps p.tables e below (T28.setTop (mkF m 133 #[(vr oa), (vi 0), (vi 2), (vi 3), (vi (-1)), (vi 2), (vi 3), (vi (-1)), (vi (f9 (xlv 2) (xlv 3))), .unset, .unset] [(.int (v29z_33_l4 (2 : Int32) (f9 (xlv 2) (xlv 3)) xlv xlo)), (.int 0), (.ref oa)])) _
    rw [hu1]
    refine XS.aloadN X28.here hx rfl (hb hby d25_133) rfl rfl ?_
    refine XS.iload X28.here hx rfl (hb hby d25_134) rfl ?_
    refine XS.iload X28.here hx rfl (hb hby d25_136) rfl ?_
    refine XS.iconst X28.here hx rfl (hb hby d25_138) ?_
    exact k)
  obtain ⟨cq31, q31, q31'⟩ := B17.e.cell
  obtain ⟨_, _, ⟨T31, L31, k31, n31⟩, -, X31, ⟨Lc31, hQ31, l31, y31, z31⟩, st31⟩ := X28.privateBack hx (y := Nm_19) hown (mq hZ hw 168 rfl) (mq hZ hw 169 rfl) (own_seli (mq hZ hw 2 rfl) (pq hZ hw 170 rfl) (mq hZ hw 169 rfl) (by decide)) (pq hZ hw 170 rfl) (mq hZ hw 171 rfl) (by decide) (backOf (W := 3) (rm29z l Z a0 hw [] (3 : Int32) (f9 (xlv 2) (xlv 3)) h17 n0 B17.z B17 (by decide) (by decide) (by decide)) hZ (wq hw 171 rfl) (wq hw 3 rfl) (by decide) (by decide)) (g := (mkF m 139 #[(vr oa), (vi 0), (vi 2), (vi 3), (vi (-1)), (vi 2), (vi 3), (vi (-1)), (vi (f9 (xlv 2) (xlv 3))), .unset, .unset] [(.int 0), (.int (f9 (xlv 2) (xlv 3))), (.int 3), (.ref oa), (.int u1), (.int 0), (.ref oa)])) rfl (by rw [hml]; rfl) (Steps.refl _) (a := oa) (by rw [e28]; exact q31) q31' (argsL := [(.int 3), (.int (f9 (xlv 2) (xlv 3))), (.int 0)]) (rest := [(.int u1), (.int 0), (.ref oa)]) (lenOf pd__IIZ_I rfl) rfl (w00 rfl) (hb hby d25_139) (fun _ _ => ⟨rfl, e28, zz, zz⟩)
  dsimp only [Pt.U, Pt.locs, Pt.cells, Pt.slots] at X31 l31 y31 z31 st31 hQ31
  subst y31 z31
  obtain ⟨rfl, Nq31, e31⟩ := hQ31
  have N31 := FrE l31 N28 Nq31
  have pre32 := Go.trn pre30 st31
  have pre33 : Go p e below T31 _ (mkF m 142 #[(vr oa), (vi 0), (vi 2), (vi 3), (vi (-1)), (vi 2), (vi 3), (vi (-1)), (vi (f9 (xlv 2) (xlv 3))), .unset, .unset] [(.int u2), (.int u1), (.int 0), (.ref oa)]) _ := fun t k => pre32 t (by
    show Steps p.tables e below (T31.setTop (mkF m 142 #[(vr oa), (vi 0), (vi 2), (vi 3), (vi (-1)), (vi 2), (vi 3), (vi (-1)), (vi (f9 (xlv 2) (xlv 3))), .unset, .unset] [(.int (v29z_33_l4 (3 : Int32) (f9 (xlv 2) (xlv 3)) xlv xlo)), (.int u1), (.int 0), (.ref oa)])) _
    rw [hu2]
    exact k)
  obtain ⟨cq34, q34, q34'⟩ := B17.e.cell
  obtain ⟨_, _, ⟨T34, L34, k34, n34⟩, -, X34, ⟨Lc34, hQ34, l34, y34, z34⟩, st34⟩ := X31.privateBack hx (y := Nm_38) hown (mq hZ hw 152 rfl) (mq hZ hw 153 rfl) (own_seli (mq hZ hw 2 rfl) (pq hZ hw 154 rfl) (mq hZ hw 153 rfl) (by decide)) (pq hZ hw 154 rfl) (mq hZ hw 155 rfl) (by decide) (backOf (W := 0) (rm25t l Z a0 hw [] u1 u2 h17 n0 B17.z B17 (by rw [ht0]; decide)) hZ (wq hw 155 rfl) (wq hw 3 rfl) (by decide) (by decide)) (g := (mkF m 142 #[(vr oa), (vi 0), (vi 2), (vi 3), (vi (-1)), (vi 2), (vi 3), (vi (-1)), (vi (f9 (xlv 2) (xlv 3))), .unset, .unset] [(.int u2), (.int u1), (.int 0), (.ref oa)])) rfl (by rw [hml]; rfl) (Steps.refl _) (a := oa) (by rw [e31]; exact q34) q34' (argsL := [(.int 0), (.int u1), (.int u2)]) (rest := []) (lenOf pd__III_I rfl) rfl (w00 rfl) (hb hby d25_142) (fun _ _ => ⟨rfl, e31, zz, zz⟩)
  dsimp only [Pt.U, Pt.locs, Pt.cells, Pt.slots] at X34 l34 y34 z34 st34 hQ34
  subst y34 z34
  obtain ⟨rfl, Nq34, e34⟩ := hQ34
  have N34 := FrE l34 N31 Nq34
  have pre35 := Go.trn pre33 st34
  have pre36 : Go p e below T34 _ (mkF m 155 #[(vr oa), (vi 0), (vi 2), (vi 3), (vi (-1)), (vi 2), (vi 3), (vi (-1)), (vi (f9 (xlv 2) (xlv 3))), (vi 0), .unset] [(.int 1), (.int (f9 (xlv 2) (xlv 3))), (.int 2), (.ref oa), (.int 0), (.ref oa)]) _ := fun t k => pre35 t (by
    show Steps p.tables e below (T34.setTop (mkF m 145 #[(vr oa), (vi 0), (vi 2), (vi 3), (vi (-1)), (vi 2), (vi 3), (vi (-1)), (vi (f9 (xlv 2) (xlv 3))), .unset, .unset] [(.int (f26 u1 u2))])) _
    rw [ht0]
    refine XS.istore X34.here hx rfl (hb hby d25_145) rfl (l' := #[(vr oa), (vi 0), (vi 2), (vi 3), (vi (-1)), (vi 2), (vi 3), (vi (-1)), (vi (f9 (xlv 2) (xlv 3))), (vi 0), .unset]) rfl ?_
    refine XS.aloadN X34.here hx rfl (hb hby d25_147) rfl rfl ?_
    refine XS.iloadN X34.here hx rfl (hb hby d25_148) rfl ?_
    refine XS.aloadN X34.here hx rfl (hb hby d25_149) rfl rfl ?_
    refine XS.iload X34.here hx rfl (hb hby d25_150) rfl ?_
    refine XS.iload X34.here hx rfl (hb hby d25_152) rfl ?_
    refine XS.iconst X34.here hx rfl (hb hby d25_154) ?_
    exact k)
  obtain ⟨cq37, q37, q37'⟩ := B17.e.cell
  obtain ⟨_, _, ⟨T37, L37, k37, n37⟩, -, X37, ⟨Lc37, hQ37, l37, y37, z37⟩, st37⟩ := X34.privateBack hx (y := Nm_19) hown (mq hZ hw 168 rfl) (mq hZ hw 169 rfl) (own_seli (mq hZ hw 2 rfl) (pq hZ hw 170 rfl) (mq hZ hw 169 rfl) (by decide)) (pq hZ hw 170 rfl) (mq hZ hw 171 rfl) (by decide) (backOf (W := 2) (rm29o l Z a0 hw [] (2 : Int32) (f9 (xlv 2) (xlv 3)) h17 n0 B17.z B17 (by decide) (by decide) (by decide)) hZ (wq hw 171 rfl) (wq hw 3 rfl) (by decide) (by decide)) (g := (mkF m 155 #[(vr oa), (vi 0), (vi 2), (vi 3), (vi (-1)), (vi 2), (vi 3), (vi (-1)), (vi (f9 (xlv 2) (xlv 3))), (vi 0), .unset] [(.int 1), (.int (f9 (xlv 2) (xlv 3))), (.int 2), (.ref oa), (.int 0), (.ref oa)])) rfl (by rw [hml]; rfl) (Steps.refl _) (a := oa) (by rw [e34]; exact q37) q37' (argsL := [(.int 2), (.int (f9 (xlv 2) (xlv 3))), (.int 1)]) (rest := [(.int 0), (.ref oa)]) (lenOf pd__IIZ_I rfl) rfl (w00 rfl) (hb hby d25_155) (fun _ _ => ⟨rfl, e34, zz, zz⟩)
  dsimp only [Pt.U, Pt.locs, Pt.cells, Pt.slots] at X37 l37 y37 z37 st37 hQ37
  subst y37 z37
  obtain ⟨rfl, Nq37, e37⟩ := hQ37
  have N37 := FrE l37 N34 Nq37
  have pre38 := Go.trn pre36 st37
  have pre39 : Go p e below T37 _ (mkF m 164 #[(vr oa), (vi 0), (vi 2), (vi 3), (vi (-1)), (vi 2), (vi 3), (vi (-1)), (vi (f9 (xlv 2) (xlv 3))), (vi 0), .unset] [(.int 1), (.int (f9 (xlv 2) (xlv 3))), (.int 3), (.ref oa), (.int w1), (.int 0), (.ref oa)]) _ := fun t k => pre38 t (by
    show Steps p.tables e below (T37.setTop (mkF m 158 #[(vr oa), (vi 0), (vi 2), (vi 3), (vi (-1)), (vi 2), (vi 3), (vi (-1)), (vi (f9 (xlv 2) (xlv 3))), (vi 0), .unset] [(.int (v29o_33_l4 (2 : Int32) (f9 (xlv 2) (xlv 3)) xlv xhi)), (.int 0), (.ref oa)])) _
    rw [hw1]
    refine XS.aloadN X37.here hx rfl (hb hby d25_158) rfl rfl ?_
    refine XS.iload X37.here hx rfl (hb hby d25_159) rfl ?_
    refine XS.iload X37.here hx rfl (hb hby d25_161) rfl ?_
    refine XS.iconst X37.here hx rfl (hb hby d25_163) ?_
    exact k)
  obtain ⟨cq40, q40, q40'⟩ := B17.e.cell
  obtain ⟨_, _, ⟨T40, L40, k40, n40⟩, -, X40, ⟨Lc40, hQ40, l40, y40, z40⟩, st40⟩ := X37.privateBack hx (y := Nm_19) hown (mq hZ hw 168 rfl) (mq hZ hw 169 rfl) (own_seli (mq hZ hw 2 rfl) (pq hZ hw 170 rfl) (mq hZ hw 169 rfl) (by decide)) (pq hZ hw 170 rfl) (mq hZ hw 171 rfl) (by decide) (backOf (W := 3) (rm29o l Z a0 hw [] (3 : Int32) (f9 (xlv 2) (xlv 3)) h17 n0 B17.z B17 (by decide) (by decide) (by decide)) hZ (wq hw 171 rfl) (wq hw 3 rfl) (by decide) (by decide)) (g := (mkF m 164 #[(vr oa), (vi 0), (vi 2), (vi 3), (vi (-1)), (vi 2), (vi 3), (vi (-1)), (vi (f9 (xlv 2) (xlv 3))), (vi 0), .unset] [(.int 1), (.int (f9 (xlv 2) (xlv 3))), (.int 3), (.ref oa), (.int w1), (.int 0), (.ref oa)])) rfl (by rw [hml]; rfl) (Steps.refl _) (a := oa) (by rw [e37]; exact q40) q40' (argsL := [(.int 3), (.int (f9 (xlv 2) (xlv 3))), (.int 1)]) (rest := [(.int w1), (.int 0), (.ref oa)]) (lenOf pd__IIZ_I rfl) rfl (w00 rfl) (hb hby d25_164) (fun _ _ => ⟨rfl, e37, zz, zz⟩)
  dsimp only [Pt.U, Pt.locs, Pt.cells, Pt.slots] at X40 l40 y40 z40 st40 hQ40
  subst y40 z40
  obtain ⟨rfl, Nq40, e40⟩ := hQ40
  have N40 := FrE l40 N37 Nq40
  have pre41 := Go.trn pre39 st40
  have pre42 : Go p e below T40 _ (mkF m 167 #[(vr oa), (vi 0), (vi 2), (vi 3), (vi (-1)), (vi 2), (vi 3), (vi (-1)), (vi (f9 (xlv 2) (xlv 3))), (vi 0), .unset] [(.int w2), (.int w1), (.int 0), (.ref oa)]) _ := fun t k => pre41 t (by
    show Steps p.tables e below (T40.setTop (mkF m 167 #[(vr oa), (vi 0), (vi 2), (vi 3), (vi (-1)), (vi 2), (vi 3), (vi (-1)), (vi (f9 (xlv 2) (xlv 3))), (vi 0), .unset] [(.int (v29o_33_l4 (3 : Int32) (f9 (xlv 2) (xlv 3)) xlv xhi)), (.int w1), (.int 0), (.ref oa)])) _
    rw [hw2]
    exact k)
  obtain ⟨cq43, q43, q43'⟩ := B17.e.cell
  obtain ⟨_, _, ⟨T43, L43, k43, n43⟩, -, X43, ⟨Lc43, hQ43, l43, y43, z43⟩, st43⟩ := X40.privateBack hx (y := Nm_38) hown (mq hZ hw 152 rfl) (mq hZ hw 153 rfl) (own_seli (mq hZ hw 2 rfl) (pq hZ hw 154 rfl) (mq hZ hw 153 rfl) (by decide)) (pq hZ hw 154 rfl) (mq hZ hw 155 rfl) (by decide) (backOf (W := 0) (rm25t l Z a0 hw [] w1 w2 h17 n0 B17.z B17 (by rw [ht1]; exact hz)) hZ (wq hw 155 rfl) (wq hw 3 rfl) (by decide) (by decide)) (g := (mkF m 167 #[(vr oa), (vi 0), (vi 2), (vi 3), (vi (-1)), (vi 2), (vi 3), (vi (-1)), (vi (f9 (xlv 2) (xlv 3))), (vi 0), .unset] [(.int w2), (.int w1), (.int 0), (.ref oa)])) rfl (by rw [hml]; rfl) (Steps.refl _) (a := oa) (by rw [e40]; exact q43) q43' (argsL := [(.int 0), (.int w1), (.int w2)]) (rest := []) (lenOf pd__III_I rfl) rfl (w00 rfl) (hb hby d25_167) (fun _ _ => ⟨rfl, e40, zz, zz⟩)
  dsimp only [Pt.U, Pt.locs, Pt.cells, Pt.slots] at X43 l43 y43 z43 st43 hQ43
  subst y43 z43
  obtain ⟨rfl, Nq43, e43⟩ := hQ43
  have N43 := FrE l43 N40 Nq43
  have pre44 := Go.trn pre42 st43
  have pre45 : Go p e below T43 _ (mkF m 174 #[(vr oa), (vi 0), (vi 2), (vi 3), (vi (-1)), (vi 2), (vi 3), (vi (-1)), (vi (f9 (xlv 2) (xlv 3))), (vi 0), (vi z)] [(.ref oa), (.ref oa)]) _ := fun t k => pre44 t (by
    show Steps p.tables e below (T43.setTop (mkF m 170 #[(vr oa), (vi 0), (vi 2), (vi 3), (vi (-1)), (vi 2), (vi 3), (vi (-1)), (vi (f9 (xlv 2) (xlv 3))), (vi 0), .unset] [(.int (f26 w1 w2))])) _
    rw [ht1]
    refine XS.istore X43.here hx rfl (hb hby d25_170) rfl (l' := #[(vr oa), (vi 0), (vi 2), (vi 3), (vi (-1)), (vi 2), (vi 3), (vi (-1)), (vi (f9 (xlv 2) (xlv 3))), (vi 0), (vi z)]) rfl ?_
    refine XS.aloadN X43.here hx rfl (hb hby d25_172) rfl rfl ?_
    refine XS.dup X43.here hx rfl (hb hby d25_173) rfl rfl ?_
    exact k)
  obtain ⟨T46, X46, e46, st46⟩ := getF X43 hx hZ hown (host := "") (Or.inl (wq hw 98 rfl)) Via.refl e43 B17.f_dp (g := (mkF m 174 #[(vr oa), (vi 0), (vi 2), (vi 3), (vi (-1)), (vi 2), (vi 3), (vi (-1)), (vi (f9 (xlv 2) (xlv 3))), (vi 0), (vi z)] [(.ref oa), (.ref oa)])) rfl rfl (hb hby d25_174)
  have pre47 := Go.thn pre45 st46
  have pre48 : Go p e below T46 _ (mkF m 179 #[(vr oa), (vi 0), (vi 2), (vi 3), (vi (-1)), (vi 2), (vi 3), (vi (-1)), (vi (f9 (xlv 2) (xlv 3))), (vi 0), (vi z)] [(.int 0), (.ref oa)]) _ := fun t k => pre47 t (by
    refine XS.iconst X46.here hx rfl (hb hby d25_177) ?_
    refine XS.isub X46.here hx rfl (hb hby d25_178) rfl ?_
    exact k)
  obtain ⟨T49, h49, X49, e49, W49, st49⟩ := putF X46 hx hZ hown (host := "") (Or.inl (wq hw 98 rfl)) Via.refl e46 B17.f_dp B17.e (Or.inl (wq hw 99 rfl)) (wq hw 2 rfl) (ty := .int) (by decide) rfl rfl (g := (mkF m 179 #[(vr oa), (vi 0), (vi 2), (vi 3), (vi (-1)), (vi 2), (vi 3), (vi (-1)), (vi (f9 (xlv 2) (xlv 3))), (vi 0), (vi z)] [(.int 0), (.ref oa)])) rfl rfl (hb hby d25_179)
  have N49 := Fr.snoc X49 N43 B17.g0
  have B49 := B17.w_dp hw W49
  have pre50 := Go.thn pre48 st49
  have pre51 : Go p e below T49 _ (mkF m 189 #[(vr oa), (vi 0), (vi 2), (vi 3), (vi (-1)), (vi 2), (vi 3), (vi (-1)), (vi (f9 (xlv 2) (xlv 3))), (vi 0), (vi z)] [(.int z), (.int 0), (.int (f9 (xlv 2) (xlv 3))), (.ref oa)]) _ := fun t k => pre50 t (by
    refine XS.aloadN X49.here hx rfl (hb hby d25_182) rfl rfl ?_
    refine XS.iload X49.here hx rfl (hb hby d25_183) rfl ?_
    refine XS.iload X49.here hx rfl (hb hby d25_185) rfl ?_
    refine XS.iload X49.here hx rfl (hb hby d25_187) rfl ?_
    exact k)
  obtain ⟨cq52, q52, q52'⟩ := B49.e.cell
  obtain ⟨_, _, ⟨T52, L52, k52, n52⟩, -, X52, ⟨Lc52, hQ52, l52, y52, z52⟩, st52⟩ := X49.privateBack hx (y := Nm_25) hown (mq hZ hw 107 rfl) (mq hZ hw 108 rfl) (own_seli (mq hZ hw 2 rfl) (pq hZ hw 109 rfl) (mq hZ hw 108 rfl) (by decide)) (pq hZ hw 109 rfl) (mq hZ hw 110 rfl) (by decide) (backOf (W := 0) (rm16n l Z a0 hw [] (f9 (xlv 2) (xlv 3)) (0 : Int32) z h49 n0 B49.z B49 hz0 hwk hf0 (by decide)) hZ (wq hw 110 rfl) (wq hw 3 rfl) (by decide) (by decide)) (g := (mkF m 189 #[(vr oa), (vi 0), (vi 2), (vi 3), (vi (-1)), (vi 2), (vi 3), (vi (-1)), (vi (f9 (xlv 2) (xlv 3))), (vi 0), (vi z)] [(.int z), (.int 0), (.int (f9 (xlv 2) (xlv 3))), (.ref oa)])) rfl (by rw [hml]; rfl) (Steps.refl _) (a := oa) (by rw [e49]; exact q52) q52' (argsL := [(.int (f9 (xlv 2) (xlv 3))), (.int 0), (.int z)]) (rest := []) (lenOf pd__III_I rfl) rfl (w00 rfl) (hb hby d25_189) (fun _ _ => ⟨rfl, e49, zz, zz⟩)
  dsimp only [Pt.U, Pt.locs, Pt.cells, Pt.slots] at X52 l52 y52 z52 st52 hQ52
  subst y52 z52
  obtain ⟨rfl, Nq52, Bq52⟩ := hQ52
  have N52 := FrE l52 N49 Nq52
  have B52 : Mg Z n0 T52.heap oa _ _ _ _ _ _ _ _ _ _ xn xs (xch 4) (xfc - 1) 0 xcz xli xpk (own_up xlv 4 (f9 (xlv 2) (xlv 3))) (own_up xlo 4 0) (own_up xhi 4 z) (own_up xrf 4 0) (own_up xch 4 (xbk ((f17 (f9 (xlv 2) (xlv 3)) 0 z) &&& 4095))) (own_up xbk ((f17 (f9 (xlv 2) (xlv 3)) 0 z) &&& 4095) 4) xca xcf xpe := Bq52
  have pre53 : Go p e below T52 _ (mkF m 192 #[(vr oa), (vi 0), (vi 2), (vi 3), (vi (-1)), (vi 2), (vi 3), (vi (-1)), (vi (f9 (xlv 2) (xlv 3))), (vi 0), (vi z)] [(.int 4)]) _ := fun t k => pre51 t ((st52).trans k)
  have pre54 : Go p e below T52 _ (mkF m 203 #[(vr oa), (vi 0), (vi 2), (vi 3), (vi (-1)), (vi 2), (vi 3), (vi 4), (vi (f9 (xlv 2) (xlv 3))), (vi 0), (vi z)] [(.int 4), (.int 0), (.int 3), (.int 2), (.int 0), (.ref oa)]) _ := fun t k => pre53 t (by
    refine XS.istore X52.here hx rfl (hb hby d25_192) rfl (l' := #[(vr oa), (vi 0), (vi 2), (vi 3), (vi (-1)), (vi 2), (vi 3), (vi 4), (vi (f9 (xlv 2) (xlv 3))), (vi 0), (vi z)]) rfl ?_
    refine XS.aloadN X52.here hx rfl (hb hby d25_194) rfl rfl ?_
    refine XS.iloadN X52.here hx rfl (hb hby d25_195) rfl ?_
    refine XS.iload X52.here hx rfl (hb hby d25_196) rfl ?_
    refine XS.iload X52.here hx rfl (hb hby d25_198) rfl ?_
    refine XS.iconst X52.here hx rfl (hb hby d25_200) ?_
    refine XS.iload X52.here hx rfl (hb hby d25_201) rfl ?_
    exact k)
  obtain ⟨cq55, q55, q55'⟩ := B52.e.cell
  obtain ⟨_, _, ⟨T55, L55, k55, n55⟩, -, X55, ⟨Lc55, hQ55, l55, y55, z55⟩, st55⟩ := X52.privateBack hx (y := Nm_20) hown (mq hZ hw 172 rfl) (mq hZ hw 173 rfl) (own_seli (mq hZ hw 2 rfl) (pq hZ hw 174 rfl) (mq hZ hw 173 rfl) (by decide)) (pq hZ hw 174 rfl) (mq hZ hw 175 rfl) (by decide) (backOf (W := 0) (rm30 l Z a0 hw [] (0 : Int32) (2 : Int32) (3 : Int32) (0 : Int32) (4 : Int32) T52.heap n0 B52.z B52) hZ (wq hw 175 rfl) (wq hw 3 rfl) (by decide) (by decide)) (g := (mkF m 203 #[(vr oa), (vi 0), (vi 2), (vi 3), (vi (-1)), (vi 2), (vi 3), (vi 4), (vi (f9 (xlv 2) (xlv 3))), (vi 0), (vi z)] [(.int 4), (.int 0), (.int 3), (.int 2), (.int 0), (.ref oa)])) rfl (by rw [hml]; rfl) (Steps.refl _) (a := oa) q55 q55' (argsL := [(.int 0), (.int 2), (.int 3), (.int 0), (.int 4)]) (rest := []) (lenOf pd__IIIII_V rfl) rfl (w00 rfl) (hb hby d25_203) (fun _ _ => ⟨rfl, rfl, zz, zz⟩)
  dsimp only [Pt.U, Pt.locs, Pt.cells, Pt.slots] at X55 l55 y55 z55 st55 hQ55
  subst y55 z55
  obtain ⟨rfl, Nq55, Bq55⟩ := hQ55
  have N55 := FrE l55 N52 Nq55
  have B55 : Mg Z n0 T55.heap oa _ _ _ _ _ _ _ _ _ _ xn xs (xch 4) (xfc - 1) 0 xcz xli xpk (own_up xlv 4 (f9 (xlv 2) (xlv 3))) (own_up xlo 4 0) (own_up xhi 4 z) (own_up xrf 4 0) (own_up xch 4 (xbk ((f17 (f9 (xlv 2) (xlv 3)) 0 z) &&& 4095))) (own_up xbk ((f17 (f9 (xlv 2) (xlv 3)) 0 z) &&& 4095) 4) (own_up (own_up (own_up (own_up (own_up xca ((f28 0 2 3 0) + 0) 0) ((f28 0 2 3 0) + 1) 2) ((f28 0 2 3 0) + 2) 3) ((f28 0 2 3 0) + 3) 0) ((f28 0 2 3 0) + 4) 4) xcf xpe := Bq55
  have pre56 := Go.trn pre54 st55
  have pre57 : Go p e below T55 _ (mkF m 208 #[(vr oa), (vi 0), (vi 2), (vi 3), (vi (-1)), (vi 2), (vi 3), (vi 4), (vi (f9 (xlv 2) (xlv 3))), (vi 0), (vi z)] [(.int 4)]) _ := fun t k => pre56 t (by
    refine XS.iload X55.here hx rfl (hb hby d25_206) rfl ?_
    exact k)
  obtain ⟨fs, hr, hrun, hended, hW, hsame⟩ := X55.leave (v := some (.int 4)) (fun h => by rw [Bd.returns] at h; cases h)
  refine ⟨_, _, ?_, hrun, hended, _, _, rfl, ?_, ⟨_, rfl⟩, hW, hsame.mono (by decide) (by decide)⟩
  · exact pre57 _ (retI X55 hx Bd.returns (hb hby d25_208) hr)
  · show QB _ _ _ _ T55.heap _
    skip
    exact ⟨rfl, N55, B55⟩
theorem d33_0 : DK cd33 0 (.aload_n 0) 1 := by decide +kernel
theorem d33_1 : DK cd33 1 (.getfield 15) 3 := by decide +kernel
theorem d33_4 : DK cd33 4 (.invokevirtual 310) 3 := by decide +kernel
theorem d33_7 : DK cd33 7 (.istore 4) 2 := by decide +kernel
theorem d33_9 : DK cd33 9 (.iload_n 2) 1 := by decide +kernel
theorem d33_10 : DK cd33 10 (.istore 5) 2 := by decide +kernel
theorem d33_12 : DK cd33 12 (.iload_n 3) 1 := by decide +kernel
theorem d33_13 : DK cd33 13 (.istore 6) 2 := by decide +kernel
theorem d33_15 : DK cd33 15 (.iconst (-1)) 1 := by decide +kernel
theorem d33_16 : DK cd33 16 (.istore 7) 2 := by decide +kernel
theorem d33_18 : DK cd33 18 (.iload 7) 2 := by decide +kernel
theorem d33_20 : DK cd33 20 (.iconst (-1)) 1 := by decide +kernel
theorem d33_21 : DK cd33 21 (.if_icmp .eq 15) 3 := by decide +kernel
theorem d33_24 : DK cd33 24 (.aload_n 0) 1 := by decide +kernel
theorem d33_25 : DK cd33 25 (.getfield 15) 3 := by decide +kernel
theorem d33_28 : DK cd33 28 (.invokevirtual 310) 3 := by decide +kernel
theorem d33_31 : DK cd33 31 (.iload 4) 2 := by decide +kernel
theorem d33_33 : DK cd33 33 (.if_icmp .le 244) 3 := by decide +kernel
theorem d33_36 : DK cd33 36 (.iload 7) 2 := by decide +kernel
theorem d33_38 : DK cd33 38 (.iconst (-1)) 1 := by decide +kernel
theorem d33_39 : DK cd33 39 (.if_icmp .ne 123) 3 := by decide +kernel
theorem d33_42 : DK cd33 42 (.iload_n 1) 1 := by decide +kernel
theorem d33_43 : DK cd33 43 (.iload 5) 2 := by decide +kernel
theorem d33_45 : DK cd33 45 (.iload 6) 2 := by decide +kernel
theorem d33_47 : DK cd33 47 (.invokestatic 261) 3 := by decide +kernel
theorem d33_50 : DK cd33 50 (.istore 7) 2 := by decide +kernel
theorem d33_52 : DK cd33 52 (.iload 7) 2 := by decide +kernel
theorem d33_54 : DK cd33 54 (.iconst (-1)) 1 := by decide +kernel
theorem d33_55 : DK cd33 55 (.if_icmp .ne 44) 3 := by decide +kernel
theorem d33_58 : DK cd33 58 (.iload_n 1) 1 := by decide +kernel
theorem d33_59 : DK cd33 59 (.iconst 3) 1 := by decide +kernel
theorem d33_60 : DK cd33 60 (.if_icmp .eq 27) 3 := by decide +kernel
theorem d33_63 : DK cd33 63 (.iload_n 1) 1 := by decide +kernel
theorem d33_64 : DK cd33 64 (.iconst 4) 1 := by decide +kernel
theorem d33_65 : DK cd33 65 (.if_icmp .eq 22) 3 := by decide +kernel
theorem d33_68 : DK cd33 68 (.iload 5) 2 := by decide +kernel
theorem d33_70 : DK cd33 70 (.iload 6) 2 := by decide +kernel
theorem d33_72 : DK cd33 72 (.if_icmp .le 15) 3 := by decide +kernel
theorem d33_87 : DK cd33 87 (.aload_n 0) 1 := by decide +kernel
theorem d33_88 : DK cd33 88 (.iload_n 1) 1 := by decide +kernel
theorem d33_89 : DK cd33 89 (.iload 5) 2 := by decide +kernel
theorem d33_91 : DK cd33 91 (.iload 6) 2 := by decide +kernel
theorem d33_93 : DK cd33 93 (.iconst 0) 1 := by decide +kernel
theorem d33_94 : DK cd33 94 (.invokevirtual 247) 3 := by decide +kernel
theorem d33_97 : DK cd33 97 (.istore 7) 2 := by decide +kernel
theorem d33_99 : DK cd33 99 (.iload 7) 2 := by decide +kernel
theorem d33_101 : DK cd33 101 (.iconst (-1)) 1 := by decide +kernel
theorem d33_102 : DK cd33 102 (.if_icmp .ne (-84)) 3 := by decide +kernel
theorem d33_105 : DK cd33 105 (.aload_n 0) 1 := by decide +kernel
theorem d33_106 : DK cd33 106 (.iload 5) 2 := by decide +kernel
theorem d33_108 : DK cd33 108 (.invokevirtual 186) 3 := by decide +kernel
theorem d33_111 : DK cd33 111 (.aload_n 0) 1 := by decide +kernel
theorem d33_112 : DK cd33 112 (.iload 6) 2 := by decide +kernel
theorem d33_114 : DK cd33 114 (.invokevirtual 186) 3 := by decide +kernel
theorem d33_117 : DK cd33 117 (.invokestatic 267) 3 := by decide +kernel
theorem d33_120 : DK cd33 120 (.istore 8) 2 := by decide +kernel
theorem d33_122 : DK cd33 122 (.aload_n 0) 1 := by decide +kernel
theorem d33_123 : DK cd33 123 (.getfield 15) 3 := by decide +kernel
theorem d33_126 : DK cd33 126 (.iload 5) 2 := by decide +kernel
theorem d33_128 : DK cd33 128 (.iload 6) 2 := by decide +kernel
theorem d33_130 : DK cd33 130 (.iconst 0) 1 := by decide +kernel
theorem d33_131 : DK cd33 131 (.iload 8) 2 := by decide +kernel
theorem d33_133 : DK cd33 133 (.iconst (-1)) 1 := by decide +kernel
theorem d33_134 : DK cd33 134 (.invokevirtual 313) 3 := by decide +kernel
theorem d33_137 : DK cd33 137 (.aload_n 0) 1 := by decide +kernel
theorem d33_138 : DK cd33 138 (.iload 5) 2 := by decide +kernel
theorem d33_140 : DK cd33 140 (.iload 8) 2 := by decide +kernel
theorem d33_142 : DK cd33 142 (.iconst 0) 1 := by decide +kernel
theorem d33_143 : DK cd33 143 (.invokevirtual 270) 3 := by decide +kernel
theorem d33_146 : DK cd33 146 (.istore 5) 2 := by decide +kernel
theorem d33_148 : DK cd33 148 (.aload_n 0) 1 := by decide +kernel
theorem d33_149 : DK cd33 149 (.iload 6) 2 := by decide +kernel
theorem d33_151 : DK cd33 151 (.iload 8) 2 := by decide +kernel
theorem d33_153 : DK cd33 153 (.iconst 0) 1 := by decide +kernel
theorem d33_154 : DK cd33 154 (.invokevirtual 270) 3 := by decide +kernel
theorem d33_157 : DK cd33 157 (.istore 6) 2 := by decide +kernel
theorem d33_159 : DK cd33 159 (.goto (-141)) 3 := by decide +kernel
theorem d33_162 : DK cd33 162 (.aload_n 0) 1 := by decide +kernel
theorem d33_163 : DK cd33 163 (.getfield 15) 3 := by decide +kernel
theorem d33_166 : DK cd33 166 (.invokevirtual 316) 3 := by decide +kernel
theorem d33_169 : DK cd33 169 (.istore 8) 2 := by decide +kernel
theorem d33_171 : DK cd33 171 (.aload_n 0) 1 := by decide +kernel
theorem d33_172 : DK cd33 172 (.getfield 15) 3 := by decide +kernel
theorem d33_175 : DK cd33 175 (.iload 8) 2 := by decide +kernel
theorem d33_177 : DK cd33 177 (.invokevirtual 328) 3 := by decide +kernel
theorem d33_180 : DK cd33 180 (.istore 9) 2 := by decide +kernel
theorem d33_182 : DK cd33 182 (.aload_n 0) 1 := by decide +kernel
theorem d33_183 : DK cd33 183 (.getfield 15) 3 := by decide +kernel
theorem d33_186 : DK cd33 186 (.iload 8) 2 := by decide +kernel
theorem d33_188 : DK cd33 188 (.invokevirtual 319) 3 := by decide +kernel
theorem d33_191 : DK cd33 191 (.iconst (-1)) 1 := by decide +kernel
theorem d33_192 : DK cd33 192 (.if_icmp .ne 56) 3 := by decide +kernel
theorem d33_195 : DK cd33 195 (.aload_n 0) 1 := by decide +kernel
theorem d33_196 : DK cd33 196 (.getfield 15) 3 := by decide +kernel
theorem d33_199 : DK cd33 199 (.iload 8) 2 := by decide +kernel
theorem d33_201 : DK cd33 201 (.iload 7) 2 := by decide +kernel
theorem d33_203 : DK cd33 203 (.invokevirtual 322) 3 := by decide +kernel
theorem d33_206 : DK cd33 206 (.aload_n 0) 1 := by decide +kernel
theorem d33_207 : DK cd33 207 (.aload_n 0) 1 := by decide +kernel
theorem d33_208 : DK cd33 208 (.getfield 15) 3 := by decide +kernel
theorem d33_211 : DK cd33 211 (.iload 8) 2 := by decide +kernel
theorem d33_213 : DK cd33 213 (.invokevirtual 325) 3 := by decide +kernel
theorem d33_216 : DK cd33 216 (.iload 9) 2 := by decide +kernel
theorem d33_218 : DK cd33 218 (.iconst 1) 1 := by decide +kernel
theorem d33_219 : DK cd33 219 (.invokevirtual 270) 3 := by decide +kernel
theorem d33_222 : DK cd33 222 (.istore 5) 2 := by decide +kernel
theorem d33_224 : DK cd33 224 (.aload_n 0) 1 := by decide +kernel
theorem d33_225 : DK cd33 225 (.aload_n 0) 1 := by decide +kernel
theorem d33_226 : DK cd33 226 (.getfield 15) 3 := by decide +kernel
theorem d33_229 : DK cd33 229 (.iload 8) 2 := by decide +kernel
theorem d33_231 : DK cd33 231 (.invokevirtual 332) 3 := by decide +kernel
theorem d33_234 : DK cd33 234 (.iload 9) 2 := by decide +kernel
theorem d33_236 : DK cd33 236 (.iconst 1) 1 := by decide +kernel
theorem d33_237 : DK cd33 237 (.invokevirtual 270) 3 := by decide +kernel
theorem d33_240 : DK cd33 240 (.istore 6) 2 := by decide +kernel
theorem d33_242 : DK cd33 242 (.iconst (-1)) 1 := by decide +kernel
theorem d33_243 : DK cd33 243 (.istore 7) 2 := by decide +kernel
theorem d33_245 : DK cd33 245 (.goto 29) 3 := by decide +kernel
theorem d33_248 : DK cd33 248 (.aload_n 0) 1 := by decide +kernel
theorem d33_249 : DK cd33 249 (.iload_n 1) 1 := by decide +kernel
theorem d33_250 : DK cd33 250 (.iload 8) 2 := by decide +kernel
theorem d33_252 : DK cd33 252 (.aload_n 0) 1 := by decide +kernel
theorem d33_253 : DK cd33 253 (.iload 9) 2 := by decide +kernel
theorem d33_255 : DK cd33 255 (.aload_n 0) 1 := by decide +kernel
theorem d33_256 : DK cd33 256 (.getfield 15) 3 := by decide +kernel
theorem d33_259 : DK cd33 259 (.iload 8) 2 := by decide +kernel
theorem d33_261 : DK cd33 261 (.invokevirtual 319) 3 := by decide +kernel
theorem d33_264 : DK cd33 264 (.iload 7) 2 := by decide +kernel
theorem d33_266 : DK cd33 266 (.invokevirtual 59) 3 := by decide +kernel
theorem d33_269 : DK cd33 269 (.invokevirtual 329) 3 := by decide +kernel
theorem d33_272 : DK cd33 272 (.istore 7) 2 := by decide +kernel
theorem d33_274 : DK cd33 274 (.goto (-256)) 3 := by decide +kernel
theorem d33_277 : DK cd33 277 (.iload 7) 2 := by decide +kernel
theorem d33_279 : DK cd33 279 .ireturn 1 := by decide +kernel
theorem pn_33 : plainName "com/example/slim_kripke/slimkripke/bdd/BddManager" = true := by first | (simp [plainName, overriddenIn]; done) | decide +kernel
theorem pd___I : parseMethodDescriptor "()I" = some ⟨[], some .int⟩ := by decide +kernel
theorem pd__II_V : parseMethodDescriptor "(II)V" = some ⟨[.int, .int], none⟩ := by decide +kernel
theorem ef_33s (m : MethodId) (x0 : Addr) : entryFrame m #[(.ref x0), (.int 0), (.int 2), (.int 3)] 10 = mkF m 0 #[.val (.ref x0), .val (.int 0), .val (.int 2), .val (.int 3), .unset, .unset, .unset, .unset, .unset, .unset] [] := by first | (simp [entryFrame, mkF, argsToLocals, Value.category]; done) | rfl
theorem rm33s (l : Launch) (Z : State) (a0 : Array Value) (hw : ∀ d ∈ tables_1, d.before a0 Z = true) (ws : List Jvm.Cond) {oa qcs qcf qpe qlv qlo qhi qrf qch qbk qca : Addr} {u1 u2 w1 w2 z : Int32} {xn xs xfc xdp xli xpk : Int32} {xlv xlo xhi xrf xch xbk xca xcf xpe : Int32 → Int32} (h0 : Heap) (n0 : Nat) (Z0 : n0 ≤ h0.size) (B0 : Mg Z n0 h0 oa qcs qcf qpe qlv qlo qhi qrf qch qbk qca xn xs 4 xfc xdp 0 xli xpk xlv xlo xhi xrf xch xbk xca xcf xpe) (hu1 : (v29z_33_l4 2 (f9 (xlv 2) (xlv 3)) xlv xlo) = u1) (hu2 : (v29z_33_l4 3 (f9 (xlv 2) (xlv 3)) xlv xlo) = u2) (hw1 : (v29o_33_l4 2 (f9 (xlv 2) (xlv 3)) xlv xhi) = w1) (hw2 : (v29o_33_l4 3 (f9 (xlv 2) (xlv 3)) xlv xhi) = w2) (ht0 : (f26 u1 u2) = 0) (ht1 : (f26 w1 w2) = z) (hz : ¬ z = (-1 : Int32)) (hz0 : ¬ 0 = z) (hms : ¬ (xca ((f28 0 2 3 0) + 0)) = 0) (hwk : own_walk xlv xlo xhi xch (f9 (xlv 2) (xlv 3)) 0 z 3 (xbk ((f17 (f9 (xlv 2) (xlv 3)) 0 z) &&& 4095))) (hf0 : ¬ xfc = 0) :
    Met1 l Nm_39 (Jvm.Cond.code Nm_39 prog_5_method_48_code 10 (some .int)) ws (rom 4 0 0 67) #[(.ref oa), (.int 0), (.int 2), (.int 3)] Z h0 (QB (some (.int 4)) n0 (fun h => Mg Z n0 h oa qcs qcf qpe qlv qlo qhi qrf qch qbk qca xn xs (xch 4) (xfc - 1) xdp 0 xli xpk (own_up xlv 4 (f9 (xlv 2) (xlv 3))) (own_up xlo 4 0) (own_up xhi 4 z) (own_up xrf 4 0) (own_up xch 4 (xbk ((f17 (f9 (xlv 2) (xlv 3)) 0 z) &&& 4095))) (own_up xbk ((f17 (f9 (xlv 2) (xlv 3)) 0 z) &&& 4095) 4) (own_up (own_up (own_up (own_up (own_up xca ((f28 0 2 3 0) + 0) 0) ((f28 0 2 3 0) + 1) 2) ((f28 0 2 3 0) + 2) 3) ((f28 0 2 3 0) + 3) 0) ((f28 0 2 3 0) + 4) 4) (own_up (own_up (own_up (own_up (own_up (own_up xcf 0 2) 1 3) 2 0) 3 (f9 (xlv 2) (xlv 3))) 4 (-1 : Int32)) 4 0) xpe)) := by
  refine MetFree.of_bodySF (plainFor_of_name pn_33) hisR ?_
  intro p e s m args below meth c s₁ Bd hml0 hP hK
  obtain ⟨rfl, hZ, hh⟩ := hP
  have hx := Bd.exec
  have hby := Bd.bytes
  have hml : c.maxLocals = 10 := hml0
  have hown : s.vm.findClass "com/example/slim_kripke/slimkripke/bdd/BddManager" = some m.cls := findClass_of_methodNamed Bd.named
  have X0 : Stand p l e (rom 4 0 0 67) s m _ _ _ _ _ [] 0 0 := Stand.of_body Bd
  have e0 : s₁.heap = h0 := by rw [← hh, Bd.state]; rfl
  have N0 := Fr.nil n0
  have K0 : Keep h0 h0 [] := Keep.refl _ _
  have pre0 : Go p e below s₁ _ (mkF m 0 #[(vr oa), (vi 0), (vi 2), (vi 3), .unset, .unset, .unset, .unset, .unset, .unset] []) _ := fun t k => castTop (ef_33s m oa) k
  have pre1 : Go p e below s₁ _ (mkF m 1 #[(vr oa), (vi 0), (vi 2), (vi 3), .unset, .unset, .unset, .unset, .unset, .unset] [(.ref oa)]) _ := fun t k => pre0 t (by
    refine XS.aloadN X0.here hx rfl (hb hby d33_0) rfl rfl ?_
    exact k)
  obtain ⟨T2, X2, e2, st2⟩ := getF X0 hx hZ hown (host := "") (Or.inl (wq hw 20 rfl)) Via.refl e0 B0.f_cs (g := (mkF m 1 #[(vr oa), (vi 0), (vi 2), (vi 3), .unset, .unset, .unset, .unset, .unset, .unset] [(.ref oa)])) rfl rfl (hb hby d33_1)
  have pre3 := Go.thn pre1 st2
  obtain ⟨cq4, kq4, q4a, q4b, q4c⟩ := isOf hZ e2 B0.ec
  obtain ⟨_, _, ⟨T4, L4, k4, n4⟩, -, X4, ⟨Lc4, hQ4, l4, y4, z4⟩, st4⟩ := X2.virtualBack hx (y := Nm_27) (z := Nm_27) hown (mq hZ hw 190 rfl) (mq hZ hw 191 rfl) (notFace_of_selects (args := #[]) (mq hZ hw 193 rfl)) (mq hZ hw 193 rfl) (mq hZ hw 192 rfl) (by decide) (backOf (W := 0) (rm34 l Z a0 hw []  h0 n0 B0.z B0) hZ (wq hw 194 rfl) (wq hw 12 rfl) (by decide) (by decide)) q4a q4c (g := (mkF m 4 #[(vr oa), (vi 0), (vi 2), (vi 3), .unset, .unset, .unset, .unset, .unset, .unset] [(.ref qcs)])) rfl (by rw [hml]; rfl) (Steps.refl _) (argsL := []) (rest := []) (lenOf pd___I rfl) rfl (w00 rfl) (hb hby d33_4) (fun _ _ => ⟨rfl, e2, zz, zz⟩)
  dsimp only [Pt.U, Pt.locs, Pt.cells, Pt.slots] at X4 l4 y4 z4 st4 hQ4
  subst y4 z4
  obtain ⟨rfl, Nq4, e4⟩ := hQ4
  have N4 := FrE l4 N0 Nq4
  have pre5 : Go p e below T4 _ (mkF m 7 #[(vr oa), (vi 0), (vi 2), (vi 3), .unset, .unset, .unset, .unset, .unset, .unset] [(.int 0)]) _ := fun t k => pre3 t ((st4).trans k)
  have pre6 : Go p e below T4 _ (mkF m 47 #[(vr oa), (vi 0), (vi 2), (vi 3), (vi 0), (vi 2), (vi 3), (vi (-1)), .unset, .unset] [(.int 3), (.int 2), (.int 0)]) _ := fun t k => pre5 t (by
    refine XS.istore X4.here hx rfl (hb hby d33_7) rfl (l' := #[(vr oa), (vi 0), (vi 2), (vi 3), (vi 0), .unset, .unset, .unset, .unset, .unset]) rfl ?_
    refine XS.iloadN X4.here hx rfl (hb hby d33_9) rfl ?_
    refine XS.istore X4.here hx rfl (hb hby d33_10) rfl (l' := #[(vr oa), (vi 0), (vi 2), (vi 3), (vi 0), (vi 2), .unset, .unset, .unset, .unset]) rfl ?_
    refine XS.iloadN X4.here hx rfl (hb hby d33_12) rfl ?_
    refine XS.istore X4.here hx rfl (hb hby d33_13) rfl (l' := #[(vr oa), (vi 0), (vi 2), (vi 3), (vi 0), (vi 2), (vi 3), .unset, .unset, .unset]) rfl ?_
    refine XS.iconst X4.here hx rfl (hb hby d33_15) ?_
    refine XS.istore X4.here hx rfl (hb hby d33_16) rfl (l' := #[(vr oa), (vi 0), (vi 2), (vi 3), (vi 0), (vi 2), (vi 3), (vi (-1)), .unset, .unset]) rfl ?_
    refine XS.iload X4.here hx rfl (hb hby d33_18) rfl ?_
    refine XS.iconst X4.here hx rfl (hb hby d33_20) ?_
    refine XS.icmpYes X4.here hx rfl (pc0 := 21) (pc' := 36) rfl (hb hby d33_21) rfl (by decide) (by decide) (by decide) ?_
    refine XS.iload X4.here hx rfl (hb hby d33_36) rfl ?_
    refine XS.iconst X4.here hx rfl (hb hby d33_38) ?_
    refine XS.icmpNo X4.here hx rfl (hb hby d33_39) rfl (by decide) ?_
    refine XS.iloadN X4.here hx rfl (hb hby d33_42) rfl ?_
    refine XS.iload X4.here hx rfl (hb hby d33_43) rfl ?_
    refine XS.iload X4.here hx rfl (hb hby d33_45) rfl ?_
    exact k)
  obtain ⟨_, _, ⟨T7, L7, k7, n7⟩, -, X7, ⟨Lc7, hQ7, l7, y7, z7⟩, st7⟩ := Jvm.LawKit.callS X4 hx (y := Nm_6) hown (mq hZ hw 156 rfl) (mq hZ hw 157 rfl) (mq hZ hw 3 rfl) (mq hZ hw 158 rfl) (by decide) (backOf (W := 0) (rm26 l Z a0 hw [] (2 : Int32) (3 : Int32) h0 n0 Z0) hZ (wq hw 158 rfl) (wq hw 3 rfl) (by decide) (by decide)) (g := (mkF m 47 #[(vr oa), (vi 0), (vi 2), (vi 3), (vi 0), (vi 2), (vi 3), (vi (-1)), .unset, .unset] [(.int 3), (.int 2), (.int 0)])) rfl (by rw [hml]; rfl) (argsL := [(.int 0), (.int 2), (.int 3)]) (rest := []) (lenOf pd__III_I rfl) rfl (w00 rfl) (hb hby d33_47) (fun _ _ => ⟨rfl, e4, zz, zz⟩)
  dsimp only [Pt.U, Pt.locs, Pt.cells, Pt.slots] at X7 l7 y7 z7 st7 hQ7
  subst y7 z7
  obtain ⟨rfl, Nq7, e7⟩ := hQ7
  have N7 := FrE l7 N4 Nq7
  have pre8 := Go.thn pre6 st7
  have pre9 : Go p e below T7 _ (mkF m 94 #[(vr oa), (vi 0), (vi 2), (vi 3), (vi 0), (vi 2), (vi 3), (vi (-1)), .unset, .unset] [(.int 0), (.int 3), (.int 2), (.int 0), (.ref oa)]) _ := fun t k => pre8 t (by
    refine XS.istore X7.here hx rfl (hb hby d33_50) rfl (l' := #[(vr oa), (vi 0), (vi 2), (vi 3), (vi 0), (vi 2), (vi 3), (vi (-1)), .unset, .unset]) rfl ?_
    refine XS.iload X7.here hx rfl (hb hby d33_52) rfl ?_
    refine XS.iconst X7.here hx rfl (hb hby d33_54) ?_
    refine XS.icmpNo X7.here hx rfl (hb hby d33_55) rfl (by decide) ?_
    refine XS.iloadN X7.here hx rfl (hb hby d33_58) rfl ?_
    refine XS.iconst X7.here hx rfl (hb hby d33_59) ?_
    refine XS.icmpNo X7.here hx rfl (hb hby d33_60) rfl (by decide) ?_
    refine XS.iloadN X7.here hx rfl (hb hby d33_63) rfl ?_
    refine XS.iconst X7.here hx rfl (hb hby d33_64) ?_
    refine XS.icmpNo X7.here hx rfl (hb hby d33_65) rfl (by decide) ?_
    refine XS.iload X7.here hx rfl (hb hby d33_68) rfl ?_
    refine XS.iload X7.here hx rfl (hb hby d33_70) rfl ?_
    refine XS.icmpYes X7.here hx rfl (pc0 := 72) (pc' := 87) rfl (hb hby d33_72) rfl (by decide) (by decide) (by decide) ?_
    refine XS.aloadN X7.here hx rfl (hb hby d33_87) rfl rfl ?_
    refine XS.iloadN X7.here hx rfl (hb hby d33_88) rfl ?_
    refine XS.iload X7.here hx rfl (hb hby d33_89) rfl ?_
    refine XS.iload X7.here hx rfl (hb hby d33_91) rfl ?_
    refine XS.iconst X7.here hx rfl (hb hby d33_93) ?_
    exact k)
  obtain ⟨cq10, q10, q10'⟩ := B0.e.cell
  obtain ⟨_, _, ⟨T10, L10, k10, n10⟩, -, X10, ⟨Lc10, hQ10, l10, y10, z10⟩, st10⟩ := X7.privateBack hx (y := Nm_18) hown (mq hZ hw 159 rfl) (mq hZ hw 160 rfl) (own_seli (mq hZ hw 2 rfl) (pq hZ hw 161 rfl) (mq hZ hw 160 rfl) (by decide)) (pq hZ hw 161 rfl) (mq hZ hw 162 rfl) (by decide) (backOf (W := 0) (rm27 l Z a0 hw [] (0 : Int32) (2 : Int32) (3 : Int32) (0 : Int32) h0 n0 B0.z B0 hms) hZ (wq hw 162 rfl) (wq hw 3 rfl) (by decide) (by decide)) (g := (mkF m 94 #[(vr oa), (vi 0), (vi 2), (vi 3), (vi 0), (vi 2), (vi 3), (vi (-1)), .unset, .unset] [(.int 0), (.int 3), (.int 2), (.int 0), (.ref oa)])) rfl (by rw [hml]; rfl) (Steps.refl _) (a := oa) (by rw [e7]; exact q10) q10' (argsL := [(.int 0), (.int 2), (.int 3), (.int 0)]) (rest := []) (lenOf pd__IIII_I rfl) rfl (w00 rfl) (hb hby d33_94) (fun _ _ => ⟨rfl, e7, zz, zz⟩)
  dsimp only [Pt.U, Pt.locs, Pt.cells, Pt.slots] at X10 l10 y10 z10 st10 hQ10
  subst y10 z10
  obtain ⟨rfl, Nq10, e10⟩ := hQ10
  have N10 := FrE l10 N7 Nq10
  have pre11 := Go.trn pre9 st10
  have pre12 : Go p e below T10 _ (mkF m 108 #[(vr oa), (vi 0), (vi 2), (vi 3), (vi 0), (vi 2), (vi 3), (vi (-1)), .unset, .unset] [(.int 2), (.ref oa)]) _ := fun t k => pre11 t (by
    refine XS.istore X10.here hx rfl (hb hby d33_97) rfl (l' := #[(vr oa), (vi 0), (vi 2), (vi 3), (vi 0), (vi 2), (vi 3), (vi (-1)), .unset, .unset]) rfl ?_
    refine XS.iload X10.here hx rfl (hb hby d33_99) rfl ?_
    refine XS.iconst X10.here hx rfl (hb hby d33_101) ?_
    refine XS.icmpNo X10.here hx rfl (hb hby d33_102) rfl (by decide) ?_
    refine XS.aloadN X10.here hx rfl (hb hby d33_105) rfl rfl ?_
    refine XS.iload X10.here hx rfl (hb hby d33_106) rfl ?_
    exact k)
  obtain ⟨cq13, kq13, q13a, q13b, q13c⟩ := isOf hZ e10 B0.e
  obtain ⟨_, _, ⟨T13, L13, k13, n13⟩, -, X13, ⟨Lc13, hQ13, l13, y13, z13⟩, st13⟩ := X10.virtualBack hx (y := Nm_15) (z := Nm_15) hown (mq hZ hw 167 rfl) (mq hZ hw 81 rfl) (notFace_of_selects (args := #[]) (mq hZ hw 83 rfl)) (mq hZ hw 83 rfl) (mq hZ hw 82 rfl) (by decide) (backOf (W := 0) (rm11n l Z a0 hw [] (2 : Int32) h0 n0 B0.z B0 (by decide) (by decide) (by decide)) hZ (wq hw 84 rfl) (wq hw 3 rfl) (by decide) (by decide)) q13a q13c (g := (mkF m 108 #[(vr oa), (vi 0), (vi 2), (vi 3), (vi 0), (vi 2), (vi 3), (vi (-1)), .unset, .unset] [(.int 2), (.ref oa)])) rfl (by rw [hml]; rfl) (Steps.refl _) (argsL := [(.int 2)]) (rest := []) (lenOf pd__I_I rfl) rfl (w00 rfl) (hb hby d33_108) (fun _ _ => ⟨rfl, e10, zz, zz⟩)
  dsimp only [Pt.U, Pt.locs, Pt.cells, Pt.slots] at X13 l13 y13 z13 st13 hQ13
  subst y13 z13
  obtain ⟨rfl, Nq13, e13⟩ := hQ13
  have N13 := FrE l13 N10 Nq13
  have pre14 := Go.trn pre12 st13
  have pre15 : Go p e below T13 _ (mkF m 114 #[(vr oa), (vi 0), (vi 2), (vi 3), (vi 0), (vi 2), (vi 3), (vi (-1)), .unset, .unset] [(.int 3), (.ref oa), (.int (xlv 2))]) _ := fun t k => pre14 t (by
    refine XS.aloadN X13.here hx rfl (hb hby d33_111) rfl rfl ?_
    refine XS.iload X13.here hx rfl (hb hby d33_112) rfl ?_
    exact k)
  obtain ⟨cq16, kq16, q16a, q16b, q16c⟩ := isOf hZ e13 B0.e
  obtain ⟨_, _, ⟨T16, L16, k16, n16⟩, -, X16, ⟨Lc16, hQ16, l16, y16, z16⟩, st16⟩ := X13.virtualBack hx (y := Nm_15) (z := Nm_15) hown (mq hZ hw 167 rfl) (mq hZ hw 81 rfl) (notFace_of_selects (args := #[]) (mq hZ hw 83 rfl)) (mq hZ hw 83 rfl) (mq hZ hw 82 rfl) (by decide) (backOf (W := 1) (rm11n l Z a0 hw [] (3 : Int32) h0 n0 B0.z B0 (by decide) (by decide) (by decide)) hZ (wq hw 84 rfl) (wq hw 3 rfl) (by decide) (by decide)) q16a q16c (g := (mkF m 114 #[(vr oa), (vi 0), (vi 2), (vi 3), (vi 0), (vi 2), (vi 3), (vi (-1)), .unset, .unset] [(.int 3), (.ref oa), (.int (xlv 2))])) rfl (by rw [hml]; rfl) (Steps.refl _) (argsL := [(.int 3)]) (rest := [(.int (xlv 2))]) (lenOf pd__I_I rfl) rfl (w00 rfl) (hb hby d33_114) (fun _ _ => ⟨rfl, e13, zz, zz⟩)
  dsimp only [Pt.U, Pt.locs, Pt.cells, Pt.slots] at X16 l16 y16 z16 st16 hQ16
  subst y16 z16
  obtain ⟨rfl, Nq16, e16⟩ := hQ16
  have N16 := FrE l16 N13 Nq16
  have pre17 := Go.trn pre15 st16
  obtain ⟨_, _, ⟨T18, L18, k18, n18⟩, -, X18, ⟨Lc18, hQ18, l18, y18, z18⟩, st18⟩ := Jvm.LawKit.callS X16 hx (y := Nm_2) hown (mq hZ hw 70 rfl) (mq hZ hw 71 rfl) (mq hZ hw 72 rfl) (mq hZ hw 73 rfl) (by decide) (backOf (W := 0) (rm9 l Z a0 hw [] (xlv 2) (xlv 3) h0 n0 Z0) hZ (wq hw 73 rfl) (wq hw 72 rfl) (by decide) (by decide)) (g := (mkF m 117 #[(vr oa), (vi 0), (vi 2), (vi 3), (vi 0), (vi 2), (vi 3), (vi (-1)), .unset, .unset] [(.int (xlv 3)), (.int (xlv 2))])) rfl (by rw [hml]; rfl) (argsL := [(.int (xlv 2)), (.int (xlv 3))]) (rest := []) (lenOf pd__II_I rfl) rfl (w00 rfl) (hb hby d33_117) (fun _ _ => ⟨rfl, e16, zz, zz⟩)
  dsimp only [Pt.U, Pt.locs, Pt.cells, Pt.slots] at X18 l18 y18 z18 st18 hQ18
  subst y18 z18
  obtain ⟨rfl, Nq18, e18⟩ := hQ18
  have N18 := FrE l18 N16 Nq18
  have pre19 := Go.thn pre17 st18
  have pre20 : Go p e below T18 _ (mkF m 123 #[(vr oa), (vi 0), (vi 2), (vi 3), (vi 0), (vi 2), (vi 3), (vi (-1)), (vi (f9 (xlv 2) (xlv 3))), .unset] [(.ref oa)]) _ := fun t k => pre19 t (by
    refine XS.istore X18.here hx rfl (hb hby d33_120) rfl (l' := #[(vr oa), (vi 0), (vi 2), (vi 3), (vi 0), (vi 2), (vi 3), (vi (-1)), (vi (f9 (xlv 2) (xlv 3))), .unset]) rfl ?_
    refine XS.aloadN X18.here hx rfl (hb hby d33_122) rfl rfl ?_
    exact k)
  obtain ⟨T21, X21, e21, st21⟩ := getF X18 hx hZ hown (host := "") (Or.inl (wq hw 20 rfl)) Via.refl e18 B0.f_cs (g := (mkF m 123 #[(vr oa), (vi 0), (vi 2), (vi 3), (vi 0), (vi 2), (vi 3), (vi (-1)), (vi (f9 (xlv 2) (xlv 3))), .unset] [(.ref oa)])) rfl rfl (hb hby d33_123)
  have pre22 := Go.thn pre20 st21
  have pre23 : Go p e below T21 _ (mkF m 134 #[(vr oa), (vi 0), (vi 2), (vi 3), (vi 0), (vi 2), (vi 3), (vi (-1)), (vi (f9 (xlv 2) (xlv 3))), .unset] [(.int (-1)), (.int (f9 (xlv 2) (xlv 3))), (.int 0), (.int 3), (.int 2), (.ref qcs)]) _ := fun t k => pre22 t (by
    refine XS.iload X21.here hx rfl (hb hby d33_126) rfl ?_
    refine XS.iload X21.here hx rfl (hb hby d33_128) rfl ?_
    refine XS.iconst X21.here hx rfl (hb hby d33_130) ?_
    refine XS.iload X21.here hx rfl (hb hby d33_131) rfl ?_
    refine XS.iconst X21.here hx rfl (hb hby d33_133) ?_
    exact k)
  obtain ⟨cq24, kq24, q24a, q24b, q24c⟩ := isOf hZ e21 B0.ec
  obtain ⟨_, _, ⟨T24, L24, k24, n24⟩, -, X24, ⟨Lc24, hQ24, l24, y24, z24⟩, st24⟩ := X21.virtualBack hx (y := Nm_29) (z := Nm_29) hown (mq hZ hw 195 rfl) (mq hZ hw 196 rfl) (notFace_of_selects (args := #[]) (mq hZ hw 198 rfl)) (mq hZ hw 198 rfl) (mq hZ hw 197 rfl) (by decide) (backOf (W := 0) (rm35 l Z a0 hw [] (2 : Int32) (3 : Int32) (0 : Int32) (f9 (xlv 2) (xlv 3)) (-1 : Int32) h0 n0 B0.z B0) hZ (wq hw 199 rfl) (wq hw 12 rfl) (by decide) (by decide)) q24a q24c (g := (mkF m 134 #[(vr oa), (vi 0), (vi 2), (vi 3), (vi 0), (vi 2), (vi 3), (vi (-1)), (vi (f9 (xlv 2) (xlv 3))), .unset] [(.int (-1)), (.int (f9 (xlv 2) (xlv 3))), (.int 0), (.int 3), (.int 2), (.ref qcs)])) rfl (by rw [hml]; rfl) (Steps.refl _) (argsL := [(.int 2), (.int 3), (.int 0), (.int (f9 (xlv 2) (xlv 3))), (.int (-1))]) (rest := []) (lenOf pd__IIIII_V rfl) rfl (w00 rfl) (hb hby d33_134) (fun _ _ => ⟨rfl, e21, zz, zz⟩)
  dsimp only [Pt.U, Pt.locs, Pt.cells, Pt.slots] at X24 l24 y24 z24 st24 hQ24
  subst y24 z24
  obtain ⟨rfl, Nq24, Bq24⟩ := hQ24
  have N24 := FrE l24 N18 Nq24
  have B24 : Mg Z n0 T24.heap oa _ _ _ _ _ _ _ _ _ _ xn xs 4 xfc xdp 1 xli xpk xlv xlo xhi xrf xch xbk xca (own_up (own_up (own_up (own_up (own_up xcf 0 2) 1 3) 2 0) 3 (f9 (xlv 2) (xlv 3))) 4 (-1 : Int32)) xpe := Bq24
  have pre25 := Go.trn pre23 st24
  have pre26 : Go p e below T24 _ (mkF m 143 #[(vr oa), (vi 0), (vi 2), (vi 3), (vi 0), (vi 2), (vi 3), (vi (-1)), (vi (f9 (xlv 2) (xlv 3))), .unset] [(.int 0), (.int (f9 (xlv 2) (xlv 3))), (.int 2), (.ref oa)]) _ := fun t k => pre25 t (by
    refine XS.aloadN X24.here hx rfl (hb hby d33_137) rfl rfl ?_
    refine XS.iload X24.here hx rfl (hb hby d33_138) rfl ?_
    refine XS.iload X24.here hx rfl (hb hby d33_140) rfl ?_
    refine XS.iconst X24.here hx rfl (hb hby d33_142) ?_
    exact k)
  obtain ⟨cq27, q27, q27'⟩ := B24.e.cell
  obtain ⟨_, _, ⟨T27, L27, k27, n27⟩, -, X27, ⟨Lc27, hQ27, l27, y27, z27⟩, st27⟩ := X24.privateBack hx (y := Nm_19) hown (mq hZ hw 168 rfl) (mq hZ hw 169 rfl) (own_seli (mq hZ hw 2 rfl) (pq hZ hw 170 rfl) (mq hZ hw 169 rfl) (by decide)) (pq hZ hw 170 rfl) (mq hZ hw 171 rfl) (by decide) (backOf (W := 0) (rm29z l Z a0 hw [] (2 : Int32) (f9 (xlv 2) (xlv 3)) T24.heap n0 B24.z B24 (by decide) (by decide) (by decide)) hZ (wq hw 171 rfl) (wq hw 3 rfl) (by decide) (by decide)) (g := (mkF m 143 #[(vr oa), (vi 0), (vi 2), (vi 3), (vi 0), (vi 2), (vi 3), (vi (-1)), (vi (f9 (xlv 2) (xlv 3))), .unset] [(.int 0), (.int (f9 (xlv 2) (xlv 3))), (.int 2), (.ref oa)])) rfl (by rw [hml]; rfl) (Steps.refl _) (a := oa) q27 q27' (argsL := [(.int 2), (.int (f9 (xlv 2) (xlv 3))), (.int 0)]) (rest := []) (lenOf pd__IIZ_I rfl) rfl (w00 rfl) (hb hby d33_143) (fun _ _ => ⟨rfl, rfl, zz, zz⟩)
  dsimp only [Pt.U, Pt.locs, Pt.cells, Pt.slots] at X27 l27 y27 z27 st27 hQ27
  subst y27 z27
  obtain ⟨rfl, Nq27, e27⟩ := hQ27
  have N27 := FrE l27 N24 Nq27
  have pre28 := Go.trn pre26 st27
  have pre29 : Go p e below T27 _ (mkF m 154 #[(vr oa), (vi 0), (vi 2), (vi 3), (vi 0), (vi u1), (vi 3), (vi (-1)), (vi (f9 (xlv 2) (xlv 3))), .unset] [(.int 0), (.int (f9 (xlv 2) (xlv 3))), (.int 3), (.ref oa)]) _ := fun t k => pre28 t (by
    show Steps p.tables e below (T27.setTop (mkF m 146 #[(vr oa), (vi 0), (vi 2), (vi 3), (vi 0), (vi 2), (vi 3), (vi (-1)), (vi (f9 (xlv 2) (xlv 3))), .unset] [(.int (v29z_33_l4 (2 : Int32) (f9 (xlv 2) (xlv 3)) xlv xlo))])) _
    rw [hu1]
    refine XS.istore X27.here hx rfl (hb hby d33_146) rfl (l' := #[(vr oa), (vi 0), (vi 2), (vi 3), (vi 0), (vi u1), (vi 3), (vi (-1)), (vi (f9 (xlv 2) (xlv 3))), .unset]) rfl ?_
    refine XS.aloadN X27.here hx rfl (hb hby d33_148) rfl rfl ?_
    refine XS.iload X27.here hx rfl (hb hby d33_149) rfl ?_
    refine XS.iload X27.here hx rfl (hb hby d33_151) rfl ?_
    refine XS.iconst X27.here hx rfl (hb hby d33_153) ?_
    exact k)
  obtain ⟨cq30, q30, q30'⟩ := B24.e.cell
  obtain ⟨_, _, ⟨T30, L30, k30, n30⟩, -, X30, ⟨Lc30, hQ30, l30, y30, z30⟩, st30⟩ := X27.privateBack hx (y := Nm_19) hown (mq hZ hw 168 rfl) (mq hZ hw 169 rfl) (own_seli (mq hZ hw 2 rfl) (pq hZ hw 170 rfl) (mq hZ hw 169 rfl) (by decide)) (pq hZ hw 170 rfl) (mq hZ hw 171 rfl) (by decide) (backOf (W := 0) (rm29z l Z a0 hw [] (3 : Int32) (f9 (xlv 2) (xlv 3)) T24.heap n0 B24.z B24 (by decide) (by decide) (by decide)) hZ (wq hw 171 rfl) (wq hw 3 rfl) (by decide) (by decide)) (g := (mkF m 154 #[(vr oa), (vi 0), (vi 2), (vi 3), (vi 0), (vi u1), (vi 3), (vi (-1)), (vi (f9 (xlv 2) (xlv 3))), .unset] [(.int 0), (.int (f9 (xlv 2) (xlv 3))), (.int 3), (.ref oa)])) rfl (by rw [hml]; rfl) (Steps.refl _) (a := oa) (by rw [e27]; exact q30) q30' (argsL := [(.int 3), (.int (f9 (xlv 2) (xlv 3))), (.int 0)]) (rest := []) (lenOf pd__IIZ_I rfl) rfl (w00 rfl) (hb hby d33_154) (fun _ _ => ⟨rfl, e27, zz, zz⟩)
  dsimp only [Pt.U, Pt.locs, Pt.cells, Pt.slots] at X30 l30 y30 z30 st30 hQ30
  subst y30 z30
  obtain ⟨rfl, Nq30, e30⟩ := hQ30
  have N30 := FrE l30 N27 Nq30
  have pre31 := Go.trn pre29 st30
  have pre32 : Go p e below T30 _ (mkF m 47 #[(vr oa), (vi 0), (vi 2), (vi 3), (vi 0), (vi u1), (vi u2), (vi (-1)), (vi (f9 (xlv 2) (xlv 3))), .unset] [(.int u2), (.int u1), (.int 0)]) _ := fun t k => pre31 t (by
    show Steps p.tables e below (T30.setTop (mkF m 157 #[(vr oa), (vi 0), (vi 2), (vi 3), (vi 0), (vi u1), (vi 3), (vi (-1)), (vi (f9 (xlv 2) (xlv 3))), .unset] [(.int (v29z_33_l4 (3 : Int32) (f9 (xlv 2) (xlv 3)) xlv xlo))])) _
    rw [hu2]
    refine XS.istore X30.here hx rfl (hb hby d33_157) rfl (l' := #[(vr oa), (vi 0), (vi 2), (vi 3), (vi 0), (vi u1), (vi u2), (vi (-1)), (vi (f9 (xlv 2) (xlv 3))), .unset]) rfl ?_
    refine XS.goto X30.here hx rfl (pc0 := 159) (pc' := 18) rfl (hb hby d33_159) (by decide) (by decide) ?_
    refine XS.iload X30.here hx rfl (hb hby d33_18) rfl ?_
    refine XS.iconst X30.here hx rfl (hb hby d33_20) ?_
    refine XS.icmpYes X30.here hx rfl (pc0 := 21) (pc' := 36) rfl (hb hby d33_21) rfl (by decide) (by decide) (by decide) ?_
    refine XS.iload X30.here hx rfl (hb hby d33_36) rfl ?_
    refine XS.iconst X30.here hx rfl (hb hby d33_38) ?_
    refine XS.icmpNo X30.here hx rfl (hb hby d33_39) rfl (by decide) ?_
    refine XS.iloadN X30.here hx rfl (hb hby d33_42) rfl ?_
    refine XS.iload X30.here hx rfl (hb hby d33_43) rfl ?_
    refine XS.iload X30.here hx rfl (hb hby d33_45) rfl ?_
    exact k)
  obtain ⟨_, _, ⟨T33, L33, k33, n33⟩, -, X33, ⟨Lc33, hQ33, l33, y33, z33⟩, st33⟩ := Jvm.LawKit.callS X30 hx (y := Nm_6) hown (mq hZ hw 156 rfl) (mq hZ hw 157 rfl) (mq hZ hw 3 rfl) (mq hZ hw 158 rfl) (by decide) (backOf (W := 0) (rm26 l Z a0 hw [] u1 u2 T24.heap n0 B24.z) hZ (wq hw 158 rfl) (wq hw 3 rfl) (by decide) (by decide)) (g := (mkF m 47 #[(vr oa), (vi 0), (vi 2), (vi 3), (vi 0), (vi u1), (vi u2), (vi (-1)), (vi (f9 (xlv 2) (xlv 3))), .unset] [(.int u2), (.int u1), (.int 0)])) rfl (by rw [hml]; rfl) (argsL := [(.int 0), (.int u1), (.int u2)]) (rest := []) (lenOf pd__III_I rfl) rfl (w00 rfl) (hb hby d33_47) (fun _ _ => ⟨rfl, e30, zz, zz⟩)
  dsimp only [Pt.U, Pt.locs, Pt.cells, Pt.slots] at X33 l33 y33 z33 st33 hQ33
  subst y33 z33
  obtain ⟨rfl, Nq33, e33⟩ := hQ33
  have N33 := FrE l33 N30 Nq33
  have pre34 := Go.thn pre32 st33
  have pre35 : Go p e below T33 _ (mkF m 25 #[(vr oa), (vi 0), (vi 2), (vi 3), (vi 0), (vi u1), (vi u2), (vi 0), (vi (f9 (xlv 2) (xlv 3))), .unset] [(.ref oa)]) _ := fun t k => pre34 t (by
    show Steps p.tables e below (T33.setTop (mkF m 50 #[(vr oa), (vi 0), (vi 2), (vi 3), (vi 0), (vi u1), (vi u2), (vi (-1)), (vi (f9 (xlv 2) (xlv 3))), .unset] [(.int (f26 u1 u2))])) _
    rw [ht0]
    refine XS.istore X33.here hx rfl (hb hby d33_50) rfl (l' := #[(vr oa), (vi 0), (vi 2), (vi 3), (vi 0), (vi u1), (vi u2), (vi 0), (vi (f9 (xlv 2) (xlv 3))), .unset]) rfl ?_
    refine XS.iload X33.here hx rfl (hb hby d33_52) rfl ?_
    refine XS.iconst X33.here hx rfl (hb hby d33_54) ?_
    refine XS.icmpYes X33.here hx rfl (pc0 := 55) (pc' := 99) rfl (hb hby d33_55) rfl (by decide) (by decide) (by decide) ?_
    refine XS.iload X33.here hx rfl (hb hby d33_99) rfl ?_
    refine XS.iconst X33.here hx rfl (hb hby d33_101) ?_
    refine XS.icmpYes X33.here hx rfl (pc0 := 102) (pc' := 18) rfl (hb hby d33_102) rfl (by decide) (by decide) (by decide) ?_
    refine XS.iload X33.here hx rfl (hb hby d33_18) rfl ?_
    refine XS.iconst X33.here hx rfl (hb hby d33_20) ?_
    refine XS.icmpNo X33.here hx rfl (hb hby d33_21) rfl (by decide) ?_
    refine XS.aloadN X33.here hx rfl (hb hby d33_24) rfl rfl ?_
    exact k)
  obtain ⟨T36, X36, e36, st36⟩ := getF X33 hx hZ hown (host := "") (Or.inl (wq hw 20 rfl)) Via.refl e33 B24.f_cs (g := (mkF m 25 #[(vr oa), (vi 0), (vi 2), (vi 3), (vi 0), (vi u1), (vi u2), (vi 0), (vi (f9 (xlv 2) (xlv 3))), .unset] [(.ref oa)])) rfl rfl (hb hby d33_25)
  have pre37 := Go.thn pre35 st36
  obtain ⟨cq38, kq38, q38a, q38b, q38c⟩ := isOf hZ e36 B24.ec
  obtain ⟨_, _, ⟨T38, L38, k38, n38⟩, -, X38, ⟨Lc38, hQ38, l38, y38, z38⟩, st38⟩ := X36.virtualBack hx (y := Nm_27) (z := Nm_27) hown (mq hZ hw 190 rfl) (mq hZ hw 191 rfl) (notFace_of_selects (args := #[]) (mq hZ hw 193 rfl)) (mq hZ hw 193 rfl) (mq hZ hw 192 rfl) (by decide) (backOf (W := 0) (rm34 l Z a0 hw []  T24.heap n0 B24.z B24) hZ (wq hw 194 rfl) (wq hw 12 rfl) (by decide) (by decide)) q38a q38c (g := (mkF m 28 #[(vr oa), (vi 0), (vi 2), (vi 3), (vi 0), (vi u1), (vi u2), (vi 0), (vi (f9 (xlv 2) (xlv 3))), .unset] [(.ref qcs)])) rfl (by rw [hml]; rfl) (Steps.refl _) (argsL := []) (rest := []) (lenOf pd___I rfl) rfl (w00 rfl) (hb hby d33_28) (fun _ _ => ⟨rfl, e36, zz, zz⟩)
  dsimp only [Pt.U, Pt.locs, Pt.cells, Pt.slots] at X38 l38 y38 z38 st38 hQ38
  subst y38 z38
  obtain ⟨rfl, Nq38, e38⟩ := hQ38
  have N38 := FrE l38 N33 Nq38
  have pre39 : Go p e below T38 _ (mkF m 31 #[(vr oa), (vi 0), (vi 2), (vi 3), (vi 0), (vi u1), (vi u2), (vi 0), (vi (f9 (xlv 2) (xlv 3))), .unset] [(.int 1)]) _ := fun t k => pre37 t ((st38).trans k)
  have pre40 : Go p e below T38 _ (mkF m 163 #[(vr oa), (vi 0), (vi 2), (vi 3), (vi 0), (vi u1), (vi u2), (vi 0), (vi (f9 (xlv 2) (xlv 3))), .unset] [(.ref oa)]) _ := fun t k => pre39 t (by
    refine XS.iload X38.here hx rfl (hb hby d33_31) rfl ?_
    refine XS.icmpNo X38.here hx rfl (hb hby d33_33) rfl (by decide) ?_
    refine XS.iload X38.here hx rfl (hb hby d33_36) rfl ?_
    refine XS.iconst X38.here hx rfl (hb hby d33_38) ?_
    refine XS.icmpYes X38.here hx rfl (pc0 := 39) (pc' := 162) rfl (hb hby d33_39) rfl (by decide) (by decide) (by decide) ?_
    refine XS.aloadN X38.here hx rfl (hb hby d33_162) rfl rfl ?_
    exact k)
  obtain ⟨T41, X41, e41, st41⟩ := getF X38 hx hZ hown (host := "") (Or.inl (wq hw 20 rfl)) Via.refl e38 B24.f_cs (g := (mkF m 163 #[(vr oa), (vi 0), (vi 2), (vi 3), (vi 0), (vi u1), (vi u2), (vi 0), (vi (f9 (xlv 2) (xlv 3))), .unset] [(.ref oa)])) rfl rfl (hb hby d33_163)
  have pre42 := Go.thn pre40 st41
  obtain ⟨cq43, kq43, q43a, q43b, q43c⟩ := isOf hZ e41 B24.ec
  obtain ⟨_, _, ⟨T43, L43, k43, n43⟩, -, X43, ⟨Lc43, hQ43, l43, y43, z43⟩, st43⟩ := X41.virtualBack hx (y := Nm_28) (z := Nm_28) hown (mq hZ hw 200 rfl) (mq hZ hw 201 rfl) (notFace_of_selects (args := #[]) (mq hZ hw 203 rfl)) (mq hZ hw 203 rfl) (mq hZ hw 202 rfl) (by decide) (backOf (W := 0) (rm36 l Z a0 hw []  T24.heap n0 B24.z B24) hZ (wq hw 204 rfl) (wq hw 12 rfl) (by decide) (by decide)) q43a q43c (g := (mkF m 166 #[(vr oa), (vi 0), (vi 2), (vi 3), (vi 0), (vi u1), (vi u2), (vi 0), (vi (f9 (xlv 2) (xlv 3))), .unset] [(.ref qcs)])) rfl (by rw [hml]; rfl) (Steps.refl _) (argsL := []) (rest := []) (lenOf pd___I rfl) rfl (w00 rfl) (hb hby d33_166) (fun _ _ => ⟨rfl, e41, zz, zz⟩)
  dsimp only [Pt.U, Pt.locs, Pt.cells, Pt.slots] at X43 l43 y43 z43 st43 hQ43
  subst y43 z43
  obtain ⟨rfl, Nq43, e43⟩ := hQ43
  have N43 := FrE l43 N38 Nq43
  have pre44 : Go p e below T43 _ (mkF m 169 #[(vr oa), (vi 0), (vi 2), (vi 3), (vi 0), (vi u1), (vi u2), (vi 0), (vi (f9 (xlv 2) (xlv 3))), .unset] [(.int 0)]) _ := fun t k => pre42 t ((st43).trans k)
  have pre45 : Go p e below T43 _ (mkF m 172 #[(vr oa), (vi 0), (vi 2), (vi 3), (vi 0), (vi u1), (vi u2), (vi 0), (vi 0), .unset] [(.ref oa)]) _ := fun t k => pre44 t (by
    refine XS.istore X43.here hx rfl (hb hby d33_169) rfl (l' := #[(vr oa), (vi 0), (vi 2), (vi 3), (vi 0), (vi u1), (vi u2), (vi 0), (vi 0), .unset]) rfl ?_
    refine XS.aloadN X43.here hx rfl (hb hby d33_171) rfl rfl ?_
    exact k)
  obtain ⟨T46, X46, e46, st46⟩ := getF X43 hx hZ hown (host := "") (Or.inl (wq hw 20 rfl)) Via.refl e43 B24.f_cs (g := (mkF m 172 #[(vr oa), (vi 0), (vi 2), (vi 3), (vi 0), (vi u1), (vi u2), (vi 0), (vi 0), .unset] [(.ref oa)])) rfl rfl (hb hby d33_172)
  have pre47 := Go.thn pre45 st46
  have pre48 : Go p e below T46 _ (mkF m 177 #[(vr oa), (vi 0), (vi 2), (vi 3), (vi 0), (vi u1), (vi u2), (vi 0), (vi 0), .unset] [(.int 0), (.ref qcs)]) _ := fun t k => pre47 t (by
    refine XS.iload X46.here hx rfl (hb hby d33_175) rfl ?_
    exact k)
  obtain ⟨cq49, kq49, q49a, q49b, q49c⟩ := isOf hZ e46 B24.ec
  obtain ⟨_, _, ⟨T49, L49, k49, n49⟩, -, X49, ⟨Lc49, hQ49, l49, y49, z49⟩, st49⟩ := X46.virtualBack hx (y := Nm_30) (z := Nm_30) hown (mq hZ hw 205 rfl) (mq hZ hw 206 rfl) (notFace_of_selects (args := #[]) (mq hZ hw 208 rfl)) (mq hZ hw 208 rfl) (mq hZ hw 207 rfl) (by decide) (backOf (W := 0) (rm37 l Z a0 hw []  T24.heap n0 B24.z B24) hZ (wq hw 209 rfl) (wq hw 12 rfl) (by decide) (by decide)) q49a q49c (g := (mkF m 177 #[(vr oa), (vi 0), (vi 2), (vi 3), (vi 0), (vi u1), (vi u2), (vi 0), (vi 0), .unset] [(.int 0), (.ref qcs)])) rfl (by rw [hml]; rfl) (Steps.refl _) (argsL := [(.int 0)]) (rest := []) (lenOf pd__I_I rfl) rfl (w00 rfl) (hb hby d33_177) (fun _ _ => ⟨rfl, e46, zz, zz⟩)
  dsimp only [Pt.U, Pt.locs, Pt.cells, Pt.slots] at X49 l49 y49 z49 st49 hQ49
  subst y49 z49
  obtain ⟨rfl, Nq49, e49⟩ := hQ49
  have N49 := FrE l49 N43 Nq49
  have pre50 := Go.trn pre48 st49
  have pre51 : Go p e below T49 _ (mkF m 183 #[(vr oa), (vi 0), (vi 2), (vi 3), (vi 0), (vi u1), (vi u2), (vi 0), (vi 0), (vi (f9 (xlv 2) (xlv 3)))] [(.ref oa)]) _ := fun t k => pre50 t (by
    refine XS.istore X49.here hx rfl (hb hby d33_180) rfl (l' := #[(vr oa), (vi 0), (vi 2), (vi 3), (vi 0), (vi u1), (vi u2), (vi 0), (vi 0), (vi (f9 (xlv 2) (xlv 3)))]) rfl ?_
    refine XS.aloadN X49.here hx rfl (hb hby d33_182) rfl rfl ?_
    exact k)
  obtain ⟨T52, X52, e52, st52⟩ := getF X49 hx hZ hown (host := "") (Or.inl (wq hw 20 rfl)) Via.refl e49 B24.f_cs (g := (mkF m 183 #[(vr oa), (vi 0), (vi 2), (vi 3), (vi 0), (vi u1), (vi u2), (vi 0), (vi 0), (vi (f9 (xlv 2) (xlv 3)))] [(.ref oa)])) rfl rfl (hb hby d33_183)
  have pre53 := Go.thn pre51 st52
  have pre54 : Go p e below T52 _ (mkF m 188 #[(vr oa), (vi 0), (vi 2), (vi 3), (vi 0), (vi u1), (vi u2), (vi 0), (vi 0), (vi (f9 (xlv 2) (xlv 3)))] [(.int 0), (.ref qcs)]) _ := fun t k => pre53 t (by
    refine XS.iload X52.here hx rfl (hb hby d33_186) rfl ?_
    exact k)
  obtain ⟨cq55, kq55, q55a, q55b, q55c⟩ := isOf hZ e52 B24.ec
  obtain ⟨_, _, ⟨T55, L55, k55, n55⟩, -, X55, ⟨Lc55, hQ55, l55, y55, z55⟩, st55⟩ := X52.virtualBack hx (y := Nm_31) (z := Nm_31) hown (mq hZ hw 210 rfl) (mq hZ hw 211 rfl) (notFace_of_selects (args := #[]) (mq hZ hw 213 rfl)) (mq hZ hw 213 rfl) (mq hZ hw 212 rfl) (by decide) (backOf (W := 0) (rm38 l Z a0 hw []  T24.heap n0 B24.z B24) hZ (wq hw 214 rfl) (wq hw 12 rfl) (by decide) (by decide)) q55a q55c (g := (mkF m 188 #[(vr oa), (vi 0), (vi 2), (vi 3), (vi 0), (vi u1), (vi u2), (vi 0), (vi 0), (vi (f9 (xlv 2) (xlv 3)))] [(.int 0), (.ref qcs)])) rfl (by rw [hml]; rfl) (Steps.refl _) (argsL := [(.int 0)]) (rest := []) (lenOf pd__I_I rfl) rfl (w00 rfl) (hb hby d33_188) (fun _ _ => ⟨rfl, e52, zz, zz⟩)
  dsimp only [Pt.U, Pt.locs, Pt.cells, Pt.slots] at X55 l55 y55 z55 st55 hQ55
  subst y55 z55
  obtain ⟨rfl, Nq55, e55⟩ := hQ55
  have N55 := FrE l55 N49 Nq55
  have pre56 : Go p e below T55 _ (mkF m 191 #[(vr oa), (vi 0), (vi 2), (vi 3), (vi 0), (vi u1), (vi u2), (vi 0), (vi 0), (vi (f9 (xlv 2) (xlv 3)))] [(.int (-1))]) _ := fun t k => pre54 t ((st55).trans k)
  have pre57 : Go p e below T55 _ (mkF m 196 #[(vr oa), (vi 0), (vi 2), (vi 3), (vi 0), (vi u1), (vi u2), (vi 0), (vi 0), (vi (f9 (xlv 2) (xlv 3)))] [(.ref oa)]) _ := fun t k => pre56 t (by
    refine XS.iconst X55.here hx rfl (hb hby d33_191) ?_
    refine XS.icmpNo X55.here hx rfl (hb hby d33_192) rfl (by decide) ?_
    refine XS.aloadN X55.here hx rfl (hb hby d33_195) rfl rfl ?_
    exact k)
  obtain ⟨T58, X58, e58, st58⟩ := getF X55 hx hZ hown (host := "") (Or.inl (wq hw 20 rfl)) Via.refl e55 B24.f_cs (g := (mkF m 196 #[(vr oa), (vi 0), (vi 2), (vi 3), (vi 0), (vi u1), (vi u2), (vi 0), (vi 0), (vi (f9 (xlv 2) (xlv 3)))] [(.ref oa)])) rfl rfl (hb hby d33_196)
  have pre59 := Go.thn pre57 st58
  have pre60 : Go p e below T58 _ (mkF m 203 #[(vr oa), (vi 0), (vi 2), (vi 3), (vi 0), (vi u1), (vi u2), (vi 0), (vi 0), (vi (f9 (xlv 2) (xlv 3)))] [(.int 0), (.int 0), (.ref qcs)]) _ := fun t k => pre59 t (by
    refine XS.iload X58.here hx rfl (hb hby d33_199) rfl ?_
    refine XS.iload X58.here hx rfl (hb hby d33_201) rfl ?_
    exact k)
  obtain ⟨cq61, kq61, q61a, q61b, q61c⟩ := isOf hZ e58 B24.ec
  obtain ⟨_, _, ⟨T61, L61, k61, n61⟩, -, X61, ⟨Lc61, hQ61, l61, y61, z61⟩, st61⟩ := X58.virtualBack hx (y := Nm_35) (z := Nm_35) hown (mq hZ hw 215 rfl) (mq hZ hw 216 rfl) (notFace_of_selects (args := #[]) (mq hZ hw 218 rfl)) (mq hZ hw 218 rfl) (mq hZ hw 217 rfl) (by decide) (backOf (W := 0) (rm39 l Z a0 hw [] (0 : Int32) T24.heap n0 B24.z B24) hZ (wq hw 219 rfl) (wq hw 12 rfl) (by decide) (by decide)) q61a q61c (g := (mkF m 203 #[(vr oa), (vi 0), (vi 2), (vi 3), (vi 0), (vi u1), (vi u2), (vi 0), (vi 0), (vi (f9 (xlv 2) (xlv 3)))] [(.int 0), (.int 0), (.ref qcs)])) rfl (by rw [hml]; rfl) (Steps.refl _) (argsL := [(.int 0), (.int 0)]) (rest := []) (lenOf pd__II_V rfl) rfl (w00 rfl) (hb hby d33_203) (fun _ _ => ⟨rfl, e58, zz, zz⟩)
  dsimp only [Pt.U, Pt.locs, Pt.cells, Pt.slots] at X61 l61 y61 z61 st61 hQ61
  subst y61 z61
  obtain ⟨rfl, Nq61, Bq61⟩ := hQ61
  have N61 := FrE l61 N55 Nq61
  have B61 : Mg Z n0 T61.heap oa _ _ _ _ _ _ _ _ _ _ xn xs 4 xfc xdp 1 xli xpk xlv xlo xhi xrf xch xbk xca (own_up (own_up (own_up (own_up (own_up (own_up xcf 0 2) 1 3) 2 0) 3 (f9 (xlv 2) (xlv 3))) 4 (-1 : Int32)) 4 0) xpe := Bq61
  have pre62 := Go.trn pre60 st61
  have pre63 : Go p e below T61 _ (mkF m 208 #[(vr oa), (vi 0), (vi 2), (vi 3), (vi 0), (vi u1), (vi u2), (vi 0), (vi 0), (vi (f9 (xlv 2) (xlv 3)))] [(.ref oa), (.ref oa)]) _ := fun t k => pre62 t (by
    refine XS.aloadN X61.here hx rfl (hb hby d33_206) rfl rfl ?_
    refine XS.aloadN X61.here hx rfl (hb hby d33_207) rfl rfl ?_
    exact k)
  obtain ⟨T64, X64, e64, st64⟩ := getF X61 hx hZ hown (host := "") (Or.inl (wq hw 20 rfl)) Via.refl rfl B61.f_cs (g := (mkF m 208 #[(vr oa), (vi 0), (vi 2), (vi 3), (vi 0), (vi u1), (vi u2), (vi 0), (vi 0), (vi (f9 (xlv 2) (xlv 3)))] [(.ref oa), (.ref oa)])) rfl rfl (hb hby d33_208)
  have pre65 := Go.thn pre63 st64
  have pre66 : Go p e below T64 _ (mkF m 213 #[(vr oa), (vi 0), (vi 2), (vi 3), (vi 0), (vi u1), (vi u2), (vi 0), (vi 0), (vi (f9 (xlv 2) (xlv 3)))] [(.int 0), (.ref qcs), (.ref oa)]) _ := fun t k => pre65 t (by
    refine XS.iload X64.here hx rfl (hb hby d33_211) rfl ?_
    exact k)
  obtain ⟨cq67, kq67, q67a, q67b, q67c⟩ := isOf hZ e64 B61.ec
  obtain ⟨_, _, ⟨T67, L67, k67, n67⟩, -, X67, ⟨Lc67, hQ67, l67, y67, z67⟩, st67⟩ := X64.virtualBack hx (y := Nm_32) (z := Nm_32) hown (mq hZ hw 220 rfl) (mq hZ hw 221 rfl) (notFace_of_selects (args := #[]) (mq hZ hw 223 rfl)) (mq hZ hw 223 rfl) (mq hZ hw 222 rfl) (by decide) (backOf (W := 1) (rm40 l Z a0 hw []  T61.heap n0 B61.z B61) hZ (wq hw 224 rfl) (wq hw 12 rfl) (by decide) (by decide)) q67a q67c (g := (mkF m 213 #[(vr oa), (vi 0), (vi 2), (vi 3), (vi 0), (vi u1), (vi u2), (vi 0), (vi 0), (vi (f9 (xlv 2) (xlv 3)))] [(.int 0), (.ref qcs), (.ref oa)])) rfl (by rw [hml]; rfl) (Steps.refl _) (argsL := [(.int 0)]) (rest := [(.ref oa)]) (lenOf pd__I_I rfl) rfl (w00 rfl) (hb hby d33_213) (fun _ _ => ⟨rfl, e64, zz, zz⟩)
  dsimp only [Pt.U, Pt.locs, Pt.cells, Pt.slots] at X67 l67 y67 z67 st67 hQ67
  subst y67 z67
  obtain ⟨rfl, Nq67, e67⟩ := hQ67
  have N67 := FrE l67 N61 Nq67
  have pre68 : Go p e below T67 _ (mkF m 216 #[(vr oa), (vi 0), (vi 2), (vi 3), (vi 0), (vi u1), (vi u2), (vi 0), (vi 0), (vi (f9 (xlv 2) (xlv 3)))] [(.int 2), (.ref oa)]) _ := fun t k => pre66 t ((st67).trans k)
  have pre69 : Go p e below T67 _ (mkF m 219 #[(vr oa), (vi 0), (vi 2), (vi 3), (vi 0), (vi u1), (vi u2), (vi 0), (vi 0), (vi (f9 (xlv 2) (xlv 3)))] [(.int 1), (.int (f9 (xlv 2) (xlv 3))), (.int 2), (.ref oa)]) _ := fun t k => pre68 t (by
    refine XS.iload X67.here hx rfl (hb hby d33_216) rfl ?_
    refine XS.iconst X67.here hx rfl (hb hby d33_218) ?_
    exact k)
  obtain ⟨cq70, q70, q70'⟩ := B61.e.cell
  obtain ⟨_, _, ⟨T70, L70, k70, n70⟩, -, X70, ⟨Lc70, hQ70, l70, y70, z70⟩, st70⟩ := X67.privateBack hx (y := Nm_19) hown (mq hZ hw 168 rfl) (mq hZ hw 169 rfl) (own_seli (mq hZ hw 2 rfl) (pq hZ hw 170 rfl) (mq hZ hw 169 rfl) (by decide)) (pq hZ hw 170 rfl) (mq hZ hw 171 rfl) (by decide) (backOf (W := 0) (rm29o l Z a0 hw [] (2 : Int32) (f9 (xlv 2) (xlv 3)) T61.heap n0 B61.z B61 (by decide) (by decide) (by decide)) hZ (wq hw 171 rfl) (wq hw 3 rfl) (by decide) (by decide)) (g := (mkF m 219 #[(vr oa), (vi 0), (vi 2), (vi 3), (vi 0), (vi u1), (vi u2), (vi 0), (vi 0), (vi (f9 (xlv 2) (xlv 3)))] [(.int 1), (.int (f9 (xlv 2) (xlv 3))), (.int 2), (.ref oa)])) rfl (by rw [hml]; rfl) (Steps.refl _) (a := oa) (by rw [e67]; exact q70) q70' (argsL := [(.int 2), (.int (f9 (xlv 2) (xlv 3))), (.int 1)]) (rest := []) (lenOf pd__IIZ_I rfl) rfl (w00 rfl) (hb hby d33_219) (fun _ _ => ⟨rfl, e67, zz, zz⟩)
  dsimp only [Pt.U, Pt.locs, Pt.cells, Pt.slots] at X70 l70 y70 z70 st70 hQ70
  subst y70 z70
  obtain ⟨rfl, Nq70, e70⟩ := hQ70
  have N70 := FrE l70 N67 Nq70
  have pre71 := Go.trn pre69 st70
  have pre72 : Go p e below T70 _ (mkF m 226 #[(vr oa), (vi 0), (vi 2), (vi 3), (vi 0), (vi w1), (vi u2), (vi 0), (vi 0), (vi (f9 (xlv 2) (xlv 3)))] [(.ref oa), (.ref oa)]) _ := fun t k => pre71 t (by
    show Steps p.tables e below (T70.setTop (mkF m 222 #[(vr oa), (vi 0), (vi 2), (vi 3), (vi 0), (vi u1), (vi u2), (vi 0), (vi 0), (vi (f9 (xlv 2) (xlv 3)))] [(.int (v29o_33_l4 (2 : Int32) (f9 (xlv 2) (xlv 3)) xlv xhi))])) _
    rw [hw1]
    refine XS.istore X70.here hx rfl (hb hby d33_222) rfl (l' := #[(vr oa), (vi 0), (vi 2), (vi 3), (vi 0), (vi w1), (vi u2), (vi 0), (vi 0), (vi (f9 (xlv 2) (xlv 3)))]) rfl ?_
    refine XS.aloadN X70.here hx rfl (hb hby d33_224) rfl rfl ?_
    refine XS.aloadN X70.here hx rfl (hb hby d33_225) rfl rfl ?_
    exact k)
  obtain ⟨T73, X73, e73, st73⟩ := getF X70 hx hZ hown (host := "") (Or.inl (wq hw 20 rfl)) Via.refl e70 B61.f_cs (g := (mkF m 226 #[(vr oa), (vi 0), (vi 2), (vi 3), (vi 0), (vi w1), (vi u2), (vi 0), (vi 0), (vi (f9 (xlv 2) (xlv 3)))] [(.ref oa), (.ref oa)])) rfl rfl (hb hby d33_226)
  have pre74 := Go.thn pre72 st73
  have pre75 : Go p e below T73 _ (mkF m 231 #[(vr oa), (vi 0), (vi 2), (vi 3), (vi 0), (vi w1), (vi u2), (vi 0), (vi 0), (vi (f9 (xlv 2) (xlv 3)))] [(.int 0), (.ref qcs), (.ref oa)]) _ := fun t k => pre74 t (by
    refine XS.iload X73.here hx rfl (hb hby d33_229) rfl ?_
    exact k)
  obtain ⟨cq76, kq76, q76a, q76b, q76c⟩ := isOf hZ e73 B61.ec
  obtain ⟨_, _, ⟨T76, L76, k76, n76⟩, -, X76, ⟨Lc76, hQ76, l76, y76, z76⟩, st76⟩ := X73.virtualBack hx (y := Nm_33) (z := Nm_33) hown (mq hZ hw 225 rfl) (mq hZ hw 226 rfl) (notFace_of_selects (args := #[]) (mq hZ hw 228 rfl)) (mq hZ hw 228 rfl) (mq hZ hw 227 rfl) (by decide) (backOf (W := 1) (rm41 l Z a0 hw []  T61.heap n0 B61.z B61) hZ (wq hw 229 rfl) (wq hw 12 rfl) (by decide) (by decide)) q76a q76c (g := (mkF m 231 #[(vr oa), (vi 0), (vi 2), (vi 3), (vi 0), (vi w1), (vi u2), (vi 0), (vi 0), (vi (f9 (xlv 2) (xlv 3)))] [(.int 0), (.ref qcs), (.ref oa)])) rfl (by rw [hml]; rfl) (Steps.refl _) (argsL := [(.int 0)]) (rest := [(.ref oa)]) (lenOf pd__I_I rfl) rfl (w00 rfl) (hb hby d33_231) (fun _ _ => ⟨rfl, e73, zz, zz⟩)
  dsimp only [Pt.U, Pt.locs, Pt.cells, Pt.slots] at X76 l76 y76 z76 st76 hQ76
  subst y76 z76
  obtain ⟨rfl, Nq76, e76⟩ := hQ76
  have N76 := FrE l76 N70 Nq76
  have pre77 : Go p e below T76 _ (mkF m 234 #[(vr oa), (vi 0), (vi 2), (vi 3), (vi 0), (vi w1), (vi u2), (vi 0), (vi 0), (vi (f9 (xlv 2) (xlv 3)))] [(.int 3), (.ref oa)]) _ := fun t k => pre75 t ((st76).trans k)
  have pre78 : Go p e below T76 _ (mkF m 237 #[(vr oa), (vi 0), (vi 2), (vi 3), (vi 0), (vi w1), (vi u2), (vi 0), (vi 0), (vi (f9 (xlv 2) (xlv 3)))] [(.int 1), (.int (f9 (xlv 2) (xlv 3))), (.int 3), (.ref oa)]) _ := fun t k => pre77 t (by
    refine XS.iload X76.here hx rfl (hb hby d33_234) rfl ?_
    refine XS.iconst X76.here hx rfl (hb hby d33_236) ?_
    exact k)
  obtain ⟨cq79, q79, q79'⟩ := B61.e.cell
  obtain ⟨_, _, ⟨T79, L79, k79, n79⟩, -, X79, ⟨Lc79, hQ79, l79, y79, z79⟩, st79⟩ := X76.privateBack hx (y := Nm_19) hown (mq hZ hw 168 rfl) (mq hZ hw 169 rfl) (own_seli (mq hZ hw 2 rfl) (pq hZ hw 170 rfl) (mq hZ hw 169 rfl) (by decide)) (pq hZ hw 170 rfl) (mq hZ hw 171 rfl) (by decide) (backOf (W := 0) (rm29o l Z a0 hw [] (3 : Int32) (f9 (xlv 2) (xlv 3)) T61.heap n0 B61.z B61 (by decide) (by decide) (by decide)) hZ (wq hw 171 rfl) (wq hw 3 rfl) (by decide) (by decide)) (g := (mkF m 237 #[(vr oa), (vi 0), (vi 2), (vi 3), (vi 0), (vi w1), (vi u2), (vi 0), (vi 0), (vi (f9 (xlv 2) (xlv 3)))] [(.int 1), (.int (f9 (xlv 2) (xlv 3))), (.int 3), (.ref oa)])) rfl (by rw [hml]; rfl) (Steps.refl _) (a := oa) (by rw [e76]; exact q79) q79' (argsL := [(.int 3), (.int (f9 (xlv 2) (xlv 3))), (.int 1)]) (rest := []) (lenOf pd__IIZ_I rfl) rfl (w00 rfl) (hb hby d33_237) (fun _ _ => ⟨rfl, e76, zz, zz⟩)
  dsimp only [Pt.U, Pt.locs, Pt.cells, Pt.slots] at X79 l79 y79 z79 st79 hQ79
  subst y79 z79
  obtain ⟨rfl, Nq79, e79⟩ := hQ79
  have N79 := FrE l79 N76 Nq79
  have pre80 := Go.trn pre78 st79
  have pre81 : Go p e below T79 _ (mkF m 47 #[(vr oa), (vi 0), (vi 2), (vi 3), (vi 0), (vi w1), (vi w2), (vi (-1)), (vi 0), (vi (f9 (xlv 2) (xlv 3)))] [(.int w2), (.int w1), (.int 0)]) _ := fun t k => pre80 t (by
    show Steps p.tables e below (T79.setTop (mkF m 240 #[(vr oa), (vi 0), (vi 2), (vi 3), (vi 0), (vi w1), (vi u2), (vi 0), (vi 0), (vi (f9 (xlv 2) (xlv 3)))] [(.int (v29o_33_l4 (3 : Int32) (f9 (xlv 2) (xlv 3)) xlv xhi))])) _
    rw [hw2]
    refine XS.istore X79.here hx rfl (hb hby d33_240) rfl (l' := #[(vr oa), (vi 0), (vi 2), (vi 3), (vi 0), (vi w1), (vi w2), (vi 0), (vi 0), (vi (f9 (xlv 2) (xlv 3)))]) rfl ?_
    refine XS.iconst X79.here hx rfl (hb hby d33_242) ?_
    refine XS.istore X79.here hx rfl (hb hby d33_243) rfl (l' := #[(vr oa), (vi 0), (vi 2), (vi 3), (vi 0), (vi w1), (vi w2), (vi (-1)), (vi 0), (vi (f9 (xlv 2) (xlv 3)))]) rfl ?_
    refine XS.goto X79.here hx rfl (pc0 := 245) (pc' := 274) rfl (hb hby d33_245) (by decide) (by decide) ?_
    refine XS.goto X79.here hx rfl (pc0 := 274) (pc' := 18) rfl (hb hby d33_274) (by decide) (by decide) ?_
    refine XS.iload X79.here hx rfl (hb hby d33_18) rfl ?_
    refine XS.iconst X79.here hx rfl (hb hby d33_20) ?_
    refine XS.icmpYes X79.here hx rfl (pc0 := 21) (pc' := 36) rfl (hb hby d33_21) rfl (by decide) (by decide) (by decide) ?_
    refine XS.iload X79.here hx rfl (hb hby d33_36) rfl ?_
    refine XS.iconst X79.here hx rfl (hb hby d33_38) ?_
    refine XS.icmpNo X79.here hx rfl (hb hby d33_39) rfl (by decide) ?_
    refine XS.iloadN X79.here hx rfl (hb hby d33_42) rfl ?_
    refine XS.iload X79.here hx rfl (hb hby d33_43) rfl ?_
    refine XS.iload X79.here hx rfl (hb hby d33_45) rfl ?_
    exact k)
  obtain ⟨_, _, ⟨T82, L82, k82, n82⟩, -, X82, ⟨Lc82, hQ82, l82, y82, z82⟩, st82⟩ := Jvm.LawKit.callS X79 hx (y := Nm_6) hown (mq hZ hw 156 rfl) (mq hZ hw 157 rfl) (mq hZ hw 3 rfl) (mq hZ hw 158 rfl) (by decide) (backOf (W := 0) (rm26 l Z a0 hw [] w1 w2 T61.heap n0 B61.z) hZ (wq hw 158 rfl) (wq hw 3 rfl) (by decide) (by decide)) (g := (mkF m 47 #[(vr oa), (vi 0), (vi 2), (vi 3), (vi 0), (vi w1), (vi w2), (vi (-1)), (vi 0), (vi (f9 (xlv 2) (xlv 3)))] [(.int w2), (.int w1), (.int 0)])) rfl (by rw [hml]; rfl) (argsL := [(.int 0), (.int w1), (.int w2)]) (rest := []) (lenOf pd__III_I rfl) rfl (w00 rfl) (hb hby d33_47) (fun _ _ => ⟨rfl, e79, zz, zz⟩)
  dsimp only [Pt.U, Pt.locs, Pt.cells, Pt.slots] at X82 l82 y82 z82 st82 hQ82
  subst y82 z82
  obtain ⟨rfl, Nq82, e82⟩ := hQ82
  have N82 := FrE l82 N79 Nq82
  have pre83 := Go.thn pre81 st82
  have pre84 : Go p e below T82 _ (mkF m 25 #[(vr oa), (vi 0), (vi 2), (vi 3), (vi 0), (vi w1), (vi w2), (vi z), (vi 0), (vi (f9 (xlv 2) (xlv 3)))] [(.ref oa)]) _ := fun t k => pre83 t (by
    show Steps p.tables e below (T82.setTop (mkF m 50 #[(vr oa), (vi 0), (vi 2), (vi 3), (vi 0), (vi w1), (vi w2), (vi (-1)), (vi 0), (vi (f9 (xlv 2) (xlv 3)))] [(.int (f26 w1 w2))])) _
    rw [ht1]
    refine XS.istore X82.here hx rfl (hb hby d33_50) rfl (l' := #[(vr oa), (vi 0), (vi 2), (vi 3), (vi 0), (vi w1), (vi w2), (vi z), (vi 0), (vi (f9 (xlv 2) (xlv 3)))]) rfl ?_
    refine XS.iload X82.here hx rfl (hb hby d33_52) rfl ?_
    refine XS.iconst X82.here hx rfl (hb hby d33_54) ?_
    refine XS.icmpYes X82.here hx rfl (pc0 := 55) (pc' := 99) rfl (hb hby d33_55) rfl (feq hz).2 (by decide) (by decide) ?_
    refine XS.iload X82.here hx rfl (hb hby d33_99) rfl ?_
    refine XS.iconst X82.here hx rfl (hb hby d33_101) ?_
    refine XS.icmpYes X82.here hx rfl (pc0 := 102) (pc' := 18) rfl (hb hby d33_102) rfl (feq hz).2 (by decide) (by decide) ?_
    refine XS.iload X82.here hx rfl (hb hby d33_18) rfl ?_
    refine XS.iconst X82.here hx rfl (hb hby d33_20) ?_
    refine XS.icmpNo X82.here hx rfl (hb hby d33_21) rfl (feq hz).1 ?_
    refine XS.aloadN X82.here hx rfl (hb hby d33_24) rfl rfl ?_
    exact k)
  obtain ⟨T85, X85, e85, st85⟩ := getF X82 hx hZ hown (host := "") (Or.inl (wq hw 20 rfl)) Via.refl e82 B61.f_cs (g := (mkF m 25 #[(vr oa), (vi 0), (vi 2), (vi 3), (vi 0), (vi w1), (vi w2), (vi z), (vi 0), (vi (f9 (xlv 2) (xlv 3)))] [(.ref oa)])) rfl rfl (hb hby d33_25)
  have pre86 := Go.thn pre84 st85
  obtain ⟨cq87, kq87, q87a, q87b, q87c⟩ := isOf hZ e85 B61.ec
  obtain ⟨_, _, ⟨T87, L87, k87, n87⟩, -, X87, ⟨Lc87, hQ87, l87, y87, z87⟩, st87⟩ := X85.virtualBack hx (y := Nm_27) (z := Nm_27) hown (mq hZ hw 190 rfl) (mq hZ hw 191 rfl) (notFace_of_selects (args := #[]) (mq hZ hw 193 rfl)) (mq hZ hw 193 rfl) (mq hZ hw 192 rfl) (by decide) (backOf (W := 0) (rm34 l Z a0 hw []  T61.heap n0 B61.z B61) hZ (wq hw 194 rfl) (wq hw 12 rfl) (by decide) (by decide)) q87a q87c (g := (mkF m 28 #[(vr oa), (vi 0), (vi 2), (vi 3), (vi 0), (vi w1), (vi w2), (vi z), (vi 0), (vi (f9 (xlv 2) (xlv 3)))] [(.ref qcs)])) rfl (by rw [hml]; rfl) (Steps.refl _) (argsL := []) (rest := []) (lenOf pd___I rfl) rfl (w00 rfl) (hb hby d33_28) (fun _ _ => ⟨rfl, e85, zz, zz⟩)
  dsimp only [Pt.U, Pt.locs, Pt.cells, Pt.slots] at X87 l87 y87 z87 st87 hQ87
  subst y87 z87
  obtain ⟨rfl, Nq87, e87⟩ := hQ87
  have N87 := FrE l87 N82 Nq87
  have pre88 : Go p e below T87 _ (mkF m 31 #[(vr oa), (vi 0), (vi 2), (vi 3), (vi 0), (vi w1), (vi w2), (vi z), (vi 0), (vi (f9 (xlv 2) (xlv 3)))] [(.int 1)]) _ := fun t k => pre86 t ((st87).trans k)
  have pre89 : Go p e below T87 _ (mkF m 163 #[(vr oa), (vi 0), (vi 2), (vi 3), (vi 0), (vi w1), (vi w2), (vi z), (vi 0), (vi (f9 (xlv 2) (xlv 3)))] [(.ref oa)]) _ := fun t k => pre88 t (by
    refine XS.iload X87.here hx rfl (hb hby d33_31) rfl ?_
    refine XS.icmpNo X87.here hx rfl (hb hby d33_33) rfl (by decide) ?_
    refine XS.iload X87.here hx rfl (hb hby d33_36) rfl ?_
    refine XS.iconst X87.here hx rfl (hb hby d33_38) ?_
    refine XS.icmpYes X87.here hx rfl (pc0 := 39) (pc' := 162) rfl (hb hby d33_39) rfl (feq hz).2 (by decide) (by decide) ?_
    refine XS.aloadN X87.here hx rfl (hb hby d33_162) rfl rfl ?_
    exact k)
  obtain ⟨T90, X90, e90, st90⟩ := getF X87 hx hZ hown (host := "") (Or.inl (wq hw 20 rfl)) Via.refl e87 B61.f_cs (g := (mkF m 163 #[(vr oa), (vi 0), (vi 2), (vi 3), (vi 0), (vi w1), (vi w2), (vi z), (vi 0), (vi (f9 (xlv 2) (xlv 3)))] [(.ref oa)])) rfl rfl (hb hby d33_163)
  have pre91 := Go.thn pre89 st90
  obtain ⟨cq92, kq92, q92a, q92b, q92c⟩ := isOf hZ e90 B61.ec
  obtain ⟨_, _, ⟨T92, L92, k92, n92⟩, -, X92, ⟨Lc92, hQ92, l92, y92, z92⟩, st92⟩ := X90.virtualBack hx (y := Nm_28) (z := Nm_28) hown (mq hZ hw 200 rfl) (mq hZ hw 201 rfl) (notFace_of_selects (args := #[]) (mq hZ hw 203 rfl)) (mq hZ hw 203 rfl) (mq hZ hw 202 rfl) (by decide) (backOf (W := 0) (rm36 l Z a0 hw []  T61.heap n0 B61.z B61) hZ (wq hw 204 rfl) (wq hw 12 rfl) (by decide) (by decide)) q92a q92c (g := (mkF m 166 #[(vr oa), (vi 0), (vi 2), (vi 3), (vi 0), (vi w1), (vi w2), (vi z), (vi 0), (vi (f9 (xlv 2) (xlv 3)))] [(.ref qcs)])) rfl (by rw [hml]; rfl) (Steps.refl _) (argsL := []) (rest := []) (lenOf pd___I rfl) rfl (w00 rfl) (hb hby d33_166) (fun _ _ => ⟨rfl, e90, zz, zz⟩)
  dsimp only [Pt.U, Pt.locs, Pt.cells, Pt.slots] at X92 l92 y92 z92 st92 hQ92
  subst y92 z92
  obtain ⟨rfl, Nq92, e92⟩ := hQ92
  have N92 := FrE l92 N87 Nq92
  have pre93 : Go p e below T92 _ (mkF m 169 #[(vr oa), (vi 0), (vi 2), (vi 3), (vi 0), (vi w1), (vi w2), (vi z), (vi 0), (vi (f9 (xlv 2) (xlv 3)))] [(.int 0)]) _ := fun t k => pre91 t ((st92).trans k)
  have pre94 : Go p e below T92 _ (mkF m 172 #[(vr oa), (vi 0), (vi 2), (vi 3), (vi 0), (vi w1), (vi w2), (vi z), (vi 0), (vi (f9 (xlv 2) (xlv 3)))] [(.ref oa)]) _ := fun t k => pre93 t (by
    refine XS.istore X92.here hx rfl (hb hby d33_169) rfl (l' := #[(vr oa), (vi 0), (vi 2), (vi 3), (vi 0), (vi w1), (vi w2), (vi z), (vi 0), (vi (f9 (xlv 2) (xlv 3)))]) rfl ?_
    refine XS.aloadN X92.here hx rfl (hb hby d33_171) rfl rfl ?_
    exact k)
  obtain ⟨T95, X95, e95, st95⟩ := getF X92 hx hZ hown (host := "") (Or.inl (wq hw 20 rfl)) Via.refl e92 B61.f_cs (g := (mkF m 172 #[(vr oa), (vi 0), (vi 2), (vi 3), (vi 0), (vi w1), (vi w2), (vi z), (vi 0), (vi (f9 (xlv 2) (xlv 3)))] [(.ref oa)])) rfl rfl (hb hby d33_172)
  have pre96 := Go.thn pre94 st95
  have pre97 : Go p e below T95 _ (mkF m 177 #[(vr oa), (vi 0), (vi 2), (vi 3), (vi 0), (vi w1), (vi w2), (vi z), (vi 0), (vi (f9 (xlv 2) (xlv 3)))] [(.int 0), (.ref qcs)]) _ := fun t k => pre96 t (by
    refine XS.iload X95.here hx rfl (hb hby d33_175) rfl ?_
    exact k)
  obtain ⟨cq98, kq98, q98a, q98b, q98c⟩ := isOf hZ e95 B61.ec
  obtain ⟨_, _, ⟨T98, L98, k98, n98⟩, -, X98, ⟨Lc98, hQ98, l98, y98, z98⟩, st98⟩ := X95.virtualBack hx (y := Nm_30) (z := Nm_30) hown (mq hZ hw 205 rfl) (mq hZ hw 206 rfl) (notFace_of_selects (args := #[]) (mq hZ hw 208 rfl)) (mq hZ hw 208 rfl) (mq hZ hw 207 rfl) (by decide) (backOf (W := 0) (rm37 l Z a0 hw []  T61.heap n0 B61.z B61) hZ (wq hw 209 rfl) (wq hw 12 rfl) (by decide) (by decide)) q98a q98c (g := (mkF m 177 #[(vr oa), (vi 0), (vi 2), (vi 3), (vi 0), (vi w1), (vi w2), (vi z), (vi 0), (vi (f9 (xlv 2) (xlv 3)))] [(.int 0), (.ref qcs)])) rfl (by rw [hml]; rfl) (Steps.refl _) (argsL := [(.int 0)]) (rest := []) (lenOf pd__I_I rfl) rfl (w00 rfl) (hb hby d33_177) (fun _ _ => ⟨rfl, e95, zz, zz⟩)
  dsimp only [Pt.U, Pt.locs, Pt.cells, Pt.slots] at X98 l98 y98 z98 st98 hQ98
  subst y98 z98
  obtain ⟨rfl, Nq98, e98⟩ := hQ98
  have N98 := FrE l98 N92 Nq98
  have pre99 := Go.trn pre97 st98
  have pre100 : Go p e below T98 _ (mkF m 183 #[(vr oa), (vi 0), (vi 2), (vi 3), (vi 0), (vi w1), (vi w2), (vi z), (vi 0), (vi (f9 (xlv 2) (xlv 3)))] [(.ref oa)]) _ := fun t k => pre99 t (by
    refine XS.istore X98.here hx rfl (hb hby d33_180) rfl (l' := #[(vr oa), (vi 0), (vi 2), (vi 3), (vi 0), (vi w1), (vi w2), (vi z), (vi 0), (vi (f9 (xlv 2) (xlv 3)))]) rfl ?_
    refine XS.aloadN X98.here hx rfl (hb hby d33_182) rfl rfl ?_
    exact k)
  obtain ⟨T101, X101, e101, st101⟩ := getF X98 hx hZ hown (host := "") (Or.inl (wq hw 20 rfl)) Via.refl e98 B61.f_cs (g := (mkF m 183 #[(vr oa), (vi 0), (vi 2), (vi 3), (vi 0), (vi w1), (vi w2), (vi z), (vi 0), (vi (f9 (xlv 2) (xlv 3)))] [(.ref oa)])) rfl rfl (hb hby d33_183)
  have pre102 := Go.thn pre100 st101
  have pre103 : Go p e below T101 _ (mkF m 188 #[(vr oa), (vi 0), (vi 2), (vi 3), (vi 0), (vi w1), (vi w2), (vi z), (vi 0), (vi (f9 (xlv 2) (xlv 3)))] [(.int 0), (.ref qcs)]) _ := fun t k => pre102 t (by
    refine XS.iload X101.here hx rfl (hb hby d33_186) rfl ?_
    exact k)
  obtain ⟨cq104, kq104, q104a, q104b, q104c⟩ := isOf hZ e101 B61.ec
  obtain ⟨_, _, ⟨T104, L104, k104, n104⟩, -, X104, ⟨Lc104, hQ104, l104, y104, z104⟩, st104⟩ := X101.virtualBack hx (y := Nm_31) (z := Nm_31) hown (mq hZ hw 210 rfl) (mq hZ hw 211 rfl) (notFace_of_selects (args := #[]) (mq hZ hw 213 rfl)) (mq hZ hw 213 rfl) (mq hZ hw 212 rfl) (by decide) (backOf (W := 0) (rm38 l Z a0 hw []  T61.heap n0 B61.z B61) hZ (wq hw 214 rfl) (wq hw 12 rfl) (by decide) (by decide)) q104a q104c (g := (mkF m 188 #[(vr oa), (vi 0), (vi 2), (vi 3), (vi 0), (vi w1), (vi w2), (vi z), (vi 0), (vi (f9 (xlv 2) (xlv 3)))] [(.int 0), (.ref qcs)])) rfl (by rw [hml]; rfl) (Steps.refl _) (argsL := [(.int 0)]) (rest := []) (lenOf pd__I_I rfl) rfl (w00 rfl) (hb hby d33_188) (fun _ _ => ⟨rfl, e101, zz, zz⟩)
  dsimp only [Pt.U, Pt.locs, Pt.cells, Pt.slots] at X104 l104 y104 z104 st104 hQ104
  subst y104 z104
  obtain ⟨rfl, Nq104, e104⟩ := hQ104
  have N104 := FrE l104 N98 Nq104
  have pre105 : Go p e below T104 _ (mkF m 191 #[(vr oa), (vi 0), (vi 2), (vi 3), (vi 0), (vi w1), (vi w2), (vi z), (vi 0), (vi (f9 (xlv 2) (xlv 3)))] [(.int 0)]) _ := fun t k => pre103 t ((st104).trans k)
  have pre106 : Go p e below T104 _ (mkF m 256 #[(vr oa), (vi 0), (vi 2), (vi 3), (vi 0), (vi w1), (vi w2), (vi z), (vi 0), (vi (f9 (xlv 2) (xlv 3)))] [(.ref oa), (.int (f9 (xlv 2) (xlv 3))), (.ref oa), (.int 0), (.int 0), (.ref oa)]) _ := fun t k => pre105 t (by
    refine XS.iconst X104.here hx rfl (hb hby d33_191) ?_
    refine XS.icmpYes X104.here hx rfl (pc0 := 192) (pc' := 248) rfl (hb hby d33_192) rfl (by decide) (by decide) (by decide) ?_
    refine XS.aloadN X104.here hx rfl (hb hby d33_248) rfl rfl ?_
    refine XS.iloadN X104.here hx rfl (hb hby d33_249) rfl ?_
    refine XS.iload X104.here hx rfl (hb hby d33_250) rfl ?_
    refine XS.aloadN X104.here hx rfl (hb hby d33_252) rfl rfl ?_
    refine XS.iload X104.here hx rfl (hb hby d33_253) rfl ?_
    refine XS.aloadN X104.here hx rfl (hb hby d33_255) rfl rfl ?_
    exact k)
  obtain ⟨T107, X107, e107, st107⟩ := getF X104 hx hZ hown (host := "") (Or.inl (wq hw 20 rfl)) Via.refl e104 B61.f_cs (g := (mkF m 256 #[(vr oa), (vi 0), (vi 2), (vi 3), (vi 0), (vi w1), (vi w2), (vi z), (vi 0), (vi (f9 (xlv 2) (xlv 3)))] [(.ref oa), (.int (f9 (xlv 2) (xlv 3))), (.ref oa), (.int 0), (.int 0), (.ref oa)])) rfl rfl (hb hby d33_256)
  have pre108 := Go.thn pre106 st107
  have pre109 : Go p e below T107 _ (mkF m 261 #[(vr oa), (vi 0), (vi 2), (vi 3), (vi 0), (vi w1), (vi w2), (vi z), (vi 0), (vi (f9 (xlv 2) (xlv 3)))] [(.int 0), (.ref qcs), (.int (f9 (xlv 2) (xlv 3))), (.ref oa), (.int 0), (.int 0), (.ref oa)]) _ := fun t k => pre108 t (by
    refine XS.iload X107.here hx rfl (hb hby d33_259) rfl ?_
    exact k)
  obtain ⟨cq110, kq110, q110a, q110b, q110c⟩ := isOf hZ e107 B61.ec
  obtain ⟨_, _, ⟨T110, L110, k110, n110⟩, -, X110, ⟨Lc110, hQ110, l110, y110, z110⟩, st110⟩ := X107.virtualBack hx (y := Nm_31) (z := Nm_31) hown (mq hZ hw 210 rfl) (mq hZ hw 211 rfl) (notFace_of_selects (args := #[]) (mq hZ hw 213 rfl)) (mq hZ hw 213 rfl) (mq hZ hw 212 rfl) (by decide) (backOf (W := 5) (rm38 l Z a0 hw []  T61.heap n0 B61.z B61) hZ (wq hw 214 rfl) (wq hw 12 rfl) (by decide) (by decide)) q110a q110c (g := (mkF m 261 #[(vr oa), (vi 0), (vi 2), (vi 3), (vi 0), (vi w1), (vi w2), (vi z), (vi 0), (vi (f9 (xlv 2) (xlv 3)))] [(.int 0), (.ref qcs), (.int (f9 (xlv 2) (xlv 3))), (.ref oa), (.int 0), (.int 0), (.ref oa)])) rfl (by rw [hml]; rfl) (Steps.refl _) (argsL := [(.int 0)]) (rest := [(.int (f9 (xlv 2) (xlv 3))), (.ref oa), (.int 0), (.int 0), (.ref oa)]) (lenOf pd__I_I rfl) rfl (w00 rfl) (hb hby d33_261) (fun _ _ => ⟨rfl, e107, zz, zz⟩)
  dsimp only [Pt.U, Pt.locs, Pt.cells, Pt.slots] at X110 l110 y110 z110 st110 hQ110
  subst y110 z110
  obtain ⟨rfl, Nq110, e110⟩ := hQ110
  have N110 := FrE l110 N104 Nq110
  have pre111 : Go p e below T110 _ (mkF m 264 #[(vr oa), (vi 0), (vi 2), (vi 3), (vi 0), (vi w1), (vi w2), (vi z), (vi 0), (vi (f9 (xlv 2) (xlv 3)))] [(.int 0), (.int (f9 (xlv 2) (xlv 3))), (.ref oa), (.int 0), (.int 0), (.ref oa)]) _ := fun t k => pre109 t ((st110).trans k)
  have pre112 : Go p e below T110 _ (mkF m 266 #[(vr oa), (vi 0), (vi 2), (vi 3), (vi 0), (vi w1), (vi w2), (vi z), (vi 0), (vi (f9 (xlv 2) (xlv 3)))] [(.int z), (.int 0), (.int (f9 (xlv 2) (xlv 3))), (.ref oa), (.int 0), (.int 0), (.ref oa)]) _ := fun t k => pre111 t (by
    refine XS.iload X110.here hx rfl (hb hby d33_264) rfl ?_
    exact k)
  obtain ⟨cq113, q113, q113'⟩ := B61.e.cell
  obtain ⟨_, _, ⟨T113, L113, k113, n113⟩, -, X113, ⟨Lc113, hQ113, l113, y113, z113⟩, st113⟩ := X110.privateBack hx (y := Nm_25) hown (mq hZ hw 107 rfl) (mq hZ hw 108 rfl) (own_seli (mq hZ hw 2 rfl) (pq hZ hw 109 rfl) (mq hZ hw 108 rfl) (by decide)) (pq hZ hw 109 rfl) (mq hZ hw 110 rfl) (by decide) (backOf (W := 3) (rm16n l Z a0 hw [] (f9 (xlv 2) (xlv 3)) (0 : Int32) z T61.heap n0 B61.z B61 hz0 hwk hf0 (by decide)) hZ (wq hw 110 rfl) (wq hw 3 rfl) (by decide) (by decide)) (g := (mkF m 266 #[(vr oa), (vi 0), (vi 2), (vi 3), (vi 0), (vi w1), (vi w2), (vi z), (vi 0), (vi (f9 (xlv 2) (xlv 3)))] [(.int z), (.int 0), (.int (f9 (xlv 2) (xlv 3))), (.ref oa), (.int 0), (.int 0), (.ref oa)])) rfl (by rw [hml]; rfl) (Steps.refl _) (a := oa) (by rw [e110]; exact q113) q113' (argsL := [(.int (f9 (xlv 2) (xlv 3))), (.int 0), (.int z)]) (rest := [(.int 0), (.int 0), (.ref oa)]) (lenOf pd__III_I rfl) rfl (w00 rfl) (hb hby d33_266) (fun _ _ => ⟨rfl, e110, zz, zz⟩)
  dsimp only [Pt.U, Pt.locs, Pt.cells, Pt.slots] at X113 l113 y113 z113 st113 hQ113
  subst y113 z113
  obtain ⟨rfl, Nq113, Bq113⟩ := hQ113
  have N113 := FrE l113 N110 Nq113
  have B113 : Mg Z n0 T113.heap oa _ _ _ _ _ _ _ _ _ _ xn xs (xch 4) (xfc - 1) xdp 1 xli xpk (own_up xlv 4 (f9 (xlv 2) (xlv 3))) (own_up xlo 4 0) (own_up xhi 4 z) (own_up xrf 4 0) (own_up xch 4 (xbk ((f17 (f9 (xlv 2) (xlv 3)) 0 z) &&& 4095))) (own_up xbk ((f17 (f9 (xlv 2) (xlv 3)) 0 z) &&& 4095) 4) xca (own_up (own_up (own_up (own_up (own_up (own_up xcf 0 2) 1 3) 2 0) 3 (f9 (xlv 2) (xlv 3))) 4 (-1 : Int32)) 4 0) xpe := Bq113
  have pre114 : Go p e below T113 _ (mkF m 269 #[(vr oa), (vi 0), (vi 2), (vi 3), (vi 0), (vi w1), (vi w2), (vi z), (vi 0), (vi (f9 (xlv 2) (xlv 3)))] [(.int 4), (.int 0), (.int 0), (.ref oa)]) _ := fun t k => pre112 t ((st113).trans k)
  obtain ⟨cq115, q115, q115'⟩ := B113.e.cell
  obtain ⟨_, _, ⟨T115, L115, k115, n115⟩, -, X115, ⟨Lc115, hQ115, l115, y115, z115⟩, st115⟩ := X113.privateBack hx (y := Nm_37) hown (mq hZ hw 230 rfl) (mq hZ hw 231 rfl) (own_seli (mq hZ hw 2 rfl) (pq hZ hw 232 rfl) (mq hZ hw 231 rfl) (by decide)) (pq hZ hw 232 rfl) (mq hZ hw 233 rfl) (by decide) (backOf (W := 0) (rm42 l Z a0 hw [] (0 : Int32) (4 : Int32) T113.heap n0 B113.z B113) hZ (wq hw 233 rfl) (wq hw 3 rfl) (by decide) (by decide)) (g := (mkF m 269 #[(vr oa), (vi 0), (vi 2), (vi 3), (vi 0), (vi w1), (vi w2), (vi z), (vi 0), (vi (f9 (xlv 2) (xlv 3)))] [(.int 4), (.int 0), (.int 0), (.ref oa)])) rfl (by rw [hml]; rfl) (Steps.refl _) (a := oa) q115 q115' (argsL := [(.int 0), (.int 0), (.int 4)]) (rest := []) (lenOf pd__III_I rfl) rfl (w00 rfl) (hb hby d33_269) (fun _ _ => ⟨rfl, rfl, zz, zz⟩)
  dsimp only [Pt.U, Pt.locs, Pt.cells, Pt.slots] at X115 l115 y115 z115 st115 hQ115
  subst y115 z115
  obtain ⟨rfl, Nq115, Bq115⟩ := hQ115
  have N115 := FrE l115 N113 Nq115
  have B115 : Mg Z n0 T115.heap oa _ _ _ _ _ _ _ _ _ _ xn xs (xch 4) (xfc - 1) xdp 0 xli xpk (own_up xlv 4 (f9 (xlv 2) (xlv 3))) (own_up xlo 4 0) (own_up xhi 4 z) (own_up xrf 4 0) (own_up xch 4 (xbk ((f17 (f9 (xlv 2) (xlv 3)) 0 z) &&& 4095))) (own_up xbk ((f17 (f9 (xlv 2) (xlv 3)) 0 z) &&& 4095) 4) (own_up (own_up (own_up (own_up (own_up xca ((f28 0 2 3 0) + 0) 0) ((f28 0 2 3 0) + 1) 2) ((f28 0 2 3 0) + 2) 3) ((f28 0 2 3 0) + 3) 0) ((f28 0 2 3 0) + 4) 4) (own_up (own_up (own_up (own_up (own_up (own_up xcf 0 2) 1 3) 2 0) 3 (f9 (xlv 2) (xlv 3))) 4 (-1 : Int32)) 4 0) xpe := Bq115
  have pre116 : Go p e below T115 _ (mkF m 272 #[(vr oa), (vi 0), (vi 2), (vi 3), (vi 0), (vi w1), (vi w2), (vi z), (vi 0), (vi (f9 (xlv 2) (xlv 3)))] [(.int 4)]) _ := fun t k => pre114 t ((st115).trans k)
  have pre117 : Go p e below T115 _ (mkF m 25 #[(vr oa), (vi 0), (vi 2), (vi 3), (vi 0), (vi w1), (vi w2), (vi 4), (vi 0), (vi (f9 (xlv 2) (xlv 3)))] [(.ref oa)]) _ := fun t k => pre116 t (by
    refine XS.istore X115.here hx rfl (hb hby d33_272) rfl (l' := #[(vr oa), (vi 0), (vi 2), (vi 3), (vi 0), (vi w1), (vi w2), (vi 4), (vi 0), (vi (f9 (xlv 2) (xlv 3)))]) rfl ?_
    refine XS.goto X115.here hx rfl (pc0 := 274) (pc' := 18) rfl (hb hby d33_274) (by decide) (by decide) ?_
    refine XS.iload X115.here hx rfl (hb hby d33_18) rfl ?_
    refine XS.iconst X115.here hx rfl (hb hby d33_20) ?_
    refine XS.icmpNo X115.here hx rfl (hb hby d33_21) rfl (by decide) ?_
    refine XS.aloadN X115.here hx rfl (hb hby d33_24) rfl rfl ?_
    exact k)
  obtain ⟨T118, X118, e118, st118⟩ := getF X115 hx hZ hown (host := "") (Or.inl (wq hw 20 rfl)) Via.refl rfl B115.f_cs (g := (mkF m 25 #[(vr oa), (vi 0), (vi 2), (vi 3), (vi 0), (vi w1), (vi w2), (vi 4), (vi 0), (vi (f9 (xlv 2) (xlv 3)))] [(.ref oa)])) rfl rfl (hb hby d33_25)
  have pre119 := Go.thn pre117 st118
  obtain ⟨cq120, kq120, q120a, q120b, q120c⟩ := isOf hZ e118 B115.ec
  obtain ⟨_, _, ⟨T120, L120, k120, n120⟩, -, X120, ⟨Lc120, hQ120, l120, y120, z120⟩, st120⟩ := X118.virtualBack hx (y := Nm_27) (z := Nm_27) hown (mq hZ hw 190 rfl) (mq hZ hw 191 rfl) (notFace_of_selects (args := #[]) (mq hZ hw 193 rfl)) (mq hZ hw 193 rfl) (mq hZ hw 192 rfl) (by decide) (backOf (W := 0) (rm34 l Z a0 hw []  T115.heap n0 B115.z B115) hZ (wq hw 194 rfl) (wq hw 12 rfl) (by decide) (by decide)) q120a q120c (g := (mkF m 28 #[(vr oa), (vi 0), (vi 2), (vi 3), (vi 0), (vi w1), (vi w2), (vi 4), (vi 0), (vi (f9 (xlv 2) (xlv 3)))] [(.ref qcs)])) rfl (by rw [hml]; rfl) (Steps.refl _) (argsL := []) (rest := []) (lenOf pd___I rfl) rfl (w00 rfl) (hb hby d33_28) (fun _ _ => ⟨rfl, e118, zz, zz⟩)
  dsimp only [Pt.U, Pt.locs, Pt.cells, Pt.slots] at X120 l120 y120 z120 st120 hQ120
  subst y120 z120
  obtain ⟨rfl, Nq120, e120⟩ := hQ120
  have N120 := FrE l120 N115 Nq120
  have pre121 : Go p e below T120 _ (mkF m 31 #[(vr oa), (vi 0), (vi 2), (vi 3), (vi 0), (vi w1), (vi w2), (vi 4), (vi 0), (vi (f9 (xlv 2) (xlv 3)))] [(.int 0)]) _ := fun t k => pre119 t ((st120).trans k)
  have pre122 : Go p e below T120 _ (mkF m 279 #[(vr oa), (vi 0), (vi 2), (vi 3), (vi 0), (vi w1), (vi w2), (vi 4), (vi 0), (vi (f9 (xlv 2) (xlv 3)))] [(.int 4)]) _ := fun t k => pre121 t (by
    refine XS.iload X120.here hx rfl (hb hby d33_31) rfl ?_
    refine XS.icmpYes X120.here hx rfl (pc0 := 33) (pc' := 277) rfl (hb hby d33_33) rfl (by decide) (by decide) (by decide) ?_
    refine XS.iload X120.here hx rfl (hb hby d33_277) rfl ?_
    exact k)
  obtain ⟨fs, hr, hrun, hended, hW, hsame⟩ := X120.leave (v := some (.int 4)) (fun h => by rw [Bd.returns] at h; cases h)
  refine ⟨_, _, ?_, hrun, hended, _, _, rfl, ?_, ⟨_, rfl⟩, hW, hsame.mono (by decide) (by decide)⟩
  · exact pre122 _ (retI X120 hx Bd.returns (hb hby d33_279) hr)
  · show QB _ _ _ _ T120.heap _
    rw [e120]
    exact ⟨rfl, N120, B115⟩
theorem d25_75 : DK cd25 75 (.aload_n 0) 1 := by decide +kernel
theorem d25_76 : DK cd25 76 (.iload_n 1) 1 := by decide +kernel
theorem d25_77 : DK cd25 77 (.iload 5) 2 := by decide +kernel
theorem d25_79 : DK cd25 79 (.iload 6) 2 := by decide +kernel
theorem d25_81 : DK cd25 81 (.invokevirtual 264) 3 := by decide +kernel
theorem d25_84 : DK cd25 84 (.istore 7) 2 := by decide +kernel
theorem d25_86 : DK cd25 86 (.goto 120) 3 := by decide +kernel
theorem rm25s (l : Launch) (Z : State) (a0 : Array Value) (hw : ∀ d ∈ tables_1, d.before a0 Z = true) (ws : List Jvm.Cond) {oa qcs qcf qpe qlv qlo qhi qrf qch qbk qca : Addr} {u1 u2 w1 w2 z : Int32} {xn xfc xli xpk : Int32} {xlv xlo xhi xrf xch xbk xca xcf xpe : Int32 → Int32} (h0 : Heap) (n0 : Nat) (Z0 : n0 ≤ h0.size) (B0 : Mg Z n0 h0 oa qcs qcf qpe qlv qlo qhi qrf qch qbk qca xn 0 4 xfc 0 0 xli xpk xlv xlo xhi xrf xch xbk xca xcf xpe) (hu1 : (v29z_33_l4 2 (f9 (xlv 2) (xlv 3)) xlv xlo) = u1) (hu2 : (v29z_33_l4 3 (f9 (xlv 2) (xlv 3)) xlv xlo) = u2) (hw1 : (v29o_33_l4 2 (f9 (xlv 2) (xlv 3)) xlv xhi) = w1) (hw2 : (v29o_33_l4 3 (f9 (xlv 2) (xlv 3)) xlv xhi) = w2) (ht0 : (f26 u1 u2) = 0) (ht1 : (f26 w1 w2) = z) (hz : ¬ z = (-1 : Int32)) (hz0 : ¬ 0 = z) (hms : ¬ (xca ((f28 0 2 3 0) + 0)) = 0) (hwk : own_walk xlv xlo xhi xch (f9 (xlv 2) (xlv 3)) 0 z 3 (xbk ((f17 (f9 (xlv 2) (xlv 3)) 0 z) &&& 4095))) (hf0 : ¬ xfc = 0) :
    Met1 l Nm_38 (Jvm.Cond.code Nm_38 prog_5_method_36_code 11 (some .int)) ws (rom 5 0 0 88) #[(.ref oa), (.int 0), (.int 2), (.int 3)] Z h0 (QB (some (.int 4)) n0 (fun h => Mg Z n0 h oa qcs qcf qpe qlv qlo qhi qrf qch qbk qca xn 0 (xch 4) (xfc - 1) 0 0 xli xpk (own_up xlv 4 (f9 (xlv 2) (xlv 3))) (own_up xlo 4 0) (own_up xhi 4 z) (own_up xrf 4 0) (own_up xch 4 (xbk ((f17 (f9 (xlv 2) (xlv 3)) 0 z) &&& 4095))) (own_up xbk ((f17 (f9 (xlv 2) (xlv 3)) 0 z) &&& 4095) 4) (own_up (own_up (own_up (own_up (own_up xca ((f28 0 2 3 0) + 0) 0) ((f28 0 2 3 0) + 1) 2) ((f28 0 2 3 0) + 2) 3) ((f28 0 2 3 0) + 3) 0) ((f28 0 2 3 0) + 4) 4) (own_up (own_up (own_up (own_up (own_up (own_up xcf 0 2) 1 3) 2 0) 3 (f9 (xlv 2) (xlv 3))) 4 (-1 : Int32)) 4 0) xpe)) := by
  refine MetFree.of_bodySF (plainFor_of_name pn_25) hisR ?_
  intro p e s m args below meth c s₁ Bd hml0 hP hK
  obtain ⟨rfl, hZ, hh⟩ := hP
  have hx := Bd.exec
  have hby := Bd.bytes
  have hml : c.maxLocals = 11 := hml0
  have hown : s.vm.findClass "com/example/slim_kripke/slimkripke/bdd/BddManager" = some m.cls := findClass_of_methodNamed Bd.named
  have X0 : Stand p l e (rom 5 0 0 88) s m _ _ _ _ _ [] 0 0 := Stand.of_body Bd
  have e0 : s₁.heap = h0 := by rw [← hh, Bd.state]; rfl
  have N0 := Fr.nil n0
  have K0 : Keep h0 h0 [] := Keep.refl _ _
  have pre0 : Go p e below s₁ _ (mkF m 0 #[(vr oa), (vi 0), (vi 2), (vi 3), .unset, .unset, .unset, .unset, .unset, .unset, .unset] []) _ := fun t k => castTop (ef_25r m oa) k
  have pre1 : Go p e below s₁ _ (mkF m 3 #[(vr oa), (vi 0), (vi 2), (vi 3), .unset, .unset, .unset, .unset, .unset, .unset, .unset] [(.int 3), (.int 2), (.int 0)]) _ := fun t k => pre0 t (by
    refine XS.iloadN X0.here hx rfl (hb hby d25_0) rfl ?_
    refine XS.iloadN X0.here hx rfl (hb hby d25_1) rfl ?_
    refine XS.iloadN X0.here hx rfl (hb hby d25_2) rfl ?_
    exact k)
  obtain ⟨_, _, ⟨T2, L2, k2, n2⟩, -, X2, ⟨Lc2, hQ2, l2, y2, z2⟩, st2⟩ := Jvm.LawKit.callS X0 hx (y := Nm_6) hown (mq hZ hw 156 rfl) (mq hZ hw 157 rfl) (mq hZ hw 3 rfl) (mq hZ hw 158 rfl) (by decide) (backOf (W := 0) (rm26 l Z a0 hw [] (2 : Int32) (3 : Int32) h0 n0 Z0) hZ (wq hw 158 rfl) (wq hw 3 rfl) (by decide) (by decide)) (g := (mkF m 3 #[(vr oa), (vi 0), (vi 2), (vi 3), .unset, .unset, .unset, .unset, .unset, .unset, .unset] [(.int 3), (.int 2), (.int 0)])) rfl (by rw [hml]; rfl) (argsL := [(.int 0), (.int 2), (.int 3)]) (rest := []) (lenOf pd__III_I rfl) rfl (w00 rfl) (hb hby d25_3) (fun _ _ => ⟨rfl, e0, zz, zz⟩)
  dsimp only [Pt.U, Pt.locs, Pt.cells, Pt.slots] at X2 l2 y2 z2 st2 hQ2
  subst y2 z2
  obtain ⟨rfl, Nq2, e2⟩ := hQ2
  have N2 := FrE l2 N0 Nq2
  have pre3 := Go.thn pre1 st2
  have pre4 : Go p e below T2 _ (mkF m 53 #[(vr oa), (vi 0), (vi 2), (vi 3), (vi (-1)), (vi 2), (vi 3), .unset, .unset, .unset, .unset] [(.int 0), (.int 3), (.int 2), (.int 0), (.ref oa)]) _ := fun t k => pre3 t (by
    refine XS.istore X2.here hx rfl (hb hby d25_6) rfl (l' := #[(vr oa), (vi 0), (vi 2), (vi 3), (vi (-1)), .unset, .unset, .unset, .unset, .unset, .unset]) rfl ?_
    refine XS.iload X2.here hx rfl (hb hby d25_8) rfl ?_
    refine XS.iconst X2.here hx rfl (hb hby d25_10) ?_
    refine XS.icmpYes X2.here hx rfl (pc0 := 11) (pc' := 17) rfl (hb hby d25_11) rfl (by decide) (by decide) (by decide) ?_
    refine XS.iloadN X2.here hx rfl (hb hby d25_17) rfl ?_
    refine XS.istore X2.here hx rfl (hb hby d25_18) rfl (l' := #[(vr oa), (vi 0), (vi 2), (vi 3), (vi (-1)), (vi 2), .unset, .unset, .unset, .unset, .unset]) rfl ?_
    refine XS.iloadN X2.here hx rfl (hb hby d25_20) rfl ?_
    refine XS.istore X2.here hx rfl (hb hby d25_21) rfl (l' := #[(vr oa), (vi 0), (vi 2), (vi 3), (vi (-1)), (vi 2), (vi 3), .unset, .unset, .unset, .unset]) rfl ?_
    refine XS.iloadN X2.here hx rfl (hb hby d25_23) rfl ?_
    refine XS.iconst X2.here hx rfl (hb hby d25_24) ?_
    refine XS.icmpNo X2.here hx rfl (hb hby d25_25) rfl (by decide) ?_
    refine XS.iloadN X2.here hx rfl (hb hby d25_28) rfl ?_
    refine XS.iconst X2.here hx rfl (hb hby d25_29) ?_
    refine XS.icmpNo X2.here hx rfl (hb hby d25_30) rfl (by decide) ?_
    refine XS.iload X2.here hx rfl (hb hby d25_33) rfl ?_
    refine XS.iload X2.here hx rfl (hb hby d25_35) rfl ?_
    refine XS.icmpYes X2.here hx rfl (pc0 := 37) (pc' := 46) rfl (hb hby d25_37) rfl (by decide) (by decide) (by decide) ?_
    refine XS.aloadN X2.here hx rfl (hb hby d25_46) rfl rfl ?_
    refine XS.iloadN X2.here hx rfl (hb hby d25_47) rfl ?_
    refine XS.iload X2.here hx rfl (hb hby d25_48) rfl ?_
    refine XS.iload X2.here hx rfl (hb hby d25_50) rfl ?_
    refine XS.iconst X2.here hx rfl (hb hby d25_52) ?_
    exact k)
  obtain ⟨cq5, q5, q5'⟩ := B0.e.cell
  obtain ⟨_, _, ⟨T5, L5, k5, n5⟩, -, X5, ⟨Lc5, hQ5, l5, y5, z5⟩, st5⟩ := X2.privateBack hx (y := Nm_18) hown (mq hZ hw 159 rfl) (mq hZ hw 160 rfl) (own_seli (mq hZ hw 2 rfl) (pq hZ hw 161 rfl) (mq hZ hw 160 rfl) (by decide)) (pq hZ hw 161 rfl) (mq hZ hw 162 rfl) (by decide) (backOf (W := 0) (rm27 l Z a0 hw [] (0 : Int32) (2 : Int32) (3 : Int32) (0 : Int32) h0 n0 B0.z B0 hms) hZ (wq hw 162 rfl) (wq hw 3 rfl) (by decide) (by decide)) (g := (mkF m 53 #[(vr oa), (vi 0), (vi 2), (vi 3), (vi (-1)), (vi 2), (vi 3), .unset, .unset, .unset, .unset] [(.int 0), (.int 3), (.int 2), (.int 0), (.ref oa)])) rfl (by rw [hml]; rfl) (Steps.refl _) (a := oa) (by rw [e2]; exact q5) q5' (argsL := [(.int 0), (.int 2), (.int 3), (.int 0)]) (rest := []) (lenOf pd__IIII_I rfl) rfl (w00 rfl) (hb hby d25_53) (fun _ _ => ⟨rfl, e2, zz, zz⟩)
  dsimp only [Pt.U, Pt.locs, Pt.cells, Pt.slots] at X5 l5 y5 z5 st5 hQ5
  subst y5 z5
  obtain ⟨rfl, Nq5, e5⟩ := hQ5
  have N5 := FrE l5 N2 Nq5
  have pre6 := Go.trn pre4 st5
  have pre7 : Go p e below T5 _ (mkF m 65 #[(vr oa), (vi 0), (vi 2), (vi 3), (vi (-1)), (vi 2), (vi 3), (vi (-1)), .unset, .unset, .unset] [(.ref oa)]) _ := fun t k => pre6 t (by
    refine XS.istore X5.here hx rfl (hb hby d25_56) rfl (l' := #[(vr oa), (vi 0), (vi 2), (vi 3), (vi (-1)), (vi 2), (vi 3), (vi (-1)), .unset, .unset, .unset]) rfl ?_
    refine XS.iload X5.here hx rfl (hb hby d25_58) rfl ?_
    refine XS.iconst X5.here hx rfl (hb hby d25_60) ?_
    refine XS.icmpNo X5.here hx rfl (hb hby d25_61) rfl (by decide) ?_
    refine XS.aloadN X5.here hx rfl (hb hby d25_64) rfl rfl ?_
    exact k)
  obtain ⟨T8, X8, e8, st8⟩ := getF X5 hx hZ hown (host := "") (Or.inl (wq hw 98 rfl)) Via.refl e5 B0.f_dp (g := (mkF m 65 #[(vr oa), (vi 0), (vi 2), (vi 3), (vi (-1)), (vi 2), (vi 3), (vi (-1)), .unset, .unset, .unset] [(.ref oa)])) rfl rfl (hb hby d25_65)
  have pre9 := Go.thn pre7 st8
  have pre10 : Go p e below T8 _ (mkF m 69 #[(vr oa), (vi 0), (vi 2), (vi 3), (vi (-1)), (vi 2), (vi 3), (vi (-1)), .unset, .unset, .unset] [(.ref oa), (.int 0)]) _ := fun t k => pre9 t (by
    refine XS.aloadN X8.here hx rfl (hb hby d25_68) rfl rfl ?_
    exact k)
  obtain ⟨T11, X11, e11, st11⟩ := getF X8 hx hZ hown (host := "") (Or.inl (wq hw 30 rfl)) Via.refl e8 B0.f_s (g := (mkF m 69 #[(vr oa), (vi 0), (vi 2), (vi 3), (vi (-1)), (vi 2), (vi 3), (vi (-1)), .unset, .unset, .unset] [(.ref oa), (.int 0)])) rfl rfl (hb hby d25_69)
  have pre12 := Go.thn pre10 st11
  have pre13 : Go p e below T11 _ (mkF m 81 #[(vr oa), (vi 0), (vi 2), (vi 3), (vi (-1)), (vi 2), (vi 3), (vi (-1)), .unset, .unset, .unset] [(.int 3), (.int 2), (.int 0), (.ref oa)]) _ := fun t k => pre12 t (by
    refine XS.icmpNo X11.here hx rfl (hb hby d25_72) rfl (by decide) ?_
    refine XS.aloadN X11.here hx rfl (hb hby d25_75) rfl rfl ?_
    refine XS.iloadN X11.here hx rfl (hb hby d25_76) rfl ?_
    refine XS.iload X11.here hx rfl (hb hby d25_77) rfl ?_
    refine XS.iload X11.here hx rfl (hb hby d25_79) rfl ?_
    exact k)
  obtain ⟨cq14, q14, q14'⟩ := B0.e.cell
  obtain ⟨_, _, ⟨T14, L14, k14, n14⟩, -, X14, ⟨Lc14, hQ14, l14, y14, z14⟩, st14⟩ := X11.privateBack hx (y := Nm_39) hown (mq hZ hw 186 rfl) (mq hZ hw 187 rfl) (own_seli (mq hZ hw 2 rfl) (pq hZ hw 188 rfl) (mq hZ hw 187 rfl) (by decide)) (pq hZ hw 188 rfl) (mq hZ hw 189 rfl) (by decide) (backOf (W := 0) (rm33s l Z a0 hw []  h0 n0 B0.z B0 hu1 hu2 hw1 hw2 ht0 ht1 hz hz0 hms hwk hf0) hZ (wq hw 189 rfl) (wq hw 3 rfl) (by decide) (by decide)) (g := (mkF m 81 #[(vr oa), (vi 0), (vi 2), (vi 3), (vi (-1)), (vi 2), (vi 3), (vi (-1)), .unset, .unset, .unset] [(.int 3), (.int 2), (.int 0), (.ref oa)])) rfl (by rw [hml]; rfl) (Steps.refl _) (a := oa) (by rw [e11]; exact q14) q14' (argsL := [(.int 0), (.int 2), (.int 3)]) (rest := []) (lenOf pd__III_I rfl) rfl (w00 rfl) (hb hby d25_81) (fun _ _ => ⟨rfl, e11, zz, zz⟩)
  dsimp only [Pt.U, Pt.locs, Pt.cells, Pt.slots] at X14 l14 y14 z14 st14 hQ14
  subst y14 z14
  obtain ⟨rfl, Nq14, Bq14⟩ := hQ14
  have N14 := FrE l14 N5 Nq14
  have B14 : Mg Z n0 T14.heap oa _ _ _ _ _ _ _ _ _ _ xn 0 (xch 4) (xfc - 1) 0 0 xli xpk (own_up xlv 4 (f9 (xlv 2) (xlv 3))) (own_up xlo 4 0) (own_up xhi 4 z) (own_up xrf 4 0) (own_up xch 4 (xbk ((f17 (f9 (xlv 2) (xlv 3)) 0 z) &&& 4095))) (own_up xbk ((f17 (f9 (xlv 2) (xlv 3)) 0 z) &&& 4095) 4) (own_up (own_up (own_up (own_up (own_up xca ((f28 0 2 3 0) + 0) 0) ((f28 0 2 3 0) + 1) 2) ((f28 0 2 3 0) + 2) 3) ((f28 0 2 3 0) + 3) 0) ((f28 0 2 3 0) + 4) 4) (own_up (own_up (own_up (own_up (own_up (own_up xcf 0 2) 1 3) 2 0) 3 (f9 (xlv 2) (xlv 3))) 4 (-1 : Int32)) 4 0) xpe := Bq14
  have pre15 := Go.trn pre13 st14
  have pre16 : Go p e below T14 _ (mkF m 208 #[(vr oa), (vi 0), (vi 2), (vi 3), (vi (-1)), (vi 2), (vi 3), (vi 4), .unset, .unset, .unset] [(.int 4)]) _ := fun t k => pre15 t (by
    refine XS.istore X14.here hx rfl (hb hby d25_84) rfl (l' := #[(vr oa), (vi 0), (vi 2), (vi 3), (vi (-1)), (vi 2), (vi 3), (vi 4), .unset, .unset, .unset]) rfl ?_
    refine XS.goto X14.here hx rfl (pc0 := 86) (pc' := 206) rfl (hb hby d25_86) (by decide) (by decide) ?_
    refine XS.iload X14.here hx rfl (hb hby d25_206) rfl ?_
    exact k)
  obtain ⟨fs, hr, hrun, hended, hW, hsame⟩ := X14.leave (v := some (.int 4)) (fun h => by rw [Bd.returns] at h; cases h)
  refine ⟨_, _, ?_, hrun, hended, _, _, rfl, ?_, ⟨_, rfl⟩, hW, hsame.mono (by decide) (by decide)⟩
  · exact pre16 _ (retI X14 hx Bd.returns (hb hby d25_208) hr)
  · show QB _ _ _ _ T14.heap _
    skip
    exact ⟨rfl, N14, B14⟩
theorem d24_0 : DK cd24 0 (.aload_n 0) 1 := by decide +kernel
theorem d24_1 : DK cd24 1 (.invokevirtual 56) 3 := by decide +kernel
theorem d24_4 : DK cd24 4 (.aload_n 0) 1 := by decide +kernel
theorem d24_5 : DK cd24 5 (.iconst 0) 1 := by decide +kernel
theorem d24_6 : DK cd24 6 (.iload_n 1) 1 := by decide +kernel
theorem d24_7 : DK cd24 7 (.iload_n 2) 1 := by decide +kernel
theorem d24_8 : DK cd24 8 (.invokevirtual 155) 3 := by decide +kernel
theorem d24_11 : DK cd24 11 .ireturn 1 := by decide +kernel
theorem pn_24 : plainName "com/example/slim_kripke/slimkripke/bdd/BddManager" = true := by first | (simp [plainName, overriddenIn]; done) | decide +kernel
theorem ef_24r (m : MethodId) (x0 : Addr) : entryFrame m #[(.ref x0), (.int 2), (.int 3)] 3 = mkF m 0 #[.val (.ref x0), .val (.int 2), .val (.int 3)] [] := by first | (simp [entryFrame, mkF, argsToLocals, Value.category]; done) | rfl
theorem rm24r (l : Launch) (Z : State) (a0 : Array Value) (hw : ∀ d ∈ tables_1, d.before a0 Z = true) (ws : List Jvm.Cond) {oa qcs qcf qpe qlv qlo qhi qrf qch qbk qca : Addr} {u1 u2 w1 w2 z : Int32} {xn xs xfc xdp xcz xli xpk : Int32} {xlv xlo xhi xrf xch xbk xca xcf xpe : Int32 → Int32} (h0 : Heap) (n0 : Nat) (Z0 : n0 ≤ h0.size) (B0 : Mg Z n0 h0 oa qcs qcf qpe qlv qlo qhi qrf qch qbk qca xn xs 4 xfc xdp xcz xli xpk xlv xlo xhi xrf xch xbk xca xcf xpe) (hfc : ¬ xfc < (4096 / 5)) (hs : ¬ 0 = xs) (hu1 : (v29z_33_l4 2 (f9 (xlv 2) (xlv 3)) xlv xlo) = u1) (hu2 : (v29z_33_l4 3 (f9 (xlv 2) (xlv 3)) xlv xlo) = u2) (hw1 : (v29o_33_l4 2 (f9 (xlv 2) (xlv 3)) xlv xhi) = w1) (hw2 : (v29o_33_l4 3 (f9 (xlv 2) (xlv 3)) xlv xhi) = w2) (ht0 : (f26 u1 u2) = 0) (ht1 : (f26 w1 w2) = z) (hz : ¬ z = (-1 : Int32)) (hz0 : ¬ 0 = z) (hms : ¬ (xca ((f28 0 2 3 0) + 0)) = 0) (hwk : own_walk xlv xlo xhi xch (f9 (xlv 2) (xlv 3)) 0 z 3 (xbk ((f17 (f9 (xlv 2) (xlv 3)) 0 z) &&& 4095))) (hf0 : ¬ xfc = 0) :
    Met1 l Nm_40 (Jvm.Cond.code Nm_40 prog_5_method_18_code 3 (some .int)) ws (rom 6 0 0 120) #[(.ref oa), (.int 2), (.int 3)] Z h0 (QB (some (.int 4)) n0 (fun h => Mg Z n0 h oa qcs qcf qpe qlv qlo qhi qrf qch qbk qca xn xs (xch 4) (xfc - 1) 0 0 xli xpk (own_up xlv 4 (f9 (xlv 2) (xlv 3))) (own_up xlo 4 0) (own_up xhi 4 z) (own_up xrf 4 0) (own_up xch 4 (xbk ((f17 (f9 (xlv 2) (xlv 3)) 0 z) &&& 4095))) (own_up xbk ((f17 (f9 (xlv 2) (xlv 3)) 0 z) &&& 4095) 4) (own_up (own_up (own_up (own_up (own_up xca ((f28 0 2 3 0) + 0) 0) ((f28 0 2 3 0) + 1) 2) ((f28 0 2 3 0) + 2) 3) ((f28 0 2 3 0) + 3) 0) ((f28 0 2 3 0) + 4) 4) xcf xpe)) := by
  refine MetFree.of_bodySF (plainFor_of_name pn_24) hisR ?_
  intro p e s m args below meth c s₁ Bd hml0 hP hK
  obtain ⟨rfl, hZ, hh⟩ := hP
  have hx := Bd.exec
  have hby := Bd.bytes
  have hml : c.maxLocals = 3 := hml0
  have hown : s.vm.findClass "com/example/slim_kripke/slimkripke/bdd/BddManager" = some m.cls := findClass_of_methodNamed Bd.named
  have X0 : Stand p l e (rom 6 0 0 120) s m _ _ _ _ _ [] 0 0 := Stand.of_body Bd
  have e0 : s₁.heap = h0 := by rw [← hh, Bd.state]; rfl
  have N0 := Fr.nil n0
  have K0 : Keep h0 h0 [] := Keep.refl _ _
  have pre0 : Go p e below s₁ _ (mkF m 0 #[(vr oa), (vi 2), (vi 3)] []) _ := fun t k => castTop (ef_24r m oa) k
  have pre1 : Go p e below s₁ _ (mkF m 1 #[(vr oa), (vi 2), (vi 3)] [(.ref oa)]) _ := fun t k => pre0 t (by
    refine XS.aloadN X0.here hx rfl (hb hby d24_0) rfl rfl ?_
    exact k)
  obtain ⟨cq2, q2, q2'⟩ := B0.e.cell
  obtain ⟨_, _, ⟨T2, L2, k2, n2⟩, -, X2, ⟨Lc2, hQ2, l2, y2, z2⟩, st2⟩ := X0.privateBack hx (y := Nm_14) hown (mq hZ hw 94 rfl) (mq hZ hw 95 rfl) (own_seli (mq hZ hw 2 rfl) (pq hZ hw 96 rfl) (mq hZ hw 95 rfl) (by decide)) (pq hZ hw 96 rfl) (mq hZ hw 97 rfl) (by decide) (backOf (W := 0) (rm14 l Z a0 hw []  h0 n0 B0.z B0 hfc) hZ (wq hw 97 rfl) (wq hw 3 rfl) (by decide) (by decide)) (g := (mkF m 1 #[(vr oa), (vi 2), (vi 3)] [(.ref oa)])) rfl (by rw [hml]; rfl) (Steps.refl _) (a := oa) (by rw [e0]; exact q2) q2' (argsL := []) (rest := []) (lenOf pd___V rfl) rfl (w00 rfl) (hb hby d24_1) (fun _ _ => ⟨rfl, e0, zz, zz⟩)
  dsimp only [Pt.U, Pt.locs, Pt.cells, Pt.slots] at X2 l2 y2 z2 st2 hQ2
  subst y2 z2
  obtain ⟨rfl, Nq2, Bq2⟩ := hQ2
  have N2 := FrE l2 N0 Nq2
  have B2 : Mg Z n0 T2.heap oa _ _ _ _ _ _ _ _ _ _ xn xs 4 xfc 0 0 xli xpk xlv xlo xhi xrf xch xbk xca xcf xpe := Bq2
  have pre3 := Go.trn pre1 st2
  have pre4 : Go p e below T2 _ (mkF m 8 #[(vr oa), (vi 2), (vi 3)] [(.int 3), (.int 2), (.int 0), (.ref oa)]) _ := fun t k => pre3 t (by
    refine XS.aloadN X2.here hx rfl (hb hby d24_4) rfl rfl ?_
    refine XS.iconst X2.here hx rfl (hb hby d24_5) ?_
    refine XS.iloadN X2.here hx rfl (hb hby d24_6) rfl ?_
    refine XS.iloadN X2.here hx rfl (hb hby d24_7) rfl ?_
    exact k)
  obtain ⟨cq5, q5, q5'⟩ := B2.e.cell
  obtain ⟨_, _, ⟨T5, L5, k5, n5⟩, -, X5, ⟨Lc5, hQ5, l5, y5, z5⟩, st5⟩ := X2.privateBack hx (y := Nm_38) hown (mq hZ hw 152 rfl) (mq hZ hw 153 rfl) (own_seli (mq hZ hw 2 rfl) (pq hZ hw 154 rfl) (mq hZ hw 153 rfl) (by decide)) (pq hZ hw 154 rfl) (mq hZ hw 155 rfl) (by decide) (backOf (W := 0) (rm25r l Z a0 hw []  T2.heap n0 B2.z B2 hs hu1 hu2 hw1 hw2 ht0 ht1 hz hz0 hms hwk hf0) hZ (wq hw 155 rfl) (wq hw 3 rfl) (by decide) (by decide)) (g := (mkF m 8 #[(vr oa), (vi 2), (vi 3)] [(.int 3), (.int 2), (.int 0), (.ref oa)])) rfl (by rw [hml]; rfl) (Steps.refl _) (a := oa) q5 q5' (argsL := [(.int 0), (.int 2), (.int 3)]) (rest := []) (lenOf pd__III_I rfl) rfl (w00 rfl) (hb hby d24_8) (fun _ _ => ⟨rfl, rfl, zz, zz⟩)
  dsimp only [Pt.U, Pt.locs, Pt.cells, Pt.slots] at X5 l5 y5 z5 st5 hQ5
  subst y5 z5
  obtain ⟨rfl, Nq5, Bq5⟩ := hQ5
  have N5 := FrE l5 N2 Nq5
  have B5 : Mg Z n0 T5.heap oa _ _ _ _ _ _ _ _ _ _ xn xs (xch 4) (xfc - 1) 0 0 xli xpk (own_up xlv 4 (f9 (xlv 2) (xlv 3))) (own_up xlo 4 0) (own_up xhi 4 z) (own_up xrf 4 0) (own_up xch 4 (xbk ((f17 (f9 (xlv 2) (xlv 3)) 0 z) &&& 4095))) (own_up xbk ((f17 (f9 (xlv 2) (xlv 3)) 0 z) &&& 4095) 4) (own_up (own_up (own_up (own_up (own_up xca ((f28 0 2 3 0) + 0) 0) ((f28 0 2 3 0) + 1) 2) ((f28 0 2 3 0) + 2) 3) ((f28 0 2 3 0) + 3) 0) ((f28 0 2 3 0) + 4) 4) xcf xpe := Bq5
  have pre6 := Go.trn pre4 st5
  obtain ⟨fs, hr, hrun, hended, hW, hsame⟩ := X5.leave (v := some (.int 4)) (fun h => by rw [Bd.returns] at h; cases h)
  refine ⟨_, _, ?_, hrun, hended, _, _, rfl, ?_, ⟨_, rfl⟩, hW, hsame.mono (by decide) (by decide)⟩
  · exact pre6 _ (retI X5 hx Bd.returns (hb hby d24_11) hr)
  · show QB _ _ _ _ T5.heap _
    skip
    exact ⟨rfl, N5, B5⟩
theorem rm24s (l : Launch) (Z : State) (a0 : Array Value) (hw : ∀ d ∈ tables_1, d.before a0 Z = true) (ws : List Jvm.Cond) {oa qcs qcf qpe qlv qlo qhi qrf qch qbk qca : Addr} {u1 u2 w1 w2 z : Int32} {xn xfc xdp xcz xli xpk : Int32} {xlv xlo xhi xrf xch xbk xca xcf xpe : Int32 → Int32} (h0 : Heap) (n0 : Nat) (Z0 : n0 ≤ h0.size) (B0 : Mg Z n0 h0 oa qcs qcf qpe qlv qlo qhi qrf qch qbk qca xn 0 4 xfc xdp xcz xli xpk xlv xlo xhi xrf xch xbk xca xcf xpe) (hfc : ¬ xfc < (4096 / 5)) (hu1 : (v29z_33_l4 2 (f9 (xlv 2) (xlv 3)) xlv xlo) = u1) (hu2 : (v29z_33_l4 3 (f9 (xlv 2) (xlv 3)) xlv xlo) = u2) (hw1 : (v29o_33_l4 2 (f9 (xlv 2) (xlv 3)) xlv xhi) = w1) (hw2 : (v29o_33_l4 3 (f9 (xlv 2) (xlv 3)) xlv xhi) = w2) (ht0 : (f26 u1 u2) = 0) (ht1 : (f26 w1 w2) = z) (hz : ¬ z = (-1 : Int32)) (hz0 : ¬ 0 = z) (hms : ¬ (xca ((f28 0 2 3 0) + 0)) = 0) (hwk : own_walk xlv xlo xhi xch (f9 (xlv 2) (xlv 3)) 0 z 3 (xbk ((f17 (f9 (xlv 2) (xlv 3)) 0 z) &&& 4095))) (hf0 : ¬ xfc = 0) :
    Met1 l Nm_40 (Jvm.Cond.code Nm_40 prog_5_method_18_code 3 (some .int)) ws (rom 6 0 0 120) #[(.ref oa), (.int 2), (.int 3)] Z h0 (QB (some (.int 4)) n0 (fun h => Mg Z n0 h oa qcs qcf qpe qlv qlo qhi qrf qch qbk qca xn 0 (xch 4) (xfc - 1) 0 0 xli xpk (own_up xlv 4 (f9 (xlv 2) (xlv 3))) (own_up xlo 4 0) (own_up xhi 4 z) (own_up xrf 4 0) (own_up xch 4 (xbk ((f17 (f9 (xlv 2) (xlv 3)) 0 z) &&& 4095))) (own_up xbk ((f17 (f9 (xlv 2) (xlv 3)) 0 z) &&& 4095) 4) (own_up (own_up (own_up (own_up (own_up xca ((f28 0 2 3 0) + 0) 0) ((f28 0 2 3 0) + 1) 2) ((f28 0 2 3 0) + 2) 3) ((f28 0 2 3 0) + 3) 0) ((f28 0 2 3 0) + 4) 4) (own_up (own_up (own_up (own_up (own_up (own_up xcf 0 2) 1 3) 2 0) 3 (f9 (xlv 2) (xlv 3))) 4 (-1 : Int32)) 4 0) xpe)) := by
  refine MetFree.of_bodySF (plainFor_of_name pn_24) hisR ?_
  intro p e s m args below meth c s₁ Bd hml0 hP hK
  obtain ⟨rfl, hZ, hh⟩ := hP
  have hx := Bd.exec
  have hby := Bd.bytes
  have hml : c.maxLocals = 3 := hml0
  have hown : s.vm.findClass "com/example/slim_kripke/slimkripke/bdd/BddManager" = some m.cls := findClass_of_methodNamed Bd.named
  have X0 : Stand p l e (rom 6 0 0 120) s m _ _ _ _ _ [] 0 0 := Stand.of_body Bd
  have e0 : s₁.heap = h0 := by rw [← hh, Bd.state]; rfl
  have N0 := Fr.nil n0
  have K0 : Keep h0 h0 [] := Keep.refl _ _
  have pre0 : Go p e below s₁ _ (mkF m 0 #[(vr oa), (vi 2), (vi 3)] []) _ := fun t k => castTop (ef_24r m oa) k
  have pre1 : Go p e below s₁ _ (mkF m 1 #[(vr oa), (vi 2), (vi 3)] [(.ref oa)]) _ := fun t k => pre0 t (by
    refine XS.aloadN X0.here hx rfl (hb hby d24_0) rfl rfl ?_
    exact k)
  obtain ⟨cq2, q2, q2'⟩ := B0.e.cell
  obtain ⟨_, _, ⟨T2, L2, k2, n2⟩, -, X2, ⟨Lc2, hQ2, l2, y2, z2⟩, st2⟩ := X0.privateBack hx (y := Nm_14) hown (mq hZ hw 94 rfl) (mq hZ hw 95 rfl) (own_seli (mq hZ hw 2 rfl) (pq hZ hw 96 rfl) (mq hZ hw 95 rfl) (by decide)) (pq hZ hw 96 rfl) (mq hZ hw 97 rfl) (by decide) (backOf (W := 0) (rm14 l Z a0 hw []  h0 n0 B0.z B0 hfc) hZ (wq hw 97 rfl) (wq hw 3 rfl) (by decide) (by decide)) (g := (mkF m 1 #[(vr oa), (vi 2), (vi 3)] [(.ref oa)])) rfl (by rw [hml]; rfl) (Steps.refl _) (a := oa) (by rw [e0]; exact q2) q2' (argsL := []) (rest := []) (lenOf pd___V rfl) rfl (w00 rfl) (hb hby d24_1) (fun _ _ => ⟨rfl, e0, zz, zz⟩)
  dsimp only [Pt.U, Pt.locs, Pt.cells, Pt.slots] at X2 l2 y2 z2 st2 hQ2
  subst y2 z2
  obtain ⟨rfl, Nq2, Bq2⟩ := hQ2
  have N2 := FrE l2 N0 Nq2
  have B2 : Mg Z n0 T2.heap oa _ _ _ _ _ _ _ _ _ _ xn 0 4 xfc 0 0 xli xpk xlv xlo xhi xrf xch xbk xca xcf xpe := Bq2
  have pre3 := Go.trn pre1 st2
  have pre4 : Go p e below T2 _ (mkF m 8 #[(vr oa), (vi 2), (vi 3)] [(.int 3), (.int 2), (.int 0), (.ref oa)]) _ := fun t k => pre3 t (by
    refine XS.aloadN X2.here hx rfl (hb hby d24_4) rfl rfl ?_
    refine XS.iconst X2.here hx rfl (hb hby d24_5) ?_
    refine XS.iloadN X2.here hx rfl (hb hby d24_6) rfl ?_
    refine XS.iloadN X2.here hx rfl (hb hby d24_7) rfl ?_
    exact k)
  obtain ⟨cq5, q5, q5'⟩ := B2.e.cell
  obtain ⟨_, _, ⟨T5, L5, k5, n5⟩, -, X5, ⟨Lc5, hQ5, l5, y5, z5⟩, st5⟩ := X2.privateBack hx (y := Nm_38) hown (mq hZ hw 152 rfl) (mq hZ hw 153 rfl) (own_seli (mq hZ hw 2 rfl) (pq hZ hw 154 rfl) (mq hZ hw 153 rfl) (by decide)) (pq hZ hw 154 rfl) (mq hZ hw 155 rfl) (by decide) (backOf (W := 0) (rm25s l Z a0 hw []  T2.heap n0 B2.z B2 hu1 hu2 hw1 hw2 ht0 ht1 hz hz0 hms hwk hf0) hZ (wq hw 155 rfl) (wq hw 3 rfl) (by decide) (by decide)) (g := (mkF m 8 #[(vr oa), (vi 2), (vi 3)] [(.int 3), (.int 2), (.int 0), (.ref oa)])) rfl (by rw [hml]; rfl) (Steps.refl _) (a := oa) q5 q5' (argsL := [(.int 0), (.int 2), (.int 3)]) (rest := []) (lenOf pd__III_I rfl) rfl (w00 rfl) (hb hby d24_8) (fun _ _ => ⟨rfl, rfl, zz, zz⟩)
  dsimp only [Pt.U, Pt.locs, Pt.cells, Pt.slots] at X5 l5 y5 z5 st5 hQ5
  subst y5 z5
  obtain ⟨rfl, Nq5, Bq5⟩ := hQ5
  have N5 := FrE l5 N2 Nq5
  have B5 : Mg Z n0 T5.heap oa _ _ _ _ _ _ _ _ _ _ xn 0 (xch 4) (xfc - 1) 0 0 xli xpk (own_up xlv 4 (f9 (xlv 2) (xlv 3))) (own_up xlo 4 0) (own_up xhi 4 z) (own_up xrf 4 0) (own_up xch 4 (xbk ((f17 (f9 (xlv 2) (xlv 3)) 0 z) &&& 4095))) (own_up xbk ((f17 (f9 (xlv 2) (xlv 3)) 0 z) &&& 4095) 4) (own_up (own_up (own_up (own_up (own_up xca ((f28 0 2 3 0) + 0) 0) ((f28 0 2 3 0) + 1) 2) ((f28 0 2 3 0) + 2) 3) ((f28 0 2 3 0) + 3) 0) ((f28 0 2 3 0) + 4) 4) (own_up (own_up (own_up (own_up (own_up (own_up xcf 0 2) 1 3) 2 0) 3 (f9 (xlv 2) (xlv 3))) 4 (-1 : Int32)) 4 0) xpe := Bq5
  have pre6 := Go.trn pre4 st5
  obtain ⟨fs, hr, hrun, hended, hW, hsame⟩ := X5.leave (v := some (.int 4)) (fun h => by rw [Bd.returns] at h; cases h)
  refine ⟨_, _, ?_, hrun, hended, _, _, rfl, ?_, ⟨_, rfl⟩, hW, hsame.mono (by decide) (by decide)⟩
  · exact pre6 _ (retI X5 hx Bd.returns (hb hby d24_11) hr)
  · show QB _ _ _ _ T5.heap _
    skip
    exact ⟨rfl, N5, B5⟩
theorem ef_24t (m : MethodId) (x0 : Addr) : entryFrame m #[(.ref x0), (.int 2), (.int 2)] 3 = mkF m 0 #[.val (.ref x0), .val (.int 2), .val (.int 2)] [] := by first | (simp [entryFrame, mkF, argsToLocals, Value.category]; done) | rfl
theorem rm24t (l : Launch) (Z : State) (a0 : Array Value) (hw : ∀ d ∈ tables_1, d.before a0 Z = true) (ws : List Jvm.Cond) {oa qcs qcf qpe qlv qlo qhi qrf qch qbk qca : Addr} {xn xs xff xfc xdp xcz xli xpk : Int32} {xlv xlo xhi xrf xch xbk xca xcf xpe : Int32 → Int32} (h0 : Heap) (n0 : Nat) (Z0 : n0 ≤ h0.size) (B0 : Mg Z n0 h0 oa qcs qcf qpe qlv qlo qhi qrf qch qbk qca xn xs xff xfc xdp xcz xli xpk xlv xlo xhi xrf xch xbk xca xcf xpe) (hfc : ¬ xfc < (4096 / 5)) :
    Met1 l Nm_40 (Jvm.Cond.code Nm_40 prog_5_method_18_code 3 (some .int)) ws (rom 2 0 0 37) #[(.ref oa), (.int 2), (.int 2)] Z h0 (QB (some (.int 2)) n0 (fun h => Mg Z n0 h oa qcs qcf qpe qlv qlo qhi qrf qch qbk qca xn xs xff xfc 0 0 xli xpk xlv xlo xhi xrf xch xbk xca xcf xpe)) := by
  refine MetFree.of_bodySF (plainFor_of_name pn_24) hisR ?_
  intro p e s m args below meth c s₁ Bd hml0 hP hK
  obtain ⟨rfl, hZ, hh⟩ := hP
  have hx := Bd.exec
  have hby := Bd.bytes
  have hml : c.maxLocals = 3 := hml0
  have hown : s.vm.findClass "com/example/slim_kripke/slimkripke/bdd/BddManager" = some m.cls := findClass_of_methodNamed Bd.named
  have X0 : Stand p l e (rom 2 0 0 37) s m _ _ _ _ _ [] 0 0 := Stand.of_body Bd
  have e0 : s₁.heap = h0 := by rw [← hh, Bd.state]; rfl
  have N0 := Fr.nil n0
  have K0 : Keep h0 h0 [] := Keep.refl _ _
  have pre0 : Go p e below s₁ _ (mkF m 0 #[(vr oa), (vi 2), (vi 2)] []) _ := fun t k => castTop (ef_24t m oa) k
  have pre1 : Go p e below s₁ _ (mkF m 1 #[(vr oa), (vi 2), (vi 2)] [(.ref oa)]) _ := fun t k => pre0 t (by
    refine XS.aloadN X0.here hx rfl (hb hby d24_0) rfl rfl ?_
    exact k)
  obtain ⟨cq2, q2, q2'⟩ := B0.e.cell
  obtain ⟨_, _, ⟨T2, L2, k2, n2⟩, -, X2, ⟨Lc2, hQ2, l2, y2, z2⟩, st2⟩ := X0.privateBack hx (y := Nm_14) hown (mq hZ hw 94 rfl) (mq hZ hw 95 rfl) (own_seli (mq hZ hw 2 rfl) (pq hZ hw 96 rfl) (mq hZ hw 95 rfl) (by decide)) (pq hZ hw 96 rfl) (mq hZ hw 97 rfl) (by decide) (backOf (W := 0) (rm14 l Z a0 hw []  h0 n0 B0.z B0 hfc) hZ (wq hw 97 rfl) (wq hw 3 rfl) (by decide) (by decide)) (g := (mkF m 1 #[(vr oa), (vi 2), (vi 2)] [(.ref oa)])) rfl (by rw [hml]; rfl) (Steps.refl _) (a := oa) (by rw [e0]; exact q2) q2' (argsL := []) (rest := []) (lenOf pd___V rfl) rfl (w00 rfl) (hb hby d24_1) (fun _ _ => ⟨rfl, e0, zz, zz⟩)
  dsimp only [Pt.U, Pt.locs, Pt.cells, Pt.slots] at X2 l2 y2 z2 st2 hQ2
  subst y2 z2
  obtain ⟨rfl, Nq2, Bq2⟩ := hQ2
  have N2 := FrE l2 N0 Nq2
  have B2 : Mg Z n0 T2.heap oa _ _ _ _ _ _ _ _ _ _ xn xs xff xfc 0 0 xli xpk xlv xlo xhi xrf xch xbk xca xcf xpe := Bq2
  have pre3 := Go.trn pre1 st2
  have pre4 : Go p e below T2 _ (mkF m 8 #[(vr oa), (vi 2), (vi 2)] [(.int 2), (.int 2), (.int 0), (.ref oa)]) _ := fun t k => pre3 t (by
    refine XS.aloadN X2.here hx rfl (hb hby d24_4) rfl rfl ?_
    refine XS.iconst X2.here hx rfl (hb hby d24_5) ?_
    refine XS.iloadN X2.here hx rfl (hb hby d24_6) rfl ?_
    refine XS.iloadN X2.here hx rfl (hb hby d24_7) rfl ?_
    exact k)
  obtain ⟨cq5, q5, q5'⟩ := B2.e.cell
  obtain ⟨_, _, ⟨T5, L5, k5, n5⟩, -, X5, ⟨Lc5, hQ5, l5, y5, z5⟩, st5⟩ := X2.privateBack hx (y := Nm_38) hown (mq hZ hw 152 rfl) (mq hZ hw 153 rfl) (own_seli (mq hZ hw 2 rfl) (pq hZ hw 154 rfl) (mq hZ hw 153 rfl) (by decide)) (pq hZ hw 154 rfl) (mq hZ hw 155 rfl) (by decide) (backOf (W := 0) (rm25t l Z a0 hw [] (2 : Int32) (2 : Int32) T2.heap n0 B2.z B2 (by decide)) hZ (wq hw 155 rfl) (wq hw 3 rfl) (by decide) (by decide)) (g := (mkF m 8 #[(vr oa), (vi 2), (vi 2)] [(.int 2), (.int 2), (.int 0), (.ref oa)])) rfl (by rw [hml]; rfl) (Steps.refl _) (a := oa) q5 q5' (argsL := [(.int 0), (.int 2), (.int 2)]) (rest := []) (lenOf pd__III_I rfl) rfl (w00 rfl) (hb hby d24_8) (fun _ _ => ⟨rfl, rfl, zz, zz⟩)
  dsimp only [Pt.U, Pt.locs, Pt.cells, Pt.slots] at X5 l5 y5 z5 st5 hQ5
  subst y5 z5
  obtain ⟨rfl, Nq5, e5⟩ := hQ5
  have N5 := FrE l5 N2 Nq5
  have pre6 : Go p e below T5 _ (mkF m 11 #[(vr oa), (vi 2), (vi 2)] [(.int 2)]) _ := fun t k => pre4 t ((st5).trans k)
  obtain ⟨fs, hr, hrun, hended, hW, hsame⟩ := X5.leave (v := some (.int 2)) (fun h => by rw [Bd.returns] at h; cases h)
  refine ⟨_, _, ?_, hrun, hended, _, _, rfl, ?_, ⟨_, rfl⟩, hW, hsame.mono (by decide) (by decide)⟩
  · exact pre6 _ (retI X5 hx Bd.returns (hb hby d24_11) hr)
  · show QB _ _ _ _ T5.heap _
    rw [e5]
    exact ⟨rfl, N5, B2⟩
theorem d32_0 : DK cd32 0 (.iload_n 1) 1 := by decide +kernel
theorem d32_1 : DK cd32 1 (.iconst 1) 1 := by decide +kernel
theorem d32_2 : DK cd32 2 (.if_icmp .gt 7) 3 := by decide +kernel
theorem d32_5 : DK cd32 5 (.iload_n 1) 1 := by decide +kernel
theorem d32_6 : DK cd32 6 (.iconst 1) 1 := by decide +kernel
theorem d32_7 : DK cd32 7 .ixor 1 := by decide +kernel
theorem d32_8 : DK cd32 8 .ireturn 1 := by decide +kernel
theorem pn_32 : plainName "com/example/slim_kripke/slimkripke/bdd/BddManager" = true := by first | (simp [plainName, overriddenIn]; done) | decide +kernel
theorem ef_32t (m : MethodId) (x0 : Addr) (x1 : Int32) : entryFrame m #[(.ref x0), (.int x1)] 5 = mkF m 0 #[.val (.ref x0), .val (.int x1), .unset, .unset, .unset] [] := by first | (simp [entryFrame, mkF, argsToLocals, Value.category]; done) | rfl
theorem rm32t (l : Launch) (Z : State) (a0 : Array Value) (hw : ∀ d ∈ tables_1, d.before a0 Z = true) (ws : List Jvm.Cond) {oa qcs qcf qpe qlv qlo qhi qrf qch qbk qca : Addr} {xn xs xff xfc xdp xcz xli xpk : Int32} {xlv xlo xhi xrf xch xbk xca xcf xpe : Int32 → Int32} (p1 : Int32) (h0 : Heap) (n0 : Nat) (Z0 : n0 ≤ h0.size) (B0 : Mg Z n0 h0 oa qcs qcf qpe qlv qlo qhi qrf qch qbk qca xn xs xff xfc xdp xcz xli xpk xlv xlo xhi xrf xch xbk xca xcf xpe) (hp1 : ¬ 1 < p1) :
    Met1 l Nm_41 (Jvm.Cond.code Nm_41 prog_5_method_35_code 5 (some .int)) ws (rom 0 0 0 0) #[(.ref oa), (.int p1)] Z h0 (QP (some (.int (p1 ^^^ 1))) h0 n0) := by
  refine MetFree.of_bodySF (plainFor_of_name pn_32) hisR ?_
  intro p e s m args below meth c s₁ Bd hml0 hP hK
  obtain ⟨rfl, hZ, hh⟩ := hP
  have hx := Bd.exec
  have hby := Bd.bytes
  have hml : c.maxLocals = 5 := hml0
  have hown : s.vm.findClass "com/example/slim_kripke/slimkripke/bdd/BddManager" = some m.cls := findClass_of_methodNamed Bd.named
  have X0 : Stand p l e (rom 0 0 0 0) s m _ _ _ _ _ [] 0 0 := Stand.of_body Bd
  have e0 : s₁.heap = h0 := by rw [← hh, Bd.state]; rfl
  have N0 := Fr.nil n0
  have K0 : Keep h0 h0 [] := Keep.refl _ _
  have pre0 : Go p e below s₁ _ (mkF m 0 #[(vr oa), (vi p1), .unset, .unset, .unset] []) _ := fun t k => castTop (ef_32t m oa p1) k
  have pre1 : Go p e below s₁ _ (mkF m 8 #[(vr oa), (vi p1), .unset, .unset, .unset] [(.int (p1 ^^^ (1 : Int32)))]) _ := fun t k => pre0 t (by
    refine XS.iloadN X0.here hx rfl (hb hby d32_0) rfl ?_
    refine XS.iconst X0.here hx rfl (hb hby d32_1) ?_
    refine XS.icmpNo X0.here hx rfl (hb hby d32_2) rfl (flt hp1).2.2.1 ?_
    refine XS.iloadN X0.here hx rfl (hb hby d32_5) rfl ?_
    refine XS.iconst X0.here hx rfl (hb hby d32_6) ?_
    refine XS.ixor X0.here hx rfl (hb hby d32_7) rfl ?_
    exact k)
  obtain ⟨fs, hr, hrun, hended, hW, hsame⟩ := X0.leave (v := some (.int (p1 ^^^ (1 : Int32)))) (fun h => by rw [Bd.returns] at h; cases h)
  refine ⟨_, _, ?_, hrun, hended, _, _, rfl, ?_, ⟨_, rfl⟩, hW, hsame.mono (by decide) (by decide)⟩
  · exact pre1 _ (retI X0 hx Bd.returns (hb hby d32_8) hr)
  · exact ⟨rfl, N0, e0⟩
theorem d32_9 : DK cd32 9 (.aload_n 0) 1 := by decide +kernel
theorem d32_10 : DK cd32 10 (.bipush 6) 2 := by decide +kernel
theorem d32_12 : DK cd32 12 (.iload_n 1) 1 := by decide +kernel
theorem d32_13 : DK cd32 13 (.iconst 0) 1 := by decide +kernel
theorem d32_14 : DK cd32 14 (.iconst 0) 1 := by decide +kernel
theorem d32_15 : DK cd32 15 (.invokevirtual 247) 3 := by decide +kernel
theorem d32_18 : DK cd32 18 (.istore_n 2) 1 := by decide +kernel
theorem d32_19 : DK cd32 19 (.iload_n 2) 1 := by decide +kernel
theorem d32_20 : DK cd32 20 (.iconst (-1)) 1 := by decide +kernel
theorem d32_21 : DK cd32 21 (.if_icmp .ne 23) 3 := by decide +kernel
theorem d32_24 : DK cd32 24 (.aload_n 0) 1 := by decide +kernel
theorem d32_25 : DK cd32 25 (.getfield 251) 3 := by decide +kernel
theorem d32_28 : DK cd32 28 (.aload_n 0) 1 := by decide +kernel
theorem d32_29 : DK cd32 29 (.getfield 42) 3 := by decide +kernel
theorem d32_32 : DK cd32 32 (.if_icmp .ne 12) 3 := by decide +kernel
theorem d32_44 : DK cd32 44 (.iload_n 2) 1 := by decide +kernel
theorem d32_45 : DK cd32 45 (.iconst (-1)) 1 := by decide +kernel
theorem d32_46 : DK cd32 46 (.if_icmp .ne 70) 3 := by decide +kernel
theorem d32_49 : DK cd32 49 (.aload_n 0) 1 := by decide +kernel
theorem d32_50 : DK cd32 50 .dup 1 := by decide +kernel
theorem d32_51 : DK cd32 51 (.getfield 251) 3 := by decide +kernel
theorem d32_54 : DK cd32 54 (.iconst 1) 1 := by decide +kernel
theorem d32_55 : DK cd32 55 .iadd 1 := by decide +kernel
theorem d32_56 : DK cd32 56 (.putfield 251) 3 := by decide +kernel
theorem d32_59 : DK cd32 59 (.aload_n 0) 1 := by decide +kernel
theorem d32_60 : DK cd32 60 (.aload_n 0) 1 := by decide +kernel
theorem d32_61 : DK cd32 61 (.getfield 144) 3 := by decide +kernel
theorem d32_64 : DK cd32 64 (.iload_n 1) 1 := by decide +kernel
theorem d32_65 : DK cd32 65 .iaload 1 := by decide +kernel
theorem d32_66 : DK cd32 66 (.invokevirtual 151) 3 := by decide +kernel
theorem d32_69 : DK cd32 69 (.istore_n 3) 1 := by decide +kernel
theorem d32_70 : DK cd32 70 (.aload_n 0) 1 := by decide +kernel
theorem d32_71 : DK cd32 71 (.aload_n 0) 1 := by decide +kernel
theorem d32_72 : DK cd32 72 (.getfield 141) 3 := by decide +kernel
theorem d32_75 : DK cd32 75 (.iload_n 1) 1 := by decide +kernel
theorem d32_76 : DK cd32 76 .iaload 1 := by decide +kernel
theorem d32_77 : DK cd32 77 (.invokevirtual 151) 3 := by decide +kernel
theorem d32_80 : DK cd32 80 (.istore 4) 2 := by decide +kernel
theorem d32_82 : DK cd32 82 (.aload_n 0) 1 := by decide +kernel
theorem d32_83 : DK cd32 83 .dup 1 := by decide +kernel
theorem d32_84 : DK cd32 84 (.getfield 251) 3 := by decide +kernel
theorem d32_87 : DK cd32 87 (.iconst 1) 1 := by decide +kernel
theorem d32_88 : DK cd32 88 .isub 1 := by decide +kernel
theorem d32_89 : DK cd32 89 (.putfield 251) 3 := by decide +kernel
theorem d32_92 : DK cd32 92 (.aload_n 0) 1 := by decide +kernel
theorem d32_93 : DK cd32 93 (.aload_n 0) 1 := by decide +kernel
theorem d32_94 : DK cd32 94 (.getfield 179) 3 := by decide +kernel
theorem d32_97 : DK cd32 97 (.iload_n 1) 1 := by decide +kernel
theorem d32_98 : DK cd32 98 .iaload 1 := by decide +kernel
theorem d32_99 : DK cd32 99 (.iload_n 3) 1 := by decide +kernel
theorem d32_100 : DK cd32 100 (.iload 4) 2 := by decide +kernel
theorem d32_102 : DK cd32 102 (.invokevirtual 59) 3 := by decide +kernel
theorem d32_105 : DK cd32 105 (.istore_n 2) 1 := by decide +kernel
theorem d32_106 : DK cd32 106 (.aload_n 0) 1 := by decide +kernel
theorem d32_107 : DK cd32 107 (.bipush 6) 2 := by decide +kernel
theorem d32_109 : DK cd32 109 (.iload_n 1) 1 := by decide +kernel
theorem d32_110 : DK cd32 110 (.iconst 0) 1 := by decide +kernel
theorem d32_111 : DK cd32 111 (.iconst 0) 1 := by decide +kernel
theorem d32_112 : DK cd32 112 (.iload_n 2) 1 := by decide +kernel
theorem d32_113 : DK cd32 113 (.invokevirtual 257) 3 := by decide +kernel
theorem d32_116 : DK cd32 116 (.iload_n 2) 1 := by decide +kernel
theorem d32_117 : DK cd32 117 .ireturn 1 := by decide +kernel
theorem ef_32r (m : MethodId) (x0 : Addr) : entryFrame m #[(.ref x0), (.int 2)] 5 = mkF m 0 #[.val (.ref x0), .val (.int 2), .unset, .unset, .unset] [] := by first | (simp [entryFrame, mkF, argsToLocals, Value.category]; done) | rfl
theorem rm32r (l : Launch) (Z : State) (a0 : Array Value) (hw : ∀ d ∈ tables_1, d.before a0 Z = true) (ws : List Jvm.Cond) {oa qcs qcf qpe qlv qlo qhi qrf qch qbk qca : Addr} {xn xs kk xfc xcz xli xpk : Int32} {xlv xlo xhi xrf xch xbk xca xcf xpe : Int32 → Int32} (h0 : Heap) (n0 : Nat) (Z0 : n0 ≤ h0.size) (B0 : Mg Z n0 h0 oa qcs qcf qpe qlv qlo qhi qrf qch qbk qca xn xs kk xfc 0 xcz xli xpk xlv xlo xhi xrf xch xbk xca xcf xpe) (hs : ¬ 0 = xs) (hms : ¬ (xca ((f28 6 2 0 0) + 0)) = 6) (hlo : (xlo 2) = 0) (hhi : (xhi 2) = 1) (hwk : own_walk xlv xlo xhi xch (xlv 2) 1 0 3 (xbk ((f17 (xlv 2) 1 0) &&& 4095))) (hf0 : ¬ xfc = 0) (hk : ¬ kk < 0 ∧ kk < 4096) :
    Met1 l Nm_41 (Jvm.Cond.code Nm_41 prog_5_method_35_code 5 (some .int)) ws (rom 3 0 0 57) #[(.ref oa), (.int 2)] Z h0 (QB (some (.int kk)) n0 (fun h => Mg Z n0 h oa qcs qcf qpe qlv qlo qhi qrf qch qbk qca xn xs (xch kk) (xfc - 1) 0 xcz xli xpk (own_up xlv kk (xlv 2)) (own_up xlo kk 1) (own_up xhi kk 0) (own_up xrf kk 0) (own_up xch kk (xbk ((f17 (xlv 2) 1 0) &&& 4095))) (own_up xbk ((f17 (xlv 2) 1 0) &&& 4095) kk) (own_up (own_up (own_up (own_up (own_up xca ((f28 6 2 0 0) + 0) 6) ((f28 6 2 0 0) + 1) 2) ((f28 6 2 0 0) + 2) 0) ((f28 6 2 0 0) + 3) 0) ((f28 6 2 0 0) + 4) kk) xcf xpe)) := by
  refine MetFree.of_bodySF (plainFor_of_name pn_32) hisR ?_
  intro p e s m args below meth c s₁ Bd hml0 hP hK
  obtain ⟨rfl, hZ, hh⟩ := hP
  have hx := Bd.exec
  have hby := Bd.bytes
  have hml : c.maxLocals = 5 := hml0
  have hown : s.vm.findClass "com/example/slim_kripke/slimkripke/bdd/BddManager" = some m.cls := findClass_of_methodNamed Bd.named
  have X0 : Stand p l e (rom 3 0 0 57) s m _ _ _ _ _ [] 0 0 := Stand.of_body Bd
  have e0 : s₁.heap = h0 := by rw [← hh, Bd.state]; rfl
  have N0 := Fr.nil n0
  have K0 : Keep h0 h0 [] := Keep.refl _ _
  have pre0 : Go p e below s₁ _ (mkF m 0 #[(vr oa), (vi 2), .unset, .unset, .unset] []) _ := fun t k => castTop (ef_32r m oa) k
  have pre1 : Go p e below s₁ _ (mkF m 15 #[(vr oa), (vi 2), .unset, .unset, .unset] [(.int 0), (.int 0), (.int 2), (.int 6), (.ref oa)]) _ := fun t k => pre0 t (by
    refine XS.iloadN X0.here hx rfl (hb hby d32_0) rfl ?_
    refine XS.iconst X0.here hx rfl (hb hby d32_1) ?_
    refine XS.icmpYes X0.here hx rfl (pc0 := 2) (pc' := 9) rfl (hb hby d32_2) rfl (by decide) (by decide) (by decide) ?_
    refine XS.aloadN X0.here hx rfl (hb hby d32_9) rfl rfl ?_
    refine XS.bipush X0.here hx rfl (hb hby d32_10) ?_
    refine XS.iloadN X0.here hx rfl (hb hby d32_12) rfl ?_
    refine XS.iconst X0.here hx rfl (hb hby d32_13) ?_
    refine XS.iconst X0.here hx rfl (hb hby d32_14) ?_
    exact k)
  obtain ⟨cq2, q2, q2'⟩ := B0.e.cell
  obtain ⟨_, _, ⟨T2, L2, k2, n2⟩, -, X2, ⟨Lc2, hQ2, l2, y2, z2⟩, st2⟩ := X0.privateBack hx (y := Nm_18) hown (mq hZ hw 159 rfl) (mq hZ hw 160 rfl) (own_seli (mq hZ hw 2 rfl) (pq hZ hw 161 rfl) (mq hZ hw 160 rfl) (by decide)) (pq hZ hw 161 rfl) (mq hZ hw 162 rfl) (by decide) (backOf (W := 0) (rm27 l Z a0 hw [] (6 : Int32) (2 : Int32) (0 : Int32) (0 : Int32) h0 n0 B0.z B0 hms) hZ (wq hw 162 rfl) (wq hw 3 rfl) (by decide) (by decide)) (g := (mkF m 15 #[(vr oa), (vi 2), .unset, .unset, .unset] [(.int 0), (.int 0), (.int 2), (.int 6), (.ref oa)])) rfl (by rw [hml]; rfl) (Steps.refl _) (a := oa) (by rw [e0]; exact q2) q2' (argsL := [(.int 6), (.int 2), (.int 0), (.int 0)]) (rest := []) (lenOf pd__IIII_I rfl) rfl (w00 rfl) (hb hby d32_15) (fun _ _ => ⟨rfl, e0, zz, zz⟩)
  dsimp only [Pt.U, Pt.locs, Pt.cells, Pt.slots] at X2 l2 y2 z2 st2 hQ2
  subst y2 z2
  obtain ⟨rfl, Nq2, e2⟩ := hQ2
  have N2 := FrE l2 N0 Nq2
  have pre3 := Go.trn pre1 st2
  have pre4 : Go p e below T2 _ (mkF m 25 #[(vr oa), (vi 2), (vi (-1)), .unset, .unset] [(.ref oa)]) _ := fun t k => pre3 t (by
    refine XS.istoreN X2.here hx rfl (hb hby d32_18) rfl (l' := #[(vr oa), (vi 2), (vi (-1)), .unset, .unset]) rfl ?_
    refine XS.iloadN X2.here hx rfl (hb hby d32_19) rfl ?_
    refine XS.iconst X2.here hx rfl (hb hby d32_20) ?_
    refine XS.icmpNo X2.here hx rfl (hb hby d32_21) rfl (by decide) ?_
    refine XS.aloadN X2.here hx rfl (hb hby d32_24) rfl rfl ?_
    exact k)
  obtain ⟨T5, X5, e5, st5⟩ := getF X2 hx hZ hown (host := "") (Or.inl (wq hw 98 rfl)) Via.refl e2 B0.f_dp (g := (mkF m 25 #[(vr oa), (vi 2), (vi (-1)), .unset, .unset] [(.ref oa)])) rfl rfl (hb hby d32_25)
  have pre6 := Go.thn pre4 st5
  have pre7 : Go p e below T5 _ (mkF m 29 #[(vr oa), (vi 2), (vi (-1)), .unset, .unset] [(.ref oa), (.int 0)]) _ := fun t k => pre6 t (by
    refine XS.aloadN X5.here hx rfl (hb hby d32_28) rfl rfl ?_
    exact k)
  obtain ⟨T8, X8, e8, st8⟩ := getF X5 hx hZ hown (host := "") (Or.inl (wq hw 30 rfl)) Via.refl e5 B0.f_s (g := (mkF m 29 #[(vr oa), (vi 2), (vi (-1)), .unset, .unset] [(.ref oa), (.int 0)])) rfl rfl (hb hby d32_29)
  have pre9 := Go.thn pre7 st8
  have pre10 : Go p e below T8 _ (mkF m 51 #[(vr oa), (vi 2), (vi (-1)), .unset, .unset] [(.ref oa), (.ref oa)]) _ := fun t k => pre9 t (by
    refine XS.icmpYes X8.here hx rfl (pc0 := 32) (pc' := 44) rfl (hb hby d32_32) rfl (feq hs).2 (by decide) (by decide) ?_
    refine XS.iloadN X8.here hx rfl (hb hby d32_44) rfl ?_
    refine XS.iconst X8.here hx rfl (hb hby d32_45) ?_
    refine XS.icmpNo X8.here hx rfl (hb hby d32_46) rfl (by decide) ?_
    refine XS.aloadN X8.here hx rfl (hb hby d32_49) rfl rfl ?_
    refine XS.dup X8.here hx rfl (hb hby d32_50) rfl rfl ?_
    exact k)
  obtain ⟨T11, X11, e11, st11⟩ := getF X8 hx hZ hown (host := "") (Or.inl (wq hw 98 rfl)) Via.refl e8 B0.f_dp (g := (mkF m 51 #[(vr oa), (vi 2), (vi (-1)), .unset, .unset] [(.ref oa), (.ref oa)])) rfl rfl (hb hby d32_51)
  have pre12 := Go.thn pre10 st11
  have pre13 : Go p e below T11 _ (mkF m 56 #[(vr oa), (vi 2), (vi (-1)), .unset, .unset] [(.int 1), (.ref oa)]) _ := fun t k => pre12 t (by
    refine XS.iconst X11.here hx rfl (hb hby d32_54) ?_
    refine XS.iadd X11.here hx rfl (hb hby d32_55) rfl ?_
    exact k)
  obtain ⟨T14, h14, X14, e14, W14, st14⟩ := putF X11 hx hZ hown (host := "") (Or.inl (wq hw 98 rfl)) Via.refl e11 B0.f_dp B0.e (Or.inl (wq hw 99 rfl)) (wq hw 2 rfl) (ty := .int) (by decide) rfl rfl (g := (mkF m 56 #[(vr oa), (vi 2), (vi (-1)), .unset, .unset] [(.int 1), (.ref oa)])) rfl rfl (hb hby d32_56)
  have N14 := Fr.snoc X14 N2 B0.g0
  have B14 := B0.w_dp hw W14
  have pre15 := Go.thn pre13 st14
  have pre16 : Go p e below T14 _ (mkF m 61 #[(vr oa), (vi 2), (vi (-1)), .unset, .unset] [(.ref oa), (.ref oa)]) _ := fun t k => pre15 t (by
    refine XS.aloadN X14.here hx rfl (hb hby d32_59) rfl rfl ?_
    refine XS.aloadN X14.here hx rfl (hb hby d32_60) rfl rfl ?_
    exact k)
  obtain ⟨T17, X17, e17, st17⟩ := getF X14 hx hZ hown (host := "") (Or.inl (wq hw 38 rfl)) Via.refl e14 B14.f_lo (g := (mkF m 61 #[(vr oa), (vi 2), (vi (-1)), .unset, .unset] [(.ref oa), (.ref oa)])) rfl rfl (hb hby d32_61)
  have pre18 := Go.thn pre16 st17
  have pre19 : Go p e below T17 _ (mkF m 65 #[(vr oa), (vi 2), (vi (-1)), .unset, .unset] [(.int 2), (.ref qlo), (.ref oa)]) _ := fun t k => pre18 t (by
    refine XS.iloadN X17.here hx rfl (hb hby d32_64) rfl ?_
    exact k)
  obtain ⟨cl20, Ar20, Sz20, Mn20, Hs20⟩ := id B14.a_lo
  have ib20 : ¬ (2 : Int32) < 0 ∧ (2 : Int32) < 4096 := ⟨by decide, by decide⟩
  have hat20 : cl20.slots[((2 : Int32)).toNatClampNeg]? = some (.int (xlo 2)) := Hs20 (2 : Int32) ib20
  have pre21 : Go p e below T17 _ (mkF m 66 #[(vr oa), (vi 2), (vi (-1)), .unset, .unset] [(.int (xlo 2)), (.ref oa)]) _ := fun t k => pre19 t (by
    show Steps p.tables e below (T17.setTop (mkF m 65 #[(vr oa), (vi 2), (vi (-1)), .unset, .unset] [(.int 2), (.ref qlo), (.ref oa)])) _
    refine X17.iaload hx (j := (2 : Int32)) (v := (.int (xlo 2))) (by rw [e17]; exact Ar20.1) (State.isArrayOf_alike hZ.alike Ar20.2.1) Ar20.2.2 (inb_of Sz20 ib20) hat20 (g := (mkF m 65 #[(vr oa), (vi 2), (vi (-1)), .unset, .unset] [(.int 2), (.ref qlo), (.ref oa)])) rfl rfl (hb hby d32_65) _ ?_
    exact k)
  have pre22 : Go p e below T17 _ (mkF m 66 #[(vr oa), (vi 2), (vi (-1)), .unset, .unset] [(.int 0), (.ref oa)]) _ := fun t k => pre21 t (by
    show Steps p.tables e below (T17.setTop (mkF m 66 #[(vr oa), (vi 2), (vi (-1)), .unset, .unset] [(.int (xlo 2)), (.ref oa)])) _
    rw [hlo]
    exact k)
  obtain ⟨cq23, q23, q23'⟩ := B14.e.cell
  obtain ⟨_, _, ⟨T23, L23, k23, n23⟩, -, X23, ⟨Lc23, hQ23, l23, y23, z23⟩, st23⟩ := X17.privateBack hx (y := Nm_41) hown (mq hZ hw 181 rfl) (mq hZ hw 182 rfl) (own_seli (mq hZ hw 2 rfl) (pq hZ hw 183 rfl) (mq hZ hw 182 rfl) (by decide)) (pq hZ hw 183 rfl) (mq hZ hw 184 rfl) (by decide) (backOf (W := 0) (rm32t l Z a0 hw [] (0 : Int32) h14 n0 B14.z B14 (by decide)) hZ (wq hw 184 rfl) (wq hw 3 rfl) (by decide) (by decide)) (g := (mkF m 66 #[(vr oa), (vi 2), (vi (-1)), .unset, .unset] [(.int 0), (.ref oa)])) rfl (by rw [hml]; rfl) (Steps.refl _) (a := oa) (by rw [e17]; exact q23) q23' (argsL := [(.int 0)]) (rest := []) (lenOf pd__I_I rfl) rfl (w00 rfl) (hb hby d32_66) (fun _ _ => ⟨rfl, e17, zz, zz⟩)
  dsimp only [Pt.U, Pt.locs, Pt.cells, Pt.slots] at X23 l23 y23 z23 st23 hQ23
  subst y23 z23
  obtain ⟨rfl, Nq23, e23⟩ := hQ23
  have N23 := FrE l23 N14 Nq23
  have pre24 : Go p e below T23 _ (mkF m 69 #[(vr oa), (vi 2), (vi (-1)), .unset, .unset] [(.int 1)]) _ := fun t k => pre22 t ((st23).trans k)
  have pre25 : Go p e below T23 _ (mkF m 72 #[(vr oa), (vi 2), (vi (-1)), (vi 1), .unset] [(.ref oa), (.ref oa)]) _ := fun t k => pre24 t (by
    refine XS.istoreN X23.here hx rfl (hb hby d32_69) rfl (l' := #[(vr oa), (vi 2), (vi (-1)), (vi 1), .unset]) rfl ?_
    refine XS.aloadN X23.here hx rfl (hb hby d32_70) rfl rfl ?_
    refine XS.aloadN X23.here hx rfl (hb hby d32_71) rfl rfl ?_
    exact k)
  obtain ⟨T26, X26, e26, st26⟩ := getF X23 hx hZ hown (host := "") (Or.inl (wq hw 40 rfl)) Via.refl e23 B14.f_hi (g := (mkF m 72 #[(vr oa), (vi 2), (vi (-1)), (vi 1), .unset] [(.ref oa), (.ref oa)])) rfl rfl (hb hby d32_72)
  have pre27 := Go.thn pre25 st26
  have pre28 : Go p e below T26 _ (mkF m 76 #[(vr oa), (vi 2), (vi (-1)), (vi 1), .unset] [(.int 2), (.ref qhi), (.ref oa)]) _ := fun t k => pre27 t (by
    refine XS.iloadN X26.here hx rfl (hb hby d32_75) rfl ?_
    exact k)
  obtain ⟨cl29, Ar29, Sz29, Mn29, Hs29⟩ := id B14.a_hi
  have ib29 : ¬ (2 : Int32) < 0 ∧ (2 : Int32) < 4096 := ⟨by decide, by decide⟩
  have hat29 : cl29.slots[((2 : Int32)).toNatClampNeg]? = some (.int (xhi 2)) := Hs29 (2 : Int32) ib29
  have pre30 : Go p e below T26 _ (mkF m 77 #[(vr oa), (vi 2), (vi (-1)), (vi 1), .unset] [(.int (xhi 2)), (.ref oa)]) _ := fun t k => pre28 t (by
    show Steps p.tables e below (T26.setTop (mkF m 76 #[(vr oa), (vi 2), (vi (-1)), (vi 1), .unset] [(.int 2), (.ref qhi), (.ref oa)])) _
    refine X26.iaload hx (j := (2 : Int32)) (v := (.int (xhi 2))) (by rw [e26]; exact Ar29.1) (State.isArrayOf_alike hZ.alike Ar29.2.1) Ar29.2.2 (inb_of Sz29 ib29) hat29 (g := (mkF m 76 #[(vr oa), (vi 2), (vi (-1)), (vi 1), .unset] [(.int 2), (.ref qhi), (.ref oa)])) rfl rfl (hb hby d32_76) _ ?_
    exact k)
  have pre31 : Go p e below T26 _ (mkF m 77 #[(vr oa), (vi 2), (vi (-1)), (vi 1), .unset] [(.int 1), (.ref oa)]) _ := fun t k => pre30 t (by
    show Steps p.tables e below (T26.setTop (mkF m 77 #[(vr oa), (vi 2), (vi (-1)), (vi 1), .unset] [(.int (xhi 2)), (.ref oa)])) _
    rw [hhi]
    exact k)
  obtain ⟨cq32, q32, q32'⟩ := B14.e.cell
  obtain ⟨_, _, ⟨T32, L32, k32, n32⟩, -, X32, ⟨Lc32, hQ32, l32, y32, z32⟩, st32⟩ := X26.privateBack hx (y := Nm_41) hown (mq hZ hw 181 rfl) (mq hZ hw 182 rfl) (own_seli (mq hZ hw 2 rfl) (pq hZ hw 183 rfl) (mq hZ hw 182 rfl) (by decide)) (pq hZ hw 183 rfl) (mq hZ hw 184 rfl) (by decide) (backOf (W := 0) (rm32t l Z a0 hw [] (1 : Int32) h14 n0 B14.z B14 (by decide)) hZ (wq hw 184 rfl) (wq hw 3 rfl) (by decide) (by decide)) (g := (mkF m 77 #[(vr oa), (vi 2), (vi (-1)), (vi 1), .unset] [(.int 1), (.ref oa)])) rfl (by rw [hml]; rfl) (Steps.refl _) (a := oa) (by rw [e26]; exact q32) q32' (argsL := [(.int 1)]) (rest := []) (lenOf pd__I_I rfl) rfl (w00 rfl) (hb hby d32_77) (fun _ _ => ⟨rfl, e26, zz, zz⟩)
  dsimp only [Pt.U, Pt.locs, Pt.cells, Pt.slots] at X32 l32 y32 z32 st32 hQ32
  subst y32 z32
  obtain ⟨rfl, Nq32, e32⟩ := hQ32
  have N32 := FrE l32 N23 Nq32
  have pre33 : Go p e below T32 _ (mkF m 80 #[(vr oa), (vi 2), (vi (-1)), (vi 1), .unset] [(.int 0)]) _ := fun t k => pre31 t ((st32).trans k)
  have pre34 : Go p e below T32 _ (mkF m 84 #[(vr oa), (vi 2), (vi (-1)), (vi 1), (vi 0)] [(.ref oa), (.ref oa)]) _ := fun t k => pre33 t (by
    refine XS.istore X32.here hx rfl (hb hby d32_80) rfl (l' := #[(vr oa), (vi 2), (vi (-1)), (vi 1), (vi 0)]) rfl ?_
    refine XS.aloadN X32.here hx rfl (hb hby d32_82) rfl rfl ?_
    refine XS.dup X32.here hx rfl (hb hby d32_83) rfl rfl ?_
    exact k)
  obtain ⟨T35, X35, e35, st35⟩ := getF X32 hx hZ hown (host := "") (Or.inl (wq hw 98 rfl)) Via.refl e32 B14.f_dp (g := (mkF m 84 #[(vr oa), (vi 2), (vi (-1)), (vi 1), (vi 0)] [(.ref oa), (.ref oa)])) rfl rfl (hb hby d32_84)
  have pre36 := Go.thn pre34 st35
  have pre37 : Go p e below T35 _ (mkF m 89 #[(vr oa), (vi 2), (vi (-1)), (vi 1), (vi 0)] [(.int 0), (.ref oa)]) _ := fun t k => pre36 t (by
    refine XS.iconst X35.here hx rfl (hb hby d32_87) ?_
    refine XS.isub X35.here hx rfl (hb hby d32_88) rfl ?_
    exact k)
  obtain ⟨T38, h38, X38, e38, W38, st38⟩ := putF X35 hx hZ hown (host := "") (Or.inl (wq hw 98 rfl)) Via.refl e35 B14.f_dp B14.e (Or.inl (wq hw 99 rfl)) (wq hw 2 rfl) (ty := .int) (by decide) rfl rfl (g := (mkF m 89 #[(vr oa), (vi 2), (vi (-1)), (vi 1), (vi 0)] [(.int 0), (.ref oa)])) rfl rfl (hb hby d32_89)
  have N38 := Fr.snoc X38 N32 B14.g0
  have B38 := B14.w_dp hw W38
  have pre39 := Go.thn pre37 st38
  have pre40 : Go p e below T38 _ (mkF m 94 #[(vr oa), (vi 2), (vi (-1)), (vi 1), (vi 0)] [(.ref oa), (.ref oa)]) _ := fun t k => pre39 t (by
    refine XS.aloadN X38.here hx rfl (hb hby d32_92) rfl rfl ?_
    refine XS.aloadN X38.here hx rfl (hb hby d32_93) rfl rfl ?_
    exact k)
  obtain ⟨T41, X41, e41, st41⟩ := getF X38 hx hZ hown (host := "") (Or.inl (wq hw 36 rfl)) Via.refl e38 B38.f_lv (g := (mkF m 94 #[(vr oa), (vi 2), (vi (-1)), (vi 1), (vi 0)] [(.ref oa), (.ref oa)])) rfl rfl (hb hby d32_94)
  have pre42 := Go.thn pre40 st41
  have pre43 : Go p e below T41 _ (mkF m 98 #[(vr oa), (vi 2), (vi (-1)), (vi 1), (vi 0)] [(.int 2), (.ref qlv), (.ref oa)]) _ := fun t k => pre42 t (by
    refine XS.iloadN X41.here hx rfl (hb hby d32_97) rfl ?_
    exact k)
  obtain ⟨cl44, Ar44, Sz44, Mn44, Hs44⟩ := id B38.a_lv
  have ib44 : ¬ (2 : Int32) < 0 ∧ (2 : Int32) < 4096 := ⟨by decide, by decide⟩
  have hat44 : cl44.slots[((2 : Int32)).toNatClampNeg]? = some (.int (xlv 2)) := Hs44 (2 : Int32) ib44
  have pre45 : Go p e below T41 _ (mkF m 99 #[(vr oa), (vi 2), (vi (-1)), (vi 1), (vi 0)] [(.int (xlv 2)), (.ref oa)]) _ := fun t k => pre43 t (by
    show Steps p.tables e below (T41.setTop (mkF m 98 #[(vr oa), (vi 2), (vi (-1)), (vi 1), (vi 0)] [(.int 2), (.ref qlv), (.ref oa)])) _
    refine X41.iaload hx (j := (2 : Int32)) (v := (.int (xlv 2))) (by rw [e41]; exact Ar44.1) (State.isArrayOf_alike hZ.alike Ar44.2.1) Ar44.2.2 (inb_of Sz44 ib44) hat44 (g := (mkF m 98 #[(vr oa), (vi 2), (vi (-1)), (vi 1), (vi 0)] [(.int 2), (.ref qlv), (.ref oa)])) rfl rfl (hb hby d32_98) _ ?_
    exact k)
  have pre46 : Go p e below T41 _ (mkF m 102 #[(vr oa), (vi 2), (vi (-1)), (vi 1), (vi 0)] [(.int 0), (.int 1), (.int (xlv 2)), (.ref oa)]) _ := fun t k => pre45 t (by
    refine XS.iloadN X41.here hx rfl (hb hby d32_99) rfl ?_
    refine XS.iload X41.here hx rfl (hb hby d32_100) rfl ?_
    exact k)
  obtain ⟨cq47, q47, q47'⟩ := B38.e.cell
  obtain ⟨_, _, ⟨T47, L47, k47, n47⟩, -, X47, ⟨Lc47, hQ47, l47, y47, z47⟩, st47⟩ := X41.privateBack hx (y := Nm_25) hown (mq hZ hw 107 rfl) (mq hZ hw 108 rfl) (own_seli (mq hZ hw 2 rfl) (pq hZ hw 109 rfl) (mq hZ hw 108 rfl) (by decide)) (pq hZ hw 109 rfl) (mq hZ hw 110 rfl) (by decide) (backOf (W := 0) (rm16n l Z a0 hw [] (xlv 2) (1 : Int32) (0 : Int32) h38 n0 B38.z B38 (by decide) hwk hf0 hk) hZ (wq hw 110 rfl) (wq hw 3 rfl) (by decide) (by decide)) (g := (mkF m 102 #[(vr oa), (vi 2), (vi (-1)), (vi 1), (vi 0)] [(.int 0), (.int 1), (.int (xlv 2)), (.ref oa)])) rfl (by rw [hml]; rfl) (Steps.refl _) (a := oa) (by rw [e41]; exact q47) q47' (argsL := [(.int (xlv 2)), (.int 1), (.int 0)]) (rest := []) (lenOf pd__III_I rfl) rfl (w00 rfl) (hb hby d32_102) (fun _ _ => ⟨rfl, e41, zz, zz⟩)
  dsimp only [Pt.U, Pt.locs, Pt.cells, Pt.slots] at X47 l47 y47 z47 st47 hQ47
  subst y47 z47
  obtain ⟨rfl, Nq47, Bq47⟩ := hQ47
  have N47 := FrE l47 N38 Nq47
  have B47 : Mg Z n0 T47.heap oa _ _ _ _ _ _ _ _ _ _ xn xs (xch kk) (xfc - 1) 0 xcz xli xpk (own_up xlv kk (xlv 2)) (own_up xlo kk 1) (own_up xhi kk 0) (own_up xrf kk 0) (own_up xch kk (xbk ((f17 (xlv 2) 1 0) &&& 4095))) (own_up xbk ((f17 (xlv 2) 1 0) &&& 4095) kk) xca xcf xpe := Bq47
  have pre48 := Go.trn pre46 st47
  have pre49 : Go p e below T47 _ (mkF m 113 #[(vr oa), (vi 2), (vi kk), (vi 1), (vi 0)] [(.int kk), (.int 0), (.int 0), (.int 2), (.int 6), (.ref oa)]) _ := fun t k => pre48 t (by
    refine XS.istoreN X47.here hx rfl (hb hby d32_105) rfl (l' := #[(vr oa), (vi 2), (vi kk), (vi 1), (vi 0)]) rfl ?_
    refine XS.aloadN X47.here hx rfl (hb hby d32_106) rfl rfl ?_
    refine XS.bipush X47.here hx rfl (hb hby d32_107) ?_
    refine XS.iloadN X47.here hx rfl (hb hby d32_109) rfl ?_
    refine XS.iconst X47.here hx rfl (hb hby d32_110) ?_
    refine XS.iconst X47.here hx rfl (hb hby d32_111) ?_
    refine XS.iloadN X47.here hx rfl (hb hby d32_112) rfl ?_
    exact k)
  obtain ⟨cq50, q50, q50'⟩ := B47.e.cell
  obtain ⟨_, _, ⟨T50, L50, k50, n50⟩, -, X50, ⟨Lc50, hQ50, l50, y50, z50⟩, st50⟩ := X47.privateBack hx (y := Nm_20) hown (mq hZ hw 172 rfl) (mq hZ hw 173 rfl) (own_seli (mq hZ hw 2 rfl) (pq hZ hw 174 rfl) (mq hZ hw 173 rfl) (by decide)) (pq hZ hw 174 rfl) (mq hZ hw 175 rfl) (by decide) (backOf (W := 0) (rm30 l Z a0 hw [] (6 : Int32) (2 : Int32) (0 : Int32) (0 : Int32) kk T47.heap n0 B47.z B47) hZ (wq hw 175 rfl) (wq hw 3 rfl) (by decide) (by decide)) (g := (mkF m 113 #[(vr oa), (vi 2), (vi kk), (vi 1), (vi 0)] [(.int kk), (.int 0), (.int 0), (.int 2), (.int 6), (.ref oa)])) rfl (by rw [hml]; rfl) (Steps.refl _) (a := oa) q50 q50' (argsL := [(.int 6), (.int 2), (.int 0), (.int 0), (.int kk)]) (rest := []) (lenOf pd__IIIII_V rfl) rfl (w00 rfl) (hb hby d32_113) (fun _ _ => ⟨rfl, rfl, zz, zz⟩)
  dsimp only [Pt.U, Pt.locs, Pt.cells, Pt.slots] at X50 l50 y50 z50 st50 hQ50
  subst y50 z50
  obtain ⟨rfl, Nq50, Bq50⟩ := hQ50
  have N50 := FrE l50 N47 Nq50
  have B50 : Mg Z n0 T50.heap oa _ _ _ _ _ _ _ _ _ _ xn xs (xch kk) (xfc - 1) 0 xcz xli xpk (own_up xlv kk (xlv 2)) (own_up xlo kk 1) (own_up xhi kk 0) (own_up xrf kk 0) (own_up xch kk (xbk ((f17 (xlv 2) 1 0) &&& 4095))) (own_up xbk ((f17 (xlv 2) 1 0) &&& 4095) kk) (own_up (own_up (own_up (own_up (own_up xca ((f28 6 2 0 0) + 0) 6) ((f28 6 2 0 0) + 1) 2) ((f28 6 2 0 0) + 2) 0) ((f28 6 2 0 0) + 3) 0) ((f28 6 2 0 0) + 4) kk) xcf xpe := Bq50
  have pre51 := Go.trn pre49 st50
  have pre52 : Go p e below T50 _ (mkF m 117 #[(vr oa), (vi 2), (vi kk), (vi 1), (vi 0)] [(.int kk)]) _ := fun t k => pre51 t (by
    refine XS.iloadN X50.here hx rfl (hb hby d32_116) rfl ?_
    exact k)
  obtain ⟨fs, hr, hrun, hended, hW, hsame⟩ := X50.leave (v := some (.int kk)) (fun h => by rw [Bd.returns] at h; cases h)
  refine ⟨_, _, ?_, hrun, hended, _, _, rfl, ?_, ⟨_, rfl⟩, hW, hsame.mono (by decide) (by decide)⟩
  · exact pre52 _ (retI X50 hx Bd.returns (hb hby d32_117) hr)
  · show QB _ _ _ _ T50.heap _
    skip
    exact ⟨rfl, N50, B50⟩
theorem d45_0 : DK cd45 0 (.aload_n 0) 1 := by decide +kernel
theorem d45_1 : DK cd45 1 (.getfield 15) 3 := by decide +kernel
theorem d45_4 : DK cd45 4 (.invokevirtual 310) 3 := by decide +kernel
theorem d45_7 : DK cd45 7 (.istore_n 2) 1 := by decide +kernel
theorem d45_8 : DK cd45 8 (.iload_n 1) 1 := by decide +kernel
theorem d45_9 : DK cd45 9 (.istore_n 3) 1 := by decide +kernel
theorem d45_10 : DK cd45 10 (.iconst (-1)) 1 := by decide +kernel
theorem d45_11 : DK cd45 11 (.istore 4) 2 := by decide +kernel
theorem d45_13 : DK cd45 13 (.iload 4) 2 := by decide +kernel
theorem d45_15 : DK cd45 15 (.iconst (-1)) 1 := by decide +kernel
theorem d45_16 : DK cd45 16 (.if_icmp .eq 14) 3 := by decide +kernel
theorem d45_19 : DK cd45 19 (.aload_n 0) 1 := by decide +kernel
theorem d45_20 : DK cd45 20 (.getfield 15) 3 := by decide +kernel
theorem d45_23 : DK cd45 23 (.invokevirtual 310) 3 := by decide +kernel
theorem d45_26 : DK cd45 26 (.iload_n 2) 1 := by decide +kernel
theorem d45_27 : DK cd45 27 (.if_icmp .le 155) 3 := by decide +kernel
theorem d45_30 : DK cd45 30 (.iload 4) 2 := by decide +kernel
theorem d45_32 : DK cd45 32 (.iconst (-1)) 1 := by decide +kernel
theorem d45_33 : DK cd45 33 (.if_icmp .ne 58) 3 := by decide +kernel
theorem d45_36 : DK cd45 36 (.iload_n 3) 1 := by decide +kernel
theorem d45_37 : DK cd45 37 (.iconst 1) 1 := by decide +kernel
theorem d45_38 : DK cd45 38 (.if_icmp .gt 9) 3 := by decide +kernel
theorem d45_41 : DK cd45 41 (.iload_n 3) 1 := by decide +kernel
theorem d45_42 : DK cd45 42 (.iconst 1) 1 := by decide +kernel
theorem d45_43 : DK cd45 43 .ixor 1 := by decide +kernel
theorem d45_44 : DK cd45 44 (.goto 12) 3 := by decide +kernel
theorem d45_47 : DK cd45 47 (.aload_n 0) 1 := by decide +kernel
theorem d45_48 : DK cd45 48 (.bipush 6) 2 := by decide +kernel
theorem d45_50 : DK cd45 50 (.iload_n 3) 1 := by decide +kernel
theorem d45_51 : DK cd45 51 (.iconst 0) 1 := by decide +kernel
theorem d45_52 : DK cd45 52 (.iconst 0) 1 := by decide +kernel
theorem d45_53 : DK cd45 53 (.invokevirtual 247) 3 := by decide +kernel
theorem d45_56 : DK cd45 56 (.istore 4) 2 := by decide +kernel
theorem d45_58 : DK cd45 58 (.iload 4) 2 := by decide +kernel
theorem d45_60 : DK cd45 60 (.iconst (-1)) 1 := by decide +kernel
theorem d45_61 : DK cd45 61 (.if_icmp .ne (-48)) 3 := by decide +kernel
theorem d45_64 : DK cd45 64 (.aload_n 0) 1 := by decide +kernel
theorem d45_65 : DK cd45 65 (.getfield 15) 3 := by decide +kernel
theorem d45_68 : DK cd45 68 (.iload_n 3) 1 := by decide +kernel
theorem d45_69 : DK cd45 69 (.iconst 0) 1 := by decide +kernel
theorem d45_70 : DK cd45 70 (.iconst 0) 1 := by decide +kernel
theorem d45_71 : DK cd45 71 (.aload_n 0) 1 := by decide +kernel
theorem d45_72 : DK cd45 72 (.getfield 179) 3 := by decide +kernel
theorem d45_75 : DK cd45 75 (.iload_n 3) 1 := by decide +kernel
theorem d45_76 : DK cd45 76 .iaload 1 := by decide +kernel
theorem d45_77 : DK cd45 77 (.iconst (-1)) 1 := by decide +kernel
theorem d45_78 : DK cd45 78 (.invokevirtual 313) 3 := by decide +kernel
theorem d45_81 : DK cd45 81 (.aload_n 0) 1 := by decide +kernel
theorem d45_82 : DK cd45 82 (.getfield 144) 3 := by decide +kernel
theorem d45_85 : DK cd45 85 (.iload_n 3) 1 := by decide +kernel
theorem d45_86 : DK cd45 86 .iaload 1 := by decide +kernel
theorem d45_87 : DK cd45 87 (.istore_n 3) 1 := by decide +kernel
theorem d45_88 : DK cd45 88 (.goto (-75)) 3 := by decide +kernel
theorem d45_91 : DK cd45 91 (.aload_n 0) 1 := by decide +kernel
theorem d45_92 : DK cd45 92 (.getfield 15) 3 := by decide +kernel
theorem d45_95 : DK cd45 95 (.invokevirtual 316) 3 := by decide +kernel
theorem d45_98 : DK cd45 98 (.istore 5) 2 := by decide +kernel
theorem d45_100 : DK cd45 100 (.aload_n 0) 1 := by decide +kernel
theorem d45_101 : DK cd45 101 (.getfield 15) 3 := by decide +kernel
theorem d45_104 : DK cd45 104 (.iload 5) 2 := by decide +kernel
theorem d45_106 : DK cd45 106 (.invokevirtual 319) 3 := by decide +kernel
theorem d45_109 : DK cd45 109 (.iconst (-1)) 1 := by decide +kernel
theorem d45_110 : DK cd45 110 (.if_icmp .ne 35) 3 := by decide +kernel
theorem d45_113 : DK cd45 113 (.aload_n 0) 1 := by decide +kernel
theorem d45_114 : DK cd45 114 (.getfield 15) 3 := by decide +kernel
theorem d45_117 : DK cd45 117 (.iload 5) 2 := by decide +kernel
theorem d45_119 : DK cd45 119 (.iload 4) 2 := by decide +kernel
theorem d45_121 : DK cd45 121 (.invokevirtual 322) 3 := by decide +kernel
theorem d45_124 : DK cd45 124 (.aload_n 0) 1 := by decide +kernel
theorem d45_125 : DK cd45 125 (.getfield 141) 3 := by decide +kernel
theorem d45_128 : DK cd45 128 (.aload_n 0) 1 := by decide +kernel
theorem d45_129 : DK cd45 129 (.getfield 15) 3 := by decide +kernel
theorem d45_132 : DK cd45 132 (.iload 5) 2 := by decide +kernel
theorem d45_134 : DK cd45 134 (.invokevirtual 325) 3 := by decide +kernel
theorem d45_137 : DK cd45 137 .iaload 1 := by decide +kernel
theorem d45_138 : DK cd45 138 (.istore_n 3) 1 := by decide +kernel
theorem d45_139 : DK cd45 139 (.iconst (-1)) 1 := by decide +kernel
theorem d45_140 : DK cd45 140 (.istore 4) 2 := by decide +kernel
theorem d45_142 : DK cd45 142 (.goto 37) 3 := by decide +kernel
theorem d45_145 : DK cd45 145 (.aload_n 0) 1 := by decide +kernel
theorem d45_146 : DK cd45 146 (.bipush 6) 2 := by decide +kernel
theorem d45_148 : DK cd45 148 (.iload 5) 2 := by decide +kernel
theorem d45_150 : DK cd45 150 (.aload_n 0) 1 := by decide +kernel
theorem d45_151 : DK cd45 151 (.aload_n 0) 1 := by decide +kernel
theorem d45_152 : DK cd45 152 (.getfield 15) 3 := by decide +kernel
theorem d45_155 : DK cd45 155 (.iload 5) 2 := by decide +kernel
theorem d45_157 : DK cd45 157 (.invokevirtual 328) 3 := by decide +kernel
theorem d45_160 : DK cd45 160 (.aload_n 0) 1 := by decide +kernel
theorem d45_161 : DK cd45 161 (.getfield 15) 3 := by decide +kernel
theorem d45_164 : DK cd45 164 (.iload 5) 2 := by decide +kernel
theorem d45_166 : DK cd45 166 (.invokevirtual 319) 3 := by decide +kernel
theorem d45_169 : DK cd45 169 (.iload 4) 2 := by decide +kernel
theorem d45_171 : DK cd45 171 (.invokevirtual 59) 3 := by decide +kernel
theorem d45_174 : DK cd45 174 (.invokevirtual 329) 3 := by decide +kernel
theorem d45_177 : DK cd45 177 (.istore 4) 2 := by decide +kernel
theorem d45_179 : DK cd45 179 (.goto (-166)) 3 := by decide +kernel
theorem d45_182 : DK cd45 182 (.iload 4) 2 := by decide +kernel
theorem d45_184 : DK cd45 184 .ireturn 1 := by decide +kernel
theorem pn_45 : plainName "com/example/slim_kripke/slimkripke/bdd/BddManager" = true := by first | (simp [plainName, overriddenIn]; done) | decide +kernel
theorem ef_45s (m : MethodId) (x0 : Addr) : entryFrame m #[(.ref x0), (.int 2)] 6 = mkF m 0 #[.val (.ref x0), .val (.int 2), .unset, .unset, .unset, .unset] [] := by first | (simp [entryFrame, mkF, argsToLocals, Value.category]; done) | rfl
theorem rm45s (l : Launch) (Z : State) (a0 : Array Value) (hw : ∀ d ∈ tables_1, d.before a0 Z = true) (ws : List Jvm.Cond) {oa qcs qcf qpe qlv qlo qhi qrf qch qbk qca : Addr} {xn xs kk xfc xdp xli xpk : Int32} {xlv xlo xhi xrf xch xbk xca xcf xpe : Int32 → Int32} (h0 : Heap) (n0 : Nat) (Z0 : n0 ≤ h0.size) (B0 : Mg Z n0 h0 oa qcs qcf qpe qlv qlo qhi qrf qch qbk qca xn xs kk xfc xdp 0 xli xpk xlv xlo xhi xrf xch xbk xca xcf xpe) (hms : ¬ (xca ((f28 6 2 0 0) + 0)) = 6) (hlo : (xlo 2) = 0) (hhi : (xhi 2) = 1) (hwk : own_walk xlv xlo xhi xch (xlv 2) 1 0 3 (xbk ((f17 (xlv 2) 1 0) &&& 4095))) (hf0 : ¬ xfc = 0) (hk : ¬ kk < 0 ∧ kk < 4096) (hkm : ¬ kk = (-1 : Int32)) :
    Met1 l Nm_42 (Jvm.Cond.code Nm_42 prog_5_method_47_code 6 (some .int)) ws (rom 4 0 0 67) #[(.ref oa), (.int 2)] Z h0 (QB (some (.int kk)) n0 (fun h => Mg Z n0 h oa qcs qcf qpe qlv qlo qhi qrf qch qbk qca xn xs (xch kk) (xfc - 1) xdp 0 xli xpk (own_up xlv kk (xlv 2)) (own_up xlo kk 1) (own_up xhi kk 0) (own_up xrf kk 0) (own_up xch kk (xbk ((f17 (xlv 2) 1 0) &&& 4095))) (own_up xbk ((f17 (xlv 2) 1 0) &&& 4095) kk) (own_up (own_up (own_up (own_up (own_up xca ((f28 6 2 0 0) + 0) 6) ((f28 6 2 0 0) + 1) 2) ((f28 6 2 0 0) + 2) 0) ((f28 6 2 0 0) + 3) 0) ((f28 6 2 0 0) + 4) kk) (own_up (own_up (own_up (own_up (own_up (own_up xcf 0 2) 1 0) 2 0) 3 (xlv 2)) 4 (-1 : Int32)) 4 1) xpe)) := by
  refine MetFree.of_bodySF (plainFor_of_name pn_45) hisR ?_
  intro p e s m args below meth c s₁ Bd hml0 hP hK
  obtain ⟨rfl, hZ, hh⟩ := hP
  have hx := Bd.exec
  have hby := Bd.bytes
  have hml : c.maxLocals = 6 := hml0
  have hown : s.vm.findClass "com/example/slim_kripke/slimkripke/bdd/BddManager" = some m.cls := findClass_of_methodNamed Bd.named
  have X0 : Stand p l e (rom 4 0 0 67) s m _ _ _ _ _ [] 0 0 := Stand.of_body Bd
  have e0 : s₁.heap = h0 := by rw [← hh, Bd.state]; rfl
  have N0 := Fr.nil n0
  have K0 : Keep h0 h0 [] := Keep.refl _ _
  have pre0 : Go p e below s₁ _ (mkF m 0 #[(vr oa), (vi 2), .unset, .unset, .unset, .unset] []) _ := fun t k => castTop (ef_45s m oa) k
  have pre1 : Go p e below s₁ _ (mkF m 1 #[(vr oa), (vi 2), .unset, .unset, .unset, .unset] [(.ref oa)]) _ := fun t k => pre0 t (by
    refine XS.aloadN X0.here hx rfl (hb hby d45_0) rfl rfl ?_
    exact k)
  obtain ⟨T2, X2, e2, st2⟩ := getF X0 hx hZ hown (host := "") (Or.inl (wq hw 20 rfl)) Via.refl e0 B0.f_cs (g := (mkF m 1 #[(vr oa), (vi 2), .unset, .unset, .unset, .unset] [(.ref oa)])) rfl rfl (hb hby d45_1)
  have pre3 := Go.thn pre1 st2
  obtain ⟨cq4, kq4, q4a, q4b, q4c⟩ := isOf hZ e2 B0.ec
  obtain ⟨_, _, ⟨T4, L4, k4, n4⟩, -, X4, ⟨Lc4, hQ4, l4, y4, z4⟩, st4⟩ := X2.virtualBack hx (y := Nm_27) (z := Nm_27) hown (mq hZ hw 190 rfl) (mq hZ hw 191 rfl) (notFace_of_selects (args := #[]) (mq hZ hw 193 rfl)) (mq hZ hw 193 rfl) (mq hZ hw 192 rfl) (by decide) (backOf (W := 0) (rm34 l Z a0 hw []  h0 n0 B0.z B0) hZ (wq hw 194 rfl) (wq hw 12 rfl) (by decide) (by decide)) q4a q4c (g := (mkF m 4 #[(vr oa), (vi 2), .unset, .unset, .unset, .unset] [(.ref qcs)])) rfl (by rw [hml]; rfl) (Steps.refl _) (argsL := []) (rest := []) (lenOf pd___I rfl) rfl (w00 rfl) (hb hby d45_4) (fun _ _ => ⟨rfl, e2, zz, zz⟩)
  dsimp only [Pt.U, Pt.locs, Pt.cells, Pt.slots] at X4 l4 y4 z4 st4 hQ4
  subst y4 z4
  obtain ⟨rfl, Nq4, e4⟩ := hQ4
  have N4 := FrE l4 N0 Nq4
  have pre5 : Go p e below T4 _ (mkF m 7 #[(vr oa), (vi 2), .unset, .unset, .unset, .unset] [(.int 0)]) _ := fun t k => pre3 t ((st4).trans k)
  have pre6 : Go p e below T4 _ (mkF m 53 #[(vr oa), (vi 2), (vi 0), (vi 2), (vi (-1)), .unset] [(.int 0), (.int 0), (.int 2), (.int 6), (.ref oa)]) _ := fun t k => pre5 t (by
    refine XS.istoreN X4.here hx rfl (hb hby d45_7) rfl (l' := #[(vr oa), (vi 2), (vi 0), .unset, .unset, .unset]) rfl ?_
    refine XS.iloadN X4.here hx rfl (hb hby d45_8) rfl ?_
    refine XS.istoreN X4.here hx rfl (hb hby d45_9) rfl (l' := #[(vr oa), (vi 2), (vi 0), (vi 2), .unset, .unset]) rfl ?_
    refine XS.iconst X4.here hx rfl (hb hby d45_10) ?_
    refine XS.istore X4.here hx rfl (hb hby d45_11) rfl (l' := #[(vr oa), (vi 2), (vi 0), (vi 2), (vi (-1)), .unset]) rfl ?_
    refine XS.iload X4.here hx rfl (hb hby d45_13) rfl ?_
    refine XS.iconst X4.here hx rfl (hb hby d45_15) ?_
    refine XS.icmpYes X4.here hx rfl (pc0 := 16) (pc' := 30) rfl (hb hby d45_16) rfl (by decide) (by decide) (by decide) ?_
    refine XS.iload X4.here hx rfl (hb hby d45_30) rfl ?_
    refine XS.iconst X4.here hx rfl (hb hby d45_32) ?_
    refine XS.icmpNo X4.here hx rfl (hb hby d45_33) rfl (by decide) ?_
    refine XS.iloadN X4.here hx rfl (hb hby d45_36) rfl ?_
    refine XS.iconst X4.here hx rfl (hb hby d45_37) ?_
    refine XS.icmpYes X4.here hx rfl (pc0 := 38) (pc' := 47) rfl (hb hby d45_38) rfl (by decide) (by decide) (by decide) ?_
    refine XS.aloadN X4.here hx rfl (hb hby d45_47) rfl rfl ?_
    refine XS.bipush X4.here hx rfl (hb hby d45_48) ?_
    refine XS.iloadN X4.here hx rfl (hb hby d45_50) rfl ?_
    refine XS.iconst X4.here hx rfl (hb hby d45_51) ?_
    refine XS.iconst X4.here hx rfl (hb hby d45_52) ?_
    exact k)
  obtain ⟨cq7, q7, q7'⟩ := B0.e.cell
  obtain ⟨_, _, ⟨T7, L7, k7, n7⟩, -, X7, ⟨Lc7, hQ7, l7, y7, z7⟩, st7⟩ := X4.privateBack hx (y := Nm_18) hown (mq hZ hw 159 rfl) (mq hZ hw 160 rfl) (own_seli (mq hZ hw 2 rfl) (pq hZ hw 161 rfl) (mq hZ hw 160 rfl) (by decide)) (pq hZ hw 161 rfl) (mq hZ hw 162 rfl) (by decide) (backOf (W := 0) (rm27 l Z a0 hw [] (6 : Int32) (2 : Int32) (0 : Int32) (0 : Int32) h0 n0 B0.z B0 hms) hZ (wq hw 162 rfl) (wq hw 3 rfl) (by decide) (by decide)) (g := (mkF m 53 #[(vr oa), (vi 2), (vi 0), (vi 2), (vi (-1)), .unset] [(.int 0), (.int 0), (.int 2), (.int 6), (.ref oa)])) rfl (by rw [hml]; rfl) (Steps.refl _) (a := oa) (by rw [e4]; exact q7) q7' (argsL := [(.int 6), (.int 2), (.int 0), (.int 0)]) (rest := []) (lenOf pd__IIII_I rfl) rfl (w00 rfl) (hb hby d45_53) (fun _ _ => ⟨rfl, e4, zz, zz⟩)
  dsimp only [Pt.U, Pt.locs, Pt.cells, Pt.slots] at X7 l7 y7 z7 st7 hQ7
  subst y7 z7
  obtain ⟨rfl, Nq7, e7⟩ := hQ7
  have N7 := FrE l7 N4 Nq7
  have pre8 := Go.trn pre6 st7
  have pre9 : Go p e below T7 _ (mkF m 65 #[(vr oa), (vi 2), (vi 0), (vi 2), (vi (-1)), .unset] [(.ref oa)]) _ := fun t k => pre8 t (by
    refine XS.istore X7.here hx rfl (hb hby d45_56) rfl (l' := #[(vr oa), (vi 2), (vi 0), (vi 2), (vi (-1)), .unset]) rfl ?_
    refine XS.iload X7.here hx rfl (hb hby d45_58) rfl ?_
    refine XS.iconst X7.here hx rfl (hb hby d45_60) ?_
    refine XS.icmpNo X7.here hx rfl (hb hby d45_61) rfl (by decide) ?_
    refine XS.aloadN X7.here hx rfl (hb hby d45_64) rfl rfl ?_
    exact k)
  obtain ⟨T10, X10, e10, st10⟩ := getF X7 hx hZ hown (host := "") (Or.inl (wq hw 20 rfl)) Via.refl e7 B0.f_cs (g := (mkF m 65 #[(vr oa), (vi 2), (vi 0), (vi 2), (vi (-1)), .unset] [(.ref oa)])) rfl rfl (hb hby d45_65)
  have pre11 := Go.thn pre9 st10
  have pre12 : Go p e below T10 _ (mkF m 72 #[(vr oa), (vi 2), (vi 0), (vi 2), (vi (-1)), .unset] [(.ref oa), (.int 0), (.int 0), (.int 2), (.ref qcs)]) _ := fun t k => pre11 t (by
    refine XS.iloadN X10.here hx rfl (hb hby d45_68) rfl ?_
    refine XS.iconst X10.here hx rfl (hb hby d45_69) ?_
    refine XS.iconst X10.here hx rfl (hb hby d45_70) ?_
    refine XS.aloadN X10.here hx rfl (hb hby d45_71) rfl rfl ?_
    exact k)
  obtain ⟨T13, X13, e13, st13⟩ := getF X10 hx hZ hown (host := "") (Or.inl (wq hw 36 rfl)) Via.refl e10 B0.f_lv (g := (mkF m 72 #[(vr oa), (vi 2), (vi 0), (vi 2), (vi (-1)), .unset] [(.ref oa), (.int 0), (.int 0), (.int 2), (.ref qcs)])) rfl rfl (hb hby d45_72)
  have pre14 := Go.thn pre12 st13
  have pre15 : Go p e below T13 _ (mkF m 76 #[(vr oa), (vi 2), (vi 0), (vi 2), (vi (-1)), .unset] [(.int 2), (.ref qlv), (.int 0), (.int 0), (.int 2), (.ref qcs)]) _ := fun t k => pre14 t (by
    refine XS.iloadN X13.here hx rfl (hb hby d45_75) rfl ?_
    exact k)
  obtain ⟨cl16, Ar16, Sz16, Mn16, Hs16⟩ := id B0.a_lv
  have ib16 : ¬ (2 : Int32) < 0 ∧ (2 : Int32) < 4096 := ⟨by decide, by decide⟩
  have hat16 : cl16.slots[((2 : Int32)).toNatClampNeg]? = some (.int (xlv 2)) := Hs16 (2 : Int32) ib16
  have pre17 : Go p e below T13 _ (mkF m 77 #[(vr oa), (vi 2), (vi 0), (vi 2), (vi (-1)), .unset] [(.int (xlv 2)), (.int 0), (.int 0), (.int 2), (.ref qcs)]) _ := fun t k => pre15 t (by
    show Steps p.tables e below (T13.setTop (mkF m 76 #[(vr oa), (vi 2), (vi 0), (vi 2), (vi (-1)), .unset] [(.int 2), (.ref qlv), (.int 0), (.int 0), (.int 2), (.ref qcs)])) _
    refine X13.iaload hx (j := (2 : Int32)) (v := (.int (xlv 2))) (by rw [e13]; exact Ar16.1) (State.isArrayOf_alike hZ.alike Ar16.2.1) Ar16.2.2 (inb_of Sz16 ib16) hat16 (g := (mkF m 76 #[(vr oa), (vi 2), (vi 0), (vi 2), (vi (-1)), .unset] [(.int 2), (.ref qlv), (.int 0), (.int 0), (.int 2), (.ref qcs)])) rfl rfl (hb hby d45_76) _ ?_
    exact k)
  have pre18 : Go p e below T13 _ (mkF m 78 #[(vr oa), (vi 2), (vi 0), (vi 2), (vi (-1)), .unset] [(.int (-1)), (.int (xlv 2)), (.int 0), (.int 0), (.int 2), (.ref qcs)]) _ := fun t k => pre17 t (by
    refine XS.iconst X13.here hx rfl (hb hby d45_77) ?_
    exact k)
  obtain ⟨cq19, kq19, q19a, q19b, q19c⟩ := isOf hZ e13 B0.ec
  obtain ⟨_, _, ⟨T19, L19, k19, n19⟩, -, X19, ⟨Lc19, hQ19, l19, y19, z19⟩, st19⟩ := X13.virtualBack hx (y := Nm_29) (z := Nm_29) hown (mq hZ hw 195 rfl) (mq hZ hw 196 rfl) (notFace_of_selects (args := #[]) (mq hZ hw 198 rfl)) (mq hZ hw 198 rfl) (mq hZ hw 197 rfl) (by decide) (backOf (W := 0) (rm35 l Z a0 hw [] (2 : Int32) (0 : Int32) (0 : Int32) (xlv 2) (-1 : Int32) h0 n0 B0.z B0) hZ (wq hw 199 rfl) (wq hw 12 rfl) (by decide) (by decide)) q19a q19c (g := (mkF m 78 #[(vr oa), (vi 2), (vi 0), (vi 2), (vi (-1)), .unset] [(.int (-1)), (.int (xlv 2)), (.int 0), (.int 0), (.int 2), (.ref qcs)])) rfl (by rw [hml]; rfl) (Steps.refl _) (argsL := [(.int 2), (.int 0), (.int 0), (.int (xlv 2)), (.int (-1))]) (rest := []) (lenOf pd__IIIII_V rfl) rfl (w00 rfl) (hb hby d45_78) (fun _ _ => ⟨rfl, e13, zz, zz⟩)
  dsimp only [Pt.U, Pt.locs, Pt.cells, Pt.slots] at X19 l19 y19 z19 st19 hQ19
  subst y19 z19
  obtain ⟨rfl, Nq19, Bq19⟩ := hQ19
  have N19 := FrE l19 N7 Nq19
  have B19 : Mg Z n0 T19.heap oa _ _ _ _ _ _ _ _ _ _ xn xs kk xfc xdp 1 xli xpk xlv xlo xhi xrf xch xbk xca (own_up (own_up (own_up (own_up (own_up xcf 0 2) 1 0) 2 0) 3 (xlv 2)) 4 (-1 : Int32)) xpe := Bq19
  have pre20 := Go.trn pre18 st19
  have pre21 : Go p e below T19 _ (mkF m 82 #[(vr oa), (vi 2), (vi 0), (vi 2), (vi (-1)), .unset] [(.ref oa)]) _ := fun t k => pre20 t (by
    refine XS.aloadN X19.here hx rfl (hb hby d45_81) rfl rfl ?_
    exact k)
  obtain ⟨T22, X22, e22, st22⟩ := getF X19 hx hZ hown (host := "") (Or.inl (wq hw 38 rfl)) Via.refl rfl B19.f_lo (g := (mkF m 82 #[(vr oa), (vi 2), (vi 0), (vi 2), (vi (-1)), .unset] [(.ref oa)])) rfl rfl (hb hby d45_82)
  have pre23 := Go.thn pre21 st22
  have pre24 : Go p e below T22 _ (mkF m 86 #[(vr oa), (vi 2), (vi 0), (vi 2), (vi (-1)), .unset] [(.int 2), (.ref qlo)]) _ := fun t k => pre23 t (by
    refine XS.iloadN X22.here hx rfl (hb hby d45_85) rfl ?_
    exact k)
  obtain ⟨cl25, Ar25, Sz25, Mn25, Hs25⟩ := id B19.a_lo
  have ib25 : ¬ (2 : Int32) < 0 ∧ (2 : Int32) < 4096 := ⟨by decide, by decide⟩
  have hat25 : cl25.slots[((2 : Int32)).toNatClampNeg]? = some (.int (xlo 2)) := Hs25 (2 : Int32) ib25
  have pre26 : Go p e below T22 _ (mkF m 87 #[(vr oa), (vi 2), (vi 0), (vi 2), (vi (-1)), .unset] [(.int (xlo 2))]) _ := fun t k => pre24 t (by
    show Steps p.tables e below (T22.setTop (mkF m 86 #[(vr oa), (vi 2), (vi 0), (vi 2), (vi (-1)), .unset] [(.int 2), (.ref qlo)])) _
    refine X22.iaload hx (j := (2 : Int32)) (v := (.int (xlo 2))) (by rw [e22]; exact Ar25.1) (State.isArrayOf_alike hZ.alike Ar25.2.1) Ar25.2.2 (inb_of Sz25 ib25) hat25 (g := (mkF m 86 #[(vr oa), (vi 2), (vi 0), (vi 2), (vi (-1)), .unset] [(.int 2), (.ref qlo)])) rfl rfl (hb hby d45_86) _ ?_
    exact k)
  have pre27 : Go p e below T22 _ (mkF m 20 #[(vr oa), (vi 2), (vi 0), (vi 0), (vi 1), .unset] [(.ref oa)]) _ := fun t k => pre26 t (by
    show Steps p.tables e below (T22.setTop (mkF m 87 #[(vr oa), (vi 2), (vi 0), (vi 2), (vi (-1)), .unset] [(.int (xlo 2))])) _
    rw [hlo]
    refine XS.istoreN X22.here hx rfl (hb hby d45_87) rfl (l' := #[(vr oa), (vi 2), (vi 0), (vi 0), (vi (-1)), .unset]) rfl ?_
    refine XS.goto X22.here hx rfl (pc0 := 88) (pc' := 13) rfl (hb hby d45_88) (by decide) (by decide) ?_
    refine XS.iload X22.here hx rfl (hb hby d45_13) rfl ?_
    refine XS.iconst X22.here hx rfl (hb hby d45_15) ?_
    refine XS.icmpYes X22.here hx rfl (pc0 := 16) (pc' := 30) rfl (hb hby d45_16) rfl (by decide) (by decide) (by decide) ?_
    refine XS.iload X22.here hx rfl (hb hby d45_30) rfl ?_
    refine XS.iconst X22.here hx rfl (hb hby d45_32) ?_
    refine XS.icmpNo X22.here hx rfl (hb hby d45_33) rfl (by decide) ?_
    refine XS.iloadN X22.here hx rfl (hb hby d45_36) rfl ?_
    refine XS.iconst X22.here hx rfl (hb hby d45_37) ?_
    refine XS.icmpNo X22.here hx rfl (hb hby d45_38) rfl (by decide) ?_
    refine XS.iloadN X22.here hx rfl (hb hby d45_41) rfl ?_
    refine XS.iconst X22.here hx rfl (hb hby d45_42) ?_
    refine XS.ixor X22.here hx rfl (hb hby d45_43) rfl ?_
    refine XS.goto X22.here hx rfl (pc0 := 44) (pc' := 56) rfl (hb hby d45_44) (by decide) (by decide) ?_
    refine XS.istore X22.here hx rfl (hb hby d45_56) rfl (l' := #[(vr oa), (vi 2), (vi 0), (vi 0), (vi 1), .unset]) rfl ?_
    refine XS.iload X22.here hx rfl (hb hby d45_58) rfl ?_
    refine XS.iconst X22.here hx rfl (hb hby d45_60) ?_
    refine XS.icmpYes X22.here hx rfl (pc0 := 61) (pc' := 13) rfl (hb hby d45_61) rfl (by decide) (by decide) (by decide) ?_
    refine XS.iload X22.here hx rfl (hb hby d45_13) rfl ?_
    refine XS.iconst X22.here hx rfl (hb hby d45_15) ?_
    refine XS.icmpNo X22.here hx rfl (hb hby d45_16) rfl (by decide) ?_
    refine XS.aloadN X22.here hx rfl (hb hby d45_19) rfl rfl ?_
    exact k)
  obtain ⟨T28, X28, e28, st28⟩ := getF X22 hx hZ hown (host := "") (Or.inl (wq hw 20 rfl)) Via.refl e22 B19.f_cs (g := (mkF m 20 #[(vr oa), (vi 2), (vi 0), (vi 0), (vi 1), .unset] [(.ref oa)])) rfl rfl (hb hby d45_20)
  have pre29 := Go.thn pre27 st28
  obtain ⟨cq30, kq30, q30a, q30b, q30c⟩ := isOf hZ e28 B19.ec
  obtain ⟨_, _, ⟨T30, L30, k30, n30⟩, -, X30, ⟨Lc30, hQ30, l30, y30, z30⟩, st30⟩ := X28.virtualBack hx (y := Nm_27) (z := Nm_27) hown (mq hZ hw 190 rfl) (mq hZ hw 191 rfl) (notFace_of_selects (args := #[]) (mq hZ hw 193 rfl)) (mq hZ hw 193 rfl) (mq hZ hw 192 rfl) (by decide) (backOf (W := 0) (rm34 l Z a0 hw []  T19.heap n0 B19.z B19) hZ (wq hw 194 rfl) (wq hw 12 rfl) (by decide) (by decide)) q30a q30c (g := (mkF m 23 #[(vr oa), (vi 2), (vi 0), (vi 0), (vi 1), .unset] [(.ref qcs)])) rfl (by rw [hml]; rfl) (Steps.refl _) (argsL := []) (rest := []) (lenOf pd___I rfl) rfl (w00 rfl) (hb hby d45_23) (fun _ _ => ⟨rfl, e28, zz, zz⟩)
  dsimp only [Pt.U, Pt.locs, Pt.cells, Pt.slots] at X30 l30 y30 z30 st30 hQ30
  subst y30 z30
  obtain ⟨rfl, Nq30, e30⟩ := hQ30
  have N30 := FrE l30 N19 Nq30
  have pre31 : Go p e below T30 _ (mkF m 26 #[(vr oa), (vi 2), (vi 0), (vi 0), (vi 1), .unset] [(.int 1)]) _ := fun t k => pre29 t ((st30).trans k)
  have pre32 : Go p e below T30 _ (mkF m 92 #[(vr oa), (vi 2), (vi 0), (vi 0), (vi 1), .unset] [(.ref oa)]) _ := fun t k => pre31 t (by
    refine XS.iloadN X30.here hx rfl (hb hby d45_26) rfl ?_
    refine XS.icmpNo X30.here hx rfl (hb hby d45_27) rfl (by decide) ?_
    refine XS.iload X30.here hx rfl (hb hby d45_30) rfl ?_
    refine XS.iconst X30.here hx rfl (hb hby d45_32) ?_
    refine XS.icmpYes X30.here hx rfl (pc0 := 33) (pc' := 91) rfl (hb hby d45_33) rfl (by decide) (by decide) (by decide) ?_
    refine XS.aloadN X30.here hx rfl (hb hby d45_91) rfl rfl ?_
    exact k)
  obtain ⟨T33, X33, e33, st33⟩ := getF X30 hx hZ hown (host := "") (Or.inl (wq hw 20 rfl)) Via.refl e30 B19.f_cs (g := (mkF m 92 #[(vr oa), (vi 2), (vi 0), (vi 0), (vi 1), .unset] [(.ref oa)])) rfl rfl (hb hby d45_92)
  have pre34 := Go.thn pre32 st33
  obtain ⟨cq35, kq35, q35a, q35b, q35c⟩ := isOf hZ e33 B19.ec
  obtain ⟨_, _, ⟨T35, L35, k35, n35⟩, -, X35, ⟨Lc35, hQ35, l35, y35, z35⟩, st35⟩ := X33.virtualBack hx (y := Nm_28) (z := Nm_28) hown (mq hZ hw 200 rfl) (mq hZ hw 201 rfl) (notFace_of_selects (args := #[]) (mq hZ hw 203 rfl)) (mq hZ hw 203 rfl) (mq hZ hw 202 rfl) (by decide) (backOf (W := 0) (rm36 l Z a0 hw []  T19.heap n0 B19.z B19) hZ (wq hw 204 rfl) (wq hw 12 rfl) (by decide) (by decide)) q35a q35c (g := (mkF m 95 #[(vr oa), (vi 2), (vi 0), (vi 0), (vi 1), .unset] [(.ref qcs)])) rfl (by rw [hml]; rfl) (Steps.refl _) (argsL := []) (rest := []) (lenOf pd___I rfl) rfl (w00 rfl) (hb hby d45_95) (fun _ _ => ⟨rfl, e33, zz, zz⟩)
  dsimp only [Pt.U, Pt.locs, Pt.cells, Pt.slots] at X35 l35 y35 z35 st35 hQ35
  subst y35 z35
  obtain ⟨rfl, Nq35, e35⟩ := hQ35
  have N35 := FrE l35 N30 Nq35
  have pre36 : Go p e below T35 _ (mkF m 98 #[(vr oa), (vi 2), (vi 0), (vi 0), (vi 1), .unset] [(.int 0)]) _ := fun t k => pre34 t ((st35).trans k)
  have pre37 : Go p e below T35 _ (mkF m 101 #[(vr oa), (vi 2), (vi 0), (vi 0), (vi 1), (vi 0)] [(.ref oa)]) _ := fun t k => pre36 t (by
    refine XS.istore X35.here hx rfl (hb hby d45_98) rfl (l' := #[(vr oa), (vi 2), (vi 0), (vi 0), (vi 1), (vi 0)]) rfl ?_
    refine XS.aloadN X35.here hx rfl (hb hby d45_100) rfl rfl ?_
    exact k)
  obtain ⟨T38, X38, e38, st38⟩ := getF X35 hx hZ hown (host := "") (Or.inl (wq hw 20 rfl)) Via.refl e35 B19.f_cs (g := (mkF m 101 #[(vr oa), (vi 2), (vi 0), (vi 0), (vi 1), (vi 0)] [(.ref oa)])) rfl rfl (hb hby d45_101)
  have pre39 := Go.thn pre37 st38
  have pre40 : Go p e below T38 _ (mkF m 106 #[(vr oa), (vi 2), (vi 0), (vi 0), (vi 1), (vi 0)] [(.int 0), (.ref qcs)]) _ := fun t k => pre39 t (by
    refine XS.iload X38.here hx rfl (hb hby d45_104) rfl ?_
    exact k)
  obtain ⟨cq41, kq41, q41a, q41b, q41c⟩ := isOf hZ e38 B19.ec
  obtain ⟨_, _, ⟨T41, L41, k41, n41⟩, -, X41, ⟨Lc41, hQ41, l41, y41, z41⟩, st41⟩ := X38.virtualBack hx (y := Nm_31) (z := Nm_31) hown (mq hZ hw 210 rfl) (mq hZ hw 211 rfl) (notFace_of_selects (args := #[]) (mq hZ hw 213 rfl)) (mq hZ hw 213 rfl) (mq hZ hw 212 rfl) (by decide) (backOf (W := 0) (rm38 l Z a0 hw []  T19.heap n0 B19.z B19) hZ (wq hw 214 rfl) (wq hw 12 rfl) (by decide) (by decide)) q41a q41c (g := (mkF m 106 #[(vr oa), (vi 2), (vi 0), (vi 0), (vi 1), (vi 0)] [(.int 0), (.ref qcs)])) rfl (by rw [hml]; rfl) (Steps.refl _) (argsL := [(.int 0)]) (rest := []) (lenOf pd__I_I rfl) rfl (w00 rfl) (hb hby d45_106) (fun _ _ => ⟨rfl, e38, zz, zz⟩)
  dsimp only [Pt.U, Pt.locs, Pt.cells, Pt.slots] at X41 l41 y41 z41 st41 hQ41
  subst y41 z41
  obtain ⟨rfl, Nq41, e41⟩ := hQ41
  have N41 := FrE l41 N35 Nq41
  have pre42 : Go p e below T41 _ (mkF m 109 #[(vr oa), (vi 2), (vi 0), (vi 0), (vi 1), (vi 0)] [(.int (-1))]) _ := fun t k => pre40 t ((st41).trans k)
  have pre43 : Go p e below T41 _ (mkF m 114 #[(vr oa), (vi 2), (vi 0), (vi 0), (vi 1), (vi 0)] [(.ref oa)]) _ := fun t k => pre42 t (by
    refine XS.iconst X41.here hx rfl (hb hby d45_109) ?_
    refine XS.icmpNo X41.here hx rfl (hb hby d45_110) rfl (by decide) ?_
    refine XS.aloadN X41.here hx rfl (hb hby d45_113) rfl rfl ?_
    exact k)
  obtain ⟨T44, X44, e44, st44⟩ := getF X41 hx hZ hown (host := "") (Or.inl (wq hw 20 rfl)) Via.refl e41 B19.f_cs (g := (mkF m 114 #[(vr oa), (vi 2), (vi 0), (vi 0), (vi 1), (vi 0)] [(.ref oa)])) rfl rfl (hb hby d45_114)
  have pre45 := Go.thn pre43 st44
  have pre46 : Go p e below T44 _ (mkF m 121 #[(vr oa), (vi 2), (vi 0), (vi 0), (vi 1), (vi 0)] [(.int 1), (.int 0), (.ref qcs)]) _ := fun t k => pre45 t (by
    refine XS.iload X44.here hx rfl (hb hby d45_117) rfl ?_
    refine XS.iload X44.here hx rfl (hb hby d45_119) rfl ?_
    exact k)
  obtain ⟨cq47, kq47, q47a, q47b, q47c⟩ := isOf hZ e44 B19.ec
  obtain ⟨_, _, ⟨T47, L47, k47, n47⟩, -, X47, ⟨Lc47, hQ47, l47, y47, z47⟩, st47⟩ := X44.virtualBack hx (y := Nm_35) (z := Nm_35) hown (mq hZ hw 215 rfl) (mq hZ hw 216 rfl) (notFace_of_selects (args := #[]) (mq hZ hw 218 rfl)) (mq hZ hw 218 rfl) (mq hZ hw 217 rfl) (by decide) (backOf (W := 0) (rm39 l Z a0 hw [] (1 : Int32) T19.heap n0 B19.z B19) hZ (wq hw 219 rfl) (wq hw 12 rfl) (by decide) (by decide)) q47a q47c (g := (mkF m 121 #[(vr oa), (vi 2), (vi 0), (vi 0), (vi 1), (vi 0)] [(.int 1), (.int 0), (.ref qcs)])) rfl (by rw [hml]; rfl) (Steps.refl _) (argsL := [(.int 0), (.int 1)]) (rest := []) (lenOf pd__II_V rfl) rfl (w00 rfl) (hb hby d45_121) (fun _ _ => ⟨rfl, e44, zz, zz⟩)
  dsimp only [Pt.U, Pt.locs, Pt.cells, Pt.slots] at X47 l47 y47 z47 st47 hQ47
  subst y47 z47
  obtain ⟨rfl, Nq47, Bq47⟩ := hQ47
  have N47 := FrE l47 N41 Nq47
  have B47 : Mg Z n0 T47.heap oa _ _ _ _ _ _ _ _ _ _ xn xs kk xfc xdp 1 xli xpk xlv xlo xhi xrf xch xbk xca (own_up (own_up (own_up (own_up (own_up (own_up xcf 0 2) 1 0) 2 0) 3 (xlv 2)) 4 (-1 : Int32)) 4 1) xpe := Bq47
  have pre48 := Go.trn pre46 st47
  have pre49 : Go p e below T47 _ (mkF m 125 #[(vr oa), (vi 2), (vi 0), (vi 0), (vi 1), (vi 0)] [(.ref oa)]) _ := fun t k => pre48 t (by
    refine XS.aloadN X47.here hx rfl (hb hby d45_124) rfl rfl ?_
    exact k)
  obtain ⟨T50, X50, e50, st50⟩ := getF X47 hx hZ hown (host := "") (Or.inl (wq hw 40 rfl)) Via.refl rfl B47.f_hi (g := (mkF m 125 #[(vr oa), (vi 2), (vi 0), (vi 0), (vi 1), (vi 0)] [(.ref oa)])) rfl rfl (hb hby d45_125)
  have pre51 := Go.thn pre49 st50
  have pre52 : Go p e below T50 _ (mkF m 129 #[(vr oa), (vi 2), (vi 0), (vi 0), (vi 1), (vi 0)] [(.ref oa), (.ref qhi)]) _ := fun t k => pre51 t (by
    refine XS.aloadN X50.here hx rfl (hb hby d45_128) rfl rfl ?_
    exact k)
  obtain ⟨T53, X53, e53, st53⟩ := getF X50 hx hZ hown (host := "") (Or.inl (wq hw 20 rfl)) Via.refl e50 B47.f_cs (g := (mkF m 129 #[(vr oa), (vi 2), (vi 0), (vi 0), (vi 1), (vi 0)] [(.ref oa), (.ref qhi)])) rfl rfl (hb hby d45_129)
  have pre54 := Go.thn pre52 st53
  have pre55 : Go p e below T53 _ (mkF m 134 #[(vr oa), (vi 2), (vi 0), (vi 0), (vi 1), (vi 0)] [(.int 0), (.ref qcs), (.ref qhi)]) _ := fun t k => pre54 t (by
    refine XS.iload X53.here hx rfl (hb hby d45_132) rfl ?_
    exact k)
  obtain ⟨cq56, kq56, q56a, q56b, q56c⟩ := isOf hZ e53 B47.ec
  obtain ⟨_, _, ⟨T56, L56, k56, n56⟩, -, X56, ⟨Lc56, hQ56, l56, y56, z56⟩, st56⟩ := X53.virtualBack hx (y := Nm_32) (z := Nm_32) hown (mq hZ hw 220 rfl) (mq hZ hw 221 rfl) (notFace_of_selects (args := #[]) (mq hZ hw 223 rfl)) (mq hZ hw 223 rfl) (mq hZ hw 222 rfl) (by decide) (backOf (W := 1) (rm40 l Z a0 hw []  T47.heap n0 B47.z B47) hZ (wq hw 224 rfl) (wq hw 12 rfl) (by decide) (by decide)) q56a q56c (g := (mkF m 134 #[(vr oa), (vi 2), (vi 0), (vi 0), (vi 1), (vi 0)] [(.int 0), (.ref qcs), (.ref qhi)])) rfl (by rw [hml]; rfl) (Steps.refl _) (argsL := [(.int 0)]) (rest := [(.ref qhi)]) (lenOf pd__I_I rfl) rfl (w00 rfl) (hb hby d45_134) (fun _ _ => ⟨rfl, e53, zz, zz⟩)
  dsimp only [Pt.U, Pt.locs, Pt.cells, Pt.slots] at X56 l56 y56 z56 st56 hQ56
  subst y56 z56
  obtain ⟨rfl, Nq56, e56⟩ := hQ56
  have N56 := FrE l56 N47 Nq56
  have pre57 : Go p e below T56 _ (mkF m 137 #[(vr oa), (vi 2), (vi 0), (vi 0), (vi 1), (vi 0)] [(.int 2), (.ref qhi)]) _ := fun t k => pre55 t ((st56).trans k)
  obtain ⟨cl58, Ar58, Sz58, Mn58, Hs58⟩ := id B47.a_hi
  have ib58 : ¬ (2 : Int32) < 0 ∧ (2 : Int32) < 4096 := ⟨by decide, by decide⟩
  have hat58 : cl58.slots[((2 : Int32)).toNatClampNeg]? = some (.int (xhi 2)) := Hs58 (2 : Int32) ib58
  have pre59 : Go p e below T56 _ (mkF m 138 #[(vr oa), (vi 2), (vi 0), (vi 0), (vi 1), (vi 0)] [(.int (xhi 2))]) _ := fun t k => pre57 t (by
    show Steps p.tables e below (T56.setTop (mkF m 137 #[(vr oa), (vi 2), (vi 0), (vi 0), (vi 1), (vi 0)] [(.int 2), (.ref qhi)])) _
    refine X56.iaload hx (j := (2 : Int32)) (v := (.int (xhi 2))) (by rw [e56]; exact Ar58.1) (State.isArrayOf_alike hZ.alike Ar58.2.1) Ar58.2.2 (inb_of Sz58 ib58) hat58 (g := (mkF m 137 #[(vr oa), (vi 2), (vi 0), (vi 0), (vi 1), (vi 0)] [(.int 2), (.ref qhi)])) rfl rfl (hb hby d45_137) _ ?_
    exact k)
  have pre60 : Go p e below T56 _ (mkF m 20 #[(vr oa), (vi 2), (vi 0), (vi 1), (vi 0), (vi 0)] [(.ref oa)]) _ := fun t k => pre59 t (by
    show Steps p.tables e below (T56.setTop (mkF m 138 #[(vr oa), (vi 2), (vi 0), (vi 0), (vi 1), (vi 0)] [(.int (xhi 2))])) _
    rw [hhi]
    refine XS.istoreN X56.here hx rfl (hb hby d45_138) rfl (l' := #[(vr oa), (vi 2), (vi 0), (vi 1), (vi 1), (vi 0)]) rfl ?_
    refine XS.iconst X56.here hx rfl (hb hby d45_139) ?_
    refine XS.istore X56.here hx rfl (hb hby d45_140) rfl (l' := #[(vr oa), (vi 2), (vi 0), (vi 1), (vi (-1)), (vi 0)]) rfl ?_
    refine XS.goto X56.here hx rfl (pc0 := 142) (pc' := 179) rfl (hb hby d45_142) (by decide) (by decide) ?_
    refine XS.goto X56.here hx rfl (pc0 := 179) (pc' := 13) rfl (hb hby d45_179) (by decide) (by decide) ?_
    refine XS.iload X56.here hx rfl (hb hby d45_13) rfl ?_
    refine XS.iconst X56.here hx rfl (hb hby d45_15) ?_
    refine XS.icmpYes X56.here hx rfl (pc0 := 16) (pc' := 30) rfl (hb hby d45_16) rfl (by decide) (by decide) (by decide) ?_
    refine XS.iload X56.here hx rfl (hb hby d45_30) rfl ?_
    refine XS.iconst X56.here hx rfl (hb hby d45_32) ?_
    refine XS.icmpNo X56.here hx rfl (hb hby d45_33) rfl (by decide) ?_
    refine XS.iloadN X56.here hx rfl (hb hby d45_36) rfl ?_
    refine XS.iconst X56.here hx rfl (hb hby d45_37) ?_
    refine XS.icmpNo X56.here hx rfl (hb hby d45_38) rfl (by decide) ?_
    refine XS.iloadN X56.here hx rfl (hb hby d45_41) rfl ?_
    refine XS.iconst X56.here hx rfl (hb hby d45_42) ?_
    refine XS.ixor X56.here hx rfl (hb hby d45_43) rfl ?_
    refine XS.goto X56.here hx rfl (pc0 := 44) (pc' := 56) rfl (hb hby d45_44) (by decide) (by decide) ?_
    refine XS.istore X56.here hx rfl (hb hby d45_56) rfl (l' := #[(vr oa), (vi 2), (vi 0), (vi 1), (vi 0), (vi 0)]) rfl ?_
    refine XS.iload X56.here hx rfl (hb hby d45_58) rfl ?_
    refine XS.iconst X56.here hx rfl (hb hby d45_60) ?_
    refine XS.icmpYes X56.here hx rfl (pc0 := 61) (pc' := 13) rfl (hb hby d45_61) rfl (by decide) (by decide) (by decide) ?_
    refine XS.iload X56.here hx rfl (hb hby d45_13) rfl ?_
    refine XS.iconst X56.here hx rfl (hb hby d45_15) ?_
    refine XS.icmpNo X56.here hx rfl (hb hby d45_16) rfl (by decide) ?_
    refine XS.aloadN X56.here hx rfl (hb hby d45_19) rfl rfl ?_
    exact k)
  obtain ⟨T61, X61, e61, st61⟩ := getF X56 hx hZ hown (host := "") (Or.inl (wq hw 20 rfl)) Via.refl e56 B47.f_cs (g := (mkF m 20 #[(vr oa), (vi 2), (vi 0), (vi 1), (vi 0), (vi 0)] [(.ref oa)])) rfl rfl (hb hby d45_20)
  have pre62 := Go.thn pre60 st61
  obtain ⟨cq63, kq63, q63a, q63b, q63c⟩ := isOf hZ e61 B47.ec
  obtain ⟨_, _, ⟨T63, L63, k63, n63⟩, -, X63, ⟨Lc63, hQ63, l63, y63, z63⟩, st63⟩ := X61.virtualBack hx (y := Nm_27) (z := Nm_27) hown (mq hZ hw 190 rfl) (mq hZ hw 191 rfl) (notFace_of_selects (args := #[]) (mq hZ hw 193 rfl)) (mq hZ hw 193 rfl) (mq hZ hw 192 rfl) (by decide) (backOf (W := 0) (rm34 l Z a0 hw []  T47.heap n0 B47.z B47) hZ (wq hw 194 rfl) (wq hw 12 rfl) (by decide) (by decide)) q63a q63c (g := (mkF m 23 #[(vr oa), (vi 2), (vi 0), (vi 1), (vi 0), (vi 0)] [(.ref qcs)])) rfl (by rw [hml]; rfl) (Steps.refl _) (argsL := []) (rest := []) (lenOf pd___I rfl) rfl (w00 rfl) (hb hby d45_23) (fun _ _ => ⟨rfl, e61, zz, zz⟩)
  dsimp only [Pt.U, Pt.locs, Pt.cells, Pt.slots] at X63 l63 y63 z63 st63 hQ63
  subst y63 z63
  obtain ⟨rfl, Nq63, e63⟩ := hQ63
  have N63 := FrE l63 N56 Nq63
  have pre64 : Go p e below T63 _ (mkF m 26 #[(vr oa), (vi 2), (vi 0), (vi 1), (vi 0), (vi 0)] [(.int 1)]) _ := fun t k => pre62 t ((st63).trans k)
  have pre65 : Go p e below T63 _ (mkF m 92 #[(vr oa), (vi 2), (vi 0), (vi 1), (vi 0), (vi 0)] [(.ref oa)]) _ := fun t k => pre64 t (by
    refine XS.iloadN X63.here hx rfl (hb hby d45_26) rfl ?_
    refine XS.icmpNo X63.here hx rfl (hb hby d45_27) rfl (by decide) ?_
    refine XS.iload X63.here hx rfl (hb hby d45_30) rfl ?_
    refine XS.iconst X63.here hx rfl (hb hby d45_32) ?_
    refine XS.icmpYes X63.here hx rfl (pc0 := 33) (pc' := 91) rfl (hb hby d45_33) rfl (by decide) (by decide) (by decide) ?_
    refine XS.aloadN X63.here hx rfl (hb hby d45_91) rfl rfl ?_
    exact k)
  obtain ⟨T66, X66, e66, st66⟩ := getF X63 hx hZ hown (host := "") (Or.inl (wq hw 20 rfl)) Via.refl e63 B47.f_cs (g := (mkF m 92 #[(vr oa), (vi 2), (vi 0), (vi 1), (vi 0), (vi 0)] [(.ref oa)])) rfl rfl (hb hby d45_92)
  have pre67 := Go.thn pre65 st66
  obtain ⟨cq68, kq68, q68a, q68b, q68c⟩ := isOf hZ e66 B47.ec
  obtain ⟨_, _, ⟨T68, L68, k68, n68⟩, -, X68, ⟨Lc68, hQ68, l68, y68, z68⟩, st68⟩ := X66.virtualBack hx (y := Nm_28) (z := Nm_28) hown (mq hZ hw 200 rfl) (mq hZ hw 201 rfl) (notFace_of_selects (args := #[]) (mq hZ hw 203 rfl)) (mq hZ hw 203 rfl) (mq hZ hw 202 rfl) (by decide) (backOf (W := 0) (rm36 l Z a0 hw []  T47.heap n0 B47.z B47) hZ (wq hw 204 rfl) (wq hw 12 rfl) (by decide) (by decide)) q68a q68c (g := (mkF m 95 #[(vr oa), (vi 2), (vi 0), (vi 1), (vi 0), (vi 0)] [(.ref qcs)])) rfl (by rw [hml]; rfl) (Steps.refl _) (argsL := []) (rest := []) (lenOf pd___I rfl) rfl (w00 rfl) (hb hby d45_95) (fun _ _ => ⟨rfl, e66, zz, zz⟩)
  dsimp only [Pt.U, Pt.locs, Pt.cells, Pt.slots] at X68 l68 y68 z68 st68 hQ68
  subst y68 z68
  obtain ⟨rfl, Nq68, e68⟩ := hQ68
  have N68 := FrE l68 N63 Nq68
  have pre69 : Go p e below T68 _ (mkF m 98 #[(vr oa), (vi 2), (vi 0), (vi 1), (vi 0), (vi 0)] [(.int 0)]) _ := fun t k => pre67 t ((st68).trans k)
  have pre70 : Go p e below T68 _ (mkF m 101 #[(vr oa), (vi 2), (vi 0), (vi 1), (vi 0), (vi 0)] [(.ref oa)]) _ := fun t k => pre69 t (by
    refine XS.istore X68.here hx rfl (hb hby d45_98) rfl (l' := #[(vr oa), (vi 2), (vi 0), (vi 1), (vi 0), (vi 0)]) rfl ?_
    refine XS.aloadN X68.here hx rfl (hb hby d45_100) rfl rfl ?_
    exact k)
  obtain ⟨T71, X71, e71, st71⟩ := getF X68 hx hZ hown (host := "") (Or.inl (wq hw 20 rfl)) Via.refl e68 B47.f_cs (g := (mkF m 101 #[(vr oa), (vi 2), (vi 0), (vi 1), (vi 0), (vi 0)] [(.ref oa)])) rfl rfl (hb hby d45_101)
  have pre72 := Go.thn pre70 st71
  have pre73 : Go p e below T71 _ (mkF m 106 #[(vr oa), (vi 2), (vi 0), (vi 1), (vi 0), (vi 0)] [(.int 0), (.ref qcs)]) _ := fun t k => pre72 t (by
    refine XS.iload X71.here hx rfl (hb hby d45_104) rfl ?_
    exact k)
  obtain ⟨cq74, kq74, q74a, q74b, q74c⟩ := isOf hZ e71 B47.ec
  obtain ⟨_, _, ⟨T74, L74, k74, n74⟩, -, X74, ⟨Lc74, hQ74, l74, y74, z74⟩, st74⟩ := X71.virtualBack hx (y := Nm_31) (z := Nm_31) hown (mq hZ hw 210 rfl) (mq hZ hw 211 rfl) (notFace_of_selects (args := #[]) (mq hZ hw 213 rfl)) (mq hZ hw 213 rfl) (mq hZ hw 212 rfl) (by decide) (backOf (W := 0) (rm38 l Z a0 hw []  T47.heap n0 B47.z B47) hZ (wq hw 214 rfl) (wq hw 12 rfl) (by decide) (by decide)) q74a q74c (g := (mkF m 106 #[(vr oa), (vi 2), (vi 0), (vi 1), (vi 0), (vi 0)] [(.int 0), (.ref qcs)])) rfl (by rw [hml]; rfl) (Steps.refl _) (argsL := [(.int 0)]) (rest := []) (lenOf pd__I_I rfl) rfl (w00 rfl) (hb hby d45_106) (fun _ _ => ⟨rfl, e71, zz, zz⟩)
  dsimp only [Pt.U, Pt.locs, Pt.cells, Pt.slots] at X74 l74 y74 z74 st74 hQ74
  subst y74 z74
  obtain ⟨rfl, Nq74, e74⟩ := hQ74
  have N74 := FrE l74 N68 Nq74
  have pre75 : Go p e below T74 _ (mkF m 109 #[(vr oa), (vi 2), (vi 0), (vi 1), (vi 0), (vi 0)] [(.int 1)]) _ := fun t k => pre73 t ((st74).trans k)
  have pre76 : Go p e below T74 _ (mkF m 152 #[(vr oa), (vi 2), (vi 0), (vi 1), (vi 0), (vi 0)] [(.ref oa), (.ref oa), (.int 0), (.int 6), (.ref oa)]) _ := fun t k => pre75 t (by
    refine XS.iconst X74.here hx rfl (hb hby d45_109) ?_
    refine XS.icmpYes X74.here hx rfl (pc0 := 110) (pc' := 145) rfl (hb hby d45_110) rfl (by decide) (by decide) (by decide) ?_
    refine XS.aloadN X74.here hx rfl (hb hby d45_145) rfl rfl ?_
    refine XS.bipush X74.here hx rfl (hb hby d45_146) ?_
    refine XS.iload X74.here hx rfl (hb hby d45_148) rfl ?_
    refine XS.aloadN X74.here hx rfl (hb hby d45_150) rfl rfl ?_
    refine XS.aloadN X74.here hx rfl (hb hby d45_151) rfl rfl ?_
    exact k)
  obtain ⟨T77, X77, e77, st77⟩ := getF X74 hx hZ hown (host := "") (Or.inl (wq hw 20 rfl)) Via.refl e74 B47.f_cs (g := (mkF m 152 #[(vr oa), (vi 2), (vi 0), (vi 1), (vi 0), (vi 0)] [(.ref oa), (.ref oa), (.int 0), (.int 6), (.ref oa)])) rfl rfl (hb hby d45_152)
  have pre78 := Go.thn pre76 st77
  have pre79 : Go p e below T77 _ (mkF m 157 #[(vr oa), (vi 2), (vi 0), (vi 1), (vi 0), (vi 0)] [(.int 0), (.ref qcs), (.ref oa), (.int 0), (.int 6), (.ref oa)]) _ := fun t k => pre78 t (by
    refine XS.iload X77.here hx rfl (hb hby d45_155) rfl ?_
    exact k)
  obtain ⟨cq80, kq80, q80a, q80b, q80c⟩ := isOf hZ e77 B47.ec
  obtain ⟨_, _, ⟨T80, L80, k80, n80⟩, -, X80, ⟨Lc80, hQ80, l80, y80, z80⟩, st80⟩ := X77.virtualBack hx (y := Nm_30) (z := Nm_30) hown (mq hZ hw 205 rfl) (mq hZ hw 206 rfl) (notFace_of_selects (args := #[]) (mq hZ hw 208 rfl)) (mq hZ hw 208 rfl) (mq hZ hw 207 rfl) (by decide) (backOf (W := 4) (rm37 l Z a0 hw []  T47.heap n0 B47.z B47) hZ (wq hw 209 rfl) (wq hw 12 rfl) (by decide) (by decide)) q80a q80c (g := (mkF m 157 #[(vr oa), (vi 2), (vi 0), (vi 1), (vi 0), (vi 0)] [(.int 0), (.ref qcs), (.ref oa), (.int 0), (.int 6), (.ref oa)])) rfl (by rw [hml]; rfl) (Steps.refl _) (argsL := [(.int 0)]) (rest := [(.ref oa), (.int 0), (.int 6), (.ref oa)]) (lenOf pd__I_I rfl) rfl (w00 rfl) (hb hby d45_157) (fun _ _ => ⟨rfl, e77, zz, zz⟩)
  dsimp only [Pt.U, Pt.locs, Pt.cells, Pt.slots] at X80 l80 y80 z80 st80 hQ80
  subst y80 z80
  obtain ⟨rfl, Nq80, e80⟩ := hQ80
  have N80 := FrE l80 N74 Nq80
  have pre81 := Go.trn pre79 st80
  have pre82 : Go p e below T80 _ (mkF m 161 #[(vr oa), (vi 2), (vi 0), (vi 1), (vi 0), (vi 0)] [(.ref oa), (.int (xlv 2)), (.ref oa), (.int 0), (.int 6), (.ref oa)]) _ := fun t k => pre81 t (by
    refine XS.aloadN X80.here hx rfl (hb hby d45_160) rfl rfl ?_
    exact k)
  obtain ⟨T83, X83, e83, st83⟩ := getF X80 hx hZ hown (host := "") (Or.inl (wq hw 20 rfl)) Via.refl e80 B47.f_cs (g := (mkF m 161 #[(vr oa), (vi 2), (vi 0), (vi 1), (vi 0), (vi 0)] [(.ref oa), (.int (xlv 2)), (.ref oa), (.int 0), (.int 6), (.ref oa)])) rfl rfl (hb hby d45_161)
  have pre84 := Go.thn pre82 st83
  have pre85 : Go p e below T83 _ (mkF m 166 #[(vr oa), (vi 2), (vi 0), (vi 1), (vi 0), (vi 0)] [(.int 0), (.ref qcs), (.int (xlv 2)), (.ref oa), (.int 0), (.int 6), (.ref oa)]) _ := fun t k => pre84 t (by
    refine XS.iload X83.here hx rfl (hb hby d45_164) rfl ?_
    exact k)
  obtain ⟨cq86, kq86, q86a, q86b, q86c⟩ := isOf hZ e83 B47.ec
  obtain ⟨_, _, ⟨T86, L86, k86, n86⟩, -, X86, ⟨Lc86, hQ86, l86, y86, z86⟩, st86⟩ := X83.virtualBack hx (y := Nm_31) (z := Nm_31) hown (mq hZ hw 210 rfl) (mq hZ hw 211 rfl) (notFace_of_selects (args := #[]) (mq hZ hw 213 rfl)) (mq hZ hw 213 rfl) (mq hZ hw 212 rfl) (by decide) (backOf (W := 5) (rm38 l Z a0 hw []  T47.heap n0 B47.z B47) hZ (wq hw 214 rfl) (wq hw 12 rfl) (by decide) (by decide)) q86a q86c (g := (mkF m 166 #[(vr oa), (vi 2), (vi 0), (vi 1), (vi 0), (vi 0)] [(.int 0), (.ref qcs), (.int (xlv 2)), (.ref oa), (.int 0), (.int 6), (.ref oa)])) rfl (by rw [hml]; rfl) (Steps.refl _) (argsL := [(.int 0)]) (rest := [(.int (xlv 2)), (.ref oa), (.int 0), (.int 6), (.ref oa)]) (lenOf pd__I_I rfl) rfl (w00 rfl) (hb hby d45_166) (fun _ _ => ⟨rfl, e83, zz, zz⟩)
  dsimp only [Pt.U, Pt.locs, Pt.cells, Pt.slots] at X86 l86 y86 z86 st86 hQ86
  subst y86 z86
  obtain ⟨rfl, Nq86, e86⟩ := hQ86
  have N86 := FrE l86 N80 Nq86
  have pre87 : Go p e below T86 _ (mkF m 169 #[(vr oa), (vi 2), (vi 0), (vi 1), (vi 0), (vi 0)] [(.int 1), (.int (xlv 2)), (.ref oa), (.int 0), (.int 6), (.ref oa)]) _ := fun t k => pre85 t ((st86).trans k)
  have pre88 : Go p e below T86 _ (mkF m 171 #[(vr oa), (vi 2), (vi 0), (vi 1), (vi 0), (vi 0)] [(.int 0), (.int 1), (.int (xlv 2)), (.ref oa), (.int 0), (.int 6), (.ref oa)]) _ := fun t k => pre87 t (by
    refine XS.iload X86.here hx rfl (hb hby d45_169) rfl ?_
    exact k)
  obtain ⟨cq89, q89, q89'⟩ := B47.e.cell
  obtain ⟨_, _, ⟨T89, L89, k89, n89⟩, -, X89, ⟨Lc89, hQ89, l89, y89, z89⟩, st89⟩ := X86.privateBack hx (y := Nm_25) hown (mq hZ hw 107 rfl) (mq hZ hw 108 rfl) (own_seli (mq hZ hw 2 rfl) (pq hZ hw 109 rfl) (mq hZ hw 108 rfl) (by decide)) (pq hZ hw 109 rfl) (mq hZ hw 110 rfl) (by decide) (backOf (W := 3) (rm16n l Z a0 hw [] (xlv 2) (1 : Int32) (0 : Int32) T47.heap n0 B47.z B47 (by decide) hwk hf0 hk) hZ (wq hw 110 rfl) (wq hw 3 rfl) (by decide) (by decide)) (g := (mkF m 171 #[(vr oa), (vi 2), (vi 0), (vi 1), (vi 0), (vi 0)] [(.int 0), (.int 1), (.int (xlv 2)), (.ref oa), (.int 0), (.int 6), (.ref oa)])) rfl (by rw [hml]; rfl) (Steps.refl _) (a := oa) (by rw [e86]; exact q89) q89' (argsL := [(.int (xlv 2)), (.int 1), (.int 0)]) (rest := [(.int 0), (.int 6), (.ref oa)]) (lenOf pd__III_I rfl) rfl (w00 rfl) (hb hby d45_171) (fun _ _ => ⟨rfl, e86, zz, zz⟩)
  dsimp only [Pt.U, Pt.locs, Pt.cells, Pt.slots] at X89 l89 y89 z89 st89 hQ89
  subst y89 z89
  obtain ⟨rfl, Nq89, Bq89⟩ := hQ89
  have N89 := FrE l89 N86 Nq89
  have B89 : Mg Z n0 T89.heap oa _ _ _ _ _ _ _ _ _ _ xn xs (xch kk) (xfc - 1) xdp 1 xli xpk (own_up xlv kk (xlv 2)) (own_up xlo kk 1) (own_up xhi kk 0) (own_up xrf kk 0) (own_up xch kk (xbk ((f17 (xlv 2) 1 0) &&& 4095))) (own_up xbk ((f17 (xlv 2) 1 0) &&& 4095) kk) xca (own_up (own_up (own_up (own_up (own_up (own_up xcf 0 2) 1 0) 2 0) 3 (xlv 2)) 4 (-1 : Int32)) 4 1) xpe := Bq89
  have pre90 := Go.trn pre88 st89
  obtain ⟨cq91, q91, q91'⟩ := B89.e.cell
  obtain ⟨_, _, ⟨T91, L91, k91, n91⟩, -, X91, ⟨Lc91, hQ91, l91, y91, z91⟩, st91⟩ := X89.privateBack hx (y := Nm_37) hown (mq hZ hw 230 rfl) (mq hZ hw 231 rfl) (own_seli (mq hZ hw 2 rfl) (pq hZ hw 232 rfl) (mq hZ hw 231 rfl) (by decide)) (pq hZ hw 232 rfl) (mq hZ hw 233 rfl) (by decide) (backOf (W := 0) (rm42 l Z a0 hw [] (6 : Int32) kk T89.heap n0 B89.z B89) hZ (wq hw 233 rfl) (wq hw 3 rfl) (by decide) (by decide)) (g := (mkF m 174 #[(vr oa), (vi 2), (vi 0), (vi 1), (vi 0), (vi 0)] [(.int kk), (.int 0), (.int 6), (.ref oa)])) rfl (by rw [hml]; rfl) (Steps.refl _) (a := oa) q91 q91' (argsL := [(.int 6), (.int 0), (.int kk)]) (rest := []) (lenOf pd__III_I rfl) rfl (w00 rfl) (hb hby d45_174) (fun _ _ => ⟨rfl, rfl, zz, zz⟩)
  dsimp only [Pt.U, Pt.locs, Pt.cells, Pt.slots] at X91 l91 y91 z91 st91 hQ91
  subst y91 z91
  obtain ⟨rfl, Nq91, Bq91⟩ := hQ91
  have N91 := FrE l91 N89 Nq91
  have B91 : Mg Z n0 T91.heap oa _ _ _ _ _ _ _ _ _ _ xn xs (xch kk) (xfc - 1) xdp 0 xli xpk (own_up xlv kk (xlv 2)) (own_up xlo kk 1) (own_up xhi kk 0) (own_up xrf kk 0) (own_up xch kk (xbk ((f17 (xlv 2) 1 0) &&& 4095))) (own_up xbk ((f17 (xlv 2) 1 0) &&& 4095) kk) (own_up (own_up (own_up (own_up (own_up xca ((f28 6 2 0 0) + 0) 6) ((f28 6 2 0 0) + 1) 2) ((f28 6 2 0 0) + 2) 0) ((f28 6 2 0 0) + 3) 0) ((f28 6 2 0 0) + 4) kk) (own_up (own_up (own_up (own_up (own_up (own_up xcf 0 2) 1 0) 2 0) 3 (xlv 2)) 4 (-1 : Int32)) 4 1) xpe := Bq91
  have pre92 := Go.trn pre90 st91
  have pre93 : Go p e below T91 _ (mkF m 20 #[(vr oa), (vi 2), (vi 0), (vi 1), (vi kk), (vi 0)] [(.ref oa)]) _ := fun t k => pre92 t (by
    refine XS.istore X91.here hx rfl (hb hby d45_177) rfl (l' := #[(vr oa), (vi 2), (vi 0), (vi 1), (vi kk), (vi 0)]) rfl ?_
    refine XS.goto X91.here hx rfl (pc0 := 179) (pc' := 13) rfl (hb hby d45_179) (by decide) (by decide) ?_
    refine XS.iload X91.here hx rfl (hb hby d45_13) rfl ?_
    refine XS.iconst X91.here hx rfl (hb hby d45_15) ?_
    refine XS.icmpNo X91.here hx rfl (hb hby d45_16) rfl (feq hkm).1 ?_
    refine XS.aloadN X91.here hx rfl (hb hby d45_19) rfl rfl ?_
    exact k)
  obtain ⟨T94, X94, e94, st94⟩ := getF X91 hx hZ hown (host := "") (Or.inl (wq hw 20 rfl)) Via.refl rfl B91.f_cs (g := (mkF m 20 #[(vr oa), (vi 2), (vi 0), (vi 1), (vi kk), (vi 0)] [(.ref oa)])) rfl rfl (hb hby d45_20)
  have pre95 := Go.thn pre93 st94
  obtain ⟨cq96, kq96, q96a, q96b, q96c⟩ := isOf hZ e94 B91.ec
  obtain ⟨_, _, ⟨T96, L96, k96, n96⟩, -, X96, ⟨Lc96, hQ96, l96, y96, z96⟩, st96⟩ := X94.virtualBack hx (y := Nm_27) (z := Nm_27) hown (mq hZ hw 190 rfl) (mq hZ hw 191 rfl) (notFace_of_selects (args := #[]) (mq hZ hw 193 rfl)) (mq hZ hw 193 rfl) (mq hZ hw 192 rfl) (by decide) (backOf (W := 0) (rm34 l Z a0 hw []  T91.heap n0 B91.z B91) hZ (wq hw 194 rfl) (wq hw 12 rfl) (by decide) (by decide)) q96a q96c (g := (mkF m 23 #[(vr oa), (vi 2), (vi 0), (vi 1), (vi kk), (vi 0)] [(.ref qcs)])) rfl (by rw [hml]; rfl) (Steps.refl _) (argsL := []) (rest := []) (lenOf pd___I rfl) rfl (w00 rfl) (hb hby d45_23) (fun _ _ => ⟨rfl, e94, zz, zz⟩)
  dsimp only [Pt.U, Pt.locs, Pt.cells, Pt.slots] at X96 l96 y96 z96 st96 hQ96
  subst y96 z96
  obtain ⟨rfl, Nq96, e96⟩ := hQ96
  have N96 := FrE l96 N91 Nq96
  have pre97 : Go p e below T96 _ (mkF m 26 #[(vr oa), (vi 2), (vi 0), (vi 1), (vi kk), (vi 0)] [(.int 0)]) _ := fun t k => pre95 t ((st96).trans k)
  have pre98 : Go p e below T96 _ (mkF m 184 #[(vr oa), (vi 2), (vi 0), (vi 1), (vi kk), (vi 0)] [(.int kk)]) _ := fun t k => pre97 t (by
    refine XS.iloadN X96.here hx rfl (hb hby d45_26) rfl ?_
    refine XS.icmpYes X96.here hx rfl (pc0 := 27) (pc' := 182) rfl (hb hby d45_27) rfl (by decide) (by decide) (by decide) ?_
    refine XS.iload X96.here hx rfl (hb hby d45_182) rfl ?_
    exact k)
  obtain ⟨fs, hr, hrun, hended, hW, hsame⟩ := X96.leave (v := some (.int kk)) (fun h => by rw [Bd.returns] at h; cases h)
  refine ⟨_, _, ?_, hrun, hended, _, _, rfl, ?_, ⟨_, rfl⟩, hW, hsame.mono (by decide) (by decide)⟩
  · exact pre98 _ (retI X96 hx Bd.returns (hb hby d45_184) hr)
  · show QB _ _ _ _ T96.heap _
    rw [e96]
    exact ⟨rfl, N96, B91⟩
theorem d32_35 : DK cd32 35 (.aload_n 0) 1 := by decide +kernel
theorem d32_36 : DK cd32 36 (.iload_n 1) 1 := by decide +kernel
theorem d32_37 : DK cd32 37 (.invokevirtual 254) 3 := by decide +kernel
theorem d32_40 : DK cd32 40 (.istore_n 2) 1 := by decide +kernel
theorem d32_41 : DK cd32 41 (.goto 75) 3 := by decide +kernel
theorem rm32s (l : Launch) (Z : State) (a0 : Array Value) (hw : ∀ d ∈ tables_1, d.before a0 Z = true) (ws : List Jvm.Cond) {oa qcs qcf qpe qlv qlo qhi qrf qch qbk qca : Addr} {xn kk xfc xli xpk : Int32} {xlv xlo xhi xrf xch xbk xca xcf xpe : Int32 → Int32} (h0 : Heap) (n0 : Nat) (Z0 : n0 ≤ h0.size) (B0 : Mg Z n0 h0 oa qcs qcf qpe qlv qlo qhi qrf qch qbk qca xn 0 kk xfc 0 0 xli xpk xlv xlo xhi xrf xch xbk xca xcf xpe) (hms : ¬ (xca ((f28 6 2 0 0) + 0)) = 6) (hlo : (xlo 2) = 0) (hhi : (xhi 2) = 1) (hwk : own_walk xlv xlo xhi xch (xlv 2) 1 0 3 (xbk ((f17 (xlv 2) 1 0) &&& 4095))) (hf0 : ¬ xfc = 0) (hk : ¬ kk < 0 ∧ kk < 4096) (hkm : ¬ kk = (-1 : Int32)) :
    Met1 l Nm_41 (Jvm.Cond.code Nm_41 prog_5_method_35_code 5 (some .int)) ws (rom 5 0 0 84) #[(.ref oa), (.int 2)] Z h0 (QB (some (.int kk)) n0 (fun h => Mg Z n0 h oa qcs qcf qpe qlv qlo qhi qrf qch qbk qca xn 0 (xch kk) (xfc - 1) 0 0 xli xpk (own_up xlv kk (xlv 2)) (own_up xlo kk 1) (own_up xhi kk 0) (own_up xrf kk 0) (own_up xch kk (xbk ((f17 (xlv 2) 1 0) &&& 4095))) (own_up xbk ((f17 (xlv 2) 1 0) &&& 4095) kk) (own_up (own_up (own_up (own_up (own_up xca ((f28 6 2 0 0) + 0) 6) ((f28 6 2 0 0) + 1) 2) ((f28 6 2 0 0) + 2) 0) ((f28 6 2 0 0) + 3) 0) ((f28 6 2 0 0) + 4) kk) (own_up (own_up (own_up (own_up (own_up (own_up xcf 0 2) 1 0) 2 0) 3 (xlv 2)) 4 (-1 : Int32)) 4 1) xpe)) := by
  refine MetFree.of_bodySF (plainFor_of_name pn_32) hisR ?_
  intro p e s m args below meth c s₁ Bd hml0 hP hK
  obtain ⟨rfl, hZ, hh⟩ := hP
  have hx := Bd.exec
  have hby := Bd.bytes
  have hml : c.maxLocals = 5 := hml0
  have hown : s.vm.findClass "com/example/slim_kripke/slimkripke/bdd/BddManager" = some m.cls := findClass_of_methodNamed Bd.named
  have X0 : Stand p l e (rom 5 0 0 84) s m _ _ _ _ _ [] 0 0 := Stand.of_body Bd
  have e0 : s₁.heap = h0 := by rw [← hh, Bd.state]; rfl
  have N0 := Fr.nil n0
  have K0 : Keep h0 h0 [] := Keep.refl _ _
  have pre0 : Go p e below s₁ _ (mkF m 0 #[(vr oa), (vi 2), .unset, .unset, .unset] []) _ := fun t k => castTop (ef_32r m oa) k
  have pre1 : Go p e below s₁ _ (mkF m 15 #[(vr oa), (vi 2), .unset, .unset, .unset] [(.int 0), (.int 0), (.int 2), (.int 6), (.ref oa)]) _ := fun t k => pre0 t (by
    refine XS.iloadN X0.here hx rfl (hb hby d32_0) rfl ?_
    refine XS.iconst X0.here hx rfl (hb hby d32_1) ?_
    refine XS.icmpYes X0.here hx rfl (pc0 := 2) (pc' := 9) rfl (hb hby d32_2) rfl (by decide) (by decide) (by decide) ?_
    refine XS.aloadN X0.here hx rfl (hb hby d32_9) rfl rfl ?_
    refine XS.bipush X0.here hx rfl (hb hby d32_10) ?_
    refine XS.iloadN X0.here hx rfl (hb hby d32_12) rfl ?_
    refine XS.iconst X0.here hx rfl (hb hby d32_13) ?_
    refine XS.iconst X0.here hx rfl (hb hby d32_14) ?_
    exact k)
  obtain ⟨cq2, q2, q2'⟩ := B0.e.cell
  obtain ⟨_, _, ⟨T2, L2, k2, n2⟩, -, X2, ⟨Lc2, hQ2, l2, y2, z2⟩, st2⟩ := X0.privateBack hx (y := Nm_18) hown (mq hZ hw 159 rfl) (mq hZ hw 160 rfl) (own_seli (mq hZ hw 2 rfl) (pq hZ hw 161 rfl) (mq hZ hw 160 rfl) (by decide)) (pq hZ hw 161 rfl) (mq hZ hw 162 rfl) (by decide) (backOf (W := 0) (rm27 l Z a0 hw [] (6 : Int32) (2 : Int32) (0 : Int32) (0 : Int32) h0 n0 B0.z B0 hms) hZ (wq hw 162 rfl) (wq hw 3 rfl) (by decide) (by decide)) (g := (mkF m 15 #[(vr oa), (vi 2), .unset, .unset, .unset] [(.int 0), (.int 0), (.int 2), (.int 6), (.ref oa)])) rfl (by rw [hml]; rfl) (Steps.refl _) (a := oa) (by rw [e0]; exact q2) q2' (argsL := [(.int 6), (.int 2), (.int 0), (.int 0)]) (rest := []) (lenOf pd__IIII_I rfl) rfl (w00 rfl) (hb hby d32_15) (fun _ _ => ⟨rfl, e0, zz, zz⟩)
  dsimp only [Pt.U, Pt.locs, Pt.cells, Pt.slots] at X2 l2 y2 z2 st2 hQ2
  subst y2 z2
  obtain ⟨rfl, Nq2, e2⟩ := hQ2
  have N2 := FrE l2 N0 Nq2
  have pre3 := Go.trn pre1 st2
  have pre4 : Go p e below T2 _ (mkF m 25 #[(vr oa), (vi 2), (vi (-1)), .unset, .unset] [(.ref oa)]) _ := fun t k => pre3 t (by
    refine XS.istoreN X2.here hx rfl (hb hby d32_18) rfl (l' := #[(vr oa), (vi 2), (vi (-1)), .unset, .unset]) rfl ?_
    refine XS.iloadN X2.here hx rfl (hb hby d32_19) rfl ?_
    refine XS.iconst X2.here hx rfl (hb hby d32_20) ?_
    refine XS.icmpNo X2.here hx rfl (hb hby d32_21) rfl (by decide) ?_
    refine XS.aloadN X2.here hx rfl (hb hby d32_24) rfl rfl ?_
    exact k)
  obtain ⟨T5, X5, e5, st5⟩ := getF X2 hx hZ hown (host := "") (Or.inl (wq hw 98 rfl)) Via.refl e2 B0.f_dp (g := (mkF m 25 #[(vr oa), (vi 2), (vi (-1)), .unset, .unset] [(.ref oa)])) rfl rfl (hb hby d32_25)
  have pre6 := Go.thn pre4 st5
  have pre7 : Go p e below T5 _ (mkF m 29 #[(vr oa), (vi 2), (vi (-1)), .unset, .unset] [(.ref oa), (.int 0)]) _ := fun t k => pre6 t (by
    refine XS.aloadN X5.here hx rfl (hb hby d32_28) rfl rfl ?_
    exact k)
  obtain ⟨T8, X8, e8, st8⟩ := getF X5 hx hZ hown (host := "") (Or.inl (wq hw 30 rfl)) Via.refl e5 B0.f_s (g := (mkF m 29 #[(vr oa), (vi 2), (vi (-1)), .unset, .unset] [(.ref oa), (.int 0)])) rfl rfl (hb hby d32_29)
  have pre9 := Go.thn pre7 st8
  have pre10 : Go p e below T8 _ (mkF m 37 #[(vr oa), (vi 2), (vi (-1)), .unset, .unset] [(.int 2), (.ref oa)]) _ := fun t k => pre9 t (by
    refine XS.icmpNo X8.here hx rfl (hb hby d32_32) rfl (by decide) ?_
    refine XS.aloadN X8.here hx rfl (hb hby d32_35) rfl rfl ?_
    refine XS.iloadN X8.here hx rfl (hb hby d32_36) rfl ?_
    exact k)
  obtain ⟨cq11, q11, q11'⟩ := B0.e.cell
  obtain ⟨_, _, ⟨T11, L11, k11, n11⟩, -, X11, ⟨Lc11, hQ11, l11, y11, z11⟩, st11⟩ := X8.privateBack hx (y := Nm_42) hown (mq hZ hw 244 rfl) (mq hZ hw 245 rfl) (own_seli (mq hZ hw 2 rfl) (pq hZ hw 246 rfl) (mq hZ hw 245 rfl) (by decide)) (pq hZ hw 246 rfl) (mq hZ hw 247 rfl) (by decide) (backOf (W := 0) (rm45s l Z a0 hw []  h0 n0 B0.z B0 hms hlo hhi hwk hf0 hk hkm) hZ (wq hw 247 rfl) (wq hw 3 rfl) (by decide) (by decide)) (g := (mkF m 37 #[(vr oa), (vi 2), (vi (-1)), .unset, .unset] [(.int 2), (.ref oa)])) rfl (by rw [hml]; rfl) (Steps.refl _) (a := oa) (by rw [e8]; exact q11) q11' (argsL := [(.int 2)]) (rest := []) (lenOf pd__I_I rfl) rfl (w00 rfl) (hb hby d32_37) (fun _ _ => ⟨rfl, e8, zz, zz⟩)
  dsimp only [Pt.U, Pt.locs, Pt.cells, Pt.slots] at X11 l11 y11 z11 st11 hQ11
  subst y11 z11
  obtain ⟨rfl, Nq11, Bq11⟩ := hQ11
  have N11 := FrE l11 N2 Nq11
  have B11 : Mg Z n0 T11.heap oa _ _ _ _ _ _ _ _ _ _ xn 0 (xch kk) (xfc - 1) 0 0 xli xpk (own_up xlv kk (xlv 2)) (own_up xlo kk 1) (own_up xhi kk 0) (own_up xrf kk 0) (own_up xch kk (xbk ((f17 (xlv 2) 1 0) &&& 4095))) (own_up xbk ((f17 (xlv 2) 1 0) &&& 4095) kk) (own_up (own_up (own_up (own_up (own_up xca ((f28 6 2 0 0) + 0) 6) ((f28 6 2 0 0) + 1) 2) ((f28 6 2 0 0) + 2) 0) ((f28 6 2 0 0) + 3) 0) ((f28 6 2 0 0) + 4) kk) (own_up (own_up (own_up (own_up (own_up (own_up xcf 0 2) 1 0) 2 0) 3 (xlv 2)) 4 (-1 : Int32)) 4 1) xpe := Bq11
  have pre12 := Go.trn pre10 st11
  have pre13 : Go p e below T11 _ (mkF m 117 #[(vr oa), (vi 2), (vi kk), .unset, .unset] [(.int kk)]) _ := fun t k => pre12 t (by
    refine XS.istoreN X11.here hx rfl (hb hby d32_40) rfl (l' := #[(vr oa), (vi 2), (vi kk), .unset, .unset]) rfl ?_
    refine XS.goto X11.here hx rfl (pc0 := 41) (pc' := 116) rfl (hb hby d32_41) (by decide) (by decide) ?_
    refine XS.iloadN X11.here hx rfl (hb hby d32_116) rfl ?_
    exact k)
  obtain ⟨fs, hr, hrun, hended, hW, hsame⟩ := X11.leave (v := some (.int kk)) (fun h => by rw [Bd.returns] at h; cases h)
  refine ⟨_, _, ?_, hrun, hended, _, _, rfl, ?_, ⟨_, rfl⟩, hW, hsame.mono (by decide) (by decide)⟩
  · exact pre13 _ (retI X11 hx Bd.returns (hb hby d32_117) hr)
  · show QB _ _ _ _ T11.heap _
    skip
    exact ⟨rfl, N11, B11⟩
theorem d31_0 : DK cd31 0 (.aload_n 0) 1 := by decide +kernel
theorem d31_1 : DK cd31 1 (.invokevirtual 56) 3 := by decide +kernel
theorem d31_4 : DK cd31 4 (.aload_n 0) 1 := by decide +kernel
theorem d31_5 : DK cd31 5 (.iload_n 1) 1 := by decide +kernel
theorem d31_6 : DK cd31 6 (.invokevirtual 151) 3 := by decide +kernel
theorem d31_9 : DK cd31 9 .ireturn 1 := by decide +kernel
theorem pn_31 : plainName "com/example/slim_kripke/slimkripke/bdd/BddManager" = true := by first | (simp [plainName, overriddenIn]; done) | decide +kernel
theorem ef_31r (m : MethodId) (x0 : Addr) : entryFrame m #[(.ref x0), (.int 2)] 2 = mkF m 0 #[.val (.ref x0), .val (.int 2)] [] := by first | (simp [entryFrame, mkF, argsToLocals, Value.category]; done) | rfl
theorem rm31r (l : Launch) (Z : State) (a0 : Array Value) (hw : ∀ d ∈ tables_1, d.before a0 Z = true) (ws : List Jvm.Cond) {oa qcs qcf qpe qlv qlo qhi qrf qch qbk qca : Addr} {xn xs kk xfc xdp xcz xli xpk : Int32} {xlv xlo xhi xrf xch xbk xca xcf xpe : Int32 → Int32} (h0 : Heap) (n0 : Nat) (Z0 : n0 ≤ h0.size) (B0 : Mg Z n0 h0 oa qcs qcf qpe qlv qlo qhi qrf qch qbk qca xn xs kk xfc xdp xcz xli xpk xlv xlo xhi xrf xch xbk xca xcf xpe) (hfc : ¬ xfc < (4096 / 5)) (hs : ¬ 0 = xs) (hms : ¬ (xca ((f28 6 2 0 0) + 0)) = 6) (hlo : (xlo 2) = 0) (hhi : (xhi 2) = 1) (hwk : own_walk xlv xlo xhi xch (xlv 2) 1 0 3 (xbk ((f17 (xlv 2) 1 0) &&& 4095))) (hf0 : ¬ xfc = 0) (hk : ¬ kk < 0 ∧ kk < 4096) :
    Met1 l Nm_43 (Jvm.Cond.code Nm_43 prog_5_method_17_code 2 (some .int)) ws (rom 6 0 0 120) #[(.ref oa), (.int 2)] Z h0 (QB (some (.int kk)) n0 (fun h => Mg Z n0 h oa qcs qcf qpe qlv qlo qhi qrf qch qbk qca xn xs (xch kk) (xfc - 1) 0 0 xli xpk (own_up xlv kk (xlv 2)) (own_up xlo kk 1) (own_up xhi kk 0) (own_up xrf kk 0) (own_up xch kk (xbk ((f17 (xlv 2) 1 0) &&& 4095))) (own_up xbk ((f17 (xlv 2) 1 0) &&& 4095) kk) (own_up (own_up (own_up (own_up (own_up xca ((f28 6 2 0 0) + 0) 6) ((f28 6 2 0 0) + 1) 2) ((f28 6 2 0 0) + 2) 0) ((f28 6 2 0 0) + 3) 0) ((f28 6 2 0 0) + 4) kk) xcf xpe)) := by
  refine MetFree.of_bodySF (plainFor_of_name pn_31) hisR ?_
  intro p e s m args below meth c s₁ Bd hml0 hP hK
  obtain ⟨rfl, hZ, hh⟩ := hP
  have hx := Bd.exec
  have hby := Bd.bytes
  have hml : c.maxLocals = 2 := hml0
  have hown : s.vm.findClass "com/example/slim_kripke/slimkripke/bdd/BddManager" = some m.cls := findClass_of_methodNamed Bd.named
  have X0 : Stand p l e (rom 6 0 0 120) s m _ _ _ _ _ [] 0 0 := Stand.of_body Bd
  have e0 : s₁.heap = h0 := by rw [← hh, Bd.state]; rfl
  have N0 := Fr.nil n0
  have K0 : Keep h0 h0 [] := Keep.refl _ _
  have pre0 : Go p e below s₁ _ (mkF m 0 #[(vr oa), (vi 2)] []) _ := fun t k => castTop (ef_31r m oa) k
  have pre1 : Go p e below s₁ _ (mkF m 1 #[(vr oa), (vi 2)] [(.ref oa)]) _ := fun t k => pre0 t (by
    refine XS.aloadN X0.here hx rfl (hb hby d31_0) rfl rfl ?_
    exact k)
  obtain ⟨cq2, q2, q2'⟩ := B0.e.cell
  obtain ⟨_, _, ⟨T2, L2, k2, n2⟩, -, X2, ⟨Lc2, hQ2, l2, y2, z2⟩, st2⟩ := X0.privateBack hx (y := Nm_14) hown (mq hZ hw 94 rfl) (mq hZ hw 95 rfl) (own_seli (mq hZ hw 2 rfl) (pq hZ hw 96 rfl) (mq hZ hw 95 rfl) (by decide)) (pq hZ hw 96 rfl) (mq hZ hw 97 rfl) (by decide) (backOf (W := 0) (rm14 l Z a0 hw []  h0 n0 B0.z B0 hfc) hZ (wq hw 97 rfl) (wq hw 3 rfl) (by decide) (by decide)) (g := (mkF m 1 #[(vr oa), (vi 2)] [(.ref oa)])) rfl (by rw [hml]; rfl) (Steps.refl _) (a := oa) (by rw [e0]; exact q2) q2' (argsL := []) (rest := []) (lenOf pd___V rfl) rfl (w00 rfl) (hb hby d31_1) (fun _ _ => ⟨rfl, e0, zz, zz⟩)
  dsimp only [Pt.U, Pt.locs, Pt.cells, Pt.slots] at X2 l2 y2 z2 st2 hQ2
  subst y2 z2
  obtain ⟨rfl, Nq2, Bq2⟩ := hQ2
  have N2 := FrE l2 N0 Nq2
  have B2 : Mg Z n0 T2.heap oa _ _ _ _ _ _ _ _ _ _ xn xs kk xfc 0 0 xli xpk xlv xlo xhi xrf xch xbk xca xcf xpe := Bq2
  have pre3 := Go.trn pre1 st2
  have pre4 : Go p e below T2 _ (mkF m 6 #[(vr oa), (vi 2)] [(.int 2), (.ref oa)]) _ := fun t k => pre3 t (by
    refine XS.aloadN X2.here hx rfl (hb hby d31_4) rfl rfl ?_
    refine XS.iloadN X2.here hx rfl (hb hby d31_5) rfl ?_
    exact k)
  obtain ⟨cq5, q5, q5'⟩ := B2.e.cell
  obtain ⟨_, _, ⟨T5, L5, k5, n5⟩, -, X5, ⟨Lc5, hQ5, l5, y5, z5⟩, st5⟩ := X2.privateBack hx (y := Nm_41) hown (mq hZ hw 181 rfl) (mq hZ hw 182 rfl) (own_seli (mq hZ hw 2 rfl) (pq hZ hw 183 rfl) (mq hZ hw 182 rfl) (by decide)) (pq hZ hw 183 rfl) (mq hZ hw 184 rfl) (by decide) (backOf (W := 0) (rm32r l Z a0 hw []  T2.heap n0 B2.z B2 hs hms hlo hhi hwk hf0 hk) hZ (wq hw 184 rfl) (wq hw 3 rfl) (by decide) (by decide)) (g := (mkF m 6 #[(vr oa), (vi 2)] [(.int 2), (.ref oa)])) rfl (by rw [hml]; rfl) (Steps.refl _) (a := oa) q5 q5' (argsL := [(.int 2)]) (rest := []) (lenOf pd__I_I rfl) rfl (w00 rfl) (hb hby d31_6) (fun _ _ => ⟨rfl, rfl, zz, zz⟩)
  dsimp only [Pt.U, Pt.locs, Pt.cells, Pt.slots] at X5 l5 y5 z5 st5 hQ5
  subst y5 z5
  obtain ⟨rfl, Nq5, Bq5⟩ := hQ5
  have N5 := FrE l5 N2 Nq5
  have B5 : Mg Z n0 T5.heap oa _ _ _ _ _ _ _ _ _ _ xn xs (xch kk) (xfc - 1) 0 0 xli xpk (own_up xlv kk (xlv 2)) (own_up xlo kk 1) (own_up xhi kk 0) (own_up xrf kk 0) (own_up xch kk (xbk ((f17 (xlv 2) 1 0) &&& 4095))) (own_up xbk ((f17 (xlv 2) 1 0) &&& 4095) kk) (own_up (own_up (own_up (own_up (own_up xca ((f28 6 2 0 0) + 0) 6) ((f28 6 2 0 0) + 1) 2) ((f28 6 2 0 0) + 2) 0) ((f28 6 2 0 0) + 3) 0) ((f28 6 2 0 0) + 4) kk) xcf xpe := Bq5
  have pre6 := Go.trn pre4 st5
  obtain ⟨fs, hr, hrun, hended, hW, hsame⟩ := X5.leave (v := some (.int kk)) (fun h => by rw [Bd.returns] at h; cases h)
  refine ⟨_, _, ?_, hrun, hended, _, _, rfl, ?_, ⟨_, rfl⟩, hW, hsame.mono (by decide) (by decide)⟩
  · exact pre6 _ (retI X5 hx Bd.returns (hb hby d31_9) hr)
  · show QB _ _ _ _ T5.heap _
    skip
    exact ⟨rfl, N5, B5⟩
theorem rm31s (l : Launch) (Z : State) (a0 : Array Value) (hw : ∀ d ∈ tables_1, d.before a0 Z = true) (ws : List Jvm.Cond) {oa qcs qcf qpe qlv qlo qhi qrf qch qbk qca : Addr} {xn kk xfc xdp xcz xli xpk : Int32} {xlv xlo xhi xrf xch xbk xca xcf xpe : Int32 → Int32} (h0 : Heap) (n0 : Nat) (Z0 : n0 ≤ h0.size) (B0 : Mg Z n0 h0 oa qcs qcf qpe qlv qlo qhi qrf qch qbk qca xn 0 kk xfc xdp xcz xli xpk xlv xlo xhi xrf xch xbk xca xcf xpe) (hfc : ¬ xfc < (4096 / 5)) (hms : ¬ (xca ((f28 6 2 0 0) + 0)) = 6) (hlo : (xlo 2) = 0) (hhi : (xhi 2) = 1) (hwk : own_walk xlv xlo xhi xch (xlv 2) 1 0 3 (xbk ((f17 (xlv 2) 1 0) &&& 4095))) (hf0 : ¬ xfc = 0) (hk : ¬ kk < 0 ∧ kk < 4096) (hkm : ¬ kk = (-1 : Int32)) :
    Met1 l Nm_43 (Jvm.Cond.code Nm_43 prog_5_method_17_code 2 (some .int)) ws (rom 6 0 0 120) #[(.ref oa), (.int 2)] Z h0 (QB (some (.int kk)) n0 (fun h => Mg Z n0 h oa qcs qcf qpe qlv qlo qhi qrf qch qbk qca xn 0 (xch kk) (xfc - 1) 0 0 xli xpk (own_up xlv kk (xlv 2)) (own_up xlo kk 1) (own_up xhi kk 0) (own_up xrf kk 0) (own_up xch kk (xbk ((f17 (xlv 2) 1 0) &&& 4095))) (own_up xbk ((f17 (xlv 2) 1 0) &&& 4095) kk) (own_up (own_up (own_up (own_up (own_up xca ((f28 6 2 0 0) + 0) 6) ((f28 6 2 0 0) + 1) 2) ((f28 6 2 0 0) + 2) 0) ((f28 6 2 0 0) + 3) 0) ((f28 6 2 0 0) + 4) kk) (own_up (own_up (own_up (own_up (own_up (own_up xcf 0 2) 1 0) 2 0) 3 (xlv 2)) 4 (-1 : Int32)) 4 1) xpe)) := by
  refine MetFree.of_bodySF (plainFor_of_name pn_31) hisR ?_
  intro p e s m args below meth c s₁ Bd hml0 hP hK
  obtain ⟨rfl, hZ, hh⟩ := hP
  have hx := Bd.exec
  have hby := Bd.bytes
  have hml : c.maxLocals = 2 := hml0
  have hown : s.vm.findClass "com/example/slim_kripke/slimkripke/bdd/BddManager" = some m.cls := findClass_of_methodNamed Bd.named
  have X0 : Stand p l e (rom 6 0 0 120) s m _ _ _ _ _ [] 0 0 := Stand.of_body Bd
  have e0 : s₁.heap = h0 := by rw [← hh, Bd.state]; rfl
  have N0 := Fr.nil n0
  have K0 : Keep h0 h0 [] := Keep.refl _ _
  have pre0 : Go p e below s₁ _ (mkF m 0 #[(vr oa), (vi 2)] []) _ := fun t k => castTop (ef_31r m oa) k
  have pre1 : Go p e below s₁ _ (mkF m 1 #[(vr oa), (vi 2)] [(.ref oa)]) _ := fun t k => pre0 t (by
    refine XS.aloadN X0.here hx rfl (hb hby d31_0) rfl rfl ?_
    exact k)
  obtain ⟨cq2, q2, q2'⟩ := B0.e.cell
  obtain ⟨_, _, ⟨T2, L2, k2, n2⟩, -, X2, ⟨Lc2, hQ2, l2, y2, z2⟩, st2⟩ := X0.privateBack hx (y := Nm_14) hown (mq hZ hw 94 rfl) (mq hZ hw 95 rfl) (own_seli (mq hZ hw 2 rfl) (pq hZ hw 96 rfl) (mq hZ hw 95 rfl) (by decide)) (pq hZ hw 96 rfl) (mq hZ hw 97 rfl) (by decide) (backOf (W := 0) (rm14 l Z a0 hw []  h0 n0 B0.z B0 hfc) hZ (wq hw 97 rfl) (wq hw 3 rfl) (by decide) (by decide)) (g := (mkF m 1 #[(vr oa), (vi 2)] [(.ref oa)])) rfl (by rw [hml]; rfl) (Steps.refl _) (a := oa) (by rw [e0]; exact q2) q2' (argsL := []) (rest := []) (lenOf pd___V rfl) rfl (w00 rfl) (hb hby d31_1) (fun _ _ => ⟨rfl, e0, zz, zz⟩)
  dsimp only [Pt.U, Pt.locs, Pt.cells, Pt.slots] at X2 l2 y2 z2 st2 hQ2
  subst y2 z2
  obtain ⟨rfl, Nq2, Bq2⟩ := hQ2
  have N2 := FrE l2 N0 Nq2
  have B2 : Mg Z n0 T2.heap oa _ _ _ _ _ _ _ _ _ _ xn 0 kk xfc 0 0 xli xpk xlv xlo xhi xrf xch xbk xca xcf xpe := Bq2
  have pre3 := Go.trn pre1 st2
  have pre4 : Go p e below T2 _ (mkF m 6 #[(vr oa), (vi 2)] [(.int 2), (.ref oa)]) _ := fun t k => pre3 t (by
    refine XS.aloadN X2.here hx rfl (hb hby d31_4) rfl rfl ?_
    refine XS.iloadN X2.here hx rfl (hb hby d31_5) rfl ?_
    exact k)
  obtain ⟨cq5, q5, q5'⟩ := B2.e.cell
  obtain ⟨_, _, ⟨T5, L5, k5, n5⟩, -, X5, ⟨Lc5, hQ5, l5, y5, z5⟩, st5⟩ := X2.privateBack hx (y := Nm_41) hown (mq hZ hw 181 rfl) (mq hZ hw 182 rfl) (own_seli (mq hZ hw 2 rfl) (pq hZ hw 183 rfl) (mq hZ hw 182 rfl) (by decide)) (pq hZ hw 183 rfl) (mq hZ hw 184 rfl) (by decide) (backOf (W := 0) (rm32s l Z a0 hw []  T2.heap n0 B2.z B2 hms hlo hhi hwk hf0 hk hkm) hZ (wq hw 184 rfl) (wq hw 3 rfl) (by decide) (by decide)) (g := (mkF m 6 #[(vr oa), (vi 2)] [(.int 2), (.ref oa)])) rfl (by rw [hml]; rfl) (Steps.refl _) (a := oa) q5 q5' (argsL := [(.int 2)]) (rest := []) (lenOf pd__I_I rfl) rfl (w00 rfl) (hb hby d31_6) (fun _ _ => ⟨rfl, rfl, zz, zz⟩)
  dsimp only [Pt.U, Pt.locs, Pt.cells, Pt.slots] at X5 l5 y5 z5 st5 hQ5
  subst y5 z5
  obtain ⟨rfl, Nq5, Bq5⟩ := hQ5
  have N5 := FrE l5 N2 Nq5
  have B5 : Mg Z n0 T5.heap oa _ _ _ _ _ _ _ _ _ _ xn 0 (xch kk) (xfc - 1) 0 0 xli xpk (own_up xlv kk (xlv 2)) (own_up xlo kk 1) (own_up xhi kk 0) (own_up xrf kk 0) (own_up xch kk (xbk ((f17 (xlv 2) 1 0) &&& 4095))) (own_up xbk ((f17 (xlv 2) 1 0) &&& 4095) kk) (own_up (own_up (own_up (own_up (own_up xca ((f28 6 2 0 0) + 0) 6) ((f28 6 2 0 0) + 1) 2) ((f28 6 2 0 0) + 2) 0) ((f28 6 2 0 0) + 3) 0) ((f28 6 2 0 0) + 4) kk) (own_up (own_up (own_up (own_up (own_up (own_up xcf 0 2) 1 0) 2 0) 3 (xlv 2)) 4 (-1 : Int32)) 4 1) xpe := Bq5
  have pre6 := Go.trn pre4 st5
  obtain ⟨fs, hr, hrun, hended, hW, hsame⟩ := X5.leave (v := some (.int kk)) (fun h => by rw [Bd.returns] at h; cases h)
  refine ⟨_, _, ?_, hrun, hended, _, _, rfl, ?_, ⟨_, rfl⟩, hW, hsame.mono (by decide) (by decide)⟩
  · exact pre6 _ (retI X5 hx Bd.returns (hb hby d31_9) hr)
  · show QB _ _ _ _ T5.heap _
    skip
    exact ⟨rfl, N5, B5⟩
theorem own_imp {l : Launch} {y : MethodName} {sp : Spec} {P : Array Value → State → Prop} {Q Q' : Option Value → Heap → List Loc → Prop} {k n : Nat} (q : MetFree l y sp P (fun _ _ _ _ _ => True) (fun _ U o U' => ∃ v L, o = .returned v ∧ Q v U'.heap L ∧ FrameEnd U o U' L k n)) (i : ∀ v h L, Q v h L → Q' v h L) : MetFree l y sp P (fun _ _ _ _ _ => True) (fun _ U o U' => ∃ v L, o = .returned v ∧ Q' v U'.heap L ∧ FrameEnd U o U' L k n) := by
  intro p e ha hc hk s m a below hf hA hP hG
  obtain ⟨n, o, h1, h2, h3, v, L, r1, r2, r3⟩ := q p e ha hc hk s m a below hf hA hP hG
  exact ⟨n, o, h1, h2, h3, v, L, r1, i _ _ _ r2, r3⟩
def QE (w : Option Value) (n0 : Nat) (M : (Int32 → Int32) → Int32 → Heap → Prop) (v : Option Value) (h : Heap) (L : List Loc) : Prop := v = w ∧ Fr n0 L ∧ ∃ (f : Int32 → Int32) (z : Int32), M f z h
theorem own_tri {a b : Int32} (h : ¬ a = b) : a < b ∨ b < a := by
  rw [Int32.lt_iff_toInt_lt, Int32.lt_iff_toInt_lt]
  have : a.toInt ≠ b.toInt := fun q => h (Int32.toInt_inj.mp q)
  omega
theorem own_cz {k t : Int32} {a b : Int32 → Int32} (h : a k = t) (h' : b k = 0) : (v29z_33_l4 k t a b) = 0 := by
  unfold v29z_33_l4; rw [if_pos h]; exact h'
theorem own_co {k t : Int32} {a b : Int32 → Int32} (h : a k = t) (h' : b k = 1) : (v29o_33_l4 k t a b) = 1 := by
  unfold v29o_33_l4; rw [if_pos h]; exact h'
theorem own_czm {k t : Int32} {a b : Int32 → Int32} (h : ¬ a k = t) : (v29z_33_l4 k t a b) = k := by
  unfold v29z_33_l4; rw [if_neg h]
theorem own_com {k t : Int32} {a b : Int32 → Int32} (h : ¬ a k = t) : (v29o_33_l4 k t a b) = k := by
  unfold v29o_33_l4; rw [if_neg h]
theorem rm24j (l : Launch) (Z : State) (a0 : Array Value) (hw : ∀ d ∈ tables_1, d.before a0 Z = true) (ws : List Jvm.Cond) {oa qcs qcf qpe qlv qlo qhi qrf qch qbk qca : Addr} {xn xs xfc xdp xcz xli xpk : Int32} {xlv xlo xhi xrf xch xbk xca xcf xpe : Int32 → Int32} (h0 : Heap) (n0 : Nat) (Z0 : n0 ≤ h0.size) (B0 : Mg Z n0 h0 oa qcs qcf qpe qlv qlo qhi qrf qch qbk qca xn xs 4 xfc xdp xcz xli xpk xlv xlo xhi xrf xch xbk xca xcf xpe) (hfc : ¬ xfc < (4096 / 5)) (hab : ¬ (xlv 2) = (xlv 3)) (hlo2 : (xlo 2) = 0) (hhi2 : (xhi 2) = 1) (hlo3 : (xlo 3) = 0) (hhi3 : (xhi 3) = 1) (hms : ¬ (xca ((f28 0 2 3 0) + 0)) = 0) (hwl : own_walk xlv xlo xhi xch (f9 (xlv 2) (xlv 3)) 0 3 3 (xbk ((f17 (f9 (xlv 2) (xlv 3)) 0 3) &&& 4095))) (hwg : own_walk xlv xlo xhi xch (f9 (xlv 2) (xlv 3)) 0 2 3 (xbk ((f17 (f9 (xlv 2) (xlv 3)) 0 2) &&& 4095))) (hf0 : ¬ xfc = 0) :
    Met1 l Nm_40 (Jvm.Cond.code Nm_40 prog_5_method_18_code 3 (some .int)) ws (rom 6 0 0 120) #[(.ref oa), (.int 2), (.int 3)] Z h0 (QE (some (.int 4)) n0 (fun ef ez h => Mg Z n0 h oa qcs qcf qpe qlv qlo qhi qrf qch qbk qca xn xs (xch 4) (xfc - 1) 0 0 xli xpk (own_up xlv 4 (f9 (xlv 2) (xlv 3))) (own_up xlo 4 0) (own_up xhi 4 ez) (own_up xrf 4 0) (own_up xch 4 (xbk ((f17 (f9 (xlv 2) (xlv 3)) 0 ez) &&& 4095))) (own_up xbk ((f17 (f9 (xlv 2) (xlv 3)) 0 ez) &&& 4095) 4) (own_up (own_up (own_up (own_up (own_up xca ((f28 0 2 3 0) + 0) 0) ((f28 0 2 3 0) + 1) 2) ((f28 0 2 3 0) + 2) 3) ((f28 0 2 3 0) + 3) 0) ((f28 0 2 3 0) + 4) 4) ef xpe)) := by
  by_cases hs : xs = (0 : Int32)
  · subst hs
    rcases own_tri hab with hl | hl
    · exact own_imp (rm24s l Z a0 hw ws h0 n0 Z0 B0 hfc (own_cz (own_mnl hl) hlo2) (own_czm (own_mnl' hl)) (own_co (own_mnl hl) hhi2) (own_com (own_mnl' hl)) rfl rfl (by decide) (by decide) hms hwl hf0) (fun v h L q => ⟨q.1, q.2.1, _, (3 : Int32), q.2.2⟩)
    · exact own_imp (rm24s l Z a0 hw ws h0 n0 Z0 B0 hfc (own_czm (own_mnr' hl)) (own_cz (own_mnr hl) hlo3) (own_com (own_mnr' hl)) (own_co (own_mnr hl) hhi3) rfl rfl (by decide) (by decide) hms hwg hf0) (fun v h L q => ⟨q.1, q.2.1, _, (2 : Int32), q.2.2⟩)
  · rcases own_tri hab with hl | hl
    · exact own_imp (rm24r l Z a0 hw ws h0 n0 Z0 B0 hfc (fun q => hs q.symm) (own_cz (own_mnl hl) hlo2) (own_czm (own_mnl' hl)) (own_co (own_mnl hl) hhi2) (own_com (own_mnl' hl)) rfl rfl (by decide) (by decide) hms hwl hf0) (fun v h L q => ⟨q.1, q.2.1, _, (3 : Int32), q.2.2⟩)
    · exact own_imp (rm24r l Z a0 hw ws h0 n0 Z0 B0 hfc (fun q => hs q.symm) (own_czm (own_mnr' hl)) (own_cz (own_mnr hl) hlo3) (own_com (own_mnr' hl)) (own_co (own_mnr hl) hhi3) rfl rfl (by decide) (by decide) hms hwg hf0) (fun v h L q => ⟨q.1, q.2.1, _, (2 : Int32), q.2.2⟩)
theorem rm31j (l : Launch) (Z : State) (a0 : Array Value) (hw : ∀ d ∈ tables_1, d.before a0 Z = true) (ws : List Jvm.Cond) {oa qcs qcf qpe qlv qlo qhi qrf qch qbk qca : Addr} {xn xs kk xfc xdp xcz xli xpk : Int32} {xlv xlo xhi xrf xch xbk xca xcf xpe : Int32 → Int32} (h0 : Heap) (n0 : Nat) (Z0 : n0 ≤ h0.size) (B0 : Mg Z n0 h0 oa qcs qcf qpe qlv qlo qhi qrf qch qbk qca xn xs kk xfc xdp xcz xli xpk xlv xlo xhi xrf xch xbk xca xcf xpe) (hfc : ¬ xfc < (4096 / 5)) (hms : ¬ (xca ((f28 6 2 0 0) + 0)) = 6) (hlo : (xlo 2) = 0) (hhi : (xhi 2) = 1) (hwk : own_walk xlv xlo xhi xch (xlv 2) 1 0 3 (xbk ((f17 (xlv 2) 1 0) &&& 4095))) (hf0 : ¬ xfc = 0) (hk : ¬ kk < 0 ∧ kk < 4096) (hkm : ¬ kk = (-1 : Int32)) :
    Met1 l Nm_43 (Jvm.Cond.code Nm_43 prog_5_method_17_code 2 (some .int)) ws (rom 6 0 0 120) #[(.ref oa), (.int 2)] Z h0 (QE (some (.int kk)) n0 (fun ef ez h => Mg Z n0 h oa qcs qcf qpe qlv qlo qhi qrf qch qbk qca xn xs (xch kk) (xfc - 1) 0 0 xli xpk (own_up xlv kk (xlv 2)) (own_up xlo kk 1) (own_up xhi kk 0) (own_up xrf kk 0) (own_up xch kk (xbk ((f17 (xlv 2) 1 0) &&& 4095))) (own_up xbk ((f17 (xlv 2) 1 0) &&& 4095) kk) (own_up (own_up (own_up (own_up (own_up xca ((f28 6 2 0 0) + 0) 6) ((f28 6 2 0 0) + 1) 2) ((f28 6 2 0 0) + 2) 0) ((f28 6 2 0 0) + 3) 0) ((f28 6 2 0 0) + 4) kk) ef xpe)) := by
  by_cases hs : xs = (0 : Int32)
  · subst hs
    exact own_imp (rm31s l Z a0 hw ws h0 n0 Z0 B0 hfc hms hlo hhi hwk hf0 hk hkm) (fun v h L q => ⟨q.1, q.2.1, _, (0 : Int32), q.2.2⟩)
  · exact own_imp (rm31r l Z a0 hw ws h0 n0 Z0 B0 hfc (fun q => hs q.symm) hms hlo hhi hwk hf0 hk) (fun v h L q => ⟨q.1, q.2.1, _, (0 : Int32), q.2.2⟩)
theorem own_msk31 (h : Int32) : 0 ≤ (h &&& (2147483647 : Int32)).toInt := by
  have e : (h &&& (2147483647 : Int32)).toBitVec = h.toBitVec &&& 2147483647#32 := rfl
  have l : (h.toBitVec &&& 2147483647#32).toNat ≤ 2147483647 := by rw [BitVec.toNat_and]; exact Nat.and_le_right
  have i : (h &&& (2147483647 : Int32)).toInt = ((h.toBitVec &&& 2147483647#32).toNat : Int) := by
    show (h &&& (2147483647 : Int32)).toBitVec.toInt = _
    rw [e, BitVec.toInt_eq_toNat_of_lt (by omega)]
  omega
theorem own_n0 (p : Int32) : ¬ (p &&& (2147483647 : Int32)) < (0 : Int32) := by
  have q := own_msk31 p
  rw [Int32.lt_iff_toInt_lt, show (0 : Int32).toInt = 0 from rfl]; omega
theorem own_rem (p n : Int32) (hn : ¬ n < 0) (h0 : ¬ n = 0) : ¬ ((p &&& (2147483647 : Int32)) - (p &&& (2147483647 : Int32)) / n * n) < 0 ∧ ((p &&& (2147483647 : Int32)) - (p &&& (2147483647 : Int32)) / n * n) < n := by
  have q := own_msk31 p
  generalize (p &&& (2147483647 : Int32)) = x at q
  have hz : (0 : Int32).toInt = 0 := rfl
  have n1 : 0 < n.toInt := by
    rw [Int32.lt_iff_toInt_lt, hz] at hn
    have : n.toInt ≠ 0 := fun r => h0 (Int32.toInt_inj.mp (by rw [r, hz]))
    omega
  have xl := x.toInt_lt
  have d : (x / n).toInt = x.toInt / n.toInt := by
    rw [Int32.toInt_div_of_ne_right x n (fun r => by rw [r, show (-1 : Int32).toInt = -1 from rfl] at n1; omega), Int.tdiv_eq_ediv_of_nonneg q]
  have a := Int.emod_nonneg x.toInt (show n.toInt ≠ 0 by omega)
  have b := Int.emod_lt_of_pos x.toInt n1
  have c := Int.mul_ediv_add_emod x.toInt n.toInt
  rw [Int.mul_comm] at c
  have d0 : 0 ≤ x.toInt / n.toInt * n.toInt := Int.mul_nonneg (Int.ediv_nonneg q (by omega)) (by omega)
  have m : (x / n * n).toInt = x.toInt / n.toInt * n.toInt := by
    rw [Int32.toInt_mul, d, Int.bmod_eq_of_le (by omega) (by omega)]
  have s : (x - x / n * n).toInt = x.toInt - x.toInt / n.toInt * n.toInt := by
    rw [Int32.toInt_sub, m, Int.bmod_eq_of_le (by omega) (by omega)]
  rw [Int32.lt_iff_toInt_lt, Int32.lt_iff_toInt_lt, s, hz]
  omega
theorem pn_0 : plainName "com/example/slim_kripke/slimkripke/bdd/BddManagerLevelPinLaw" = true := by first | (simp [plainName, overriddenIn]; done) | decide +kernel
theorem ef_0 (m : MethodId) (x0 : Int32) (x1 : Int32) (x2 : Int32) (x3 : Int32) : entryFrame m #[(.int x0), (.int x1), (.int x2), (.int x3)] maxLocals = mkF m 0 #[.val (.int x0), .val (.int x1), .val (.int x2), .val (.int x3), .unset, .unset, .unset, .unset, .unset, .unset, .unset, .unset, .unset] [] := by first | (simp [entryFrame, mkF, argsToLocals, Value.category, maxLocals]; done) | rfl
theorem rm0_z (l : Launch) (Z : State) (a0 : Array Value) (hw : ∀ d ∈ tables_1, d.before a0 Z = true) (ws : List Jvm.Cond) (p0 : Int32) (p1 : Int32) (p2 : Int32) (p3 : Int32) (h0 : Heap) (n0 : Nat) (Z0 : n0 ≤ h0.size) (hk : (p0 &&& 2147483647) = 0) :
    Met1 l x (Jvm.Cond.code x code maxLocals ret) ws room_1 #[(.int p0), (.int p1), (.int p2), (.int p3)] Z h0 (QL (some (.int 1)) n0) := by
  refine MetFree.of_bodySF (plainFor_of_name pn_0) hisR ?_
  intro p e s m args below meth c s₁ Bd hml0 hP hK
  obtain ⟨rfl, hZ, hh⟩ := hP
  have hx := Bd.exec
  have hby := Bd.bytes
  have hml : c.maxLocals = 13 := hml0
  have hown : s.vm.findClass "com/example/slim_kripke/slimkripke/bdd/BddManagerLevelPinLaw" = some m.cls := findClass_of_methodNamed Bd.named
  have X0 : Stand p l e room_1 s m _ _ _ _ _ [] 0 0 := Stand.of_body Bd
  have e0 : s₁.heap = h0 := by rw [← hh, Bd.state]; rfl
  have N0 := Fr.nil n0
  have K0 : Keep h0 h0 [] := Keep.refl _ _
  have pre0 : Go p e below s₁ _ (mkF m 0 #[(vi p0), (vi p1), (vi p2), (vi p3), .unset, .unset, .unset, .unset, .unset, .unset, .unset, .unset, .unset] []) _ := fun t k => castTop (ef_0 m p0 p1 p2 p3) k
  have pre1 : Go p e below s₁ _ (mkF m 6 #[(vi p0), (vi p1), (vi p2), (vi p3), (vi (p0 &&& (2147483647 : Int32))), .unset, .unset, .unset, .unset, .unset, .unset, .unset, .unset] []) _ := fun t k => pre0 t (by
    refine XS.iloadN X0.here hx rfl (hb hby at_0) rfl ?_
    refine X0.ldcInt hx hown (mq hZ hw 0 rfl) (g := (mkF m 1 #[(vi p0), (vi p1), (vi p2), (vi p3), .unset, .unset, .unset, .unset, .unset, .unset, .unset, .unset, .unset] [(.int p0)])) rfl (hb hby at_1) _ ?_
    refine XS.iand X0.here hx rfl (hb hby at_3) rfl ?_
    refine XS.istore X0.here hx rfl (hb hby at_4) rfl (l' := #[(vi p0), (vi p1), (vi p2), (vi p3), (vi (p0 &&& (2147483647 : Int32))), .unset, .unset, .unset, .unset, .unset, .unset, .unset, .unset]) rfl ?_
    exact k)
  obtain ⟨T2, h2, X2, e2, E2, A2, D2, -, st2⟩ := newO X0 hx hZ hown (wq hw 1 rfl) (wq hw 2 rfl) (wq hw 3 rfl) e0 (g := (mkF m 6 #[(vi p0), (vi p1), (vi p2), (vi p3), (vi (p0 &&& (2147483647 : Int32))), .unset, .unset, .unset, .unset, .unset, .unset, .unset, .unset] [])) rfl (hb hby at_6) (by decide) (by decide)
  obtain ⟨b6, g2⟩ : ∃ z, z = h0.size := ⟨_, rfl⟩
  rw [← g2] at A2 D2 st2
  have gg2 : n0 ≤ b6 := Nat.le_trans Z0 (Nat.le_of_eq g2.symm)
  have sz2 : h0.size ≤ b6 := Nat.le_trans K0.1 (Nat.le_of_eq g2.symm)
  have K2 : Keep h0 h2 [] := K0.ext E2
  have Z2 : n0 ≤ h2.size := Nat.le_trans Z0 E2.1
  have Fn2_calls : Fld Z h2 b6 "com/example/slim_kripke/slimkripke/bdd/BddManager" "calls" "Lcom/example/slim_kripke/slimkripke/bdd/CallStack;" .null := D2 (Or.inr (wq hw 21 rfl)) (ty := (.object "com/example/slim_kripke/slimkripke/bdd/CallStack")) (by decide)
  have Fn2_pending : Fld Z h2 b6 "com/example/slim_kripke/slimkripke/bdd/BddManager" "pending" "[I" .null := D2 (Or.inl (wq hw 23 rfl)) (ty := (.array .int)) (by decide)
  have Fn2_liveNodes : Fld Z h2 b6 "com/example/slim_kripke/slimkripke/bdd/BddManager" "liveNodes" "I" (.int 0) := D2 (Or.inl (wq hw 25 rfl)) (ty := .int) (by decide)
  have Fn2_peakLiveNodes : Fld Z h2 b6 "com/example/slim_kripke/slimkripke/bdd/BddManager" "peakLiveNodes" "I" (.int 0) := D2 (Or.inl (wq hw 27 rfl)) (ty := .int) (by decide)
  have Fn2_variableCount : Fld Z h2 b6 "com/example/slim_kripke/slimkripke/bdd/BddManager" "variableCount" "I" (.int 0) := D2 (Or.inr (wq hw 29 rfl)) (ty := .int) (by decide)
  have Fn2_recursionLimit : Fld Z h2 b6 "com/example/slim_kripke/slimkripke/bdd/BddManager" "recursionLimit" "I" (.int 0) := D2 (Or.inr (wq hw 31 rfl)) (ty := .int) (by decide)
  have Fn2_levels : Fld Z h2 b6 "com/example/slim_kripke/slimkripke/bdd/BddManager" "levels" "[I" .null := D2 (Or.inl (wq hw 37 rfl)) (ty := (.array .int)) (by decide)
  have Fn2_lows : Fld Z h2 b6 "com/example/slim_kripke/slimkripke/bdd/BddManager" "lows" "[I" .null := D2 (Or.inl (wq hw 39 rfl)) (ty := (.array .int)) (by decide)
  have Fn2_highs : Fld Z h2 b6 "com/example/slim_kripke/slimkripke/bdd/BddManager" "highs" "[I" .null := D2 (Or.inl (wq hw 41 rfl)) (ty := (.array .int)) (by decide)
  have Fn2_references : Fld Z h2 b6 "com/example/slim_kripke/slimkripke/bdd/BddManager" "references" "[I" .null := D2 (Or.inl (wq hw 43 rfl)) (ty := (.array .int)) (by decide)
  have Fn2_chains : Fld Z h2 b6 "com/example/slim_kripke/slimkripke/bdd/BddManager" "chains" "[I" .null := D2 (Or.inl (wq hw 45 rfl)) (ty := (.array .int)) (by decide)
  have Fn2_buckets : Fld Z h2 b6 "com/example/slim_kripke/slimkripke/bdd/BddManager" "buckets" "[I" .null := D2 (Or.inl (wq hw 47 rfl)) (ty := (.array .int)) (by decide)
  have Fn2_firstFree : Fld Z h2 b6 "com/example/slim_kripke/slimkripke/bdd/BddManager" "firstFree" "I" (.int 0) := D2 (Or.inl (wq hw 53 rfl)) (ty := .int) (by decide)
  have Fn2_freeCount : Fld Z h2 b6 "com/example/slim_kripke/slimkripke/bdd/BddManager" "freeCount" "I" (.int 0) := D2 (Or.inl (wq hw 55 rfl)) (ty := .int) (by decide)
  have Fn2_cache : Fld Z h2 b6 "com/example/slim_kripke/slimkripke/bdd/BddManager" "cache" "[I" .null := D2 (Or.inl (wq hw 75 rfl)) (ty := (.array .int)) (by decide)
  have Fn2_depth : Fld Z h2 b6 "com/example/slim_kripke/slimkripke/bdd/BddManager" "depth" "I" (.int 0) := D2 (Or.inl (wq hw 99 rfl)) (ty := .int) (by decide)
  have pre3 := Go.thn pre1 st2
  have pre4 : Go p e below T2 _ (mkF m 13 #[(vi p0), (vi p1), (vi p2), (vi p3), (vi (p0 &&& (2147483647 : Int32))), .unset, .unset, .unset, .unset, .unset, .unset, .unset, .unset] [(.int p3), (.int (p0 &&& (2147483647 : Int32))), (.ref b6), (.ref b6)]) _ := fun t k => pre3 t (by
    refine XS.dup X2.here hx rfl (hb hby at_9) rfl rfl ?_
    refine XS.iload X2.here hx rfl (hb hby at_10) rfl ?_
    refine XS.iloadN X2.here hx rfl (hb hby at_12) rfl ?_
    exact k)
  obtain ⟨_, _, ⟨T5, L5, k5, n5⟩, -, X5, ⟨Lc5, hQ5, l5, y5, z5⟩, st5⟩ := X2.specialBack hx (y := Nm_12) rfl hown (mq hZ hw 4 rfl) (mq hZ hw 5 rfl) (mq hZ hw 6 rfl) (by decide) (backOf (W := 1) (rm1 l Z a0 hw [] b6 (p0 &&& (2147483647 : Int32)) p3 h2 n0 Z2 A2 Fn2_variableCount Fn2_recursionLimit Fn2_firstFree Fn2_freeCount Fn2_depth Fn2_liveNodes Fn2_peakLiveNodes Fn2_levels Fn2_lows Fn2_highs Fn2_references Fn2_chains Fn2_buckets Fn2_cache Fn2_pending Fn2_calls gg2 (own_n0 _)) hZ (wq hw 6 rfl) (wq hw 3 rfl) (by decide) (by decide)) (g := (mkF m 13 #[(vi p0), (vi p1), (vi p2), (vi p3), (vi (p0 &&& (2147483647 : Int32))), .unset, .unset, .unset, .unset, .unset, .unset, .unset, .unset] [(.int p3), (.int (p0 &&& (2147483647 : Int32))), (.ref b6), (.ref b6)])) rfl (by rw [hml]; rfl) (Steps.refl _) (a := b6) (argsL := [(.int (p0 &&& (2147483647 : Int32))), (.int p3)]) (rest := [(.ref b6)]) (lenOf pd__II_V rfl) rfl (w00 rfl) (hb hby at_13) (fun _ _ => ⟨rfl, e2, (by decide : 1 + 10 ≤ _), (by decide : 17 + 45442 ≤ _)⟩)
  dsimp only [Pt.U, Pt.locs, Pt.cells, Pt.slots] at X5 l5 y5 z5 st5 hQ5
  subst y5 z5
  obtain ⟨rfl, Nq5, Kq5, qcs, qcf, qpe, qlv, qlo, qhi, qrf, qch, qbk, qca, Bq5⟩ := hQ5
  have N5 := FrE l5 N0 Nq5
  have pre6 := Go.trn pre4 st5
  have pre7 : Go p e below T5 _ (mkF m 21 #[(vi p0), (vi p1), (vi p2), (vi p3), (vi (p0 &&& (2147483647 : Int32))), (vr b6), .unset, .unset, .unset, .unset, .unset, .unset, .unset] [(.int 0), (.ref b6)]) _ := fun t k => pre6 t (by
    refine XS.astore X5.here hx rfl (hb hby at_16) rfl rfl (l' := #[(vi p0), (vi p1), (vi p2), (vi p3), (vi (p0 &&& (2147483647 : Int32))), (vr b6), .unset, .unset, .unset, .unset, .unset, .unset, .unset]) rfl ?_
    refine XS.aload X5.here hx rfl (hb hby at_18) rfl rfl ?_
    refine XS.iconst X5.here hx rfl (hb hby at_20) ?_
    exact k)
  obtain ⟨cq8, kq8, q8a, q8b, q8c⟩ := isOf hZ rfl Bq5.e
  obtain ⟨_, _, ⟨T8, L8, k8, n8⟩, -, X8, ⟨Lc8, hQ8, l8, y8, z8⟩, st8⟩ := X5.virtualBack hx (y := Nm_15) (z := Nm_15) hown (mq hZ hw 80 rfl) (mq hZ hw 81 rfl) (notFace_of_selects (args := #[]) (mq hZ hw 83 rfl)) (mq hZ hw 83 rfl) (mq hZ hw 82 rfl) (by decide) (backOf (W := 0) (rm11t l Z a0 hw [] (0 : Int32) T5.heap n0 Bq5.z Bq5 (by decide)) hZ (wq hw 84 rfl) (wq hw 3 rfl) (by decide) (by decide)) q8a q8c (g := (mkF m 21 #[(vi p0), (vi p1), (vi p2), (vi p3), (vi (p0 &&& (2147483647 : Int32))), (vr b6), .unset, .unset, .unset, .unset, .unset, .unset, .unset] [(.int 0), (.ref b6)])) rfl (by rw [hml]; rfl) (Steps.refl _) (argsL := [(.int 0)]) (rest := []) (lenOf pd__I_I rfl) rfl (w00 rfl) (hb hby at_21) (fun _ _ => ⟨rfl, rfl, (by decide : 11 + 0 ≤ _), (by decide : 45459 + 0 ≤ _)⟩)
  dsimp only [Pt.U, Pt.locs, Pt.cells, Pt.slots] at X8 l8 y8 z8 st8 hQ8
  subst y8 z8
  obtain ⟨rfl, Nq8, e8⟩ := hQ8
  have N8 := FrE l8 N5 Nq8
  have pre9 := Go.trn pre7 st8
  have pre10 : Go p e below T8 _ (mkF m 32 #[(vi p0), (vi p1), (vi p2), (vi p3), (vi (p0 &&& (2147483647 : Int32))), (vr b6), .unset, .unset, .unset, .unset, .unset, .unset, .unset] [(.int 1), (.ref b6)]) _ := fun t k => pre9 t (by
    refine XS.iload X8.here hx rfl (hb hby at_24) rfl ?_
    refine XS.icmpNo X8.here hx rfl (hb hby at_26) rfl (teq rfl).2 ?_
    refine XS.aload X8.here hx rfl (hb hby at_29) rfl rfl ?_
    refine XS.iconst X8.here hx rfl (hb hby at_31) ?_
    exact k)
  obtain ⟨cq11, kq11, q11a, q11b, q11c⟩ := isOf hZ e8 Bq5.e
  obtain ⟨_, _, ⟨T11, L11, k11, n11⟩, -, X11, ⟨Lc11, hQ11, l11, y11, z11⟩, st11⟩ := X8.virtualBack hx (y := Nm_15) (z := Nm_15) hown (mq hZ hw 80 rfl) (mq hZ hw 81 rfl) (notFace_of_selects (args := #[]) (mq hZ hw 83 rfl)) (mq hZ hw 83 rfl) (mq hZ hw 82 rfl) (by decide) (backOf (W := 0) (rm11t l Z a0 hw [] (1 : Int32) T5.heap n0 Bq5.z Bq5 (by decide)) hZ (wq hw 84 rfl) (wq hw 3 rfl) (by decide) (by decide)) q11a q11c (g := (mkF m 32 #[(vi p0), (vi p1), (vi p2), (vi p3), (vi (p0 &&& (2147483647 : Int32))), (vr b6), .unset, .unset, .unset, .unset, .unset, .unset, .unset] [(.int 1), (.ref b6)])) rfl (by rw [hml]; rfl) (Steps.refl _) (argsL := [(.int 1)]) (rest := []) (lenOf pd__I_I rfl) rfl (w00 rfl) (hb hby at_32) (fun _ _ => ⟨rfl, e8, (by decide : 11 + 0 ≤ _), (by decide : 45459 + 0 ≤ _)⟩)
  dsimp only [Pt.U, Pt.locs, Pt.cells, Pt.slots] at X11 l11 y11 z11 st11 hQ11
  subst y11 z11
  obtain ⟨rfl, Nq11, e11⟩ := hQ11
  have N11 := FrE l11 N8 Nq11
  have pre12 := Go.trn pre10 st11
  have pre13 : Go p e below T11 _ (mkF m 54 #[(vi p0), (vi p1), (vi p2), (vi p3), (vi (p0 &&& (2147483647 : Int32))), (vr b6), (vi 1), .unset, .unset, .unset, .unset, .unset, .unset] [(.int 1)]) _ := fun t k => pre12 t (by
    refine XS.iload X11.here hx rfl (hb hby at_35) rfl ?_
    refine XS.icmpNo X11.here hx rfl (hb hby at_37) rfl (teq rfl).2 ?_
    refine XS.iconst X11.here hx rfl (hb hby at_40) ?_
    refine XS.goto X11.here hx rfl (pc0 := 41) (pc' := 45) rfl (hb hby at_41) (by decide) (by decide) ?_
    refine XS.istore X11.here hx rfl (hb hby at_45) rfl (l' := #[(vi p0), (vi p1), (vi p2), (vi p3), (vi (p0 &&& (2147483647 : Int32))), (vr b6), (vi 1), .unset, .unset, .unset, .unset, .unset, .unset]) rfl ?_
    refine XS.iload X11.here hx rfl (hb hby at_47) rfl ?_
    refine XS.ifNo X11.here hx rfl (hb hby at_49) rfl ((if0 _ _).trans (teq hk).2) ?_
    refine XS.iload X11.here hx rfl (hb hby at_52) rfl ?_
    exact k)
  obtain ⟨fs, hr, hrun, hended, hW, hsame⟩ := X11.leave (v := some (.int 1)) (fun h => by rw [Bd.returns] at h; cases h)
  refine ⟨_, _, ?_, hrun, hended, _, _, rfl, ?_, ⟨_, rfl⟩, hW, hsame.mono (by decide) (by decide)⟩
  · exact pre13 _ (retN X11 hx (t := .boolean) Bd.returns (by simp) (hb hby at_54) hr)
  · exact ⟨rfl, N11, trivial⟩
def v0_e_62 (p0 : Int32) (p1 : Int32) : Int32 := ((p1 &&& (2147483647 : Int32)) - (p1 &&& (2147483647 : Int32)) / (p0 &&& (2147483647 : Int32)) * (p0 &&& (2147483647 : Int32)))
def v0_e_71 (p0 : Int32) (p2 : Int32) : Int32 := ((p2 &&& (2147483647 : Int32)) - (p2 &&& (2147483647 : Int32)) / (p0 &&& (2147483647 : Int32)) * (p0 &&& (2147483647 : Int32)))
theorem rm0_e (l : Launch) (Z : State) (a0 : Array Value) (hw : ∀ d ∈ tables_1, d.before a0 Z = true) (ws : List Jvm.Cond) (p0 : Int32) (p1 : Int32) (p2 : Int32) (p3 : Int32) (h0 : Heap) (n0 : Nat) (Z0 : n0 ≤ h0.size) (hk : ¬ (p0 &&& 2147483647) = 0) (hab : (v0_e_62 p0 p1) = (v0_e_71 p0 p2)) :
    Met1 l x (Jvm.Cond.code x code maxLocals ret) ws room_1 #[(.int p0), (.int p1), (.int p2), (.int p3)] Z h0 (QL (some (.int 1)) n0) := by
  refine MetFree.of_bodySF (plainFor_of_name pn_0) hisR ?_
  intro p e s m args below meth c s₁ Bd hml0 hP hK
  obtain ⟨rfl, hZ, hh⟩ := hP
  have hx := Bd.exec
  have hby := Bd.bytes
  have hml : c.maxLocals = 13 := hml0
  have hown : s.vm.findClass "com/example/slim_kripke/slimkripke/bdd/BddManagerLevelPinLaw" = some m.cls := findClass_of_methodNamed Bd.named
  have X0 : Stand p l e room_1 s m _ _ _ _ _ [] 0 0 := Stand.of_body Bd
  have e0 : s₁.heap = h0 := by rw [← hh, Bd.state]; rfl
  have N0 := Fr.nil n0
  have K0 : Keep h0 h0 [] := Keep.refl _ _
  have pre0 : Go p e below s₁ _ (mkF m 0 #[(vi p0), (vi p1), (vi p2), (vi p3), .unset, .unset, .unset, .unset, .unset, .unset, .unset, .unset, .unset] []) _ := fun t k => castTop (ef_0 m p0 p1 p2 p3) k
  have pre1 : Go p e below s₁ _ (mkF m 6 #[(vi p0), (vi p1), (vi p2), (vi p3), (vi (p0 &&& (2147483647 : Int32))), .unset, .unset, .unset, .unset, .unset, .unset, .unset, .unset] []) _ := fun t k => pre0 t (by
    refine XS.iloadN X0.here hx rfl (hb hby at_0) rfl ?_
    refine X0.ldcInt hx hown (mq hZ hw 0 rfl) (g := (mkF m 1 #[(vi p0), (vi p1), (vi p2), (vi p3), .unset, .unset, .unset, .unset, .unset, .unset, .unset, .unset, .unset] [(.int p0)])) rfl (hb hby at_1) _ ?_
    refine XS.iand X0.here hx rfl (hb hby at_3) rfl ?_
    refine XS.istore X0.here hx rfl (hb hby at_4) rfl (l' := #[(vi p0), (vi p1), (vi p2), (vi p3), (vi (p0 &&& (2147483647 : Int32))), .unset, .unset, .unset, .unset, .unset, .unset, .unset, .unset]) rfl ?_
    exact k)
  obtain ⟨T2, h2, X2, e2, E2, A2, D2, -, st2⟩ := newO X0 hx hZ hown (wq hw 1 rfl) (wq hw 2 rfl) (wq hw 3 rfl) e0 (g := (mkF m 6 #[(vi p0), (vi p1), (vi p2), (vi p3), (vi (p0 &&& (2147483647 : Int32))), .unset, .unset, .unset, .unset, .unset, .unset, .unset, .unset] [])) rfl (hb hby at_6) (by decide) (by decide)
  obtain ⟨b6, g2⟩ : ∃ z, z = h0.size := ⟨_, rfl⟩
  rw [← g2] at A2 D2 st2
  have gg2 : n0 ≤ b6 := Nat.le_trans Z0 (Nat.le_of_eq g2.symm)
  have sz2 : h0.size ≤ b6 := Nat.le_trans K0.1 (Nat.le_of_eq g2.symm)
  have K2 : Keep h0 h2 [] := K0.ext E2
  have Z2 : n0 ≤ h2.size := Nat.le_trans Z0 E2.1
  have Fn2_calls : Fld Z h2 b6 "com/example/slim_kripke/slimkripke/bdd/BddManager" "calls" "Lcom/example/slim_kripke/slimkripke/bdd/CallStack;" .null := D2 (Or.inr (wq hw 21 rfl)) (ty := (.object "com/example/slim_kripke/slimkripke/bdd/CallStack")) (by decide)
  have Fn2_pending : Fld Z h2 b6 "com/example/slim_kripke/slimkripke/bdd/BddManager" "pending" "[I" .null := D2 (Or.inl (wq hw 23 rfl)) (ty := (.array .int)) (by decide)
  have Fn2_liveNodes : Fld Z h2 b6 "com/example/slim_kripke/slimkripke/bdd/BddManager" "liveNodes" "I" (.int 0) := D2 (Or.inl (wq hw 25 rfl)) (ty := .int) (by decide)
  have Fn2_peakLiveNodes : Fld Z h2 b6 "com/example/slim_kripke/slimkripke/bdd/BddManager" "peakLiveNodes" "I" (.int 0) := D2 (Or.inl (wq hw 27 rfl)) (ty := .int) (by decide)
  have Fn2_variableCount : Fld Z h2 b6 "com/example/slim_kripke/slimkripke/bdd/BddManager" "variableCount" "I" (.int 0) := D2 (Or.inr (wq hw 29 rfl)) (ty := .int) (by decide)
  have Fn2_recursionLimit : Fld Z h2 b6 "com/example/slim_kripke/slimkripke/bdd/BddManager" "recursionLimit" "I" (.int 0) := D2 (Or.inr (wq hw 31 rfl)) (ty := .int) (by decide)
  have Fn2_levels : Fld Z h2 b6 "com/example/slim_kripke/slimkripke/bdd/BddManager" "levels" "[I" .null := D2 (Or.inl (wq hw 37 rfl)) (ty := (.array .int)) (by decide)
  have Fn2_lows : Fld Z h2 b6 "com/example/slim_kripke/slimkripke/bdd/BddManager" "lows" "[I" .null := D2 (Or.inl (wq hw 39 rfl)) (ty := (.array .int)) (by decide)
  have Fn2_highs : Fld Z h2 b6 "com/example/slim_kripke/slimkripke/bdd/BddManager" "highs" "[I" .null := D2 (Or.inl (wq hw 41 rfl)) (ty := (.array .int)) (by decide)
  have Fn2_references : Fld Z h2 b6 "com/example/slim_kripke/slimkripke/bdd/BddManager" "references" "[I" .null := D2 (Or.inl (wq hw 43 rfl)) (ty := (.array .int)) (by decide)
  have Fn2_chains : Fld Z h2 b6 "com/example/slim_kripke/slimkripke/bdd/BddManager" "chains" "[I" .null := D2 (Or.inl (wq hw 45 rfl)) (ty := (.array .int)) (by decide)
  have Fn2_buckets : Fld Z h2 b6 "com/example/slim_kripke/slimkripke/bdd/BddManager" "buckets" "[I" .null := D2 (Or.inl (wq hw 47 rfl)) (ty := (.array .int)) (by decide)
  have Fn2_firstFree : Fld Z h2 b6 "com/example/slim_kripke/slimkripke/bdd/BddManager" "firstFree" "I" (.int 0) := D2 (Or.inl (wq hw 53 rfl)) (ty := .int) (by decide)
  have Fn2_freeCount : Fld Z h2 b6 "com/example/slim_kripke/slimkripke/bdd/BddManager" "freeCount" "I" (.int 0) := D2 (Or.inl (wq hw 55 rfl)) (ty := .int) (by decide)
  have Fn2_cache : Fld Z h2 b6 "com/example/slim_kripke/slimkripke/bdd/BddManager" "cache" "[I" .null := D2 (Or.inl (wq hw 75 rfl)) (ty := (.array .int)) (by decide)
  have Fn2_depth : Fld Z h2 b6 "com/example/slim_kripke/slimkripke/bdd/BddManager" "depth" "I" (.int 0) := D2 (Or.inl (wq hw 99 rfl)) (ty := .int) (by decide)
  have pre3 := Go.thn pre1 st2
  have pre4 : Go p e below T2 _ (mkF m 13 #[(vi p0), (vi p1), (vi p2), (vi p3), (vi (p0 &&& (2147483647 : Int32))), .unset, .unset, .unset, .unset, .unset, .unset, .unset, .unset] [(.int p3), (.int (p0 &&& (2147483647 : Int32))), (.ref b6), (.ref b6)]) _ := fun t k => pre3 t (by
    refine XS.dup X2.here hx rfl (hb hby at_9) rfl rfl ?_
    refine XS.iload X2.here hx rfl (hb hby at_10) rfl ?_
    refine XS.iloadN X2.here hx rfl (hb hby at_12) rfl ?_
    exact k)
  obtain ⟨_, _, ⟨T5, L5, k5, n5⟩, -, X5, ⟨Lc5, hQ5, l5, y5, z5⟩, st5⟩ := X2.specialBack hx (y := Nm_12) rfl hown (mq hZ hw 4 rfl) (mq hZ hw 5 rfl) (mq hZ hw 6 rfl) (by decide) (backOf (W := 1) (rm1 l Z a0 hw [] b6 (p0 &&& (2147483647 : Int32)) p3 h2 n0 Z2 A2 Fn2_variableCount Fn2_recursionLimit Fn2_firstFree Fn2_freeCount Fn2_depth Fn2_liveNodes Fn2_peakLiveNodes Fn2_levels Fn2_lows Fn2_highs Fn2_references Fn2_chains Fn2_buckets Fn2_cache Fn2_pending Fn2_calls gg2 (own_n0 _)) hZ (wq hw 6 rfl) (wq hw 3 rfl) (by decide) (by decide)) (g := (mkF m 13 #[(vi p0), (vi p1), (vi p2), (vi p3), (vi (p0 &&& (2147483647 : Int32))), .unset, .unset, .unset, .unset, .unset, .unset, .unset, .unset] [(.int p3), (.int (p0 &&& (2147483647 : Int32))), (.ref b6), (.ref b6)])) rfl (by rw [hml]; rfl) (Steps.refl _) (a := b6) (argsL := [(.int (p0 &&& (2147483647 : Int32))), (.int p3)]) (rest := [(.ref b6)]) (lenOf pd__II_V rfl) rfl (w00 rfl) (hb hby at_13) (fun _ _ => ⟨rfl, e2, (by decide : 1 + 10 ≤ _), (by decide : 17 + 45442 ≤ _)⟩)
  dsimp only [Pt.U, Pt.locs, Pt.cells, Pt.slots] at X5 l5 y5 z5 st5 hQ5
  subst y5 z5
  obtain ⟨rfl, Nq5, Kq5, qcs, qcf, qpe, qlv, qlo, qhi, qrf, qch, qbk, qca, Bq5⟩ := hQ5
  have N5 := FrE l5 N0 Nq5
  have pre6 := Go.trn pre4 st5
  have pre7 : Go p e below T5 _ (mkF m 21 #[(vi p0), (vi p1), (vi p2), (vi p3), (vi (p0 &&& (2147483647 : Int32))), (vr b6), .unset, .unset, .unset, .unset, .unset, .unset, .unset] [(.int 0), (.ref b6)]) _ := fun t k => pre6 t (by
    refine XS.astore X5.here hx rfl (hb hby at_16) rfl rfl (l' := #[(vi p0), (vi p1), (vi p2), (vi p3), (vi (p0 &&& (2147483647 : Int32))), (vr b6), .unset, .unset, .unset, .unset, .unset, .unset, .unset]) rfl ?_
    refine XS.aload X5.here hx rfl (hb hby at_18) rfl rfl ?_
    refine XS.iconst X5.here hx rfl (hb hby at_20) ?_
    exact k)
  obtain ⟨cq8, kq8, q8a, q8b, q8c⟩ := isOf hZ rfl Bq5.e
  obtain ⟨_, _, ⟨T8, L8, k8, n8⟩, -, X8, ⟨Lc8, hQ8, l8, y8, z8⟩, st8⟩ := X5.virtualBack hx (y := Nm_15) (z := Nm_15) hown (mq hZ hw 80 rfl) (mq hZ hw 81 rfl) (notFace_of_selects (args := #[]) (mq hZ hw 83 rfl)) (mq hZ hw 83 rfl) (mq hZ hw 82 rfl) (by decide) (backOf (W := 0) (rm11t l Z a0 hw [] (0 : Int32) T5.heap n0 Bq5.z Bq5 (by decide)) hZ (wq hw 84 rfl) (wq hw 3 rfl) (by decide) (by decide)) q8a q8c (g := (mkF m 21 #[(vi p0), (vi p1), (vi p2), (vi p3), (vi (p0 &&& (2147483647 : Int32))), (vr b6), .unset, .unset, .unset, .unset, .unset, .unset, .unset] [(.int 0), (.ref b6)])) rfl (by rw [hml]; rfl) (Steps.refl _) (argsL := [(.int 0)]) (rest := []) (lenOf pd__I_I rfl) rfl (w00 rfl) (hb hby at_21) (fun _ _ => ⟨rfl, rfl, (by decide : 11 + 0 ≤ _), (by decide : 45459 + 0 ≤ _)⟩)
  dsimp only [Pt.U, Pt.locs, Pt.cells, Pt.slots] at X8 l8 y8 z8 st8 hQ8
  subst y8 z8
  obtain ⟨rfl, Nq8, e8⟩ := hQ8
  have N8 := FrE l8 N5 Nq8
  have pre9 := Go.trn pre7 st8
  have pre10 : Go p e below T8 _ (mkF m 32 #[(vi p0), (vi p1), (vi p2), (vi p3), (vi (p0 &&& (2147483647 : Int32))), (vr b6), .unset, .unset, .unset, .unset, .unset, .unset, .unset] [(.int 1), (.ref b6)]) _ := fun t k => pre9 t (by
    refine XS.iload X8.here hx rfl (hb hby at_24) rfl ?_
    refine XS.icmpNo X8.here hx rfl (hb hby at_26) rfl (teq rfl).2 ?_
    refine XS.aload X8.here hx rfl (hb hby at_29) rfl rfl ?_
    refine XS.iconst X8.here hx rfl (hb hby at_31) ?_
    exact k)
  obtain ⟨cq11, kq11, q11a, q11b, q11c⟩ := isOf hZ e8 Bq5.e
  obtain ⟨_, _, ⟨T11, L11, k11, n11⟩, -, X11, ⟨Lc11, hQ11, l11, y11, z11⟩, st11⟩ := X8.virtualBack hx (y := Nm_15) (z := Nm_15) hown (mq hZ hw 80 rfl) (mq hZ hw 81 rfl) (notFace_of_selects (args := #[]) (mq hZ hw 83 rfl)) (mq hZ hw 83 rfl) (mq hZ hw 82 rfl) (by decide) (backOf (W := 0) (rm11t l Z a0 hw [] (1 : Int32) T5.heap n0 Bq5.z Bq5 (by decide)) hZ (wq hw 84 rfl) (wq hw 3 rfl) (by decide) (by decide)) q11a q11c (g := (mkF m 32 #[(vi p0), (vi p1), (vi p2), (vi p3), (vi (p0 &&& (2147483647 : Int32))), (vr b6), .unset, .unset, .unset, .unset, .unset, .unset, .unset] [(.int 1), (.ref b6)])) rfl (by rw [hml]; rfl) (Steps.refl _) (argsL := [(.int 1)]) (rest := []) (lenOf pd__I_I rfl) rfl (w00 rfl) (hb hby at_32) (fun _ _ => ⟨rfl, e8, (by decide : 11 + 0 ≤ _), (by decide : 45459 + 0 ≤ _)⟩)
  dsimp only [Pt.U, Pt.locs, Pt.cells, Pt.slots] at X11 l11 y11 z11 st11 hQ11
  subst y11 z11
  obtain ⟨rfl, Nq11, e11⟩ := hQ11
  have N11 := FrE l11 N8 Nq11
  have pre12 := Go.trn pre10 st11
  have pre13 : Go p e below T11 _ (mkF m 77 #[(vi p0), (vi p1), (vi p2), (vi p3), (vi (p0 &&& (2147483647 : Int32))), (vr b6), (vi 1), (vi (v0_e_62 p0 p1)), (vi (v0_e_71 p0 p2)), .unset, .unset, .unset, .unset] [(.int (v0_e_62 p0 p1)), (.ref b6)]) _ := fun t k => pre12 t (by
    refine XS.iload X11.here hx rfl (hb hby at_35) rfl ?_
    refine XS.icmpNo X11.here hx rfl (hb hby at_37) rfl (teq rfl).2 ?_
    refine XS.iconst X11.here hx rfl (hb hby at_40) ?_
    refine XS.goto X11.here hx rfl (pc0 := 41) (pc' := 45) rfl (hb hby at_41) (by decide) (by decide) ?_
    refine XS.istore X11.here hx rfl (hb hby at_45) rfl (l' := #[(vi p0), (vi p1), (vi p2), (vi p3), (vi (p0 &&& (2147483647 : Int32))), (vr b6), (vi 1), .unset, .unset, .unset, .unset, .unset, .unset]) rfl ?_
    refine XS.iload X11.here hx rfl (hb hby at_47) rfl ?_
    refine XS.ifYes X11.here hx rfl (pc0 := 49) (pc' := 55) rfl (hb hby at_49) rfl ((if0 _ _).trans (feq hk).2) (by decide) (by decide) ?_
    refine XS.iloadN X11.here hx rfl (hb hby at_55) rfl ?_
    refine X11.ldcInt hx hown (mq hZ hw 0 rfl) (g := (mkF m 56 #[(vi p0), (vi p1), (vi p2), (vi p3), (vi (p0 &&& (2147483647 : Int32))), (vr b6), (vi 1), .unset, .unset, .unset, .unset, .unset, .unset] [(.int p1)])) rfl (hb hby at_56) _ ?_
    refine XS.iand X11.here hx rfl (hb hby at_58) rfl ?_
    refine XS.iload X11.here hx rfl (hb hby at_59) rfl ?_
    refine XS.irem X11.here hx rfl (hb hby at_61) rfl hk ?_
    refine XS.istore X11.here hx rfl (hb hby at_62) rfl (l' := #[(vi p0), (vi p1), (vi p2), (vi p3), (vi (p0 &&& (2147483647 : Int32))), (vr b6), (vi 1), (vi (v0_e_62 p0 p1)), .unset, .unset, .unset, .unset, .unset]) rfl ?_
    refine XS.iloadN X11.here hx rfl (hb hby at_64) rfl ?_
    refine X11.ldcInt hx hown (mq hZ hw 0 rfl) (g := (mkF m 65 #[(vi p0), (vi p1), (vi p2), (vi p3), (vi (p0 &&& (2147483647 : Int32))), (vr b6), (vi 1), (vi (v0_e_62 p0 p1)), .unset, .unset, .unset, .unset, .unset] [(.int p2)])) rfl (hb hby at_65) _ ?_
    refine XS.iand X11.here hx rfl (hb hby at_67) rfl ?_
    refine XS.iload X11.here hx rfl (hb hby at_68) rfl ?_
    refine XS.irem X11.here hx rfl (hb hby at_70) rfl hk ?_
    refine XS.istore X11.here hx rfl (hb hby at_71) rfl (l' := #[(vi p0), (vi p1), (vi p2), (vi p3), (vi (p0 &&& (2147483647 : Int32))), (vr b6), (vi 1), (vi (v0_e_62 p0 p1)), (vi (v0_e_71 p0 p2)), .unset, .unset, .unset, .unset]) rfl ?_
    refine XS.aload X11.here hx rfl (hb hby at_73) rfl rfl ?_
    refine XS.iload X11.here hx rfl (hb hby at_75) rfl ?_
    exact k)
  obtain ⟨cq14, kq14, q14a, q14b, q14c⟩ := isOf hZ e11 Bq5.e
  obtain ⟨_, _, ⟨T14, L14, k14, n14⟩, -, X14, ⟨Lc14, hQ14, l14, y14, z14⟩, st14⟩ := X11.virtualBack hx (y := Nm_26) (z := Nm_26) hown (mq hZ hw 85 rfl) (mq hZ hw 86 rfl) (notFace_of_selects (args := #[]) (mq hZ hw 88 rfl)) (mq hZ hw 88 rfl) (mq hZ hw 87 rfl) (by decide) (backOf (W := 0) (rm12n l Z a0 hw [] (v0_e_62 p0 p1) T5.heap n0 Bq5.z Bq5 (own_rem p1 _ (own_n0 p0) hk).1 (own_rem p1 _ (own_n0 p0) hk).2 (by decide) (by decide) (own_w0 _ _ _ _ _ _ _ _ rfl _) (by decide) (by decide)) hZ (wq hw 89 rfl) (wq hw 3 rfl) (by decide) (by decide)) q14a q14c (g := (mkF m 77 #[(vi p0), (vi p1), (vi p2), (vi p3), (vi (p0 &&& (2147483647 : Int32))), (vr b6), (vi 1), (vi (v0_e_62 p0 p1)), (vi (v0_e_71 p0 p2)), .unset, .unset, .unset, .unset] [(.int (v0_e_62 p0 p1)), (.ref b6)])) rfl (by rw [hml]; rfl) (Steps.refl _) (argsL := [(.int (v0_e_62 p0 p1))]) (rest := []) (lenOf pd__I_Lcom_example_slim_kripke_slimkripke_bdd_Bdd_ rfl) rfl (w00 rfl) (hb hby at_77) (fun _ _ => ⟨rfl, e11, (by decide : 11 + 1 ≤ _), (by decide : 45459 + 2 ≤ _)⟩)
  dsimp only [Pt.U, Pt.locs, Pt.cells, Pt.slots] at X14 l14 y14 z14 st14 hQ14
  subst y14 z14
  obtain ⟨r77, rfl, Nq14, Bq14⟩ := hQ14
  have N14 := FrE l14 N11 Nq14
  have B14 : Mg Z n0 T14.heap b6 _ _ _ _ _ _ _ _ _ _ (p0 &&& 2147483647) p3 3 4093 0 0 3 (f22 2 3) (own_up (own_up (own_up (own_k (-1 : Int32)) 0 (p0 &&& 2147483647)) 1 (p0 &&& 2147483647)) 2 (v0_e_62 p0 p1)) (own_up own_z 2 0) (own_up own_z 2 1) (own_up (own_up own_z 2 0) 2 1) (own_up own_ch0 2 (-1 : Int32)) (own_up (own_k (-1 : Int32)) ((f17 (v0_e_62 p0 p1) 0 1) &&& 4095) 2) own_ca0 own_z (own_up (own_up (own_up own_z 0 2) 0 0) 1 1) := Bq14
  have pre15 := Go.trn pre13 st14
  have pre16 : Go p e below T14 _ (mkF m 85 #[(vi p0), (vi p1), (vi p2), (vi p3), (vi (p0 &&& (2147483647 : Int32))), (vr b6), (vi 1), (vi (v0_e_62 p0 p1)), (vi (v0_e_71 p0 p2)), .unset, .unset, .unset, .unset] [(.int (v0_e_71 p0 p2)), (.ref b6)]) _ := fun t k => pre15 t (by
    refine XS.pop X14.here hx rfl (hb hby at_80) rfl rfl ?_
    refine XS.aload X14.here hx rfl (hb hby at_81) rfl rfl ?_
    refine XS.iload X14.here hx rfl (hb hby at_83) rfl ?_
    exact k)
  obtain ⟨cq17, kq17, q17a, q17b, q17c⟩ := isOf hZ rfl B14.e
  obtain ⟨_, _, ⟨T17, L17, k17, n17⟩, -, X17, ⟨Lc17, hQ17, l17, y17, z17⟩, st17⟩ := X14.virtualBack hx (y := Nm_26) (z := Nm_26) hown (mq hZ hw 85 rfl) (mq hZ hw 86 rfl) (notFace_of_selects (args := #[]) (mq hZ hw 88 rfl)) (mq hZ hw 88 rfl) (mq hZ hw 87 rfl) (by decide) (backOf (W := 0) (rm12f l Z a0 hw [] (v0_e_71 p0 p2) T14.heap n0 B14.z B14 (own_rem p2 _ (own_n0 p0) hk).1 (own_rem p2 _ (own_n0 p0) hk).2 (by decide) (by rw [hab]; exact own_up_s _ _ _) hab rfl rfl (by decide)) hZ (wq hw 89 rfl) (wq hw 3 rfl) (by decide) (by decide)) q17a q17c (g := (mkF m 85 #[(vi p0), (vi p1), (vi p2), (vi p3), (vi (p0 &&& (2147483647 : Int32))), (vr b6), (vi 1), (vi (v0_e_62 p0 p1)), (vi (v0_e_71 p0 p2)), .unset, .unset, .unset, .unset] [(.int (v0_e_71 p0 p2)), (.ref b6)])) rfl (by rw [hml]; rfl) (Steps.refl _) (argsL := [(.int (v0_e_71 p0 p2))]) (rest := []) (lenOf pd__I_Lcom_example_slim_kripke_slimkripke_bdd_Bdd_ rfl) rfl (w00 rfl) (hb hby at_85) (fun _ _ => ⟨rfl, rfl, (by decide : 12 + 1 ≤ _), (by decide : 45461 + 2 ≤ _)⟩)
  dsimp only [Pt.U, Pt.locs, Pt.cells, Pt.slots] at X17 l17 y17 z17 st17 hQ17
  subst y17 z17
  obtain ⟨r85, rfl, Nq17, Bq17⟩ := hQ17
  have N17 := FrE l17 N14 Nq17
  have B17 : Mg Z n0 T17.heap b6 _ _ _ _ _ _ _ _ _ _ (p0 &&& 2147483647) p3 3 4093 0 0 3 (f22 (f22 2 3) 3) (own_up (own_up (own_up (own_k (-1 : Int32)) 0 (p0 &&& 2147483647)) 1 (p0 &&& 2147483647)) 2 (v0_e_62 p0 p1)) (own_up own_z 2 0) (own_up own_z 2 1) (own_up (own_up (own_up own_z 2 0) 2 1) 2 2) (own_up own_ch0 2 (-1 : Int32)) (own_up (own_k (-1 : Int32)) ((f17 (v0_e_62 p0 p1) 0 1) &&& 4095) 2) own_ca0 own_z (own_up (own_up (own_up (own_up own_z 0 2) 0 0) 1 1) 0 2) := Bq17
  have pre18 := Go.trn pre16 st17
  have pre19 : Go p e below T17 _ (mkF m 115 #[(vi p0), (vi p1), (vi p2), (vi p3), (vi (p0 &&& (2147483647 : Int32))), (vr b6), (vi 1), (vi (v0_e_62 p0 p1)), (vi (v0_e_71 p0 p2)), (vi 2), (vi 2), .unset, .unset] [(.int 2), (.ref b6)]) _ := fun t k => pre18 t (by
    refine XS.pop X17.here hx rfl (hb hby at_88) rfl rfl ?_
    refine XS.iconst X17.here hx rfl (hb hby at_89) ?_
    refine XS.istore X17.here hx rfl (hb hby at_90) rfl (l' := #[(vi p0), (vi p1), (vi p2), (vi p3), (vi (p0 &&& (2147483647 : Int32))), (vr b6), (vi 1), (vi (v0_e_62 p0 p1)), (vi (v0_e_71 p0 p2)), (vi 2), .unset, .unset, .unset]) rfl ?_
    refine XS.iload X17.here hx rfl (hb hby at_92) rfl ?_
    refine XS.iload X17.here hx rfl (hb hby at_94) rfl ?_
    refine XS.icmpNo X17.here hx rfl (hb hby at_96) rfl (teq hab).2 ?_
    refine XS.iconst X17.here hx rfl (hb hby at_99) ?_
    refine XS.goto X17.here hx rfl (pc0 := 100) (pc' := 104) rfl (hb hby at_100) (by decide) (by decide) ?_
    refine XS.istore X17.here hx rfl (hb hby at_104) rfl (l' := #[(vi p0), (vi p1), (vi p2), (vi p3), (vi (p0 &&& (2147483647 : Int32))), (vr b6), (vi 1), (vi (v0_e_62 p0 p1)), (vi (v0_e_71 p0 p2)), (vi 2), (vi 2), .unset, .unset]) rfl ?_
    refine XS.iload X17.here hx rfl (hb hby at_106) rfl ?_
    refine XS.ifNo X17.here hx rfl (hb hby at_108) rfl (by decide) ?_
    refine XS.aload X17.here hx rfl (hb hby at_111) rfl rfl ?_
    refine XS.iload X17.here hx rfl (hb hby at_113) rfl ?_
    exact k)
  obtain ⟨cq20, kq20, q20a, q20b, q20c⟩ := isOf hZ rfl B17.e
  obtain ⟨_, _, ⟨T20, L20, k20, n20⟩, -, X20, ⟨Lc20, hQ20, l20, y20, z20⟩, st20⟩ := X17.virtualBack hx (y := Nm_15) (z := Nm_15) hown (mq hZ hw 80 rfl) (mq hZ hw 81 rfl) (notFace_of_selects (args := #[]) (mq hZ hw 83 rfl)) (mq hZ hw 83 rfl) (mq hZ hw 82 rfl) (by decide) (backOf (W := 0) (rm11n l Z a0 hw [] (2 : Int32) T17.heap n0 B17.z B17 (by decide) (by decide) (by decide)) hZ (wq hw 84 rfl) (wq hw 3 rfl) (by decide) (by decide)) q20a q20c (g := (mkF m 115 #[(vi p0), (vi p1), (vi p2), (vi p3), (vi (p0 &&& (2147483647 : Int32))), (vr b6), (vi 1), (vi (v0_e_62 p0 p1)), (vi (v0_e_71 p0 p2)), (vi 2), (vi 2), .unset, .unset] [(.int 2), (.ref b6)])) rfl (by rw [hml]; rfl) (Steps.refl _) (argsL := [(.int 2)]) (rest := []) (lenOf pd__I_I rfl) rfl (w00 rfl) (hb hby at_115) (fun _ _ => ⟨rfl, rfl, (by decide : 13 + 0 ≤ _), (by decide : 45463 + 0 ≤ _)⟩)
  dsimp only [Pt.U, Pt.locs, Pt.cells, Pt.slots] at X20 l20 y20 z20 st20 hQ20
  subst y20 z20
  obtain ⟨rfl, Nq20, e20⟩ := hQ20
  have N20 := FrE l20 N17 Nq20
  have pre21 := Go.trn pre19 st20
  have pre22 : Go p e below T20 _ (mkF m 127 #[(vi p0), (vi p1), (vi p2), (vi p3), (vi (p0 &&& (2147483647 : Int32))), (vr b6), (vi 1), (vi (v0_e_62 p0 p1)), (vi (v0_e_71 p0 p2)), (vi 2), (vi 2), .unset, .unset] [(.int 2), (.ref b6)]) _ := fun t k => pre21 t (by
    refine XS.iload X20.here hx rfl (hb hby at_118) rfl ?_
    refine XS.icmpNo X20.here hx rfl (hb hby at_120) rfl (teq rfl).2 ?_
    refine XS.aload X20.here hx rfl (hb hby at_123) rfl rfl ?_
    refine XS.iload X20.here hx rfl (hb hby at_125) rfl ?_
    exact k)
  obtain ⟨cq23, kq23, q23a, q23b, q23c⟩ := isOf hZ e20 B17.e
  obtain ⟨_, _, ⟨T23, L23, k23, n23⟩, -, X23, ⟨Lc23, hQ23, l23, y23, z23⟩, st23⟩ := X20.virtualBack hx (y := Nm_15) (z := Nm_15) hown (mq hZ hw 80 rfl) (mq hZ hw 81 rfl) (notFace_of_selects (args := #[]) (mq hZ hw 83 rfl)) (mq hZ hw 83 rfl) (mq hZ hw 82 rfl) (by decide) (backOf (W := 0) (rm11n l Z a0 hw [] (2 : Int32) T17.heap n0 B17.z B17 (by decide) (by decide) (by decide)) hZ (wq hw 84 rfl) (wq hw 3 rfl) (by decide) (by decide)) q23a q23c (g := (mkF m 127 #[(vi p0), (vi p1), (vi p2), (vi p3), (vi (p0 &&& (2147483647 : Int32))), (vr b6), (vi 1), (vi (v0_e_62 p0 p1)), (vi (v0_e_71 p0 p2)), (vi 2), (vi 2), .unset, .unset] [(.int 2), (.ref b6)])) rfl (by rw [hml]; rfl) (Steps.refl _) (argsL := [(.int 2)]) (rest := []) (lenOf pd__I_I rfl) rfl (w00 rfl) (hb hby at_127) (fun _ _ => ⟨rfl, e20, (by decide : 13 + 0 ≤ _), (by decide : 45463 + 0 ≤ _)⟩)
  dsimp only [Pt.U, Pt.locs, Pt.cells, Pt.slots] at X23 l23 y23 z23 st23 hQ23
  subst y23 z23
  obtain ⟨rfl, Nq23, e23⟩ := hQ23
  have N23 := FrE l23 N20 Nq23
  have pre24 := Go.trn pre22 st23
  have pre25 : Go p e below T23 _ (mkF m 148 #[(vi p0), (vi p1), (vi p2), (vi p3), (vi (p0 &&& (2147483647 : Int32))), (vr b6), (vi 1), (vi (v0_e_62 p0 p1)), (vi (v0_e_71 p0 p2)), (vi 2), (vi 2), .unset, .unset] [(.int 2), (.int 2), (.ref b6)]) _ := fun t k => pre24 t (by
    refine XS.iload X23.here hx rfl (hb hby at_130) rfl ?_
    refine XS.icmpNo X23.here hx rfl (hb hby at_132) rfl (teq hab).2 ?_
    refine XS.iconst X23.here hx rfl (hb hby at_135) ?_
    refine XS.goto X23.here hx rfl (pc0 := 136) (pc' := 140) rfl (hb hby at_136) (by decide) (by decide) ?_
    refine XS.istore X23.here hx rfl (hb hby at_140) rfl (l' := #[(vi p0), (vi p1), (vi p2), (vi p3), (vi (p0 &&& (2147483647 : Int32))), (vr b6), (vi 1), (vi (v0_e_62 p0 p1)), (vi (v0_e_71 p0 p2)), (vi 2), (vi 2), .unset, .unset]) rfl ?_
    refine XS.aload X23.here hx rfl (hb hby at_142) rfl rfl ?_
    refine XS.iload X23.here hx rfl (hb hby at_144) rfl ?_
    refine XS.iload X23.here hx rfl (hb hby at_146) rfl ?_
    exact k)
  obtain ⟨cq26, kq26, q26a, q26b, q26c⟩ := isOf hZ e23 B17.e
  obtain ⟨_, _, ⟨T26, L26, k26, n26⟩, -, X26, ⟨Lc26, hQ26, l26, y26, z26⟩, st26⟩ := X23.virtualBack hx (y := Nm_40) (z := Nm_40) hown (mq hZ hw 147 rfl) (mq hZ hw 148 rfl) (notFace_of_selects (args := #[]) (mq hZ hw 150 rfl)) (mq hZ hw 150 rfl) (mq hZ hw 149 rfl) (by decide) (backOf (W := 0) (rm24t l Z a0 hw []  T17.heap n0 B17.z B17 (by decide)) hZ (wq hw 151 rfl) (wq hw 3 rfl) (by decide) (by decide)) q26a q26c (g := (mkF m 148 #[(vi p0), (vi p1), (vi p2), (vi p3), (vi (p0 &&& (2147483647 : Int32))), (vr b6), (vi 1), (vi (v0_e_62 p0 p1)), (vi (v0_e_71 p0 p2)), (vi 2), (vi 2), .unset, .unset] [(.int 2), (.int 2), (.ref b6)])) rfl (by rw [hml]; rfl) (Steps.refl _) (argsL := [(.int 2), (.int 2)]) (rest := []) (lenOf pd__II_I rfl) rfl (w00 rfl) (hb hby at_148) (fun _ _ => ⟨rfl, e23, (by decide : 13 + 0 ≤ _), (by decide : 45463 + 0 ≤ _)⟩)
  dsimp only [Pt.U, Pt.locs, Pt.cells, Pt.slots] at X26 l26 y26 z26 st26 hQ26
  subst y26 z26
  obtain ⟨rfl, Nq26, Bq26⟩ := hQ26
  have N26 := FrE l26 N23 Nq26
  have B26 : Mg Z n0 T26.heap b6 _ _ _ _ _ _ _ _ _ _ (p0 &&& 2147483647) p3 3 4093 0 0 3 (f22 (f22 2 3) 3) (own_up (own_up (own_up (own_k (-1 : Int32)) 0 (p0 &&& 2147483647)) 1 (p0 &&& 2147483647)) 2 (v0_e_62 p0 p1)) (own_up own_z 2 0) (own_up own_z 2 1) (own_up (own_up (own_up own_z 2 0) 2 1) 2 2) (own_up own_ch0 2 (-1 : Int32)) (own_up (own_k (-1 : Int32)) ((f17 (v0_e_62 p0 p1) 0 1) &&& 4095) 2) own_ca0 own_z (own_up (own_up (own_up (own_up own_z 0 2) 0 0) 1 1) 0 2) := Bq26
  have pre27 := Go.trn pre25 st26
  have pre28 : Go p e below T26 _ (mkF m 157 #[(vi p0), (vi p1), (vi p2), (vi p3), (vi (p0 &&& (2147483647 : Int32))), (vr b6), (vi 1), (vi (v0_e_62 p0 p1)), (vi (v0_e_71 p0 p2)), (vi 2), (vi 2), (vi 2), .unset] [(.int 2), (.ref b6)]) _ := fun t k => pre27 t (by
    refine XS.istore X26.here hx rfl (hb hby at_151) rfl (l' := #[(vi p0), (vi p1), (vi p2), (vi p3), (vi (p0 &&& (2147483647 : Int32))), (vr b6), (vi 1), (vi (v0_e_62 p0 p1)), (vi (v0_e_71 p0 p2)), (vi 2), (vi 2), (vi 2), .unset]) rfl ?_
    refine XS.aload X26.here hx rfl (hb hby at_153) rfl rfl ?_
    refine XS.iload X26.here hx rfl (hb hby at_155) rfl ?_
    exact k)
  obtain ⟨cq29, kq29, q29a, q29b, q29c⟩ := isOf hZ rfl B26.e
  obtain ⟨_, _, ⟨T29, L29, k29, n29⟩, -, X29, ⟨Lc29, hQ29, l29, y29, z29⟩, st29⟩ := X26.virtualBack hx (y := Nm_43) (z := Nm_43) hown (mq hZ hw 176 rfl) (mq hZ hw 177 rfl) (notFace_of_selects (args := #[]) (mq hZ hw 179 rfl)) (mq hZ hw 179 rfl) (mq hZ hw 178 rfl) (by decide) (backOf (W := 0) (rm31j l Z a0 hw []  T26.heap n0 B26.z B26 (by decide) (own_ms _ _ _ _ _ (by decide)) rfl rfl (own_w1s (fun q => absurd q.2.1 (by decide))) (by decide) (by decide) (by decide)) hZ (wq hw 180 rfl) (wq hw 3 rfl) (by decide) (by decide)) q29a q29c (g := (mkF m 157 #[(vi p0), (vi p1), (vi p2), (vi p3), (vi (p0 &&& (2147483647 : Int32))), (vr b6), (vi 1), (vi (v0_e_62 p0 p1)), (vi (v0_e_71 p0 p2)), (vi 2), (vi 2), (vi 2), .unset] [(.int 2), (.ref b6)])) rfl (by rw [hml]; rfl) (Steps.refl _) (argsL := [(.int 2)]) (rest := []) (lenOf pd__I_I rfl) rfl (w00 rfl) (hb hby at_157) (fun _ _ => ⟨rfl, rfl, (by decide : 13 + 0 ≤ _), (by decide : 45463 + 0 ≤ _)⟩)
  dsimp only [Pt.U, Pt.locs, Pt.cells, Pt.slots] at X29 l29 y29 z29 st29 hQ29
  subst y29 z29
  obtain ⟨rfl, Nq29, ef157, ez157, Bq29⟩ := hQ29
  have N29 := FrE l29 N26 Nq29
  have B29 : Mg Z n0 T29.heap b6 _ _ _ _ _ _ _ _ _ _ (p0 &&& 2147483647) p3 4 4092 0 0 3 (f22 (f22 2 3) 3) (own_up (own_up (own_up (own_up (own_k (-1 : Int32)) 0 (p0 &&& 2147483647)) 1 (p0 &&& 2147483647)) 2 (v0_e_62 p0 p1)) 3 (v0_e_62 p0 p1)) (own_up (own_up own_z 2 0) 3 1) (own_up (own_up own_z 2 1) 3 0) (own_up (own_up (own_up (own_up own_z 2 0) 2 1) 2 2) 3 0) (own_up (own_up own_ch0 2 (-1 : Int32)) 3 ((own_up (own_k (-1 : Int32)) ((f17 (v0_e_62 p0 p1) 0 1) &&& 4095) 2) ((f17 (v0_e_62 p0 p1) 1 0) &&& 4095))) (own_up (own_up (own_k (-1 : Int32)) ((f17 (v0_e_62 p0 p1) 0 1) &&& 4095) 2) ((f17 (v0_e_62 p0 p1) 1 0) &&& 4095) 3) (own_up (own_up (own_up (own_up (own_up own_ca0 ((f28 6 2 0 0) + 0) 6) ((f28 6 2 0 0) + 1) 2) ((f28 6 2 0 0) + 2) 0) ((f28 6 2 0 0) + 3) 0) ((f28 6 2 0 0) + 4) 3) ef157 (own_up (own_up (own_up (own_up own_z 0 2) 0 0) 1 1) 0 2) := Bq29
  have pre30 : Go p e below T29 _ (mkF m 160 #[(vi p0), (vi p1), (vi p2), (vi p3), (vi (p0 &&& (2147483647 : Int32))), (vr b6), (vi 1), (vi (v0_e_62 p0 p1)), (vi (v0_e_71 p0 p2)), (vi 2), (vi 2), (vi 2), .unset] [(.int 3)]) _ := fun t k => pre28 t ((st29).trans k)
  have pre31 : Go p e below T29 _ (mkF m 177 #[(vi p0), (vi p1), (vi p2), (vi p3), (vi (p0 &&& (2147483647 : Int32))), (vr b6), (vi 1), (vi (v0_e_62 p0 p1)), (vi (v0_e_71 p0 p2)), (vi 2), (vi 2), (vi 2), (vi 3)] [(.int 2), (.ref b6)]) _ := fun t k => pre30 t (by
    refine XS.istore X29.here hx rfl (hb hby at_160) rfl (l' := #[(vi p0), (vi p1), (vi p2), (vi p3), (vi (p0 &&& (2147483647 : Int32))), (vr b6), (vi 1), (vi (v0_e_62 p0 p1)), (vi (v0_e_71 p0 p2)), (vi 2), (vi 2), (vi 2), (vi 3)]) rfl ?_
    refine XS.iload X29.here hx rfl (hb hby at_162) rfl ?_
    refine XS.ifNo X29.here hx rfl (hb hby at_164) rfl (by decide) ?_
    refine XS.iload X29.here hx rfl (hb hby at_167) rfl ?_
    refine XS.iconst X29.here hx rfl (hb hby at_169) ?_
    refine XS.icmpNo X29.here hx rfl (hb hby at_170) rfl (by decide) ?_
    refine XS.aload X29.here hx rfl (hb hby at_173) rfl rfl ?_
    refine XS.iload X29.here hx rfl (hb hby at_175) rfl ?_
    exact k)
  obtain ⟨cq32, kq32, q32a, q32b, q32c⟩ := isOf hZ rfl B29.e
  obtain ⟨_, _, ⟨T32, L32, k32, n32⟩, -, X32, ⟨Lc32, hQ32, l32, y32, z32⟩, st32⟩ := X29.virtualBack hx (y := Nm_15) (z := Nm_15) hown (mq hZ hw 80 rfl) (mq hZ hw 81 rfl) (notFace_of_selects (args := #[]) (mq hZ hw 83 rfl)) (mq hZ hw 83 rfl) (mq hZ hw 82 rfl) (by decide) (backOf (W := 0) (rm11n l Z a0 hw [] (2 : Int32) T29.heap n0 B29.z B29 (by decide) (by decide) (by decide)) hZ (wq hw 84 rfl) (wq hw 3 rfl) (by decide) (by decide)) q32a q32c (g := (mkF m 177 #[(vi p0), (vi p1), (vi p2), (vi p3), (vi (p0 &&& (2147483647 : Int32))), (vr b6), (vi 1), (vi (v0_e_62 p0 p1)), (vi (v0_e_71 p0 p2)), (vi 2), (vi 2), (vi 2), (vi 3)] [(.int 2), (.ref b6)])) rfl (by rw [hml]; rfl) (Steps.refl _) (argsL := [(.int 2)]) (rest := []) (lenOf pd__I_I rfl) rfl (w00 rfl) (hb hby at_177) (fun _ _ => ⟨rfl, rfl, (by decide : 13 + 0 ≤ _), (by decide : 45463 + 0 ≤ _)⟩)
  dsimp only [Pt.U, Pt.locs, Pt.cells, Pt.slots] at X32 l32 y32 z32 st32 hQ32
  subst y32 z32
  obtain ⟨rfl, Nq32, e32⟩ := hQ32
  have N32 := FrE l32 N29 Nq32
  have pre33 := Go.trn pre31 st32
  have pre34 : Go p e below T32 _ (mkF m 184 #[(vi p0), (vi p1), (vi p2), (vi p3), (vi (p0 &&& (2147483647 : Int32))), (vr b6), (vi 1), (vi (v0_e_62 p0 p1)), (vi (v0_e_71 p0 p2)), (vi 2), (vi 2), (vi 2), (vi 3)] [(.int (v0_e_71 p0 p2)), (.int (v0_e_62 p0 p1)), (.int (v0_e_62 p0 p1))]) _ := fun t k => pre33 t (by
    refine XS.iload X32.here hx rfl (hb hby at_180) rfl ?_
    refine XS.iload X32.here hx rfl (hb hby at_182) rfl ?_
    exact k)
  obtain ⟨_, _, ⟨T35, L35, k35, n35⟩, -, X35, ⟨Lc35, hQ35, l35, y35, z35⟩, st35⟩ := Jvm.LawKit.callS X32 hx (y := Nm_2) hown (mq hZ hw 185 rfl) (mq hZ hw 71 rfl) (mq hZ hw 72 rfl) (mq hZ hw 73 rfl) (by decide) (backOf (W := 1) (rm9 l Z a0 hw [] (v0_e_62 p0 p1) (v0_e_71 p0 p2) T29.heap n0 B29.z) hZ (wq hw 73 rfl) (wq hw 72 rfl) (by decide) (by decide)) (g := (mkF m 184 #[(vi p0), (vi p1), (vi p2), (vi p3), (vi (p0 &&& (2147483647 : Int32))), (vr b6), (vi 1), (vi (v0_e_62 p0 p1)), (vi (v0_e_71 p0 p2)), (vi 2), (vi 2), (vi 2), (vi 3)] [(.int (v0_e_71 p0 p2)), (.int (v0_e_62 p0 p1)), (.int (v0_e_62 p0 p1))])) rfl (by rw [hml]; rfl) (argsL := [(.int (v0_e_62 p0 p1)), (.int (v0_e_71 p0 p2))]) (rest := [(.int (v0_e_62 p0 p1))]) (lenOf pd__II_I rfl) rfl (w00 rfl) (hb hby at_184) (fun _ _ => ⟨rfl, e32, (by decide : 13 + 0 ≤ _), (by decide : 45463 + 0 ≤ _)⟩)
  dsimp only [Pt.U, Pt.locs, Pt.cells, Pt.slots] at X35 l35 y35 z35 st35 hQ35
  subst y35 z35
  obtain ⟨rfl, Nq35, e35⟩ := hQ35
  have N35 := FrE l35 N32 Nq35
  have pre36 := Go.thn pre34 st35
  have pre37 : Go p e below T35 _ (mkF m 212 #[(vi p0), (vi p1), (vi p2), (vi p3), (vi (p0 &&& (2147483647 : Int32))), (vr b6), (vi 1), (vi (v0_e_62 p0 p1)), (vi (v0_e_71 p0 p2)), (vi 2), (vi 2), (vi 2), (vi 3)] [(.int 3), (.ref b6)]) _ := fun t k => pre36 t (by
    refine XS.icmpNo X35.here hx rfl (hb hby at_187) rfl (teq (own_mne hab)).2 ?_
    refine XS.iconst X35.here hx rfl (hb hby at_190) ?_
    refine XS.goto X35.here hx rfl (pc0 := 191) (pc' := 195) rfl (hb hby at_191) (by decide) (by decide) ?_
    refine XS.istore X35.here hx rfl (hb hby at_195) rfl (l' := #[(vi p0), (vi p1), (vi p2), (vi p3), (vi (p0 &&& (2147483647 : Int32))), (vr b6), (vi 1), (vi (v0_e_62 p0 p1)), (vi (v0_e_71 p0 p2)), (vi 2), (vi 2), (vi 2), (vi 3)]) rfl ?_
    refine XS.iload X35.here hx rfl (hb hby at_197) rfl ?_
    refine XS.ifNo X35.here hx rfl (hb hby at_199) rfl (by decide) ?_
    refine XS.iload X35.here hx rfl (hb hby at_202) rfl ?_
    refine XS.iconst X35.here hx rfl (hb hby at_204) ?_
    refine XS.icmpNo X35.here hx rfl (hb hby at_205) rfl (by decide) ?_
    refine XS.aload X35.here hx rfl (hb hby at_208) rfl rfl ?_
    refine XS.iload X35.here hx rfl (hb hby at_210) rfl ?_
    exact k)
  obtain ⟨cq38, kq38, q38a, q38b, q38c⟩ := isOf hZ e35 B29.e
  obtain ⟨_, _, ⟨T38, L38, k38, n38⟩, -, X38, ⟨Lc38, hQ38, l38, y38, z38⟩, st38⟩ := X35.virtualBack hx (y := Nm_15) (z := Nm_15) hown (mq hZ hw 80 rfl) (mq hZ hw 81 rfl) (notFace_of_selects (args := #[]) (mq hZ hw 83 rfl)) (mq hZ hw 83 rfl) (mq hZ hw 82 rfl) (by decide) (backOf (W := 0) (rm11n l Z a0 hw [] (3 : Int32) T29.heap n0 B29.z B29 (by decide) (by decide) (by decide)) hZ (wq hw 84 rfl) (wq hw 3 rfl) (by decide) (by decide)) q38a q38c (g := (mkF m 212 #[(vi p0), (vi p1), (vi p2), (vi p3), (vi (p0 &&& (2147483647 : Int32))), (vr b6), (vi 1), (vi (v0_e_62 p0 p1)), (vi (v0_e_71 p0 p2)), (vi 2), (vi 2), (vi 2), (vi 3)] [(.int 3), (.ref b6)])) rfl (by rw [hml]; rfl) (Steps.refl _) (argsL := [(.int 3)]) (rest := []) (lenOf pd__I_I rfl) rfl (w00 rfl) (hb hby at_212) (fun _ _ => ⟨rfl, e35, (by decide : 13 + 0 ≤ _), (by decide : 45463 + 0 ≤ _)⟩)
  dsimp only [Pt.U, Pt.locs, Pt.cells, Pt.slots] at X38 l38 y38 z38 st38 hQ38
  subst y38 z38
  obtain ⟨rfl, Nq38, e38⟩ := hQ38
  have N38 := FrE l38 N35 Nq38
  have pre39 := Go.trn pre37 st38
  have pre40 : Go p e below T38 _ (mkF m 235 #[(vi p0), (vi p1), (vi p2), (vi p3), (vi (p0 &&& (2147483647 : Int32))), (vr b6), (vi 1), (vi (v0_e_62 p0 p1)), (vi (v0_e_71 p0 p2)), (vi 2), (vi 2), (vi 2), (vi 3)] [(.int 0), (.ref b6)]) _ := fun t k => pre39 t (by
    refine XS.iload X38.here hx rfl (hb hby at_215) rfl ?_
    refine XS.icmpNo X38.here hx rfl (hb hby at_217) rfl (teq rfl).2 ?_
    refine XS.iconst X38.here hx rfl (hb hby at_220) ?_
    refine XS.goto X38.here hx rfl (pc0 := 221) (pc' := 225) rfl (hb hby at_221) (by decide) (by decide) ?_
    refine XS.istore X38.here hx rfl (hb hby at_225) rfl (l' := #[(vi p0), (vi p1), (vi p2), (vi p3), (vi (p0 &&& (2147483647 : Int32))), (vr b6), (vi 1), (vi (v0_e_62 p0 p1)), (vi (v0_e_71 p0 p2)), (vi 2), (vi 2), (vi 2), (vi 3)]) rfl ?_
    refine XS.iload X38.here hx rfl (hb hby at_227) rfl ?_
    refine XS.ifNo X38.here hx rfl (hb hby at_229) rfl (by decide) ?_
    refine XS.aload X38.here hx rfl (hb hby at_232) rfl rfl ?_
    refine XS.iconst X38.here hx rfl (hb hby at_234) ?_
    exact k)
  obtain ⟨cq41, kq41, q41a, q41b, q41c⟩ := isOf hZ e38 B29.e
  obtain ⟨_, _, ⟨T41, L41, k41, n41⟩, -, X41, ⟨Lc41, hQ41, l41, y41, z41⟩, st41⟩ := X38.virtualBack hx (y := Nm_15) (z := Nm_15) hown (mq hZ hw 80 rfl) (mq hZ hw 81 rfl) (notFace_of_selects (args := #[]) (mq hZ hw 83 rfl)) (mq hZ hw 83 rfl) (mq hZ hw 82 rfl) (by decide) (backOf (W := 0) (rm11t l Z a0 hw [] (0 : Int32) T29.heap n0 B29.z B29 (by decide)) hZ (wq hw 84 rfl) (wq hw 3 rfl) (by decide) (by decide)) q41a q41c (g := (mkF m 235 #[(vi p0), (vi p1), (vi p2), (vi p3), (vi (p0 &&& (2147483647 : Int32))), (vr b6), (vi 1), (vi (v0_e_62 p0 p1)), (vi (v0_e_71 p0 p2)), (vi 2), (vi 2), (vi 2), (vi 3)] [(.int 0), (.ref b6)])) rfl (by rw [hml]; rfl) (Steps.refl _) (argsL := [(.int 0)]) (rest := []) (lenOf pd__I_I rfl) rfl (w00 rfl) (hb hby at_235) (fun _ _ => ⟨rfl, e38, (by decide : 13 + 0 ≤ _), (by decide : 45463 + 0 ≤ _)⟩)
  dsimp only [Pt.U, Pt.locs, Pt.cells, Pt.slots] at X41 l41 y41 z41 st41 hQ41
  subst y41 z41
  obtain ⟨rfl, Nq41, e41⟩ := hQ41
  have N41 := FrE l41 N38 Nq41
  have pre42 := Go.trn pre40 st41
  have pre43 : Go p e below T41 _ (mkF m 246 #[(vi p0), (vi p1), (vi p2), (vi p3), (vi (p0 &&& (2147483647 : Int32))), (vr b6), (vi 1), (vi (v0_e_62 p0 p1)), (vi (v0_e_71 p0 p2)), (vi 2), (vi 2), (vi 2), (vi 3)] [(.int 1), (.ref b6)]) _ := fun t k => pre42 t (by
    refine XS.iload X41.here hx rfl (hb hby at_238) rfl ?_
    refine XS.icmpNo X41.here hx rfl (hb hby at_240) rfl (teq rfl).2 ?_
    refine XS.aload X41.here hx rfl (hb hby at_243) rfl rfl ?_
    refine XS.iconst X41.here hx rfl (hb hby at_245) ?_
    exact k)
  obtain ⟨cq44, kq44, q44a, q44b, q44c⟩ := isOf hZ e41 B29.e
  obtain ⟨_, _, ⟨T44, L44, k44, n44⟩, -, X44, ⟨Lc44, hQ44, l44, y44, z44⟩, st44⟩ := X41.virtualBack hx (y := Nm_15) (z := Nm_15) hown (mq hZ hw 80 rfl) (mq hZ hw 81 rfl) (notFace_of_selects (args := #[]) (mq hZ hw 83 rfl)) (mq hZ hw 83 rfl) (mq hZ hw 82 rfl) (by decide) (backOf (W := 0) (rm11t l Z a0 hw [] (1 : Int32) T29.heap n0 B29.z B29 (by decide)) hZ (wq hw 84 rfl) (wq hw 3 rfl) (by decide) (by decide)) q44a q44c (g := (mkF m 246 #[(vi p0), (vi p1), (vi p2), (vi p3), (vi (p0 &&& (2147483647 : Int32))), (vr b6), (vi 1), (vi (v0_e_62 p0 p1)), (vi (v0_e_71 p0 p2)), (vi 2), (vi 2), (vi 2), (vi 3)] [(.int 1), (.ref b6)])) rfl (by rw [hml]; rfl) (Steps.refl _) (argsL := [(.int 1)]) (rest := []) (lenOf pd__I_I rfl) rfl (w00 rfl) (hb hby at_246) (fun _ _ => ⟨rfl, e41, (by decide : 13 + 0 ≤ _), (by decide : 45463 + 0 ≤ _)⟩)
  dsimp only [Pt.U, Pt.locs, Pt.cells, Pt.slots] at X44 l44 y44 z44 st44 hQ44
  subst y44 z44
  obtain ⟨rfl, Nq44, e44⟩ := hQ44
  have N44 := FrE l44 N41 Nq44
  have pre45 := Go.trn pre43 st44
  have pre46 : Go p e below T44 _ (mkF m 263 #[(vi p0), (vi p1), (vi p2), (vi p3), (vi (p0 &&& (2147483647 : Int32))), (vr b6), (vi 1), (vi (v0_e_62 p0 p1)), (vi (v0_e_71 p0 p2)), (vi 2), (vi 2), (vi 2), (vi 3)] [(.int 1)]) _ := fun t k => pre45 t (by
    refine XS.iload X44.here hx rfl (hb hby at_249) rfl ?_
    refine XS.icmpNo X44.here hx rfl (hb hby at_251) rfl (teq rfl).2 ?_
    refine XS.iconst X44.here hx rfl (hb hby at_254) ?_
    refine XS.goto X44.here hx rfl (pc0 := 255) (pc' := 259) rfl (hb hby at_255) (by decide) (by decide) ?_
    refine XS.istore X44.here hx rfl (hb hby at_259) rfl (l' := #[(vi p0), (vi p1), (vi p2), (vi p3), (vi (p0 &&& (2147483647 : Int32))), (vr b6), (vi 1), (vi (v0_e_62 p0 p1)), (vi (v0_e_71 p0 p2)), (vi 2), (vi 2), (vi 2), (vi 3)]) rfl ?_
    refine XS.iload X44.here hx rfl (hb hby at_261) rfl ?_
    exact k)
  obtain ⟨fs, hr, hrun, hended, hW, hsame⟩ := X44.leave (v := some (.int 1)) (fun h => by rw [Bd.returns] at h; cases h)
  refine ⟨_, _, ?_, hrun, hended, _, _, rfl, ?_, ⟨_, rfl⟩, hW, hsame.mono (by decide) (by decide)⟩
  · exact pre46 _ (retN X44 hx (t := .boolean) Bd.returns (by simp) (hb hby at_263) hr)
  · exact ⟨rfl, N44, trivial⟩
theorem own_ms6 : ¬ ((own_up (own_up (own_up (own_up (own_up own_ca0 ((f28 (0 : Int32) (2 : Int32) (3 : Int32) (0 : Int32)) + (0 : Int32)) (0 : Int32)) ((f28 (0 : Int32) (2 : Int32) (3 : Int32) (0 : Int32)) + (1 : Int32)) (2 : Int32)) ((f28 (0 : Int32) (2 : Int32) (3 : Int32) (0 : Int32)) + (2 : Int32)) (3 : Int32)) ((f28 (0 : Int32) (2 : Int32) (3 : Int32) (0 : Int32)) + (3 : Int32)) (0 : Int32)) ((f28 (0 : Int32) (2 : Int32) (3 : Int32) (0 : Int32)) + (4 : Int32)) (4 : Int32)) ((f28 (6 : Int32) (2 : Int32) (0 : Int32) (0 : Int32)) + (0 : Int32))) = (6 : Int32) := by decide +kernel
def v0_n_62 (p0 : Int32) (p1 : Int32) : Int32 := ((p1 &&& (2147483647 : Int32)) - (p1 &&& (2147483647 : Int32)) / (p0 &&& (2147483647 : Int32)) * (p0 &&& (2147483647 : Int32)))
def v0_n_71 (p0 : Int32) (p2 : Int32) : Int32 := ((p2 &&& (2147483647 : Int32)) - (p2 &&& (2147483647 : Int32)) / (p0 &&& (2147483647 : Int32)) * (p0 &&& (2147483647 : Int32)))
theorem rm0_n (l : Launch) (Z : State) (a0 : Array Value) (hw : ∀ d ∈ tables_1, d.before a0 Z = true) (ws : List Jvm.Cond) (p0 : Int32) (p1 : Int32) (p2 : Int32) (p3 : Int32) (h0 : Heap) (n0 : Nat) (Z0 : n0 ≤ h0.size) (hk : ¬ (p0 &&& 2147483647) = 0) (hab : ¬ (v0_n_62 p0 p1) = (v0_n_71 p0 p2)) :
    Met1 l x (Jvm.Cond.code x code maxLocals ret) ws room_1 #[(.int p0), (.int p1), (.int p2), (.int p3)] Z h0 (QL (some (.int 1)) n0) := by
  refine MetFree.of_bodySF (plainFor_of_name pn_0) hisR ?_
  intro p e s m args below meth c s₁ Bd hml0 hP hK
  obtain ⟨rfl, hZ, hh⟩ := hP
  have hx := Bd.exec
  have hby := Bd.bytes
  have hml : c.maxLocals = 13 := hml0
  have hown : s.vm.findClass "com/example/slim_kripke/slimkripke/bdd/BddManagerLevelPinLaw" = some m.cls := findClass_of_methodNamed Bd.named
  have X0 : Stand p l e room_1 s m _ _ _ _ _ [] 0 0 := Stand.of_body Bd
  have e0 : s₁.heap = h0 := by rw [← hh, Bd.state]; rfl
  have N0 := Fr.nil n0
  have K0 : Keep h0 h0 [] := Keep.refl _ _
  have pre0 : Go p e below s₁ _ (mkF m 0 #[(vi p0), (vi p1), (vi p2), (vi p3), .unset, .unset, .unset, .unset, .unset, .unset, .unset, .unset, .unset] []) _ := fun t k => castTop (ef_0 m p0 p1 p2 p3) k
  have pre1 : Go p e below s₁ _ (mkF m 6 #[(vi p0), (vi p1), (vi p2), (vi p3), (vi (p0 &&& (2147483647 : Int32))), .unset, .unset, .unset, .unset, .unset, .unset, .unset, .unset] []) _ := fun t k => pre0 t (by
    refine XS.iloadN X0.here hx rfl (hb hby at_0) rfl ?_
    refine X0.ldcInt hx hown (mq hZ hw 0 rfl) (g := (mkF m 1 #[(vi p0), (vi p1), (vi p2), (vi p3), .unset, .unset, .unset, .unset, .unset, .unset, .unset, .unset, .unset] [(.int p0)])) rfl (hb hby at_1) _ ?_
    refine XS.iand X0.here hx rfl (hb hby at_3) rfl ?_
    refine XS.istore X0.here hx rfl (hb hby at_4) rfl (l' := #[(vi p0), (vi p1), (vi p2), (vi p3), (vi (p0 &&& (2147483647 : Int32))), .unset, .unset, .unset, .unset, .unset, .unset, .unset, .unset]) rfl ?_
    exact k)
  obtain ⟨T2, h2, X2, e2, E2, A2, D2, -, st2⟩ := newO X0 hx hZ hown (wq hw 1 rfl) (wq hw 2 rfl) (wq hw 3 rfl) e0 (g := (mkF m 6 #[(vi p0), (vi p1), (vi p2), (vi p3), (vi (p0 &&& (2147483647 : Int32))), .unset, .unset, .unset, .unset, .unset, .unset, .unset, .unset] [])) rfl (hb hby at_6) (by decide) (by decide)
  obtain ⟨b6, g2⟩ : ∃ z, z = h0.size := ⟨_, rfl⟩
  rw [← g2] at A2 D2 st2
  have gg2 : n0 ≤ b6 := Nat.le_trans Z0 (Nat.le_of_eq g2.symm)
  have sz2 : h0.size ≤ b6 := Nat.le_trans K0.1 (Nat.le_of_eq g2.symm)
  have K2 : Keep h0 h2 [] := K0.ext E2
  have Z2 : n0 ≤ h2.size := Nat.le_trans Z0 E2.1
  have Fn2_calls : Fld Z h2 b6 "com/example/slim_kripke/slimkripke/bdd/BddManager" "calls" "Lcom/example/slim_kripke/slimkripke/bdd/CallStack;" .null := D2 (Or.inr (wq hw 21 rfl)) (ty := (.object "com/example/slim_kripke/slimkripke/bdd/CallStack")) (by decide)
  have Fn2_pending : Fld Z h2 b6 "com/example/slim_kripke/slimkripke/bdd/BddManager" "pending" "[I" .null := D2 (Or.inl (wq hw 23 rfl)) (ty := (.array .int)) (by decide)
  have Fn2_liveNodes : Fld Z h2 b6 "com/example/slim_kripke/slimkripke/bdd/BddManager" "liveNodes" "I" (.int 0) := D2 (Or.inl (wq hw 25 rfl)) (ty := .int) (by decide)
  have Fn2_peakLiveNodes : Fld Z h2 b6 "com/example/slim_kripke/slimkripke/bdd/BddManager" "peakLiveNodes" "I" (.int 0) := D2 (Or.inl (wq hw 27 rfl)) (ty := .int) (by decide)
  have Fn2_variableCount : Fld Z h2 b6 "com/example/slim_kripke/slimkripke/bdd/BddManager" "variableCount" "I" (.int 0) := D2 (Or.inr (wq hw 29 rfl)) (ty := .int) (by decide)
  have Fn2_recursionLimit : Fld Z h2 b6 "com/example/slim_kripke/slimkripke/bdd/BddManager" "recursionLimit" "I" (.int 0) := D2 (Or.inr (wq hw 31 rfl)) (ty := .int) (by decide)
  have Fn2_levels : Fld Z h2 b6 "com/example/slim_kripke/slimkripke/bdd/BddManager" "levels" "[I" .null := D2 (Or.inl (wq hw 37 rfl)) (ty := (.array .int)) (by decide)
  have Fn2_lows : Fld Z h2 b6 "com/example/slim_kripke/slimkripke/bdd/BddManager" "lows" "[I" .null := D2 (Or.inl (wq hw 39 rfl)) (ty := (.array .int)) (by decide)
  have Fn2_highs : Fld Z h2 b6 "com/example/slim_kripke/slimkripke/bdd/BddManager" "highs" "[I" .null := D2 (Or.inl (wq hw 41 rfl)) (ty := (.array .int)) (by decide)
  have Fn2_references : Fld Z h2 b6 "com/example/slim_kripke/slimkripke/bdd/BddManager" "references" "[I" .null := D2 (Or.inl (wq hw 43 rfl)) (ty := (.array .int)) (by decide)
  have Fn2_chains : Fld Z h2 b6 "com/example/slim_kripke/slimkripke/bdd/BddManager" "chains" "[I" .null := D2 (Or.inl (wq hw 45 rfl)) (ty := (.array .int)) (by decide)
  have Fn2_buckets : Fld Z h2 b6 "com/example/slim_kripke/slimkripke/bdd/BddManager" "buckets" "[I" .null := D2 (Or.inl (wq hw 47 rfl)) (ty := (.array .int)) (by decide)
  have Fn2_firstFree : Fld Z h2 b6 "com/example/slim_kripke/slimkripke/bdd/BddManager" "firstFree" "I" (.int 0) := D2 (Or.inl (wq hw 53 rfl)) (ty := .int) (by decide)
  have Fn2_freeCount : Fld Z h2 b6 "com/example/slim_kripke/slimkripke/bdd/BddManager" "freeCount" "I" (.int 0) := D2 (Or.inl (wq hw 55 rfl)) (ty := .int) (by decide)
  have Fn2_cache : Fld Z h2 b6 "com/example/slim_kripke/slimkripke/bdd/BddManager" "cache" "[I" .null := D2 (Or.inl (wq hw 75 rfl)) (ty := (.array .int)) (by decide)
  have Fn2_depth : Fld Z h2 b6 "com/example/slim_kripke/slimkripke/bdd/BddManager" "depth" "I" (.int 0) := D2 (Or.inl (wq hw 99 rfl)) (ty := .int) (by decide)
  have pre3 := Go.thn pre1 st2
  have pre4 : Go p e below T2 _ (mkF m 13 #[(vi p0), (vi p1), (vi p2), (vi p3), (vi (p0 &&& (2147483647 : Int32))), .unset, .unset, .unset, .unset, .unset, .unset, .unset, .unset] [(.int p3), (.int (p0 &&& (2147483647 : Int32))), (.ref b6), (.ref b6)]) _ := fun t k => pre3 t (by
    refine XS.dup X2.here hx rfl (hb hby at_9) rfl rfl ?_
    refine XS.iload X2.here hx rfl (hb hby at_10) rfl ?_
    refine XS.iloadN X2.here hx rfl (hb hby at_12) rfl ?_
    exact k)
  obtain ⟨_, _, ⟨T5, L5, k5, n5⟩, -, X5, ⟨Lc5, hQ5, l5, y5, z5⟩, st5⟩ := X2.specialBack hx (y := Nm_12) rfl hown (mq hZ hw 4 rfl) (mq hZ hw 5 rfl) (mq hZ hw 6 rfl) (by decide) (backOf (W := 1) (rm1 l Z a0 hw [] b6 (p0 &&& (2147483647 : Int32)) p3 h2 n0 Z2 A2 Fn2_variableCount Fn2_recursionLimit Fn2_firstFree Fn2_freeCount Fn2_depth Fn2_liveNodes Fn2_peakLiveNodes Fn2_levels Fn2_lows Fn2_highs Fn2_references Fn2_chains Fn2_buckets Fn2_cache Fn2_pending Fn2_calls gg2 (own_n0 _)) hZ (wq hw 6 rfl) (wq hw 3 rfl) (by decide) (by decide)) (g := (mkF m 13 #[(vi p0), (vi p1), (vi p2), (vi p3), (vi (p0 &&& (2147483647 : Int32))), .unset, .unset, .unset, .unset, .unset, .unset, .unset, .unset] [(.int p3), (.int (p0 &&& (2147483647 : Int32))), (.ref b6), (.ref b6)])) rfl (by rw [hml]; rfl) (Steps.refl _) (a := b6) (argsL := [(.int (p0 &&& (2147483647 : Int32))), (.int p3)]) (rest := [(.ref b6)]) (lenOf pd__II_V rfl) rfl (w00 rfl) (hb hby at_13) (fun _ _ => ⟨rfl, e2, (by decide : 1 + 10 ≤ _), (by decide : 17 + 45442 ≤ _)⟩)
  dsimp only [Pt.U, Pt.locs, Pt.cells, Pt.slots] at X5 l5 y5 z5 st5 hQ5
  subst y5 z5
  obtain ⟨rfl, Nq5, Kq5, qcs, qcf, qpe, qlv, qlo, qhi, qrf, qch, qbk, qca, Bq5⟩ := hQ5
  have N5 := FrE l5 N0 Nq5
  have pre6 := Go.trn pre4 st5
  have pre7 : Go p e below T5 _ (mkF m 21 #[(vi p0), (vi p1), (vi p2), (vi p3), (vi (p0 &&& (2147483647 : Int32))), (vr b6), .unset, .unset, .unset, .unset, .unset, .unset, .unset] [(.int 0), (.ref b6)]) _ := fun t k => pre6 t (by
    refine XS.astore X5.here hx rfl (hb hby at_16) rfl rfl (l' := #[(vi p0), (vi p1), (vi p2), (vi p3), (vi (p0 &&& (2147483647 : Int32))), (vr b6), .unset, .unset, .unset, .unset, .unset, .unset, .unset]) rfl ?_
    refine XS.aload X5.here hx rfl (hb hby at_18) rfl rfl ?_
    refine XS.iconst X5.here hx rfl (hb hby at_20) ?_
    exact k)
  obtain ⟨cq8, kq8, q8a, q8b, q8c⟩ := isOf hZ rfl Bq5.e
  obtain ⟨_, _, ⟨T8, L8, k8, n8⟩, -, X8, ⟨Lc8, hQ8, l8, y8, z8⟩, st8⟩ := X5.virtualBack hx (y := Nm_15) (z := Nm_15) hown (mq hZ hw 80 rfl) (mq hZ hw 81 rfl) (notFace_of_selects (args := #[]) (mq hZ hw 83 rfl)) (mq hZ hw 83 rfl) (mq hZ hw 82 rfl) (by decide) (backOf (W := 0) (rm11t l Z a0 hw [] (0 : Int32) T5.heap n0 Bq5.z Bq5 (by decide)) hZ (wq hw 84 rfl) (wq hw 3 rfl) (by decide) (by decide)) q8a q8c (g := (mkF m 21 #[(vi p0), (vi p1), (vi p2), (vi p3), (vi (p0 &&& (2147483647 : Int32))), (vr b6), .unset, .unset, .unset, .unset, .unset, .unset, .unset] [(.int 0), (.ref b6)])) rfl (by rw [hml]; rfl) (Steps.refl _) (argsL := [(.int 0)]) (rest := []) (lenOf pd__I_I rfl) rfl (w00 rfl) (hb hby at_21) (fun _ _ => ⟨rfl, rfl, (by decide : 11 + 0 ≤ _), (by decide : 45459 + 0 ≤ _)⟩)
  dsimp only [Pt.U, Pt.locs, Pt.cells, Pt.slots] at X8 l8 y8 z8 st8 hQ8
  subst y8 z8
  obtain ⟨rfl, Nq8, e8⟩ := hQ8
  have N8 := FrE l8 N5 Nq8
  have pre9 := Go.trn pre7 st8
  have pre10 : Go p e below T8 _ (mkF m 32 #[(vi p0), (vi p1), (vi p2), (vi p3), (vi (p0 &&& (2147483647 : Int32))), (vr b6), .unset, .unset, .unset, .unset, .unset, .unset, .unset] [(.int 1), (.ref b6)]) _ := fun t k => pre9 t (by
    refine XS.iload X8.here hx rfl (hb hby at_24) rfl ?_
    refine XS.icmpNo X8.here hx rfl (hb hby at_26) rfl (teq rfl).2 ?_
    refine XS.aload X8.here hx rfl (hb hby at_29) rfl rfl ?_
    refine XS.iconst X8.here hx rfl (hb hby at_31) ?_
    exact k)
  obtain ⟨cq11, kq11, q11a, q11b, q11c⟩ := isOf hZ e8 Bq5.e
  obtain ⟨_, _, ⟨T11, L11, k11, n11⟩, -, X11, ⟨Lc11, hQ11, l11, y11, z11⟩, st11⟩ := X8.virtualBack hx (y := Nm_15) (z := Nm_15) hown (mq hZ hw 80 rfl) (mq hZ hw 81 rfl) (notFace_of_selects (args := #[]) (mq hZ hw 83 rfl)) (mq hZ hw 83 rfl) (mq hZ hw 82 rfl) (by decide) (backOf (W := 0) (rm11t l Z a0 hw [] (1 : Int32) T5.heap n0 Bq5.z Bq5 (by decide)) hZ (wq hw 84 rfl) (wq hw 3 rfl) (by decide) (by decide)) q11a q11c (g := (mkF m 32 #[(vi p0), (vi p1), (vi p2), (vi p3), (vi (p0 &&& (2147483647 : Int32))), (vr b6), .unset, .unset, .unset, .unset, .unset, .unset, .unset] [(.int 1), (.ref b6)])) rfl (by rw [hml]; rfl) (Steps.refl _) (argsL := [(.int 1)]) (rest := []) (lenOf pd__I_I rfl) rfl (w00 rfl) (hb hby at_32) (fun _ _ => ⟨rfl, e8, (by decide : 11 + 0 ≤ _), (by decide : 45459 + 0 ≤ _)⟩)
  dsimp only [Pt.U, Pt.locs, Pt.cells, Pt.slots] at X11 l11 y11 z11 st11 hQ11
  subst y11 z11
  obtain ⟨rfl, Nq11, e11⟩ := hQ11
  have N11 := FrE l11 N8 Nq11
  have pre12 := Go.trn pre10 st11
  have pre13 : Go p e below T11 _ (mkF m 77 #[(vi p0), (vi p1), (vi p2), (vi p3), (vi (p0 &&& (2147483647 : Int32))), (vr b6), (vi 1), (vi (v0_n_62 p0 p1)), (vi (v0_n_71 p0 p2)), .unset, .unset, .unset, .unset] [(.int (v0_n_62 p0 p1)), (.ref b6)]) _ := fun t k => pre12 t (by
    refine XS.iload X11.here hx rfl (hb hby at_35) rfl ?_
    refine XS.icmpNo X11.here hx rfl (hb hby at_37) rfl (teq rfl).2 ?_
    refine XS.iconst X11.here hx rfl (hb hby at_40) ?_
    refine XS.goto X11.here hx rfl (pc0 := 41) (pc' := 45) rfl (hb hby at_41) (by decide) (by decide) ?_
    refine XS.istore X11.here hx rfl (hb hby at_45) rfl (l' := #[(vi p0), (vi p1), (vi p2), (vi p3), (vi (p0 &&& (2147483647 : Int32))), (vr b6), (vi 1), .unset, .unset, .unset, .unset, .unset, .unset]) rfl ?_
    refine XS.iload X11.here hx rfl (hb hby at_47) rfl ?_
    refine XS.ifYes X11.here hx rfl (pc0 := 49) (pc' := 55) rfl (hb hby at_49) rfl ((if0 _ _).trans (feq hk).2) (by decide) (by decide) ?_
    refine XS.iloadN X11.here hx rfl (hb hby at_55) rfl ?_
    refine X11.ldcInt hx hown (mq hZ hw 0 rfl) (g := (mkF m 56 #[(vi p0), (vi p1), (vi p2), (vi p3), (vi (p0 &&& (2147483647 : Int32))), (vr b6), (vi 1), .unset, .unset, .unset, .unset, .unset, .unset] [(.int p1)])) rfl (hb hby at_56) _ ?_
    refine XS.iand X11.here hx rfl (hb hby at_58) rfl ?_
    refine XS.iload X11.here hx rfl (hb hby at_59) rfl ?_
    refine XS.irem X11.here hx rfl (hb hby at_61) rfl hk ?_
    refine XS.istore X11.here hx rfl (hb hby at_62) rfl (l' := #[(vi p0), (vi p1), (vi p2), (vi p3), (vi (p0 &&& (2147483647 : Int32))), (vr b6), (vi 1), (vi (v0_n_62 p0 p1)), .unset, .unset, .unset, .unset, .unset]) rfl ?_
    refine XS.iloadN X11.here hx rfl (hb hby at_64) rfl ?_
    refine X11.ldcInt hx hown (mq hZ hw 0 rfl) (g := (mkF m 65 #[(vi p0), (vi p1), (vi p2), (vi p3), (vi (p0 &&& (2147483647 : Int32))), (vr b6), (vi 1), (vi (v0_n_62 p0 p1)), .unset, .unset, .unset, .unset, .unset] [(.int p2)])) rfl (hb hby at_65) _ ?_
    refine XS.iand X11.here hx rfl (hb hby at_67) rfl ?_
    refine XS.iload X11.here hx rfl (hb hby at_68) rfl ?_
    refine XS.irem X11.here hx rfl (hb hby at_70) rfl hk ?_
    refine XS.istore X11.here hx rfl (hb hby at_71) rfl (l' := #[(vi p0), (vi p1), (vi p2), (vi p3), (vi (p0 &&& (2147483647 : Int32))), (vr b6), (vi 1), (vi (v0_n_62 p0 p1)), (vi (v0_n_71 p0 p2)), .unset, .unset, .unset, .unset]) rfl ?_
    refine XS.aload X11.here hx rfl (hb hby at_73) rfl rfl ?_
    refine XS.iload X11.here hx rfl (hb hby at_75) rfl ?_
    exact k)
  obtain ⟨cq14, kq14, q14a, q14b, q14c⟩ := isOf hZ e11 Bq5.e
  obtain ⟨_, _, ⟨T14, L14, k14, n14⟩, -, X14, ⟨Lc14, hQ14, l14, y14, z14⟩, st14⟩ := X11.virtualBack hx (y := Nm_26) (z := Nm_26) hown (mq hZ hw 85 rfl) (mq hZ hw 86 rfl) (notFace_of_selects (args := #[]) (mq hZ hw 88 rfl)) (mq hZ hw 88 rfl) (mq hZ hw 87 rfl) (by decide) (backOf (W := 0) (rm12n l Z a0 hw [] (v0_n_62 p0 p1) T5.heap n0 Bq5.z Bq5 (own_rem p1 _ (own_n0 p0) hk).1 (own_rem p1 _ (own_n0 p0) hk).2 (by decide) (by decide) (own_w0 _ _ _ _ _ _ _ _ rfl _) (by decide) (by decide)) hZ (wq hw 89 rfl) (wq hw 3 rfl) (by decide) (by decide)) q14a q14c (g := (mkF m 77 #[(vi p0), (vi p1), (vi p2), (vi p3), (vi (p0 &&& (2147483647 : Int32))), (vr b6), (vi 1), (vi (v0_n_62 p0 p1)), (vi (v0_n_71 p0 p2)), .unset, .unset, .unset, .unset] [(.int (v0_n_62 p0 p1)), (.ref b6)])) rfl (by rw [hml]; rfl) (Steps.refl _) (argsL := [(.int (v0_n_62 p0 p1))]) (rest := []) (lenOf pd__I_Lcom_example_slim_kripke_slimkripke_bdd_Bdd_ rfl) rfl (w00 rfl) (hb hby at_77) (fun _ _ => ⟨rfl, e11, (by decide : 11 + 1 ≤ _), (by decide : 45459 + 2 ≤ _)⟩)
  dsimp only [Pt.U, Pt.locs, Pt.cells, Pt.slots] at X14 l14 y14 z14 st14 hQ14
  subst y14 z14
  obtain ⟨r77, rfl, Nq14, Bq14⟩ := hQ14
  have N14 := FrE l14 N11 Nq14
  have B14 : Mg Z n0 T14.heap b6 _ _ _ _ _ _ _ _ _ _ (p0 &&& 2147483647) p3 3 4093 0 0 3 (f22 2 3) (own_up (own_up (own_up (own_k (-1 : Int32)) 0 (p0 &&& 2147483647)) 1 (p0 &&& 2147483647)) 2 (v0_n_62 p0 p1)) (own_up own_z 2 0) (own_up own_z 2 1) (own_up (own_up own_z 2 0) 2 1) (own_up own_ch0 2 (-1 : Int32)) (own_up (own_k (-1 : Int32)) ((f17 (v0_n_62 p0 p1) 0 1) &&& 4095) 2) own_ca0 own_z (own_up (own_up (own_up own_z 0 2) 0 0) 1 1) := Bq14
  have pre15 := Go.trn pre13 st14
  have pre16 : Go p e below T14 _ (mkF m 85 #[(vi p0), (vi p1), (vi p2), (vi p3), (vi (p0 &&& (2147483647 : Int32))), (vr b6), (vi 1), (vi (v0_n_62 p0 p1)), (vi (v0_n_71 p0 p2)), .unset, .unset, .unset, .unset] [(.int (v0_n_71 p0 p2)), (.ref b6)]) _ := fun t k => pre15 t (by
    refine XS.pop X14.here hx rfl (hb hby at_80) rfl rfl ?_
    refine XS.aload X14.here hx rfl (hb hby at_81) rfl rfl ?_
    refine XS.iload X14.here hx rfl (hb hby at_83) rfl ?_
    exact k)
  obtain ⟨cq17, kq17, q17a, q17b, q17c⟩ := isOf hZ rfl B14.e
  obtain ⟨_, _, ⟨T17, L17, k17, n17⟩, -, X17, ⟨Lc17, hQ17, l17, y17, z17⟩, st17⟩ := X14.virtualBack hx (y := Nm_26) (z := Nm_26) hown (mq hZ hw 85 rfl) (mq hZ hw 86 rfl) (notFace_of_selects (args := #[]) (mq hZ hw 88 rfl)) (mq hZ hw 88 rfl) (mq hZ hw 87 rfl) (by decide) (backOf (W := 0) (rm12n l Z a0 hw [] (v0_n_71 p0 p2) T14.heap n0 B14.z B14 (own_rem p2 _ (own_n0 p0) hk).1 (own_rem p2 _ (own_n0 p0) hk).2 (by decide) (by decide) (own_w1s (fun q => hab ((own_up_s _ _ _).symm.trans q.1))) (by decide) (by decide)) hZ (wq hw 89 rfl) (wq hw 3 rfl) (by decide) (by decide)) q17a q17c (g := (mkF m 85 #[(vi p0), (vi p1), (vi p2), (vi p3), (vi (p0 &&& (2147483647 : Int32))), (vr b6), (vi 1), (vi (v0_n_62 p0 p1)), (vi (v0_n_71 p0 p2)), .unset, .unset, .unset, .unset] [(.int (v0_n_71 p0 p2)), (.ref b6)])) rfl (by rw [hml]; rfl) (Steps.refl _) (argsL := [(.int (v0_n_71 p0 p2))]) (rest := []) (lenOf pd__I_Lcom_example_slim_kripke_slimkripke_bdd_Bdd_ rfl) rfl (w00 rfl) (hb hby at_85) (fun _ _ => ⟨rfl, rfl, (by decide : 12 + 1 ≤ _), (by decide : 45461 + 2 ≤ _)⟩)
  dsimp only [Pt.U, Pt.locs, Pt.cells, Pt.slots] at X17 l17 y17 z17 st17 hQ17
  subst y17 z17
  obtain ⟨r85, rfl, Nq17, Bq17⟩ := hQ17
  have N17 := FrE l17 N14 Nq17
  have B17 : Mg Z n0 T17.heap b6 _ _ _ _ _ _ _ _ _ _ (p0 &&& 2147483647) p3 4 4092 0 0 4 (f22 (f22 2 3) 4) (own_up (own_up (own_up (own_up (own_k (-1 : Int32)) 0 (p0 &&& 2147483647)) 1 (p0 &&& 2147483647)) 2 (v0_n_62 p0 p1)) 3 (v0_n_71 p0 p2)) (own_up (own_up own_z 2 0) 3 0) (own_up (own_up own_z 2 1) 3 1) (own_up (own_up (own_up (own_up own_z 2 0) 2 1) 3 0) 3 1) (own_up (own_up own_ch0 2 (-1 : Int32)) 3 ((own_up (own_k (-1 : Int32)) ((f17 (v0_n_62 p0 p1) 0 1) &&& 4095) 2) ((f17 (v0_n_71 p0 p2) 0 1) &&& 4095))) (own_up (own_up (own_k (-1 : Int32)) ((f17 (v0_n_62 p0 p1) 0 1) &&& 4095) 2) ((f17 (v0_n_71 p0 p2) 0 1) &&& 4095) 3) own_ca0 own_z (own_up (own_up (own_up (own_up (own_up (own_up own_z 0 2) 0 0) 1 1) 0 3) 0 0) 1 1) := Bq17
  have pre18 := Go.trn pre16 st17
  have pre19 : Go p e below T17 _ (mkF m 115 #[(vi p0), (vi p1), (vi p2), (vi p3), (vi (p0 &&& (2147483647 : Int32))), (vr b6), (vi 1), (vi (v0_n_62 p0 p1)), (vi (v0_n_71 p0 p2)), (vi 2), (vi 3), .unset, .unset] [(.int 2), (.ref b6)]) _ := fun t k => pre18 t (by
    refine XS.pop X17.here hx rfl (hb hby at_88) rfl rfl ?_
    refine XS.iconst X17.here hx rfl (hb hby at_89) ?_
    refine XS.istore X17.here hx rfl (hb hby at_90) rfl (l' := #[(vi p0), (vi p1), (vi p2), (vi p3), (vi (p0 &&& (2147483647 : Int32))), (vr b6), (vi 1), (vi (v0_n_62 p0 p1)), (vi (v0_n_71 p0 p2)), (vi 2), .unset, .unset, .unset]) rfl ?_
    refine XS.iload X17.here hx rfl (hb hby at_92) rfl ?_
    refine XS.iload X17.here hx rfl (hb hby at_94) rfl ?_
    refine XS.icmpYes X17.here hx rfl (pc0 := 96) (pc' := 103) rfl (hb hby at_96) rfl (feq hab).2 (by decide) (by decide) ?_
    refine XS.iconst X17.here hx rfl (hb hby at_103) ?_
    refine XS.istore X17.here hx rfl (hb hby at_104) rfl (l' := #[(vi p0), (vi p1), (vi p2), (vi p3), (vi (p0 &&& (2147483647 : Int32))), (vr b6), (vi 1), (vi (v0_n_62 p0 p1)), (vi (v0_n_71 p0 p2)), (vi 2), (vi 3), .unset, .unset]) rfl ?_
    refine XS.iload X17.here hx rfl (hb hby at_106) rfl ?_
    refine XS.ifNo X17.here hx rfl (hb hby at_108) rfl (by decide) ?_
    refine XS.aload X17.here hx rfl (hb hby at_111) rfl rfl ?_
    refine XS.iload X17.here hx rfl (hb hby at_113) rfl ?_
    exact k)
  obtain ⟨cq20, kq20, q20a, q20b, q20c⟩ := isOf hZ rfl B17.e
  obtain ⟨_, _, ⟨T20, L20, k20, n20⟩, -, X20, ⟨Lc20, hQ20, l20, y20, z20⟩, st20⟩ := X17.virtualBack hx (y := Nm_15) (z := Nm_15) hown (mq hZ hw 80 rfl) (mq hZ hw 81 rfl) (notFace_of_selects (args := #[]) (mq hZ hw 83 rfl)) (mq hZ hw 83 rfl) (mq hZ hw 82 rfl) (by decide) (backOf (W := 0) (rm11n l Z a0 hw [] (2 : Int32) T17.heap n0 B17.z B17 (by decide) (by decide) (by decide)) hZ (wq hw 84 rfl) (wq hw 3 rfl) (by decide) (by decide)) q20a q20c (g := (mkF m 115 #[(vi p0), (vi p1), (vi p2), (vi p3), (vi (p0 &&& (2147483647 : Int32))), (vr b6), (vi 1), (vi (v0_n_62 p0 p1)), (vi (v0_n_71 p0 p2)), (vi 2), (vi 3), .unset, .unset] [(.int 2), (.ref b6)])) rfl (by rw [hml]; rfl) (Steps.refl _) (argsL := [(.int 2)]) (rest := []) (lenOf pd__I_I rfl) rfl (w00 rfl) (hb hby at_115) (fun _ _ => ⟨rfl, rfl, (by decide : 13 + 0 ≤ _), (by decide : 45463 + 0 ≤ _)⟩)
  dsimp only [Pt.U, Pt.locs, Pt.cells, Pt.slots] at X20 l20 y20 z20 st20 hQ20
  subst y20 z20
  obtain ⟨rfl, Nq20, e20⟩ := hQ20
  have N20 := FrE l20 N17 Nq20
  have pre21 := Go.trn pre19 st20
  have pre22 : Go p e below T20 _ (mkF m 127 #[(vi p0), (vi p1), (vi p2), (vi p3), (vi (p0 &&& (2147483647 : Int32))), (vr b6), (vi 1), (vi (v0_n_62 p0 p1)), (vi (v0_n_71 p0 p2)), (vi 2), (vi 3), .unset, .unset] [(.int 3), (.ref b6)]) _ := fun t k => pre21 t (by
    refine XS.iload X20.here hx rfl (hb hby at_118) rfl ?_
    refine XS.icmpNo X20.here hx rfl (hb hby at_120) rfl (teq rfl).2 ?_
    refine XS.aload X20.here hx rfl (hb hby at_123) rfl rfl ?_
    refine XS.iload X20.here hx rfl (hb hby at_125) rfl ?_
    exact k)
  obtain ⟨cq23, kq23, q23a, q23b, q23c⟩ := isOf hZ e20 B17.e
  obtain ⟨_, _, ⟨T23, L23, k23, n23⟩, -, X23, ⟨Lc23, hQ23, l23, y23, z23⟩, st23⟩ := X20.virtualBack hx (y := Nm_15) (z := Nm_15) hown (mq hZ hw 80 rfl) (mq hZ hw 81 rfl) (notFace_of_selects (args := #[]) (mq hZ hw 83 rfl)) (mq hZ hw 83 rfl) (mq hZ hw 82 rfl) (by decide) (backOf (W := 0) (rm11n l Z a0 hw [] (3 : Int32) T17.heap n0 B17.z B17 (by decide) (by decide) (by decide)) hZ (wq hw 84 rfl) (wq hw 3 rfl) (by decide) (by decide)) q23a q23c (g := (mkF m 127 #[(vi p0), (vi p1), (vi p2), (vi p3), (vi (p0 &&& (2147483647 : Int32))), (vr b6), (vi 1), (vi (v0_n_62 p0 p1)), (vi (v0_n_71 p0 p2)), (vi 2), (vi 3), .unset, .unset] [(.int 3), (.ref b6)])) rfl (by rw [hml]; rfl) (Steps.refl _) (argsL := [(.int 3)]) (rest := []) (lenOf pd__I_I rfl) rfl (w00 rfl) (hb hby at_127) (fun _ _ => ⟨rfl, e20, (by decide : 13 + 0 ≤ _), (by decide : 45463 + 0 ≤ _)⟩)
  dsimp only [Pt.U, Pt.locs, Pt.cells, Pt.slots] at X23 l23 y23 z23 st23 hQ23
  subst y23 z23
  obtain ⟨rfl, Nq23, e23⟩ := hQ23
  have N23 := FrE l23 N20 Nq23
  have pre24 := Go.trn pre22 st23
  have pre25 : Go p e below T23 _ (mkF m 148 #[(vi p0), (vi p1), (vi p2), (vi p3), (vi (p0 &&& (2147483647 : Int32))), (vr b6), (vi 1), (vi (v0_n_62 p0 p1)), (vi (v0_n_71 p0 p2)), (vi 2), (vi 3), .unset, .unset] [(.int 3), (.int 2), (.ref b6)]) _ := fun t k => pre24 t (by
    refine XS.iload X23.here hx rfl (hb hby at_130) rfl ?_
    refine XS.icmpNo X23.here hx rfl (hb hby at_132) rfl (teq rfl).2 ?_
    refine XS.iconst X23.here hx rfl (hb hby at_135) ?_
    refine XS.goto X23.here hx rfl (pc0 := 136) (pc' := 140) rfl (hb hby at_136) (by decide) (by decide) ?_
    refine XS.istore X23.here hx rfl (hb hby at_140) rfl (l' := #[(vi p0), (vi p1), (vi p2), (vi p3), (vi (p0 &&& (2147483647 : Int32))), (vr b6), (vi 1), (vi (v0_n_62 p0 p1)), (vi (v0_n_71 p0 p2)), (vi 2), (vi 3), .unset, .unset]) rfl ?_
    refine XS.aload X23.here hx rfl (hb hby at_142) rfl rfl ?_
    refine XS.iload X23.here hx rfl (hb hby at_144) rfl ?_
    refine XS.iload X23.here hx rfl (hb hby at_146) rfl ?_
    exact k)
  obtain ⟨cq26, kq26, q26a, q26b, q26c⟩ := isOf hZ e23 B17.e
  obtain ⟨_, _, ⟨T26, L26, k26, n26⟩, -, X26, ⟨Lc26, hQ26, l26, y26, z26⟩, st26⟩ := X23.virtualBack hx (y := Nm_40) (z := Nm_40) hown (mq hZ hw 147 rfl) (mq hZ hw 148 rfl) (notFace_of_selects (args := #[]) (mq hZ hw 150 rfl)) (mq hZ hw 150 rfl) (mq hZ hw 149 rfl) (by decide) (backOf (W := 0) (rm24j l Z a0 hw []  T17.heap n0 B17.z B17 (by decide) (own_ab hab) rfl rfl rfl rfl (own_ms _ _ _ _ _ (by decide)) (own_w2s (fun q => absurd q.2.2 (by decide)) (fun q => absurd q.2.2 (by decide))) (own_w2s (fun q => absurd q.2.2 (by decide)) (fun q => absurd q.2.2 (by decide))) (by decide)) hZ (wq hw 151 rfl) (wq hw 3 rfl) (by decide) (by decide)) q26a q26c (g := (mkF m 148 #[(vi p0), (vi p1), (vi p2), (vi p3), (vi (p0 &&& (2147483647 : Int32))), (vr b6), (vi 1), (vi (v0_n_62 p0 p1)), (vi (v0_n_71 p0 p2)), (vi 2), (vi 3), .unset, .unset] [(.int 3), (.int 2), (.ref b6)])) rfl (by rw [hml]; rfl) (Steps.refl _) (argsL := [(.int 2), (.int 3)]) (rest := []) (lenOf pd__II_I rfl) rfl (w00 rfl) (hb hby at_148) (fun _ _ => ⟨rfl, e23, (by decide : 13 + 0 ≤ _), (by decide : 45463 + 0 ≤ _)⟩)
  dsimp only [Pt.U, Pt.locs, Pt.cells, Pt.slots] at X26 l26 y26 z26 st26 hQ26
  subst y26 z26
  obtain ⟨rfl, Nq26, ef148, ez148, Bq26⟩ := hQ26
  have N26 := FrE l26 N23 Nq26
  have B26 : Mg Z n0 T26.heap b6 _ _ _ _ _ _ _ _ _ _ (p0 &&& 2147483647) p3 5 4091 0 0 4 (f22 (f22 2 3) 4) (own_up (own_up (own_up (own_up (own_up (own_k (-1 : Int32)) 0 (p0 &&& 2147483647)) 1 (p0 &&& 2147483647)) 2 (v0_n_62 p0 p1)) 3 (v0_n_71 p0 p2)) 4 (f9 (v0_n_62 p0 p1) (v0_n_71 p0 p2))) (own_up (own_up (own_up own_z 2 0) 3 0) 4 0) (own_up (own_up (own_up own_z 2 1) 3 1) 4 ez148) (own_up (own_up (own_up (own_up (own_up own_z 2 0) 2 1) 3 0) 3 1) 4 0) (own_up (own_up (own_up own_ch0 2 (-1 : Int32)) 3 ((own_up (own_k (-1 : Int32)) ((f17 (v0_n_62 p0 p1) 0 1) &&& 4095) 2) ((f17 (v0_n_71 p0 p2) 0 1) &&& 4095))) 4 ((own_up (own_up (own_k (-1 : Int32)) ((f17 (v0_n_62 p0 p1) 0 1) &&& 4095) 2) ((f17 (v0_n_71 p0 p2) 0 1) &&& 4095) 3) ((f17 (f9 (v0_n_62 p0 p1) (v0_n_71 p0 p2)) 0 ez148) &&& 4095))) (own_up (own_up (own_up (own_k (-1 : Int32)) ((f17 (v0_n_62 p0 p1) 0 1) &&& 4095) 2) ((f17 (v0_n_71 p0 p2) 0 1) &&& 4095) 3) ((f17 (f9 (v0_n_62 p0 p1) (v0_n_71 p0 p2)) 0 ez148) &&& 4095) 4) (own_up (own_up (own_up (own_up (own_up own_ca0 ((f28 0 2 3 0) + 0) 0) ((f28 0 2 3 0) + 1) 2) ((f28 0 2 3 0) + 2) 3) ((f28 0 2 3 0) + 3) 0) ((f28 0 2 3 0) + 4) 4) ef148 (own_up (own_up (own_up (own_up (own_up (own_up own_z 0 2) 0 0) 1 1) 0 3) 0 0) 1 1) := Bq26
  have pre27 := Go.trn pre25 st26
  have pre28 : Go p e below T26 _ (mkF m 157 #[(vi p0), (vi p1), (vi p2), (vi p3), (vi (p0 &&& (2147483647 : Int32))), (vr b6), (vi 1), (vi (v0_n_62 p0 p1)), (vi (v0_n_71 p0 p2)), (vi 2), (vi 3), (vi 4), .unset] [(.int 2), (.ref b6)]) _ := fun t k => pre27 t (by
    refine XS.istore X26.here hx rfl (hb hby at_151) rfl (l' := #[(vi p0), (vi p1), (vi p2), (vi p3), (vi (p0 &&& (2147483647 : Int32))), (vr b6), (vi 1), (vi (v0_n_62 p0 p1)), (vi (v0_n_71 p0 p2)), (vi 2), (vi 3), (vi 4), .unset]) rfl ?_
    refine XS.aload X26.here hx rfl (hb hby at_153) rfl rfl ?_
    refine XS.iload X26.here hx rfl (hb hby at_155) rfl ?_
    exact k)
  obtain ⟨cq29, kq29, q29a, q29b, q29c⟩ := isOf hZ rfl B26.e
  obtain ⟨_, _, ⟨T29, L29, k29, n29⟩, -, X29, ⟨Lc29, hQ29, l29, y29, z29⟩, st29⟩ := X26.virtualBack hx (y := Nm_43) (z := Nm_43) hown (mq hZ hw 176 rfl) (mq hZ hw 177 rfl) (notFace_of_selects (args := #[]) (mq hZ hw 179 rfl)) (mq hZ hw 179 rfl) (mq hZ hw 178 rfl) (by decide) (backOf (W := 0) (rm31j l Z a0 hw []  T26.heap n0 B26.z B26 (by decide) own_ms6 rfl rfl (own_w3s (fun q => absurd q.2.1 (by decide)) (fun q => absurd q.2.1 (by decide)) (fun q => absurd q.2.1 (by decide))) (by decide) (by decide) (by decide)) hZ (wq hw 180 rfl) (wq hw 3 rfl) (by decide) (by decide)) q29a q29c (g := (mkF m 157 #[(vi p0), (vi p1), (vi p2), (vi p3), (vi (p0 &&& (2147483647 : Int32))), (vr b6), (vi 1), (vi (v0_n_62 p0 p1)), (vi (v0_n_71 p0 p2)), (vi 2), (vi 3), (vi 4), .unset] [(.int 2), (.ref b6)])) rfl (by rw [hml]; rfl) (Steps.refl _) (argsL := [(.int 2)]) (rest := []) (lenOf pd__I_I rfl) rfl (w00 rfl) (hb hby at_157) (fun _ _ => ⟨rfl, rfl, (by decide : 13 + 0 ≤ _), (by decide : 45463 + 0 ≤ _)⟩)
  dsimp only [Pt.U, Pt.locs, Pt.cells, Pt.slots] at X29 l29 y29 z29 st29 hQ29
  subst y29 z29
  obtain ⟨rfl, Nq29, ef157, ez157, Bq29⟩ := hQ29
  have N29 := FrE l29 N26 Nq29
  have B29 : Mg Z n0 T29.heap b6 _ _ _ _ _ _ _ _ _ _ (p0 &&& 2147483647) p3 6 4090 0 0 4 (f22 (f22 2 3) 4) (own_up (own_up (own_up (own_up (own_up (own_up (own_k (-1 : Int32)) 0 (p0 &&& 2147483647)) 1 (p0 &&& 2147483647)) 2 (v0_n_62 p0 p1)) 3 (v0_n_71 p0 p2)) 4 (f9 (v0_n_62 p0 p1) (v0_n_71 p0 p2))) 5 (v0_n_62 p0 p1)) (own_up (own_up (own_up (own_up own_z 2 0) 3 0) 4 0) 5 1) (own_up (own_up (own_up (own_up own_z 2 1) 3 1) 4 ez148) 5 0) (own_up (own_up (own_up (own_up (own_up (own_up own_z 2 0) 2 1) 3 0) 3 1) 4 0) 5 0) (own_up (own_up (own_up (own_up own_ch0 2 (-1 : Int32)) 3 ((own_up (own_k (-1 : Int32)) ((f17 (v0_n_62 p0 p1) 0 1) &&& 4095) 2) ((f17 (v0_n_71 p0 p2) 0 1) &&& 4095))) 4 ((own_up (own_up (own_k (-1 : Int32)) ((f17 (v0_n_62 p0 p1) 0 1) &&& 4095) 2) ((f17 (v0_n_71 p0 p2) 0 1) &&& 4095) 3) ((f17 (f9 (v0_n_62 p0 p1) (v0_n_71 p0 p2)) 0 ez148) &&& 4095))) 5 ((own_up (own_up (own_up (own_k (-1 : Int32)) ((f17 (v0_n_62 p0 p1) 0 1) &&& 4095) 2) ((f17 (v0_n_71 p0 p2) 0 1) &&& 4095) 3) ((f17 (f9 (v0_n_62 p0 p1) (v0_n_71 p0 p2)) 0 ez148) &&& 4095) 4) ((f17 (v0_n_62 p0 p1) 1 0) &&& 4095))) (own_up (own_up (own_up (own_up (own_k (-1 : Int32)) ((f17 (v0_n_62 p0 p1) 0 1) &&& 4095) 2) ((f17 (v0_n_71 p0 p2) 0 1) &&& 4095) 3) ((f17 (f9 (v0_n_62 p0 p1) (v0_n_71 p0 p2)) 0 ez148) &&& 4095) 4) ((f17 (v0_n_62 p0 p1) 1 0) &&& 4095) 5) (own_up (own_up (own_up (own_up (own_up (own_up (own_up (own_up (own_up (own_up own_ca0 ((f28 0 2 3 0) + 0) 0) ((f28 0 2 3 0) + 1) 2) ((f28 0 2 3 0) + 2) 3) ((f28 0 2 3 0) + 3) 0) ((f28 0 2 3 0) + 4) 4) ((f28 6 2 0 0) + 0) 6) ((f28 6 2 0 0) + 1) 2) ((f28 6 2 0 0) + 2) 0) ((f28 6 2 0 0) + 3) 0) ((f28 6 2 0 0) + 4) 5) ef157 (own_up (own_up (own_up (own_up (own_up (own_up own_z 0 2) 0 0) 1 1) 0 3) 0 0) 1 1) := Bq29
  have pre30 : Go p e below T29 _ (mkF m 160 #[(vi p0), (vi p1), (vi p2), (vi p3), (vi (p0 &&& (2147483647 : Int32))), (vr b6), (vi 1), (vi (v0_n_62 p0 p1)), (vi (v0_n_71 p0 p2)), (vi 2), (vi 3), (vi 4), .unset] [(.int 5)]) _ := fun t k => pre28 t ((st29).trans k)
  have pre31 : Go p e below T29 _ (mkF m 177 #[(vi p0), (vi p1), (vi p2), (vi p3), (vi (p0 &&& (2147483647 : Int32))), (vr b6), (vi 1), (vi (v0_n_62 p0 p1)), (vi (v0_n_71 p0 p2)), (vi 2), (vi 3), (vi 4), (vi 5)] [(.int 4), (.ref b6)]) _ := fun t k => pre30 t (by
    refine XS.istore X29.here hx rfl (hb hby at_160) rfl (l' := #[(vi p0), (vi p1), (vi p2), (vi p3), (vi (p0 &&& (2147483647 : Int32))), (vr b6), (vi 1), (vi (v0_n_62 p0 p1)), (vi (v0_n_71 p0 p2)), (vi 2), (vi 3), (vi 4), (vi 5)]) rfl ?_
    refine XS.iload X29.here hx rfl (hb hby at_162) rfl ?_
    refine XS.ifNo X29.here hx rfl (hb hby at_164) rfl (by decide) ?_
    refine XS.iload X29.here hx rfl (hb hby at_167) rfl ?_
    refine XS.iconst X29.here hx rfl (hb hby at_169) ?_
    refine XS.icmpNo X29.here hx rfl (hb hby at_170) rfl (by decide) ?_
    refine XS.aload X29.here hx rfl (hb hby at_173) rfl rfl ?_
    refine XS.iload X29.here hx rfl (hb hby at_175) rfl ?_
    exact k)
  obtain ⟨cq32, kq32, q32a, q32b, q32c⟩ := isOf hZ rfl B29.e
  obtain ⟨_, _, ⟨T32, L32, k32, n32⟩, -, X32, ⟨Lc32, hQ32, l32, y32, z32⟩, st32⟩ := X29.virtualBack hx (y := Nm_15) (z := Nm_15) hown (mq hZ hw 80 rfl) (mq hZ hw 81 rfl) (notFace_of_selects (args := #[]) (mq hZ hw 83 rfl)) (mq hZ hw 83 rfl) (mq hZ hw 82 rfl) (by decide) (backOf (W := 0) (rm11n l Z a0 hw [] (4 : Int32) T29.heap n0 B29.z B29 (by decide) (by decide) (by decide)) hZ (wq hw 84 rfl) (wq hw 3 rfl) (by decide) (by decide)) q32a q32c (g := (mkF m 177 #[(vi p0), (vi p1), (vi p2), (vi p3), (vi (p0 &&& (2147483647 : Int32))), (vr b6), (vi 1), (vi (v0_n_62 p0 p1)), (vi (v0_n_71 p0 p2)), (vi 2), (vi 3), (vi 4), (vi 5)] [(.int 4), (.ref b6)])) rfl (by rw [hml]; rfl) (Steps.refl _) (argsL := [(.int 4)]) (rest := []) (lenOf pd__I_I rfl) rfl (w00 rfl) (hb hby at_177) (fun _ _ => ⟨rfl, rfl, (by decide : 13 + 0 ≤ _), (by decide : 45463 + 0 ≤ _)⟩)
  dsimp only [Pt.U, Pt.locs, Pt.cells, Pt.slots] at X32 l32 y32 z32 st32 hQ32
  subst y32 z32
  obtain ⟨rfl, Nq32, e32⟩ := hQ32
  have N32 := FrE l32 N29 Nq32
  have pre33 := Go.trn pre31 st32
  have pre34 : Go p e below T32 _ (mkF m 184 #[(vi p0), (vi p1), (vi p2), (vi p3), (vi (p0 &&& (2147483647 : Int32))), (vr b6), (vi 1), (vi (v0_n_62 p0 p1)), (vi (v0_n_71 p0 p2)), (vi 2), (vi 3), (vi 4), (vi 5)] [(.int (v0_n_71 p0 p2)), (.int (v0_n_62 p0 p1)), (.int (f9 (v0_n_62 p0 p1) (v0_n_71 p0 p2)))]) _ := fun t k => pre33 t (by
    refine XS.iload X32.here hx rfl (hb hby at_180) rfl ?_
    refine XS.iload X32.here hx rfl (hb hby at_182) rfl ?_
    exact k)
  obtain ⟨_, _, ⟨T35, L35, k35, n35⟩, -, X35, ⟨Lc35, hQ35, l35, y35, z35⟩, st35⟩ := Jvm.LawKit.callS X32 hx (y := Nm_2) hown (mq hZ hw 185 rfl) (mq hZ hw 71 rfl) (mq hZ hw 72 rfl) (mq hZ hw 73 rfl) (by decide) (backOf (W := 1) (rm9 l Z a0 hw [] (v0_n_62 p0 p1) (v0_n_71 p0 p2) T29.heap n0 B29.z) hZ (wq hw 73 rfl) (wq hw 72 rfl) (by decide) (by decide)) (g := (mkF m 184 #[(vi p0), (vi p1), (vi p2), (vi p3), (vi (p0 &&& (2147483647 : Int32))), (vr b6), (vi 1), (vi (v0_n_62 p0 p1)), (vi (v0_n_71 p0 p2)), (vi 2), (vi 3), (vi 4), (vi 5)] [(.int (v0_n_71 p0 p2)), (.int (v0_n_62 p0 p1)), (.int (f9 (v0_n_62 p0 p1) (v0_n_71 p0 p2)))])) rfl (by rw [hml]; rfl) (argsL := [(.int (v0_n_62 p0 p1)), (.int (v0_n_71 p0 p2))]) (rest := [(.int (f9 (v0_n_62 p0 p1) (v0_n_71 p0 p2)))]) (lenOf pd__II_I rfl) rfl (w00 rfl) (hb hby at_184) (fun _ _ => ⟨rfl, e32, (by decide : 13 + 0 ≤ _), (by decide : 45463 + 0 ≤ _)⟩)
  dsimp only [Pt.U, Pt.locs, Pt.cells, Pt.slots] at X35 l35 y35 z35 st35 hQ35
  subst y35 z35
  obtain ⟨rfl, Nq35, e35⟩ := hQ35
  have N35 := FrE l35 N32 Nq35
  have pre36 := Go.thn pre34 st35
  have pre37 : Go p e below T35 _ (mkF m 212 #[(vi p0), (vi p1), (vi p2), (vi p3), (vi (p0 &&& (2147483647 : Int32))), (vr b6), (vi 1), (vi (v0_n_62 p0 p1)), (vi (v0_n_71 p0 p2)), (vi 2), (vi 3), (vi 4), (vi 5)] [(.int 5), (.ref b6)]) _ := fun t k => pre36 t (by
    refine XS.icmpNo X35.here hx rfl (hb hby at_187) rfl (teq rfl).2 ?_
    refine XS.iconst X35.here hx rfl (hb hby at_190) ?_
    refine XS.goto X35.here hx rfl (pc0 := 191) (pc' := 195) rfl (hb hby at_191) (by decide) (by decide) ?_
    refine XS.istore X35.here hx rfl (hb hby at_195) rfl (l' := #[(vi p0), (vi p1), (vi p2), (vi p3), (vi (p0 &&& (2147483647 : Int32))), (vr b6), (vi 1), (vi (v0_n_62 p0 p1)), (vi (v0_n_71 p0 p2)), (vi 2), (vi 3), (vi 4), (vi 5)]) rfl ?_
    refine XS.iload X35.here hx rfl (hb hby at_197) rfl ?_
    refine XS.ifNo X35.here hx rfl (hb hby at_199) rfl (by decide) ?_
    refine XS.iload X35.here hx rfl (hb hby at_202) rfl ?_
    refine XS.iconst X35.here hx rfl (hb hby at_204) ?_
    refine XS.icmpNo X35.here hx rfl (hb hby at_205) rfl (by decide) ?_
    refine XS.aload X35.here hx rfl (hb hby at_208) rfl rfl ?_
    refine XS.iload X35.here hx rfl (hb hby at_210) rfl ?_
    exact k)
  obtain ⟨cq38, kq38, q38a, q38b, q38c⟩ := isOf hZ e35 B29.e
  obtain ⟨_, _, ⟨T38, L38, k38, n38⟩, -, X38, ⟨Lc38, hQ38, l38, y38, z38⟩, st38⟩ := X35.virtualBack hx (y := Nm_15) (z := Nm_15) hown (mq hZ hw 80 rfl) (mq hZ hw 81 rfl) (notFace_of_selects (args := #[]) (mq hZ hw 83 rfl)) (mq hZ hw 83 rfl) (mq hZ hw 82 rfl) (by decide) (backOf (W := 0) (rm11n l Z a0 hw [] (5 : Int32) T29.heap n0 B29.z B29 (by decide) (by decide) (by decide)) hZ (wq hw 84 rfl) (wq hw 3 rfl) (by decide) (by decide)) q38a q38c (g := (mkF m 212 #[(vi p0), (vi p1), (vi p2), (vi p3), (vi (p0 &&& (2147483647 : Int32))), (vr b6), (vi 1), (vi (v0_n_62 p0 p1)), (vi (v0_n_71 p0 p2)), (vi 2), (vi 3), (vi 4), (vi 5)] [(.int 5), (.ref b6)])) rfl (by rw [hml]; rfl) (Steps.refl _) (argsL := [(.int 5)]) (rest := []) (lenOf pd__I_I rfl) rfl (w00 rfl) (hb hby at_212) (fun _ _ => ⟨rfl, e35, (by decide : 13 + 0 ≤ _), (by decide : 45463 + 0 ≤ _)⟩)
  dsimp only [Pt.U, Pt.locs, Pt.cells, Pt.slots] at X38 l38 y38 z38 st38 hQ38
  subst y38 z38
  obtain ⟨rfl, Nq38, e38⟩ := hQ38
  have N38 := FrE l38 N35 Nq38
  have pre39 := Go.trn pre37 st38
  have pre40 : Go p e below T38 _ (mkF m 235 #[(vi p0), (vi p1), (vi p2), (vi p3), (vi (p0 &&& (2147483647 : Int32))), (vr b6), (vi 1), (vi (v0_n_62 p0 p1)), (vi (v0_n_71 p0 p2)), (vi 2), (vi 3), (vi 4), (vi 5)] [(.int 0), (.ref b6)]) _ := fun t k => pre39 t (by
    refine XS.iload X38.here hx rfl (hb hby at_215) rfl ?_
    refine XS.icmpNo X38.here hx rfl (hb hby at_217) rfl (teq rfl).2 ?_
    refine XS.iconst X38.here hx rfl (hb hby at_220) ?_
    refine XS.goto X38.here hx rfl (pc0 := 221) (pc' := 225) rfl (hb hby at_221) (by decide) (by decide) ?_
    refine XS.istore X38.here hx rfl (hb hby at_225) rfl (l' := #[(vi p0), (vi p1), (vi p2), (vi p3), (vi (p0 &&& (2147483647 : Int32))), (vr b6), (vi 1), (vi (v0_n_62 p0 p1)), (vi (v0_n_71 p0 p2)), (vi 2), (vi 3), (vi 4), (vi 5)]) rfl ?_
    refine XS.iload X38.here hx rfl (hb hby at_227) rfl ?_
    refine XS.ifNo X38.here hx rfl (hb hby at_229) rfl (by decide) ?_
    refine XS.aload X38.here hx rfl (hb hby at_232) rfl rfl ?_
    refine XS.iconst X38.here hx rfl (hb hby at_234) ?_
    exact k)
  obtain ⟨cq41, kq41, q41a, q41b, q41c⟩ := isOf hZ e38 B29.e
  obtain ⟨_, _, ⟨T41, L41, k41, n41⟩, -, X41, ⟨Lc41, hQ41, l41, y41, z41⟩, st41⟩ := X38.virtualBack hx (y := Nm_15) (z := Nm_15) hown (mq hZ hw 80 rfl) (mq hZ hw 81 rfl) (notFace_of_selects (args := #[]) (mq hZ hw 83 rfl)) (mq hZ hw 83 rfl) (mq hZ hw 82 rfl) (by decide) (backOf (W := 0) (rm11t l Z a0 hw [] (0 : Int32) T29.heap n0 B29.z B29 (by decide)) hZ (wq hw 84 rfl) (wq hw 3 rfl) (by decide) (by decide)) q41a q41c (g := (mkF m 235 #[(vi p0), (vi p1), (vi p2), (vi p3), (vi (p0 &&& (2147483647 : Int32))), (vr b6), (vi 1), (vi (v0_n_62 p0 p1)), (vi (v0_n_71 p0 p2)), (vi 2), (vi 3), (vi 4), (vi 5)] [(.int 0), (.ref b6)])) rfl (by rw [hml]; rfl) (Steps.refl _) (argsL := [(.int 0)]) (rest := []) (lenOf pd__I_I rfl) rfl (w00 rfl) (hb hby at_235) (fun _ _ => ⟨rfl, e38, (by decide : 13 + 0 ≤ _), (by decide : 45463 + 0 ≤ _)⟩)
  dsimp only [Pt.U, Pt.locs, Pt.cells, Pt.slots] at X41 l41 y41 z41 st41 hQ41
  subst y41 z41
  obtain ⟨rfl, Nq41, e41⟩ := hQ41
  have N41 := FrE l41 N38 Nq41
  have pre42 := Go.trn pre40 st41
  have pre43 : Go p e below T41 _ (mkF m 246 #[(vi p0), (vi p1), (vi p2), (vi p3), (vi (p0 &&& (2147483647 : Int32))), (vr b6), (vi 1), (vi (v0_n_62 p0 p1)), (vi (v0_n_71 p0 p2)), (vi 2), (vi 3), (vi 4), (vi 5)] [(.int 1), (.ref b6)]) _ := fun t k => pre42 t (by
    refine XS.iload X41.here hx rfl (hb hby at_238) rfl ?_
    refine XS.icmpNo X41.here hx rfl (hb hby at_240) rfl (teq rfl).2 ?_
    refine XS.aload X41.here hx rfl (hb hby at_243) rfl rfl ?_
    refine XS.iconst X41.here hx rfl (hb hby at_245) ?_
    exact k)
  obtain ⟨cq44, kq44, q44a, q44b, q44c⟩ := isOf hZ e41 B29.e
  obtain ⟨_, _, ⟨T44, L44, k44, n44⟩, -, X44, ⟨Lc44, hQ44, l44, y44, z44⟩, st44⟩ := X41.virtualBack hx (y := Nm_15) (z := Nm_15) hown (mq hZ hw 80 rfl) (mq hZ hw 81 rfl) (notFace_of_selects (args := #[]) (mq hZ hw 83 rfl)) (mq hZ hw 83 rfl) (mq hZ hw 82 rfl) (by decide) (backOf (W := 0) (rm11t l Z a0 hw [] (1 : Int32) T29.heap n0 B29.z B29 (by decide)) hZ (wq hw 84 rfl) (wq hw 3 rfl) (by decide) (by decide)) q44a q44c (g := (mkF m 246 #[(vi p0), (vi p1), (vi p2), (vi p3), (vi (p0 &&& (2147483647 : Int32))), (vr b6), (vi 1), (vi (v0_n_62 p0 p1)), (vi (v0_n_71 p0 p2)), (vi 2), (vi 3), (vi 4), (vi 5)] [(.int 1), (.ref b6)])) rfl (by rw [hml]; rfl) (Steps.refl _) (argsL := [(.int 1)]) (rest := []) (lenOf pd__I_I rfl) rfl (w00 rfl) (hb hby at_246) (fun _ _ => ⟨rfl, e41, (by decide : 13 + 0 ≤ _), (by decide : 45463 + 0 ≤ _)⟩)
  dsimp only [Pt.U, Pt.locs, Pt.cells, Pt.slots] at X44 l44 y44 z44 st44 hQ44
  subst y44 z44
  obtain ⟨rfl, Nq44, e44⟩ := hQ44
  have N44 := FrE l44 N41 Nq44
  have pre45 := Go.trn pre43 st44
  have pre46 : Go p e below T44 _ (mkF m 263 #[(vi p0), (vi p1), (vi p2), (vi p3), (vi (p0 &&& (2147483647 : Int32))), (vr b6), (vi 1), (vi (v0_n_62 p0 p1)), (vi (v0_n_71 p0 p2)), (vi 2), (vi 3), (vi 4), (vi 5)] [(.int 1)]) _ := fun t k => pre45 t (by
    refine XS.iload X44.here hx rfl (hb hby at_249) rfl ?_
    refine XS.icmpNo X44.here hx rfl (hb hby at_251) rfl (teq rfl).2 ?_
    refine XS.iconst X44.here hx rfl (hb hby at_254) ?_
    refine XS.goto X44.here hx rfl (pc0 := 255) (pc' := 259) rfl (hb hby at_255) (by decide) (by decide) ?_
    refine XS.istore X44.here hx rfl (hb hby at_259) rfl (l' := #[(vi p0), (vi p1), (vi p2), (vi p3), (vi (p0 &&& (2147483647 : Int32))), (vr b6), (vi 1), (vi (v0_n_62 p0 p1)), (vi (v0_n_71 p0 p2)), (vi 2), (vi 3), (vi 4), (vi 5)]) rfl ?_
    refine XS.iload X44.here hx rfl (hb hby at_261) rfl ?_
    exact k)
  obtain ⟨fs, hr, hrun, hended, hW, hsame⟩ := X44.leave (v := some (.int 1)) (fun h => by rw [Bd.returns] at h; cases h)
  refine ⟨_, _, ?_, hrun, hended, _, _, rfl, ?_, ⟨_, rfl⟩, hW, hsame.mono (by decide) (by decide)⟩
  · exact pre46 _ (retN X44 hx (t := .boolean) Bd.returns (by simp) (hb hby at_263) hr)
  · exact ⟨rfl, N44, trivial⟩
theorem rm0 (l : Launch) (Z : State) (a0 : Array Value) (hw : ∀ d ∈ tables_1, d.before a0 Z = true) (ws : List Jvm.Cond) (p0 : Int32) (p1 : Int32) (p2 : Int32) (p3 : Int32) (h0 : Heap) (n0 : Nat) (Z0 : n0 ≤ h0.size) :
    Met1 l x (Jvm.Cond.code x code maxLocals ret) ws room_1 #[(.int p0), (.int p1), (.int p2), (.int p3)] Z h0 (QL (some (.int 1)) n0) := by
  by_cases hk : (p0 &&& (2147483647 : Int32)) = (0 : Int32)
  · exact rm0_z l Z a0 hw ws p0 p1 p2 p3 h0 n0 Z0 hk
  · by_cases hab : (v0_e_62 p0 p1) = (v0_e_71 p0 p2)
    · exact rm0_e l Z a0 hw ws p0 p1 p2 p3 h0 n0 Z0 hk hab
    · exact rm0_n l Z a0 hw ws p0 p1 p2 p3 h0 n0 Z0 hk hab
theorem comes_1 {Post : Tables → Env → Array Value → State → Outcome → State → Prop} (hpost : ∀ tb e args s v u, (limb_1_1.after args s (.returned v) u = true ∧ limb_1_2.after args s (.returned v) u = true ∧ True) → FrameEnd s (.returned v) u (Jvm.fieldLocs frame_1_writes args s ++ Jvm.arrayLocs frame_1_arrays args s ++ Jvm.staticLocs frame_1_statics s) 40 91008 → Post tb e args s (.returned v) u) :
    ArmFor flags0 classFile x code maxLocals ret World_1 tables_1 room_1 Calls_1 rest_1 Pre_1 Post := by
  intro l hfl _ _ p e ha hc hk s m args below hf hA hF happ hP
  obtain ⟨hcalls, hrest, hpre⟩ := hP
  obtain ⟨-, -, -, hnamed, -, -, -, hat⟩ := (Spec.applies_iff hf).mp happ
  obtain ⟨hg, hn⟩ := and_e (Cond.before_iff.mp (show (Jvm.Cond.and given_1 narrow_1).before args s = true from hpre))
  obtain ⟨g1, g2⟩ := and_e hg
  obtain ⟨g3, g4⟩ := and_e g2
  obtain ⟨g5, g6⟩ := and_e g4
  obtain ⟨g7, g8⟩ := and_e g6
  obtain ⟨w0, w1, w2, w3, rfl⟩ : ∃ w0 w1 w2 w3 : Value, args = #[w0, w1, w2, w3] := by
    have hs : args.size = 4 := by simpa [Cond.value, given_1] using g1
    obtain ⟨L⟩ := args
    match L, hs with
    | [w0, w1, w2, w3], _ => exact ⟨w0, w1, w2, w3, rfl⟩
  have hw := fun d (hd : d ∈ tables_1) => atoms_spec (ws := Jvm.Cond.code x code maxLocals ret :: tables_1) hat d (List.mem_cons_of_mem _ hd)
  obtain ⟨i0, ei0⟩ := is_v g3
  obtain rfl : w0 = (.int i0) := Option.some.inj ei0
  obtain ⟨i1, ei1⟩ := is_v g5
  obtain rfl : w1 = (.int i1) := Option.some.inj ei1
  obtain ⟨i2, ei2⟩ := is_v g7
  obtain rfl : w2 = (.int i2) := Option.some.inj ei2
  obtain ⟨i3, ei3⟩ := is_v g8
  obtain rfl : w3 = (.int i3) := Option.some.inj ei3
  obtain ⟨n, o, h1, h2, h3, _, L, rfl, ⟨rfl, N, -⟩, hq⟩ := rm0 l s _ hw tables_1 i0 i1 i2 i3 s.heap s.heap.size (Nat.le_refl _) p e ha hc hk s m _ below hf ((Spec.applies_iff_loose hf).mp happ).1 ⟨rfl, State.Warmed39.refl s, rfl⟩ trivial
  refine ⟨n, _, h1, h2, h3, hpost _ _ _ _ _ _ ⟨Cond.after_iff.mpr rfl, Cond.after_iff.mpr (eq_i res_at (Term.int_eval (1)) rfl), trivial⟩ ⟨hq.1, hq.2.1, (hq.2.2.sift fun y hy => Or.inr (N y hy)).mono (by decide) (by decide)⟩⟩
theorem main_1_1 : Claimed_1_1 := comes_1 fun _ _ _ _ _ _ h hF => ⟨h.1, hF⟩
theorem main_1_2 : Claimed_1_2 := comes_1 fun _ _ _ _ _ _ h hF => ⟨h.2.1, hF⟩
end Jvm.Pilot.@@N@@
namespace Jvm.Pilot.@@N@@
open Jvm Jvm.ClassFile Sem Op Lib Jvm.Free Jvm.Stand Jvm.Pilot.@@N@@.Jvm.D
/-! MADE BY PROGRAM (witnessworld.py) out of the Statement's table words and the real class files: 18 classes; the members and pool entries that the words name. The judged class is class 1, her method 1. -/
namespace start1
open Jvm.ClassFile
def u (s : String) : CpInfo := .utf8 (stringToUtf16 s)
/-- a pool by its gaps: so many unusable entries, then the entry; so many at the end -/
def gap : Nat → List CpInfo → List CpInfo
  | 0, r => r
  | n + 1, r => .unusable :: gap n r
def poolList (es : List (Nat × CpInfo)) (last : Nat) : List CpInfo := es.foldr (fun e r => gap e.1 (e.2 :: r)) (gap last [])
def pool (es : List (Nat × CpInfo)) (last : Nat) : Array CpInfo := ⟨poolList es last⟩
def fileOf (pool : Array CpInfo) (this : Nat) (attrs : Array Attribute := #[]) (ms : Array MethodInfo := #[]) (fl : Nat := 33) (sup : Nat := 0) (ifs : Array Nat := #[]) (fds : Array FieldInfo := #[]) : ClassFile where
  minorVersion := 0
  majorVersion := 65
  constantPool := pool
  accessFlags := fl
  thisClass := this
  superClass := sup
  interfaces := ifs
  fields := fds
  methods := ms
  attributes := attrs
def plain (name : String) (sup : Option ClassId) : Class where
  name := name
  kind := .ordinary
  loader := none
  accessFlags := 33
  super := sup
  interfaces := #[]
  cf := none
  fields := #[]
  methods := #[]
  instanceTypes := #[]
  staticTypes := #[]
  resolved := #[]
  callSites := []
  init := .initialized
  statics := none
  mirror := none

def pool0 : Array CpInfo := pool [(5, u "<init>"), (0, u "()V"), (1, .class_ 10), (1, u "java/lang/Object")] 113

def k0c0 : Code := { maxStack := 0, maxLocals := 1, code := object_method_1_code, exceptionTable := #[], attributes := #[] }
def k0m0 : Method := { name := "<init>", desc := "()V", sig := { parameters := [], returnType := none }, accessFlags := 1, code := some k0c0 }
/-- java/lang/Object -/
def k0 : Class := { plain "java/lang/Object" none with
  accessFlags := 33
  interfaces := #[]
  cf := some (fileOf pool0 8 #[] #[{ accessFlags := 1, nameIndex := 5, descriptorIndex := 6, attributes := #[] }] 33 0 #[] #[])
  fields := #[]
  methods := #[k0m0]
  instanceTypes := #[]
  staticTypes := #[]
  resolved := Array.replicate 124 none
  statics := none }

def pool1 : Array CpInfo := pool [(2, .class_ 4), (1, u "java/lang/Object"), (0, u "<init>"), (0, u "()V"), (0, .integer 2147483647), (0, .class_ 9), (0, u "com/example/slim_kripke/slimkripke/bdd/BddManager"), (0, .methodref 8 11), (0, .nameAndType 5 12), (0, u "(II)V"), (0, .methodref 8 14), (0, .nameAndType 15 16), (0, u "level"), (0, u "(I)I"), (0, .methodref 8 18), (0, .nameAndType 19 20), (0, u "variable"), (0, u "(I)Lcom/example/slim_kripke/slimkripke/bdd/Bdd;"), (0, .methodref 8 22), (0, .nameAndType 23 24), (0, u "and"), (0, u "(II)I"), (0, .methodref 8 26), (0, .nameAndType 27 16), (0, u "not"), (0, .methodref 29 30), (0, .class_ 31), (0, .nameAndType 32 24), (0, u "java/lang/Math"), (0, u "min"), (0, .class_ 34), (0, u "com/example/slim_kripke/slimkripke/bdd/BddManagerLevelPinLaw"), (2, u "law"), (0, u "(IIII)Z")] 3

def k1m0 : Method := { name := "<init>", desc := "()V", sig := { parameters := [], returnType := none }, accessFlags := 1, code := none }
def k1c1 : Code := { maxStack := 4, maxLocals := 13, code := code, exceptionTable := #[], attributes := #[] }
def k1m1 : Method := { name := "law", desc := "(IIII)Z", sig := { parameters := [.int, .int, .int, .int], returnType := some .boolean }, accessFlags := 9, code := some k1c1 }
/-- com/example/slim_kripke/slimkripke/bdd/BddManagerLevelPinLaw -/
def k1 : Class := { plain "com/example/slim_kripke/slimkripke/bdd/BddManagerLevelPinLaw" (some 0) with
  accessFlags := 49
  interfaces := #[]
  cf := some (fileOf pool1 33 #[] #[{ accessFlags := 1, nameIndex := 5, descriptorIndex := 6, attributes := #[] }, { accessFlags := 9, nameIndex := 37, descriptorIndex := 38, attributes := #[] }] 49 2 #[] #[])
  fields := #[]
  methods := #[k1m0, k1m1]
  instanceTypes := #[]
  staticTypes := #[]
  resolved := Array.replicate 42 none
  statics := none }

def pool2 : Array CpInfo := pool [(1, .class_ 2), (0, u "com/example/slim_kripke/slimkripke/bdd/BddManager"), (2, u "<init>"), (0, u "(II)V"), (0, .methodref 8 9), (0, .class_ 10), (0, .nameAndType 5 11), (0, u "java/lang/Object"), (0, u "()V"), (0, .class_ 13), (0, u "com/example/slim_kripke/slimkripke/bdd/CallStack"), (0, .methodref 12 9), (0, .fieldref 1 16), (0, .nameAndType 17 18), (0, u "calls"), (0, u "Lcom/example/slim_kripke/slimkripke/bdd/CallStack;"), (0, .fieldref 1 20), (0, .nameAndType 21 22), (0, u "pending"), (0, u "[I"), (0, .fieldref 1 24), (0, .nameAndType 25 26), (0, u "liveNodes"), (0, u "I"), (0, .fieldref 1 28), (0, .nameAndType 29 26), (0, u "peakLiveNodes"), (9, .fieldref 1 40), (0, .nameAndType 41 26), (0, u "variableCount"), (0, .fieldref 1 43), (0, .nameAndType 44 26), (0, u "recursionLimit"), (0, .methodref 1 46), (0, .nameAndType 47 48), (0, u "allocate"), (0, u "(I)V"), (0, .methodref 1 50), (0, .nameAndType 51 52), (0, u "hold"), (0, u "(I)Lcom/example/slim_kripke/slimkripke/bdd/Bdd;"), (0, .methodref 1 54), (0, .nameAndType 55 48), (0, u "requireVariable"), (0, .methodref 1 57), (0, .nameAndType 58 11), (0, u "beginOperation"), (0, .methodref 1 60), (0, .nameAndType 61 62), (0, u "node"), (0, u "(III)I"), (1, .class_ 66), (1, u "java/util/Arrays"), (0, u "fill"), (7, .class_ 76), (0, u "java/lang/Integer"), (2, u "apply"), (16, u "()I"), (14, u "renamings"), (6, .methodref 1 119), (0, .nameAndType 120 48), (0, u "reference"), (0, .methodref 122 123), (0, .class_ 124), (0, .nameAndType 125 126), (0, u "java/lang/Math"), (0, u "max"), (0, u "(II)I"), (0, .class_ 128), (0, u "com/example/slim_kripke/slimkripke/bdd/Bdd"), (0, .methodref 127 130), (0, .nameAndType 5 131), (0, u "(Lcom/example/slim_kripke/slimkripke/bdd/BddManager;I)V"), (3, .methodref 1 136), (0, .nameAndType 137 126), (0, u "pend"), (0, .fieldref 1 139), (0, .nameAndType 140 22), (0, u "references"), (0, .fieldref 1 142), (0, .nameAndType 143 22), (0, u "highs"), (0, .fieldref 1 145), (0, .nameAndType 146 22), (0, u "lows"), (4, .methodref 1 152), (0, .nameAndType 153 154), (0, u "negation"), (0, u "(I)I"), (0, .methodref 1 156), (0, .nameAndType 79 62), (22, .fieldref 1 180), (0, .nameAndType 181 22), (0, u "levels"), (4, .methodref 1 187), (0, .nameAndType 188 154), (0, u "level"), (58, .methodref 1 248), (0, .nameAndType 249 250), (0, u "cached"), (0, u "(IIII)I"), (0, .fieldref 1 252), (0, .nameAndType 253 26), (0, u "depth"), (0, .methodref 1 255), (0, .nameAndType 256 154), (0, u "negationOnStack"), (0, .methodref 1 258), (0, .nameAndType 259 260), (0, u "remember"), (0, u "(IIIII)V"), (0, .methodref 1 262), (0, .nameAndType 263 62), (0, u "terminalCase"), (0, .methodref 1 265), (0, .nameAndType 266 62), (0, u "applyOnStack"), (0, .methodref 122 268), (0, .nameAndType 269 126), (0, u "min"), (0, .methodref 1 271), (0, .nameAndType 272 273), (0, u "cofactor"), (0, u "(IIZ)I"), (36, .methodref 12 311), (0, .nameAndType 312 96), (0, u "size"), (0, .methodref 12 314), (0, .nameAndType 315 260), (0, u "push"), (0, .methodref 12 317), (0, .nameAndType 318 96), (0, u "top"), (0, .methodref 12 320), (0, .nameAndType 321 154), (0, u "low"), (0, .methodref 12 323), (0, .nameAndType 324 6), (0, u "setLow"), (0, .methodref 12 326), (0, .nameAndType 327 154), (0, u "first"), (0, .methodref 12 187), (0, .methodref 1 330), (0, .nameAndType 331 62), (0, u "finish"), (0, .methodref 12 333), (0, .nameAndType 334 154), (0, u "second"), (0, .methodref 12 336), (0, .nameAndType 337 154), (0, u "third"), (0, .methodref 12 339), (0, .nameAndType 340 11), (0, u "pop"), (32, .methodref 1 374), (0, .nameAndType 375 62), (0, u "hash"), (0, .fieldref 1 377), (0, .nameAndType 378 22), (0, u "buckets"), (0, .fieldref 1 380), (0, .nameAndType 381 22), (0, u "chains"), (0, .fieldref 1 383), (0, .nameAndType 384 26), (0, u "freeCount"), (3, .fieldref 1 389), (0, .nameAndType 390 26), (0, u "firstFree"), (0, .methodref 12 392), (0, .nameAndType 393 11), (0, u "clear"), (3, .methodref 64 398), (0, .nameAndType 67 399), (0, u "([II)V"), (0, .methodref 1 401), (0, .nameAndType 402 11), (0, u "forgetCache"), (9, .methodref 1 413), (0, .nameAndType 414 48), (0, u "allocateCache"), (0, .integer 429496729), (0, .methodref 75 417), (0, .nameAndType 418 154), (0, u "highestOneBit"), (0, .fieldref 1 420), (0, .nameAndType 421 22), (0, u "cache"), (0, .methodref 1 423), (0, .nameAndType 424 250), (0, u "entry"), (0, .methodref 1 426), (0, .nameAndType 375 250), (0, .long 11400714819323198485), (1, .long 14029467366897019727), (1, .long 1609587929392839161), (3, u "FALSE"), (2, u "TRUE"), (1, u "FREE"), (1, u "INITIAL_CAPACITY"), (1, u "RECURSION_LIMIT"), (1, u "AND"), (0, u "OR"), (0, u "XOR"), (1, u "AND_NOT"), (1, u "IMPLIES"), (1, u "IFF"), (1, u "NOT"), (1, u "EXISTS"), (1, u "AND_EXISTS"), (1, u "RENAME"), (1, u "RESTRICT"), (1, u "ENTRY_OP"), (0, u "ENTRY_FIRST"), (0, u "ENTRY_SECOND"), (0, u "ENTRY_THIRD"), (0, u "ENTRY_RESULT"), (0, u "ENTRY_FIELDS"), (0, u "PENDING"), (0, u "PASSED"), (6, u "variable"), (8, u "not"), (0, u "and")] 79

def k2c0 : Code := { maxStack := 3, maxLocals := 3, code := prog_5_method_2_code, exceptionTable := #[], attributes := #[] }
def k2m0 : Method := { name := "<init>", desc := "(II)V", sig := { parameters := [.int, .int], returnType := none }, accessFlags := 0, code := some k2c0 }
def k2c1 : Code := { maxStack := 5, maxLocals := 2, code := prog_5_method_7_code, exceptionTable := #[], attributes := #[] }
def k2m1 : Method := { name := "variable", desc := "(I)Lcom/example/slim_kripke/slimkripke/bdd/Bdd;", sig := { parameters := [.int], returnType := some (.object "com/example/slim_kripke/slimkripke/bdd/Bdd") }, accessFlags := 1, code := some k2c1 }
def k2c2 : Code := { maxStack := 4, maxLocals := 2, code := prog_5_method_11_code, exceptionTable := #[], attributes := #[] }
def k2m2 : Method := { name := "requireVariable", desc := "(I)V", sig := { parameters := [.int], returnType := none }, accessFlags := 2, code := some k2c2 }
def k2c3 : Code := { maxStack := 4, maxLocals := 2, code := prog_5_method_12_code, exceptionTable := #[], attributes := #[] }
def k2m3 : Method := { name := "hold", desc := "(I)Lcom/example/slim_kripke/slimkripke/bdd/Bdd;", sig := { parameters := [.int], returnType := some (.object "com/example/slim_kripke/slimkripke/bdd/Bdd") }, accessFlags := 0, code := some k2c3 }
def k2c4 : Code := { maxStack := 5, maxLocals := 4, code := prog_5_method_14_code, exceptionTable := #[], attributes := #[] }
def k2m4 : Method := { name := "reference", desc := "(I)V", sig := { parameters := [.int], returnType := none }, accessFlags := 2, code := some k2c4 }
def k2c5 : Code := { maxStack := 4, maxLocals := 3, code := prog_5_method_16_code, exceptionTable := #[], attributes := #[] }
def k2m5 : Method := { name := "pend", desc := "(II)I", sig := { parameters := [.int, .int], returnType := some .int }, accessFlags := 2, code := some k2c5 }
def k2c6 : Code := { maxStack := 2, maxLocals := 2, code := prog_5_method_17_code, exceptionTable := #[], attributes := #[] }
def k2m6 : Method := { name := "not", desc := "(I)I", sig := { parameters := [.int], returnType := some .int }, accessFlags := 0, code := some k2c6 }
def k2c7 : Code := { maxStack := 4, maxLocals := 3, code := prog_5_method_18_code, exceptionTable := #[], attributes := #[] }
def k2m7 : Method := { name := "and", desc := "(II)I", sig := { parameters := [.int, .int], returnType := some .int }, accessFlags := 0, code := some k2c7 }
def k2c8 : Code := { maxStack := 2, maxLocals := 2, code := prog_5_method_33_code, exceptionTable := #[], attributes := #[] }
def k2m8 : Method := { name := "level", desc := "(I)I", sig := { parameters := [.int], returnType := some .int }, accessFlags := 0, code := some k2c8 }
def k2c9 : Code := { maxStack := 6, maxLocals := 5, code := prog_5_method_35_code, exceptionTable := #[], attributes := #[] }
def k2m9 : Method := { name := "negation", desc := "(I)I", sig := { parameters := [.int], returnType := some .int }, accessFlags := 2, code := some k2c9 }
def k2c10 : Code := { maxStack := 7, maxLocals := 11, code := prog_5_method_36_code, exceptionTable := #[], attributes := #[] }
def k2m10 : Method := { name := "apply", desc := "(III)I", sig := { parameters := [.int, .int, .int], returnType := some .int }, accessFlags := 2, code := some k2c10 }
def k2c11 : Code := { maxStack := 3, maxLocals := 4, code := prog_5_method_42_code, exceptionTable := #[], attributes := #[] }
def k2m11 : Method := { name := "terminalCase", desc := "(III)I", sig := { parameters := [.int, .int, .int], returnType := some .int }, accessFlags := 10, code := some k2c11 }
def k2c12 : Code := { maxStack := 2, maxLocals := 5, code := prog_5_method_43_code, exceptionTable := #[], attributes := #[] }
def k2m12 : Method := { name := "cofactor", desc := "(IIZ)I", sig := { parameters := [.int, .int, .boolean], returnType := some .int }, accessFlags := 2, code := some k2c12 }
def k2c13 : Code := { maxStack := 7, maxLocals := 6, code := prog_5_method_47_code, exceptionTable := #[], attributes := #[] }
def k2m13 : Method := { name := "negationOnStack", desc := "(I)I", sig := { parameters := [.int], returnType := some .int }, accessFlags := 2, code := some k2c13 }
def k2c14 : Code := { maxStack := 7, maxLocals := 10, code := prog_5_method_48_code, exceptionTable := #[], attributes := #[] }
def k2m14 : Method := { name := "applyOnStack", desc := "(III)I", sig := { parameters := [.int, .int, .int], returnType := some .int }, accessFlags := 2, code := some k2c14 }
def k2c15 : Code := { maxStack := 6, maxLocals := 4, code := prog_5_method_53_code, exceptionTable := #[], attributes := #[] }
def k2m15 : Method := { name := "finish", desc := "(III)I", sig := { parameters := [.int, .int, .int], returnType := some .int }, accessFlags := 2, code := some k2c15 }
def k2c16 : Code := { maxStack := 4, maxLocals := 6, code := prog_5_method_55_code, exceptionTable := #[], attributes := #[] }
def k2m16 : Method := { name := "node", desc := "(III)I", sig := { parameters := [.int, .int, .int], returnType := some .int }, accessFlags := 2, code := some k2c16 }
def k2c17 : Code := { maxStack := 3, maxLocals := 2, code := prog_5_method_56_code, exceptionTable := #[], attributes := #[] }
def k2m17 : Method := { name := "beginOperation", desc := "()V", sig := { parameters := [], returnType := none }, accessFlags := 2, code := some k2c17 }
def k2c18 : Code := { maxStack := 3, maxLocals := 3, code := prog_5_method_59_code, exceptionTable := #[], attributes := #[] }
def k2m18 : Method := { name := "allocate", desc := "(I)V", sig := { parameters := [.int], returnType := none }, accessFlags := 2, code := some k2c18 }
def k2c19 : Code := { maxStack := 3, maxLocals := 3, code := prog_5_method_60_code, exceptionTable := #[], attributes := #[] }
def k2m19 : Method := { name := "allocateCache", desc := "(I)V", sig := { parameters := [.int], returnType := none }, accessFlags := 2, code := some k2c19 }
def k2c20 : Code := { maxStack := 3, maxLocals := 2, code := prog_5_method_61_code, exceptionTable := #[], attributes := #[] }
def k2m20 : Method := { name := "forgetCache", desc := "()V", sig := { parameters := [], returnType := none }, accessFlags := 2, code := some k2c20 }
def k2c21 : Code := { maxStack := 5, maxLocals := 7, code := prog_5_method_62_code, exceptionTable := #[], attributes := #[] }
def k2m21 : Method := { name := "cached", desc := "(IIII)I", sig := { parameters := [.int, .int, .int, .int], returnType := some .int }, accessFlags := 2, code := some k2c21 }
def k2c22 : Code := { maxStack := 5, maxLocals := 7, code := prog_5_method_63_code, exceptionTable := #[], attributes := #[] }
def k2m22 : Method := { name := "remember", desc := "(IIIII)V", sig := { parameters := [.int, .int, .int, .int, .int], returnType := none }, accessFlags := 2, code := some k2c22 }
def k2c23 : Code := { maxStack := 4, maxLocals := 6, code := prog_5_method_64_code, exceptionTable := #[], attributes := #[] }
def k2m23 : Method := { name := "entry", desc := "(IIII)I", sig := { parameters := [.int, .int, .int, .int], returnType := some .int }, accessFlags := 2, code := some k2c23 }
def k2c24 : Code := { maxStack := 4, maxLocals := 3, code := prog_5_method_65_code, exceptionTable := #[], attributes := #[] }
def k2m24 : Method := { name := "hash", desc := "(III)I", sig := { parameters := [.int, .int, .int], returnType := some .int }, accessFlags := 10, code := some k2c24 }
def k2c25 : Code := { maxStack := 5, maxLocals := 6, code := prog_5_method_66_code, exceptionTable := #[], attributes := #[] }
def k2m25 : Method := { name := "hash", desc := "(IIII)I", sig := { parameters := [.int, .int, .int, .int], returnType := some .int }, accessFlags := 10, code := some k2c25 }
/-- com/example/slim_kripke/slimkripke/bdd/BddManager -/
def k2 : Class := { plain "com/example/slim_kripke/slimkripke/bdd/BddManager" (some 0) with
  accessFlags := 33
  interfaces := #[]
  cf := some (fileOf pool2 1 #[] #[{ accessFlags := 0, nameIndex := 5, descriptorIndex := 6, attributes := #[] }, { accessFlags := 1, nameIndex := 480, descriptorIndex := 52, attributes := #[] }, { accessFlags := 2, nameIndex := 55, descriptorIndex := 48, attributes := #[] }, { accessFlags := 0, nameIndex := 51, descriptorIndex := 52, attributes := #[] }, { accessFlags := 2, nameIndex := 120, descriptorIndex := 48, attributes := #[] }, { accessFlags := 2, nameIndex := 137, descriptorIndex := 126, attributes := #[] }, { accessFlags := 0, nameIndex := 489, descriptorIndex := 154, attributes := #[] }, { accessFlags := 0, nameIndex := 490, descriptorIndex := 126, attributes := #[] }, { accessFlags := 0, nameIndex := 188, descriptorIndex := 154, attributes := #[] }, { accessFlags := 2, nameIndex := 153, descriptorIndex := 154, attributes := #[] }, { accessFlags := 2, nameIndex := 79, descriptorIndex := 62, attributes := #[] }, { accessFlags := 10, nameIndex := 263, descriptorIndex := 62, attributes := #[] }, { accessFlags := 2, nameIndex := 272, descriptorIndex := 273, attributes := #[] }, { accessFlags := 2, nameIndex := 256, descriptorIndex := 154, attributes := #[] }, { accessFlags := 2, nameIndex := 266, descriptorIndex := 62, attributes := #[] }, { accessFlags := 2, nameIndex := 331, descriptorIndex := 62, attributes := #[] }, { accessFlags := 2, nameIndex := 61, descriptorIndex := 62, attributes := #[] }, { accessFlags := 2, nameIndex := 58, descriptorIndex := 11, attributes := #[] }, { accessFlags := 2, nameIndex := 47, descriptorIndex := 48, attributes := #[] }, { accessFlags := 2, nameIndex := 414, descriptorIndex := 48, attributes := #[] }, { accessFlags := 2, nameIndex := 402, descriptorIndex := 11, attributes := #[] }, { accessFlags := 2, nameIndex := 249, descriptorIndex := 250, attributes := #[] }, { accessFlags := 2, nameIndex := 259, descriptorIndex := 260, attributes := #[] }, { accessFlags := 2, nameIndex := 424, descriptorIndex := 250, attributes := #[] }, { accessFlags := 10, nameIndex := 375, descriptorIndex := 62, attributes := #[] }, { accessFlags := 10, nameIndex := 375, descriptorIndex := 250, attributes := #[] }] 33 8 #[] #[{ accessFlags := 24, nameIndex := 435, descriptorIndex := 26, attributes := #[] }, { accessFlags := 24, nameIndex := 438, descriptorIndex := 26, attributes := #[] }, { accessFlags := 26, nameIndex := 440, descriptorIndex := 26, attributes := #[] }, { accessFlags := 26, nameIndex := 442, descriptorIndex := 26, attributes := #[] }, { accessFlags := 26, nameIndex := 444, descriptorIndex := 26, attributes := #[] }, { accessFlags := 26, nameIndex := 446, descriptorIndex := 26, attributes := #[] }, { accessFlags := 26, nameIndex := 447, descriptorIndex := 26, attributes := #[] }, { accessFlags := 26, nameIndex := 448, descriptorIndex := 26, attributes := #[] }, { accessFlags := 26, nameIndex := 450, descriptorIndex := 26, attributes := #[] }, { accessFlags := 26, nameIndex := 452, descriptorIndex := 26, attributes := #[] }, { accessFlags := 26, nameIndex := 454, descriptorIndex := 26, attributes := #[] }, { accessFlags := 26, nameIndex := 456, descriptorIndex := 26, attributes := #[] }, { accessFlags := 26, nameIndex := 458, descriptorIndex := 26, attributes := #[] }, { accessFlags := 26, nameIndex := 460, descriptorIndex := 26, attributes := #[] }, { accessFlags := 26, nameIndex := 462, descriptorIndex := 26, attributes := #[] }, { accessFlags := 26, nameIndex := 464, descriptorIndex := 26, attributes := #[] }, { accessFlags := 26, nameIndex := 466, descriptorIndex := 26, attributes := #[] }, { accessFlags := 26, nameIndex := 467, descriptorIndex := 26, attributes := #[] }, { accessFlags := 26, nameIndex := 468, descriptorIndex := 26, attributes := #[] }, { accessFlags := 26, nameIndex := 469, descriptorIndex := 26, attributes := #[] }, { accessFlags := 26, nameIndex := 470, descriptorIndex := 26, attributes := #[] }, { accessFlags := 26, nameIndex := 471, descriptorIndex := 26, attributes := #[] }, { accessFlags := 26, nameIndex := 472, descriptorIndex := 26, attributes := #[] }, { accessFlags := 26, nameIndex := 473, descriptorIndex := 26, attributes := #[] }, { accessFlags := 18, nameIndex := 41, descriptorIndex := 26, attributes := #[] }, { accessFlags := 18, nameIndex := 44, descriptorIndex := 26, attributes := #[] }, { accessFlags := 2, nameIndex := 181, descriptorIndex := 22, attributes := #[] }, { accessFlags := 2, nameIndex := 146, descriptorIndex := 22, attributes := #[] }, { accessFlags := 2, nameIndex := 143, descriptorIndex := 22, attributes := #[] }, { accessFlags := 2, nameIndex := 140, descriptorIndex := 22, attributes := #[] }, { accessFlags := 2, nameIndex := 378, descriptorIndex := 22, attributes := #[] }, { accessFlags := 2, nameIndex := 381, descriptorIndex := 22, attributes := #[] }, { accessFlags := 2, nameIndex := 390, descriptorIndex := 26, attributes := #[] }, { accessFlags := 2, nameIndex := 384, descriptorIndex := 26, attributes := #[] }, { accessFlags := 2, nameIndex := 421, descriptorIndex := 22, attributes := #[] }, { accessFlags := 2, nameIndex := 253, descriptorIndex := 26, attributes := #[] }, { accessFlags := 18, nameIndex := 17, descriptorIndex := 18, attributes := #[] }, { accessFlags := 2, nameIndex := 21, descriptorIndex := 22, attributes := #[] }, { accessFlags := 2, nameIndex := 25, descriptorIndex := 26, attributes := #[] }, { accessFlags := 2, nameIndex := 29, descriptorIndex := 26, attributes := #[] }, { accessFlags := 2, nameIndex := 111, descriptorIndex := 26, attributes := #[] }])
  fields := #[{ name := "FALSE", type := .int, accessFlags := 24, slot := 0, constantValue := 0 }, { name := "TRUE", type := .int, accessFlags := 24, slot := 1, constantValue := 0 }, { name := "FREE", type := .int, accessFlags := 26, slot := 2, constantValue := 0 }, { name := "INITIAL_CAPACITY", type := .int, accessFlags := 26, slot := 3, constantValue := 0 }, { name := "RECURSION_LIMIT", type := .int, accessFlags := 26, slot := 4, constantValue := 0 }, { name := "AND", type := .int, accessFlags := 26, slot := 5, constantValue := 0 }, { name := "OR", type := .int, accessFlags := 26, slot := 6, constantValue := 0 }, { name := "XOR", type := .int, accessFlags := 26, slot := 7, constantValue := 0 }, { name := "AND_NOT", type := .int, accessFlags := 26, slot := 8, constantValue := 0 }, { name := "IMPLIES", type := .int, accessFlags := 26, slot := 9, constantValue := 0 }, { name := "IFF", type := .int, accessFlags := 26, slot := 10, constantValue := 0 }, { name := "NOT", type := .int, accessFlags := 26, slot := 11, constantValue := 0 }, { name := "EXISTS", type := .int, accessFlags := 26, slot := 12, constantValue := 0 }, { name := "AND_EXISTS", type := .int, accessFlags := 26, slot := 13, constantValue := 0 }, { name := "RENAME", type := .int, accessFlags := 26, slot := 14, constantValue := 0 }, { name := "RESTRICT", type := .int, accessFlags := 26, slot := 15, constantValue := 0 }, { name := "ENTRY_OP", type := .int, accessFlags := 26, slot := 16, constantValue := 0 }, { name := "ENTRY_FIRST", type := .int, accessFlags := 26, slot := 17, constantValue := 0 }, { name := "ENTRY_SECOND", type := .int, accessFlags := 26, slot := 18, constantValue := 0 }, { name := "ENTRY_THIRD", type := .int, accessFlags := 26, slot := 19, constantValue := 0 }, { name := "ENTRY_RESULT", type := .int, accessFlags := 26, slot := 20, constantValue := 0 }, { name := "ENTRY_FIELDS", type := .int, accessFlags := 26, slot := 21, constantValue := 0 }, { name := "PENDING", type := .int, accessFlags := 26, slot := 22, constantValue := 0 }, { name := "PASSED", type := .int, accessFlags := 26, slot := 23, constantValue := 0 }, { name := "variableCount", type := .int, accessFlags := 18, slot := 0, constantValue := 0 }, { name := "recursionLimit", type := .int, accessFlags := 18, slot := 1, constantValue := 0 }, { name := "levels", type := (.array .int), accessFlags := 2, slot := 2, constantValue := 0 }, { name := "lows", type := (.array .int), accessFlags := 2, slot := 3, constantValue := 0 }, { name := "highs", type := (.array .int), accessFlags := 2, slot := 4, constantValue := 0 }, { name := "references", type := (.array .int), accessFlags := 2, slot := 5, constantValue := 0 }, { name := "buckets", type := (.array .int), accessFlags := 2, slot := 6, constantValue := 0 }, { name := "chains", type := (.array .int), accessFlags := 2, slot := 7, constantValue := 0 }, { name := "firstFree", type := .int, accessFlags := 2, slot := 8, constantValue := 0 }, { name := "freeCount", type := .int, accessFlags := 2, slot := 9, constantValue := 0 }, { name := "cache", type := (.array .int), accessFlags := 2, slot := 10, constantValue := 0 }, { name := "depth", type := .int, accessFlags := 2, slot := 11, constantValue := 0 }, { name := "calls", type := (.object "com/example/slim_kripke/slimkripke/bdd/CallStack"), accessFlags := 18, slot := 12, constantValue := 0 }, { name := "pending", type := (.array .int), accessFlags := 2, slot := 13, constantValue := 0 }, { name := "liveNodes", type := .int, accessFlags := 2, slot := 14, constantValue := 0 }, { name := "peakLiveNodes", type := .int, accessFlags := 2, slot := 15, constantValue := 0 }, { name := "renamings", type := .int, accessFlags := 2, slot := 16, constantValue := 0 }]
  methods := #[k2m0, k2m1, k2m2, k2m3, k2m4, k2m5, k2m6, k2m7, k2m8, k2m9, k2m10, k2m11, k2m12, k2m13, k2m14, k2m15, k2m16, k2m17, k2m18, k2m19, k2m20, k2m21, k2m22, k2m23, k2m24, k2m25]
  instanceTypes := #[.int, .int, (.array .int), (.array .int), (.array .int), (.array .int), (.array .int), (.array .int), .int, .int, (.array .int), .int, (.object "com/example/slim_kripke/slimkripke/bdd/CallStack"), (.array .int), .int, .int, .int]
  staticTypes := #[.int, .int, .int, .int, .int, .int, .int, .int, .int, .int, .int, .int, .int, .int, .int, .int, .int, .int, .int, .int, .int, .int, .int, .int]
  resolved := Array.replicate 570 none
  statics := none }

def pool3 : Array CpInfo := pool [(1, .methodref 2 3), (0, .class_ 4), (0, .nameAndType 5 6), (0, u "java/lang/Object"), (0, u "<init>"), (0, u "()V"), (0, .class_ 8), (0, u "com/example/slim_kripke/slimkripke/bdd/CallStack"), (0, .fieldref 7 10), (0, .nameAndType 11 12), (0, u "fields"), (0, u "[I"), (0, .fieldref 7 14), (0, .nameAndType 15 16), (0, u "size"), (0, u "I"), (2, .integer 1073741823), (13, u "FIRST"), (2, u "SECOND"), (1, u "THIRD"), (1, u "LEVEL"), (1, u "LOW"), (1, u "FIELDS"), (3, u "()I"), (0, u "top"), (0, u "push"), (0, u "(IIIII)V"), (1, u "pop"), (0, u "clear"), (0, u "first"), (0, u "(I)I"), (0, u "second"), (0, u "third"), (0, u "level"), (0, u "low"), (0, u "setLow"), (0, u "(II)V")] 2

def k3c0 : Code := { maxStack := 2, maxLocals := 1, code := prog_7_method_1_code, exceptionTable := #[], attributes := #[] }
def k3m0 : Method := { name := "<init>", desc := "()V", sig := { parameters := [], returnType := none }, accessFlags := 0, code := some k3c0 }
def k3c1 : Code := { maxStack := 1, maxLocals := 1, code := prog_7_method_2_code, exceptionTable := #[], attributes := #[] }
def k3m1 : Method := { name := "size", desc := "()I", sig := { parameters := [], returnType := some .int }, accessFlags := 0, code := some k3c1 }
def k3c2 : Code := { maxStack := 2, maxLocals := 1, code := prog_7_method_3_code, exceptionTable := #[], attributes := #[] }
def k3m2 : Method := { name := "top", desc := "()I", sig := { parameters := [], returnType := some .int }, accessFlags := 0, code := some k3c2 }
def k3c3 : Code := { maxStack := 4, maxLocals := 7, code := prog_7_method_4_code, exceptionTable := #[], attributes := #[] }
def k3m3 : Method := { name := "push", desc := "(IIIII)V", sig := { parameters := [.int, .int, .int, .int, .int], returnType := none }, accessFlags := 0, code := some k3c3 }
def k3c4 : Code := { maxStack := 3, maxLocals := 1, code := prog_7_method_5_code, exceptionTable := #[], attributes := #[] }
def k3m4 : Method := { name := "pop", desc := "()V", sig := { parameters := [], returnType := none }, accessFlags := 0, code := some k3c4 }
def k3c5 : Code := { maxStack := 2, maxLocals := 1, code := prog_7_method_6_code, exceptionTable := #[], attributes := #[] }
def k3m5 : Method := { name := "clear", desc := "()V", sig := { parameters := [], returnType := none }, accessFlags := 0, code := some k3c5 }
def k3c6 : Code := { maxStack := 3, maxLocals := 2, code := prog_7_method_7_code, exceptionTable := #[], attributes := #[] }
def k3m6 : Method := { name := "first", desc := "(I)I", sig := { parameters := [.int], returnType := some .int }, accessFlags := 0, code := some k3c6 }
def k3c7 : Code := { maxStack := 3, maxLocals := 2, code := prog_7_method_8_code, exceptionTable := #[], attributes := #[] }
def k3m7 : Method := { name := "second", desc := "(I)I", sig := { parameters := [.int], returnType := some .int }, accessFlags := 0, code := some k3c7 }
def k3c8 : Code := { maxStack := 3, maxLocals := 2, code := prog_7_method_9_code, exceptionTable := #[], attributes := #[] }
def k3m8 : Method := { name := "third", desc := "(I)I", sig := { parameters := [.int], returnType := some .int }, accessFlags := 0, code := some k3c8 }
def k3c9 : Code := { maxStack := 3, maxLocals := 2, code := prog_7_method_10_code, exceptionTable := #[], attributes := #[] }
def k3m9 : Method := { name := "level", desc := "(I)I", sig := { parameters := [.int], returnType := some .int }, accessFlags := 0, code := some k3c9 }
def k3c10 : Code := { maxStack := 3, maxLocals := 2, code := prog_7_method_11_code, exceptionTable := #[], attributes := #[] }
def k3m10 : Method := { name := "low", desc := "(I)I", sig := { parameters := [.int], returnType := some .int }, accessFlags := 0, code := some k3c10 }
def k3c11 : Code := { maxStack := 3, maxLocals := 3, code := prog_7_method_12_code, exceptionTable := #[], attributes := #[] }
def k3m11 : Method := { name := "setLow", desc := "(II)V", sig := { parameters := [.int, .int], returnType := none }, accessFlags := 0, code := some k3c11 }
/-- com/example/slim_kripke/slimkripke/bdd/CallStack -/
def k3 : Class := { plain "com/example/slim_kripke/slimkripke/bdd/CallStack" (some 0) with
  accessFlags := 32
  interfaces := #[]
  cf := some (fileOf pool3 7 #[] #[{ accessFlags := 0, nameIndex := 5, descriptorIndex := 6, attributes := #[] }, { accessFlags := 0, nameIndex := 15, descriptorIndex := 48, attributes := #[] }, { accessFlags := 0, nameIndex := 49, descriptorIndex := 48, attributes := #[] }, { accessFlags := 0, nameIndex := 50, descriptorIndex := 51, attributes := #[] }, { accessFlags := 0, nameIndex := 53, descriptorIndex := 6, attributes := #[] }, { accessFlags := 0, nameIndex := 54, descriptorIndex := 6, attributes := #[] }, { accessFlags := 0, nameIndex := 55, descriptorIndex := 56, attributes := #[] }, { accessFlags := 0, nameIndex := 57, descriptorIndex := 56, attributes := #[] }, { accessFlags := 0, nameIndex := 58, descriptorIndex := 56, attributes := #[] }, { accessFlags := 0, nameIndex := 59, descriptorIndex := 56, attributes := #[] }, { accessFlags := 0, nameIndex := 60, descriptorIndex := 56, attributes := #[] }, { accessFlags := 0, nameIndex := 61, descriptorIndex := 62, attributes := #[] }] 32 2 #[] #[{ accessFlags := 26, nameIndex := 33, descriptorIndex := 16, attributes := #[] }, { accessFlags := 26, nameIndex := 36, descriptorIndex := 16, attributes := #[] }, { accessFlags := 26, nameIndex := 38, descriptorIndex := 16, attributes := #[] }, { accessFlags := 26, nameIndex := 40, descriptorIndex := 16, attributes := #[] }, { accessFlags := 26, nameIndex := 42, descriptorIndex := 16, attributes := #[] }, { accessFlags := 26, nameIndex := 44, descriptorIndex := 16, attributes := #[] }, { accessFlags := 2, nameIndex := 11, descriptorIndex := 12, attributes := #[] }, { accessFlags := 2, nameIndex := 15, descriptorIndex := 16, attributes := #[] }])
  fields := #[{ name := "FIRST", type := .int, accessFlags := 26, slot := 0, constantValue := 0 }, { name := "SECOND", type := .int, accessFlags := 26, slot := 1, constantValue := 0 }, { name := "THIRD", type := .int, accessFlags := 26, slot := 2, constantValue := 0 }, { name := "LEVEL", type := .int, accessFlags := 26, slot := 3, constantValue := 0 }, { name := "LOW", type := .int, accessFlags := 26, slot := 4, constantValue := 0 }, { name := "FIELDS", type := .int, accessFlags := 26, slot := 5, constantValue := 0 }, { name := "fields", type := (.array .int), accessFlags := 2, slot := 0, constantValue := 0 }, { name := "size", type := .int, accessFlags := 2, slot := 1, constantValue := 0 }]
  methods := #[k3m0, k3m1, k3m2, k3m3, k3m4, k3m5, k3m6, k3m7, k3m8, k3m9, k3m10, k3m11]
  instanceTypes := #[(.array .int), .int]
  staticTypes := #[.int, .int, .int, .int, .int, .int]
  resolved := Array.replicate 65 none
  statics := none }

def pool4 : Array CpInfo := pool [(2, .class_ 4), (1, u "java/lang/Object"), (0, u "<init>"), (0, u "()V"), (7, .class_ 16), (1, u "java/util/Arrays"), (57, .class_ 76), (1, u "java/util/Arrays$NaturalOrder"), (36, .class_ 115), (1, u "java/util/Arrays$LegacyMergeSort"), (1, u "Z"), (257, .class_ 376), (0, u "java/util/Arrays$ArrayList"), (68, u "$assertionsDisabled"), (269, u "MIN_ARRAY_SORT_GRAN"), (0, u "I"), (2, u "INSERTIONSORT_THRESHOLD"), (120, u "fill"), (4, u "([II)V"), (129, .class_ 976), (0, u "java/util/Arrays$ArrayItr")] 52

def k4m0 : Method := { name := "<init>", desc := "()V", sig := { parameters := [], returnType := none }, accessFlags := 2, code := none }
def k4c1 : Code := { maxStack := 3, maxLocals := 4, code := jdk_65_method_103_code, exceptionTable := #[], attributes := #[] }
def k4m1 : Method := { name := "fill", desc := "([II)V", sig := { parameters := [(.array .int), .int], returnType := none }, accessFlags := 9, code := some k4c1 }
/-- java/util/Arrays -/
def k4 : Class := { plain "java/util/Arrays" (some 0) with
  accessFlags := 49
  interfaces := #[]
  cf := some (fileOf pool4 14 #[.nestMembers #[975, 375, 113, 74]] #[{ accessFlags := 2, nameIndex := 5, descriptorIndex := 6, attributes := #[] }, { accessFlags := 9, nameIndex := 840, descriptorIndex := 845, attributes := #[] }] 49 2 #[] #[{ accessFlags := 26, nameIndex := 715, descriptorIndex := 716, attributes := #[] }, { accessFlags := 26, nameIndex := 719, descriptorIndex := 716, attributes := #[] }, { accessFlags := 4120, nameIndex := 445, descriptorIndex := 117, attributes := #[] }])
  fields := #[{ name := "MIN_ARRAY_SORT_GRAN", type := .int, accessFlags := 26, slot := 0, constantValue := 0 }, { name := "INSERTIONSORT_THRESHOLD", type := .int, accessFlags := 26, slot := 1, constantValue := 0 }, { name := "$assertionsDisabled", type := .boolean, accessFlags := 4120, slot := 2, constantValue := 0 }]
  methods := #[k4m0, k4m1]
  instanceTypes := #[]
  staticTypes := #[.int, .int, .boolean]
  resolved := Array.replicate 1029 none
  statics := none }

def pool5 : Array CpInfo := pool [(1, .class_ 2), (0, u "java/io/Serializable"), (0, .class_ 4), (0, u "java/lang/Object")] 2

/-- java/io/Serializable -/
def k5 : Class := { plain "java/io/Serializable" (some 0) with
  accessFlags := 1537
  interfaces := #[]
  cf := some (fileOf pool5 1 #[] #[] 1537 3 #[] #[])
  fields := #[]
  methods := #[]
  instanceTypes := #[]
  staticTypes := #[]
  resolved := Array.replicate 7 none
  statics := none }

def pool6 : Array CpInfo := pool [(2, .class_ 4), (1, u "java/lang/Object"), (0, u "<init>"), (0, u "()V"), (1, .class_ 10), (1, u "java/lang/Number"), (2, .class_ 14), (0, u "java/io/Serializable"), (0, u "serialVersionUID"), (0, u "J")] 20

def k6m0 : Method := { name := "<init>", desc := "()V", sig := { parameters := [], returnType := none }, accessFlags := 1, code := none }
/-- java/lang/Number -/
def k6 : Class := { plain "java/lang/Number" (some 0) with
  accessFlags := 1057
  interfaces := #[5]
  cf := some (fileOf pool6 8 #[] #[{ accessFlags := 1, nameIndex := 5, descriptorIndex := 6, attributes := #[] }] 1057 2 #[13] #[{ accessFlags := 26, nameIndex := 15, descriptorIndex := 16, attributes := #[] }])
  fields := #[{ name := "serialVersionUID", type := .long, accessFlags := 26, slot := 0, constantValue := 0 }]
  methods := #[k6m0]
  instanceTypes := #[]
  staticTypes := #[.long]
  resolved := Array.replicate 37 none
  statics := none }

def pool7 : Array CpInfo := pool [(1, .class_ 2), (0, u "java/lang/Comparable"), (0, .class_ 4), (0, u "java/lang/Object")] 7

/-- java/lang/Comparable -/
def k7 : Class := { plain "java/lang/Comparable" (some 0) with
  accessFlags := 1537
  interfaces := #[]
  cf := some (fileOf pool7 1 #[] #[] 1537 3 #[] #[])
  fields := #[]
  methods := #[]
  instanceTypes := #[]
  staticTypes := #[]
  resolved := Array.replicate 12 none
  statics := none }

def pool8 : Array CpInfo := pool [(1, .class_ 2), (0, u "java/lang/constant/Constable"), (0, .class_ 4), (0, u "java/lang/Object")] 6

/-- java/lang/constant/Constable -/
def k8 : Class := { plain "java/lang/constant/Constable" (some 0) with
  accessFlags := 1537
  interfaces := #[]
  cf := some (fileOf pool8 1 #[] #[] 1537 3 #[] #[])
  fields := #[]
  methods := #[]
  instanceTypes := #[]
  staticTypes := #[]
  resolved := Array.replicate 11 none
  statics := none }

def pool9 : Array CpInfo := pool [(1, .class_ 2), (0, u "java/lang/constant/ConstantDesc"), (0, .class_ 4), (0, u "java/lang/Object")] 32

/-- java/lang/constant/ConstantDesc -/
def k9 : Class := { plain "java/lang/constant/ConstantDesc" (some 0) with
  accessFlags := 1537
  interfaces := #[]
  cf := some (fileOf pool9 1 #[] #[] 1537 3 #[] #[])
  fields := #[]
  methods := #[]
  instanceTypes := #[]
  staticTypes := #[]
  resolved := Array.replicate 37 none
  statics := none }

def pool10 : Array CpInfo := pool [(1, .class_ 2), (0, u "java/lang/Integer"), (16, u "digits"), (0, u "[C"), (30, .methodref 1 52), (0, .nameAndType 53 54), (0, u "numberOfLeadingZeros"), (0, u "(I)I"), (30, u "DigitOnes"), (0, u "[B"), (2, u "DigitTens"), (37, .integer 2147483648), (61, .class_ 190), (0, u "java/lang/Integer$IntegerCache"), (3, u "I"), (8, .class_ 204), (0, u "java/lang/Number"), (2, u "value"), (56, .integer 65536), (37, u "TYPE"), (0, u "Ljava/lang/Class;"), (0, .class_ 305), (0, u "java/lang/Comparable"), (0, .class_ 307), (0, u "java/lang/constant/Constable"), (0, .class_ 309), (0, u "java/lang/constant/ConstantDesc"), (0, u "MIN_VALUE"), (1, u "MAX_VALUE"), (3, u "SIZE"), (1, u "BYTES"), (1, u "serialVersionUID"), (0, u "J"), (81, u "highestOneBit")] 49

def k10c0 : Code := { maxStack := 3, maxLocals := 1, code := jdk_33_method_45_code, exceptionTable := #[], attributes := #[] }
def k10m0 : Method := { name := "highestOneBit", desc := "(I)I", sig := { parameters := [.int], returnType := some .int }, accessFlags := 9, code := some k10c0 }
def k10c1 : Code := { maxStack := 3, maxLocals := 2, code := jdk_33_method_47_code, exceptionTable := #[], attributes := #[] }
def k10m1 : Method := { name := "numberOfLeadingZeros", desc := "(I)I", sig := { parameters := [.int], returnType := some .int }, accessFlags := 9, code := some k10c1 }
/-- java/lang/Integer -/
def k10 : Class := { plain "java/lang/Integer" (some 6) with
  accessFlags := 49
  interfaces := #[7, 8, 9]
  cf := some (fileOf pool10 1 #[.nestMembers #[189]] #[{ accessFlags := 9, nameIndex := 403, descriptorIndex := 54, attributes := #[] }, { accessFlags := 9, nameIndex := 53, descriptorIndex := 54, attributes := #[] }] 49 203 #[304, 306, 308] #[{ accessFlags := 25, nameIndex := 310, descriptorIndex := 194, attributes := #[] }, { accessFlags := 25, nameIndex := 312, descriptorIndex := 194, attributes := #[] }, { accessFlags := 25, nameIndex := 302, descriptorIndex := 303, attributes := #[] }, { accessFlags := 24, nameIndex := 19, descriptorIndex := 20, attributes := #[] }, { accessFlags := 24, nameIndex := 89, descriptorIndex := 86, attributes := #[] }, { accessFlags := 24, nameIndex := 85, descriptorIndex := 86, attributes := #[] }, { accessFlags := 18, nameIndex := 207, descriptorIndex := 194, attributes := #[] }, { accessFlags := 25, nameIndex := 316, descriptorIndex := 194, attributes := #[] }, { accessFlags := 25, nameIndex := 318, descriptorIndex := 194, attributes := #[] }, { accessFlags := 26, nameIndex := 320, descriptorIndex := 321, attributes := #[] }])
  fields := #[{ name := "MIN_VALUE", type := .int, accessFlags := 25, slot := 0, constantValue := 0 }, { name := "MAX_VALUE", type := .int, accessFlags := 25, slot := 1, constantValue := 0 }, { name := "TYPE", type := (.object "java/lang/Class"), accessFlags := 25, slot := 2, constantValue := 0 }, { name := "digits", type := (.array .char), accessFlags := 24, slot := 3, constantValue := 0 }, { name := "DigitTens", type := (.array .byte), accessFlags := 24, slot := 4, constantValue := 0 }, { name := "DigitOnes", type := (.array .byte), accessFlags := 24, slot := 5, constantValue := 0 }, { name := "value", type := .int, accessFlags := 18, slot := 0, constantValue := 0 }, { name := "SIZE", type := .int, accessFlags := 25, slot := 6, constantValue := 0 }, { name := "BYTES", type := .int, accessFlags := 25, slot := 7, constantValue := 0 }, { name := "serialVersionUID", type := .long, accessFlags := 26, slot := 8, constantValue := 0 }]
  methods := #[k10m0, k10m1]
  instanceTypes := #[.int]
  staticTypes := #[.int, .int, (.object "java/lang/Class"), (.array .char), (.array .byte), (.array .byte), .int, .int, .long]
  resolved := Array.replicate 453 none
  statics := none }

def pool11 : Array CpInfo := pool [(1, .class_ 2), (0, u "java/lang/Math"), (1, .class_ 6), (1, u "java/lang/Object"), (0, u "<init>"), (0, u "()V"), (89, .class_ 100), (1, u "java/lang/Math$RandomNumberGeneratorHolder"), (71, u "negativeZeroFloatBits"), (0, u "J"), (2, u "negativeZeroDoubleBits"), (21, u "max"), (2, u "min"), (43, u "$assertionsDisabled"), (0, u "Z"), (88, u "(II)I"), (2, u "twoToTheDoubleScaleDown"), (0, u "D"), (4, u "twoToTheDoubleScaleUp"), (9, u "E"), (3, u "PI"), (2, u "TAU"), (2, u "DEGREES_TO_RADIANS"), (0, u "RADIANS_TO_DEGREES")] 94

def k11m0 : Method := { name := "<init>", desc := "()V", sig := { parameters := [], returnType := none }, accessFlags := 2, code := none }
def k11c1 : Code := { maxStack := 2, maxLocals := 2, code := jdk_29_method_65_code, exceptionTable := #[], attributes := #[] }
def k11m1 : Method := { name := "max", desc := "(II)I", sig := { parameters := [.int, .int], returnType := some .int }, accessFlags := 9, code := some k11c1 }
def k11c2 : Code := { maxStack := 2, maxLocals := 2, code := jdk_29_method_69_code, exceptionTable := #[], attributes := #[] }
def k11m2 : Method := { name := "min", desc := "(II)I", sig := { parameters := [.int, .int], returnType := some .int }, accessFlags := 9, code := some k11c2 }
/-- java/lang/Math -/
def k11 : Class := { plain "java/lang/Math" (some 0) with
  accessFlags := 49
  interfaces := #[]
  cf := some (fileOf pool11 1 #[.nestMembers #[98]] #[{ accessFlags := 2, nameIndex := 7, descriptorIndex := 8, attributes := #[] }, { accessFlags := 9, nameIndex := 198, descriptorIndex := 335, attributes := #[] }, { accessFlags := 9, nameIndex := 201, descriptorIndex := 335, attributes := #[] }] 49 4 #[] #[{ accessFlags := 25, nameIndex := 354, descriptorIndex := 339, attributes := #[] }, { accessFlags := 25, nameIndex := 358, descriptorIndex := 339, attributes := #[] }, { accessFlags := 25, nameIndex := 361, descriptorIndex := 339, attributes := #[] }, { accessFlags := 26, nameIndex := 364, descriptorIndex := 339, attributes := #[] }, { accessFlags := 26, nameIndex := 365, descriptorIndex := 339, attributes := #[] }, { accessFlags := 26, nameIndex := 172, descriptorIndex := 173, attributes := #[] }, { accessFlags := 26, nameIndex := 176, descriptorIndex := 173, attributes := #[] }, { accessFlags := 8, nameIndex := 344, descriptorIndex := 339, attributes := #[] }, { accessFlags := 8, nameIndex := 338, descriptorIndex := 339, attributes := #[] }, { accessFlags := 4120, nameIndex := 245, descriptorIndex := 246, attributes := #[] }])
  fields := #[{ name := "E", type := .double, accessFlags := 25, slot := 0, constantValue := 0 }, { name := "PI", type := .double, accessFlags := 25, slot := 1, constantValue := 0 }, { name := "TAU", type := .double, accessFlags := 25, slot := 2, constantValue := 0 }, { name := "DEGREES_TO_RADIANS", type := .double, accessFlags := 26, slot := 3, constantValue := 0 }, { name := "RADIANS_TO_DEGREES", type := .double, accessFlags := 26, slot := 4, constantValue := 0 }, { name := "negativeZeroFloatBits", type := .long, accessFlags := 26, slot := 5, constantValue := 0 }, { name := "negativeZeroDoubleBits", type := .long, accessFlags := 26, slot := 6, constantValue := 0 }, { name := "twoToTheDoubleScaleUp", type := .double, accessFlags := 8, slot := 7, constantValue := 0 }, { name := "twoToTheDoubleScaleDown", type := .double, accessFlags := 8, slot := 8, constantValue := 0 }, { name := "$assertionsDisabled", type := .boolean, accessFlags := 4120, slot := 9, constantValue := 0 }]
  methods := #[k11m0, k11m1, k11m2]
  instanceTypes := #[]
  staticTypes := #[.double, .double, .double, .double, .double, .long, .long, .double, .double, .boolean]
  resolved := Array.replicate 460 none
  statics := none }

def pool12 : Array CpInfo := pool [(1, .methodref 2 3), (0, .class_ 4), (0, .nameAndType 5 6), (0, u "java/lang/Object"), (0, u "<init>"), (0, u "()V"), (0, .fieldref 8 9), (0, .class_ 10), (0, .nameAndType 11 12), (0, u "com/example/slim_kripke/slimkripke/bdd/Bdd"), (0, u "manager"), (0, u "Lcom/example/slim_kripke/slimkripke/bdd/BddManager;"), (0, .fieldref 8 14), (0, .nameAndType 15 16), (0, u "node"), (0, u "I"), (88, u "RELEASED"), (2, u "(Lcom/example/slim_kripke/slimkripke/bdd/BddManager;I)V")] 20

def k12c0 : Code := { maxStack := 2, maxLocals := 3, code := prog_4_method_1_code, exceptionTable := #[], attributes := #[] }
def k12m0 : Method := { name := "<init>", desc := "(Lcom/example/slim_kripke/slimkripke/bdd/BddManager;I)V", sig := { parameters := [(.object "com/example/slim_kripke/slimkripke/bdd/BddManager"), .int], returnType := none }, accessFlags := 0, code := some k12c0 }
/-- com/example/slim_kripke/slimkripke/bdd/Bdd -/
def k12 : Class := { plain "com/example/slim_kripke/slimkripke/bdd/Bdd" (some 0) with
  accessFlags := 33
  interfaces := #[]
  cf := some (fileOf pool12 8 #[] #[{ accessFlags := 0, nameIndex := 5, descriptorIndex := 108, attributes := #[] }] 33 2 #[] #[{ accessFlags := 26, nameIndex := 105, descriptorIndex := 16, attributes := #[] }, { accessFlags := 18, nameIndex := 11, descriptorIndex := 12, attributes := #[] }, { accessFlags := 2, nameIndex := 15, descriptorIndex := 16, attributes := #[] }])
  fields := #[{ name := "RELEASED", type := .int, accessFlags := 26, slot := 0, constantValue := 0 }, { name := "manager", type := (.object "com/example/slim_kripke/slimkripke/bdd/BddManager"), accessFlags := 18, slot := 0, constantValue := 0 }, { name := "node", type := .int, accessFlags := 2, slot := 1, constantValue := 0 }]
  methods := #[k12m0]
  instanceTypes := #[(.object "com/example/slim_kripke/slimkripke/bdd/BddManager"), .int]
  staticTypes := #[.int]
  resolved := Array.replicate 129 none
  statics := none }

def pool13 : Array CpInfo := pool [(1, u "java/lang/Cloneable"), (0, .class_ 1), (0, u "java/lang/Object"), (0, .class_ 3)] 3

/-- java/lang/Cloneable -/
def k13 : Class := { plain "java/lang/Cloneable" (some 0) with
  accessFlags := 1537
  interfaces := #[]
  cf := some (fileOf pool13 2 #[] #[] 1537 4 #[] #[])
  fields := #[]
  methods := #[]
  instanceTypes := #[]
  staticTypes := #[]
  resolved := Array.replicate 8 none
  statics := none }

/-- the primitive byte -/
def k14 : Class := { plain "byte" none with kind := .primitive 'B', accessFlags := 0x411 }
/-- [B -/
def k15 : Class := { plain "[B" (some 0) with kind := .array 14 .byte, interfaces := #[13, 5], accessFlags := 1041 }

/-- the primitive int -/
def k16 : Class := { plain "int" none with kind := .primitive 'I', accessFlags := 0x411 }
/-- [I -/
def k17 : Class := { plain "[I" (some 0) with kind := .array 16 .int, interfaces := #[13, 5], accessFlags := 1041 }

def heap : Heap := #[]
def classes : Array Class := #[k0, k1, k2, k3, k4, k5, k6, k7, k8, k9, k10, k11, k12, k13, k14, k15, k16, k17]
def interned : List (Array UInt16 × Addr) := []
def slotsUsed : Nat := 0
def theMethod : MethodId := ⟨1, 1⟩
def args0 : Array Value := #[.int 5, .int 7, .int 9, .int 3]
def aboutOver (below : List Frame) : State where
  vm := { classes := classes, interned := interned.toArray }
  heap := heap
  slotsUsed := slotsUsed
  threads := #[{ frames := .invoking theMethod args0 :: below }]
def below0 : List Frame := [.native { method := ⟨0, 0⟩, args := #[] }]
def about1 : State := aboutOver below0
def p0 : Program := .bare "" "" ""
def e0 : Env := launch0.env 0 0 0
theorem w_frames : about1.frames = Frame.invoking theMethod args0 :: below0 := rfl
set_option maxRecDepth 65536 in
theorem w_args : argsFit about1.vm theMethod args0 = true := by decide +kernel
set_option maxRecDepth 65536 in
theorem w_heap : heapFits about1 = true := by decide +kernel
set_option maxRecDepth 65536 in
theorem w_runnable : about1.curStatus? = some .runnable := by decide +kernel
set_option maxRecDepth 65536 in
theorem w_alone : about1.alone = true := by decide +kernel
set_option maxRecDepth 65536 in
theorem w_named : about1.methodNamed? x = some theMethod := by decide +kernel
set_option maxRecDepth 65536 in
theorem w_hears : about1.hears theMethod below0 = true := by decide +kernel
set_option maxRecDepth 65536 in
theorem w_ripe : about1.ripe theMethod args0 below0 = true := by decide +kernel
theorem w_running : about1.status = .running := rfl
set_option maxRecDepth 65536 in
theorem w_room : about1.hasRoom e0.platform room_1 = true :=
  launch0.hasRoom_least _ room_1 (by decide +kernel) (by decide +kernel) (by decide +kernel) (by decide +kernel) (by decide +kernel) (by decide +kernel)
theorem allAtoms_all (ts : List Jvm.Cond) (a : Array Jvm.Value) (st : Jvm.State) : (allAtoms ts).before a st = ts.all (fun c => c.before a st) := by
  induction ts with
  | nil => rfl
  | cons c t ih =>
    show (Jvm.Cond.and c (allAtoms t)).before a st = _
    rw [Jvm.Cond.before_and, ih, List.all_cons]
def words1 : List Jvm.Cond := Jvm.Cond.code x code maxLocals ret :: tables_1
/-- a 'code' word, met by the world's own term for the bytes: nothing is compared byte by byte -/
theorem code_word {y : MethodName} {bytes : ByteArray} {mx : Nat} {rt : Option FieldType} {a : Array Value} {s : State} {m : MethodId} {meth : Method} {c : Code} (h1 : s.methodNamed? y = some m) (h2 : s.vm.method? m = some meth) (h3 : meth.code = some c) (h4 : c.code = bytes)
    (h5 : (c.maxLocals == mx && c.exceptionTable.isEmpty && decide (c.maxStack ≤ mostOperands) && decide (meth.sig.returnType = rt) && !meth.locks && decide (parseMethodDescriptor y.desc = some meth.sig)) = true) : (Jvm.Cond.code y bytes mx rt).before a s = true := by
  simp only [Bool.and_eq_true, beq_iff_eq, Bool.not_eq_true', decide_eq_true_eq] at h5
  obtain ⟨⟨⟨⟨⟨g1, g2⟩, g3⟩, g4⟩, g5⟩, g6⟩ := h5
  simp [Cond.before, Cond.holds, Cond.value, h1, h2, h3, h4, g1, g2, g3, g4, g5, g6]
def isCode : Jvm.Cond → Bool
  | .code _ _ _ _ => true
  | _ => false
theorem all_split {L : List Jvm.Cond} {P : Jvm.Cond → Bool} (h1 : L.all (fun c => isCode c || P c) = true) (h2 : ∀ c ∈ L.filter isCode, P c = true) : L.all P = true := by
  refine List.all_eq_true.mpr fun c hc => ?_
  have h := List.all_eq_true.mp h1 c hc
  rcases Bool.eq_false_or_eq_true (isCode c) with hi | hi
  · exact h2 c (List.mem_filter.mpr ⟨hc, hi⟩)
  · simpa [hi] using h
set_option maxRecDepth 65536 in
theorem w_c0 : (Jvm.Cond.code x code maxLocals ret).before args0 about1 = true := code_word (m := ⟨1, 1⟩) (meth := k1m1) (c := k1c1) (by decide +kernel) rfl rfl rfl (by decide +kernel)
set_option maxRecDepth 65536 in
theorem w_c1 : (Jvm.Cond.code ({ cls := "com/example/slim_kripke/slimkripke/bdd/BddManager", name := "<init>", desc := "(II)V" } : Jvm.MethodName) prog_5_method_2_code (3 : Nat) (Option.none : Option Jvm.ClassFile.FieldType)).before args0 about1 = true := code_word (m := ⟨2, 0⟩) (meth := k2m0) (c := k2c0) (by decide +kernel) rfl rfl rfl (by decide +kernel)
set_option maxRecDepth 65536 in
theorem w_c2 : (Jvm.Cond.code ({ cls := "java/lang/Object", name := "<init>", desc := "()V" } : Jvm.MethodName) object_method_1_code (1 : Nat) (Option.none : Option Jvm.ClassFile.FieldType)).before args0 about1 = true := code_word (m := ⟨0, 0⟩) (meth := k0m0) (c := k0c0) (by decide +kernel) rfl rfl rfl (by decide +kernel)
set_option maxRecDepth 65536 in
theorem w_c3 : (Jvm.Cond.code ({ cls := "com/example/slim_kripke/slimkripke/bdd/CallStack", name := "<init>", desc := "()V" } : Jvm.MethodName) prog_7_method_1_code (1 : Nat) (Option.none : Option Jvm.ClassFile.FieldType)).before args0 about1 = true := code_word (m := ⟨3, 0⟩) (meth := k3m0) (c := k3c0) (by decide +kernel) rfl rfl rfl (by decide +kernel)
set_option maxRecDepth 65536 in
theorem w_c4 : (Jvm.Cond.code ({ cls := "com/example/slim_kripke/slimkripke/bdd/BddManager", name := "allocate", desc := "(I)V" } : Jvm.MethodName) prog_5_method_59_code (3 : Nat) (Option.none : Option Jvm.ClassFile.FieldType)).before args0 about1 = true := code_word (m := ⟨2, 18⟩) (meth := k2m18) (c := k2c18) (by decide +kernel) rfl rfl rfl (by decide +kernel)
set_option maxRecDepth 65536 in
theorem w_c5 : (Jvm.Cond.code ({ cls := "java/util/Arrays", name := "fill", desc := "([II)V" } : Jvm.MethodName) jdk_65_method_103_code (4 : Nat) (Option.none : Option Jvm.ClassFile.FieldType)).before args0 about1 = true := code_word (m := ⟨4, 1⟩) (meth := k4m1) (c := k4c1) (by decide +kernel) rfl rfl rfl (by decide +kernel)
set_option maxRecDepth 65536 in
theorem w_c6 : (Jvm.Cond.code ({ cls := "com/example/slim_kripke/slimkripke/bdd/BddManager", name := "allocateCache", desc := "(I)V" } : Jvm.MethodName) prog_5_method_60_code (3 : Nat) (Option.none : Option Jvm.ClassFile.FieldType)).before args0 about1 = true := code_word (m := ⟨2, 19⟩) (meth := k2m19) (c := k2c19) (by decide +kernel) rfl rfl rfl (by decide +kernel)
set_option maxRecDepth 65536 in
theorem w_c7 : (Jvm.Cond.code ({ cls := "java/lang/Integer", name := "highestOneBit", desc := "(I)I" } : Jvm.MethodName) jdk_33_method_45_code (1 : Nat) (Option.some Jvm.ClassFile.FieldType.int)).before args0 about1 = true := code_word (m := ⟨10, 0⟩) (meth := k10m0) (c := k10c0) (by decide +kernel) rfl rfl rfl (by decide +kernel)
set_option maxRecDepth 65536 in
theorem w_c8 : (Jvm.Cond.code ({ cls := "java/lang/Integer", name := "numberOfLeadingZeros", desc := "(I)I" } : Jvm.MethodName) jdk_33_method_47_code (2 : Nat) (Option.some Jvm.ClassFile.FieldType.int)).before args0 about1 = true := code_word (m := ⟨10, 1⟩) (meth := k10m1) (c := k10c1) (by decide +kernel) rfl rfl rfl (by decide +kernel)
set_option maxRecDepth 65536 in
theorem w_c9 : (Jvm.Cond.code ({ cls := "java/lang/Math", name := "min", desc := "(II)I" } : Jvm.MethodName) jdk_29_method_69_code (2 : Nat) (Option.some Jvm.ClassFile.FieldType.int)).before args0 about1 = true := code_word (m := ⟨11, 2⟩) (meth := k11m2) (c := k11c2) (by decide +kernel) rfl rfl rfl (by decide +kernel)
set_option maxRecDepth 65536 in
theorem w_c10 : (Jvm.Cond.code ({ cls := "com/example/slim_kripke/slimkripke/bdd/BddManager", name := "forgetCache", desc := "()V" } : Jvm.MethodName) prog_5_method_61_code (2 : Nat) (Option.none : Option Jvm.ClassFile.FieldType)).before args0 about1 = true := code_word (m := ⟨2, 20⟩) (meth := k2m20) (c := k2c20) (by decide +kernel) rfl rfl rfl (by decide +kernel)
set_option maxRecDepth 65536 in
theorem w_c11 : (Jvm.Cond.code ({ cls := "com/example/slim_kripke/slimkripke/bdd/BddManager", name := "level", desc := "(I)I" } : Jvm.MethodName) prog_5_method_33_code (2 : Nat) (Option.some Jvm.ClassFile.FieldType.int)).before args0 about1 = true := code_word (m := ⟨2, 8⟩) (meth := k2m8) (c := k2c8) (by decide +kernel) rfl rfl rfl (by decide +kernel)
set_option maxRecDepth 65536 in
theorem w_c12 : (Jvm.Cond.code ({ cls := "com/example/slim_kripke/slimkripke/bdd/BddManager", name := "variable", desc := "(I)Lcom/example/slim_kripke/slimkripke/bdd/Bdd;" } : Jvm.MethodName) prog_5_method_7_code (2 : Nat) (Option.some (Jvm.ClassFile.FieldType.object "com/example/slim_kripke/slimkripke/bdd/Bdd"))).before args0 about1 = true := code_word (m := ⟨2, 1⟩) (meth := k2m1) (c := k2c1) (by decide +kernel) rfl rfl rfl (by decide +kernel)
set_option maxRecDepth 65536 in
theorem w_c13 : (Jvm.Cond.code ({ cls := "com/example/slim_kripke/slimkripke/bdd/BddManager", name := "requireVariable", desc := "(I)V" } : Jvm.MethodName) prog_5_method_11_code (2 : Nat) (Option.none : Option Jvm.ClassFile.FieldType)).before args0 about1 = true := code_word (m := ⟨2, 2⟩) (meth := k2m2) (c := k2c2) (by decide +kernel) rfl rfl rfl (by decide +kernel)
set_option maxRecDepth 65536 in
theorem w_c14 : (Jvm.Cond.code ({ cls := "com/example/slim_kripke/slimkripke/bdd/BddManager", name := "beginOperation", desc := "()V" } : Jvm.MethodName) prog_5_method_56_code (2 : Nat) (Option.none : Option Jvm.ClassFile.FieldType)).before args0 about1 = true := code_word (m := ⟨2, 17⟩) (meth := k2m17) (c := k2c17) (by decide +kernel) rfl rfl rfl (by decide +kernel)
set_option maxRecDepth 65536 in
theorem w_c15 : (Jvm.Cond.code ({ cls := "com/example/slim_kripke/slimkripke/bdd/CallStack", name := "clear", desc := "()V" } : Jvm.MethodName) prog_7_method_6_code (1 : Nat) (Option.none : Option Jvm.ClassFile.FieldType)).before args0 about1 = true := code_word (m := ⟨3, 5⟩) (meth := k3m5) (c := k3c5) (by decide +kernel) rfl rfl rfl (by decide +kernel)
set_option maxRecDepth 65536 in
theorem w_c16 : (Jvm.Cond.code ({ cls := "com/example/slim_kripke/slimkripke/bdd/BddManager", name := "node", desc := "(III)I" } : Jvm.MethodName) prog_5_method_55_code (6 : Nat) (Option.some Jvm.ClassFile.FieldType.int)).before args0 about1 = true := code_word (m := ⟨2, 16⟩) (meth := k2m16) (c := k2c16) (by decide +kernel) rfl rfl rfl (by decide +kernel)
set_option maxRecDepth 65536 in
theorem w_c17 : (Jvm.Cond.code ({ cls := "com/example/slim_kripke/slimkripke/bdd/BddManager", name := "hash", desc := "(III)I" } : Jvm.MethodName) prog_5_method_65_code (3 : Nat) (Option.some Jvm.ClassFile.FieldType.int)).before args0 about1 = true := code_word (m := ⟨2, 24⟩) (meth := k2m24) (c := k2c24) (by decide +kernel) rfl rfl rfl (by decide +kernel)
set_option maxRecDepth 65536 in
theorem w_c18 : (Jvm.Cond.code ({ cls := "com/example/slim_kripke/slimkripke/bdd/BddManager", name := "hash", desc := "(IIII)I" } : Jvm.MethodName) prog_5_method_66_code (6 : Nat) (Option.some Jvm.ClassFile.FieldType.int)).before args0 about1 = true := code_word (m := ⟨2, 25⟩) (meth := k2m25) (c := k2c25) (by decide +kernel) rfl rfl rfl (by decide +kernel)
set_option maxRecDepth 65536 in
theorem w_c19 : (Jvm.Cond.code ({ cls := "com/example/slim_kripke/slimkripke/bdd/BddManager", name := "hold", desc := "(I)Lcom/example/slim_kripke/slimkripke/bdd/Bdd;" } : Jvm.MethodName) prog_5_method_12_code (2 : Nat) (Option.some (Jvm.ClassFile.FieldType.object "com/example/slim_kripke/slimkripke/bdd/Bdd"))).before args0 about1 = true := code_word (m := ⟨2, 3⟩) (meth := k2m3) (c := k2c3) (by decide +kernel) rfl rfl rfl (by decide +kernel)
set_option maxRecDepth 65536 in
theorem w_c20 : (Jvm.Cond.code ({ cls := "com/example/slim_kripke/slimkripke/bdd/BddManager", name := "reference", desc := "(I)V" } : Jvm.MethodName) prog_5_method_14_code (4 : Nat) (Option.none : Option Jvm.ClassFile.FieldType)).before args0 about1 = true := code_word (m := ⟨2, 4⟩) (meth := k2m4) (c := k2c4) (by decide +kernel) rfl rfl rfl (by decide +kernel)
set_option maxRecDepth 65536 in
theorem w_c21 : (Jvm.Cond.code ({ cls := "com/example/slim_kripke/slimkripke/bdd/BddManager", name := "pend", desc := "(II)I" } : Jvm.MethodName) prog_5_method_16_code (3 : Nat) (Option.some Jvm.ClassFile.FieldType.int)).before args0 about1 = true := code_word (m := ⟨2, 5⟩) (meth := k2m5) (c := k2c5) (by decide +kernel) rfl rfl rfl (by decide +kernel)
set_option maxRecDepth 65536 in
theorem w_c22 : (Jvm.Cond.code ({ cls := "java/lang/Math", name := "max", desc := "(II)I" } : Jvm.MethodName) jdk_29_method_65_code (2 : Nat) (Option.some Jvm.ClassFile.FieldType.int)).before args0 about1 = true := code_word (m := ⟨11, 1⟩) (meth := k11m1) (c := k11c1) (by decide +kernel) rfl rfl rfl (by decide +kernel)
set_option maxRecDepth 65536 in
theorem w_c23 : (Jvm.Cond.code ({ cls := "com/example/slim_kripke/slimkripke/bdd/Bdd", name := "<init>", desc := "(Lcom/example/slim_kripke/slimkripke/bdd/BddManager;I)V" } : Jvm.MethodName) prog_4_method_1_code (3 : Nat) (Option.none : Option Jvm.ClassFile.FieldType)).before args0 about1 = true := code_word (m := ⟨12, 0⟩) (meth := k12m0) (c := k12c0) (by decide +kernel) rfl rfl rfl (by decide +kernel)
set_option maxRecDepth 65536 in
theorem w_c24 : (Jvm.Cond.code ({ cls := "com/example/slim_kripke/slimkripke/bdd/BddManager", name := "and", desc := "(II)I" } : Jvm.MethodName) prog_5_method_18_code (3 : Nat) (Option.some Jvm.ClassFile.FieldType.int)).before args0 about1 = true := code_word (m := ⟨2, 7⟩) (meth := k2m7) (c := k2c7) (by decide +kernel) rfl rfl rfl (by decide +kernel)
set_option maxRecDepth 65536 in
theorem w_c25 : (Jvm.Cond.code ({ cls := "com/example/slim_kripke/slimkripke/bdd/BddManager", name := "apply", desc := "(III)I" } : Jvm.MethodName) prog_5_method_36_code (11 : Nat) (Option.some Jvm.ClassFile.FieldType.int)).before args0 about1 = true := code_word (m := ⟨2, 10⟩) (meth := k2m10) (c := k2c10) (by decide +kernel) rfl rfl rfl (by decide +kernel)
set_option maxRecDepth 65536 in
theorem w_c26 : (Jvm.Cond.code ({ cls := "com/example/slim_kripke/slimkripke/bdd/BddManager", name := "terminalCase", desc := "(III)I" } : Jvm.MethodName) prog_5_method_42_code (4 : Nat) (Option.some Jvm.ClassFile.FieldType.int)).before args0 about1 = true := code_word (m := ⟨2, 11⟩) (meth := k2m11) (c := k2c11) (by decide +kernel) rfl rfl rfl (by decide +kernel)
set_option maxRecDepth 65536 in
theorem w_c27 : (Jvm.Cond.code ({ cls := "com/example/slim_kripke/slimkripke/bdd/BddManager", name := "cached", desc := "(IIII)I" } : Jvm.MethodName) prog_5_method_62_code (7 : Nat) (Option.some Jvm.ClassFile.FieldType.int)).before args0 about1 = true := code_word (m := ⟨2, 21⟩) (meth := k2m21) (c := k2c21) (by decide +kernel) rfl rfl rfl (by decide +kernel)
set_option maxRecDepth 65536 in
theorem w_c28 : (Jvm.Cond.code ({ cls := "com/example/slim_kripke/slimkripke/bdd/BddManager", name := "entry", desc := "(IIII)I" } : Jvm.MethodName) prog_5_method_64_code (6 : Nat) (Option.some Jvm.ClassFile.FieldType.int)).before args0 about1 = true := code_word (m := ⟨2, 23⟩) (meth := k2m23) (c := k2c23) (by decide +kernel) rfl rfl rfl (by decide +kernel)
set_option maxRecDepth 65536 in
theorem w_c29 : (Jvm.Cond.code ({ cls := "com/example/slim_kripke/slimkripke/bdd/BddManager", name := "cofactor", desc := "(IIZ)I" } : Jvm.MethodName) prog_5_method_43_code (5 : Nat) (Option.some Jvm.ClassFile.FieldType.int)).before args0 about1 = true := code_word (m := ⟨2, 12⟩) (meth := k2m12) (c := k2c12) (by decide +kernel) rfl rfl rfl (by decide +kernel)
set_option maxRecDepth 65536 in
theorem w_c30 : (Jvm.Cond.code ({ cls := "com/example/slim_kripke/slimkripke/bdd/BddManager", name := "remember", desc := "(IIIII)V" } : Jvm.MethodName) prog_5_method_63_code (7 : Nat) (Option.none : Option Jvm.ClassFile.FieldType)).before args0 about1 = true := code_word (m := ⟨2, 22⟩) (meth := k2m22) (c := k2c22) (by decide +kernel) rfl rfl rfl (by decide +kernel)
set_option maxRecDepth 65536 in
theorem w_c31 : (Jvm.Cond.code ({ cls := "com/example/slim_kripke/slimkripke/bdd/BddManager", name := "not", desc := "(I)I" } : Jvm.MethodName) prog_5_method_17_code (2 : Nat) (Option.some Jvm.ClassFile.FieldType.int)).before args0 about1 = true := code_word (m := ⟨2, 6⟩) (meth := k2m6) (c := k2c6) (by decide +kernel) rfl rfl rfl (by decide +kernel)
set_option maxRecDepth 65536 in
theorem w_c32 : (Jvm.Cond.code ({ cls := "com/example/slim_kripke/slimkripke/bdd/BddManager", name := "negation", desc := "(I)I" } : Jvm.MethodName) prog_5_method_35_code (5 : Nat) (Option.some Jvm.ClassFile.FieldType.int)).before args0 about1 = true := code_word (m := ⟨2, 9⟩) (meth := k2m9) (c := k2c9) (by decide +kernel) rfl rfl rfl (by decide +kernel)
set_option maxRecDepth 65536 in
theorem w_c33 : (Jvm.Cond.code ({ cls := "com/example/slim_kripke/slimkripke/bdd/BddManager", name := "applyOnStack", desc := "(III)I" } : Jvm.MethodName) prog_5_method_48_code (10 : Nat) (Option.some Jvm.ClassFile.FieldType.int)).before args0 about1 = true := code_word (m := ⟨2, 14⟩) (meth := k2m14) (c := k2c14) (by decide +kernel) rfl rfl rfl (by decide +kernel)
set_option maxRecDepth 65536 in
theorem w_c34 : (Jvm.Cond.code ({ cls := "com/example/slim_kripke/slimkripke/bdd/CallStack", name := "size", desc := "()I" } : Jvm.MethodName) prog_7_method_2_code (1 : Nat) (Option.some Jvm.ClassFile.FieldType.int)).before args0 about1 = true := code_word (m := ⟨3, 1⟩) (meth := k3m1) (c := k3c1) (by decide +kernel) rfl rfl rfl (by decide +kernel)
set_option maxRecDepth 65536 in
theorem w_c35 : (Jvm.Cond.code ({ cls := "com/example/slim_kripke/slimkripke/bdd/CallStack", name := "push", desc := "(IIIII)V" } : Jvm.MethodName) prog_7_method_4_code (7 : Nat) (Option.none : Option Jvm.ClassFile.FieldType)).before args0 about1 = true := code_word (m := ⟨3, 3⟩) (meth := k3m3) (c := k3c3) (by decide +kernel) rfl rfl rfl (by decide +kernel)
set_option maxRecDepth 65536 in
theorem w_c36 : (Jvm.Cond.code ({ cls := "com/example/slim_kripke/slimkripke/bdd/CallStack", name := "top", desc := "()I" } : Jvm.MethodName) prog_7_method_3_code (1 : Nat) (Option.some Jvm.ClassFile.FieldType.int)).before args0 about1 = true := code_word (m := ⟨3, 2⟩) (meth := k3m2) (c := k3c2) (by decide +kernel) rfl rfl rfl (by decide +kernel)
set_option maxRecDepth 65536 in
theorem w_c37 : (Jvm.Cond.code ({ cls := "com/example/slim_kripke/slimkripke/bdd/CallStack", name := "level", desc := "(I)I" } : Jvm.MethodName) prog_7_method_10_code (2 : Nat) (Option.some Jvm.ClassFile.FieldType.int)).before args0 about1 = true := code_word (m := ⟨3, 9⟩) (meth := k3m9) (c := k3c9) (by decide +kernel) rfl rfl rfl (by decide +kernel)
set_option maxRecDepth 65536 in
theorem w_c38 : (Jvm.Cond.code ({ cls := "com/example/slim_kripke/slimkripke/bdd/CallStack", name := "low", desc := "(I)I" } : Jvm.MethodName) prog_7_method_11_code (2 : Nat) (Option.some Jvm.ClassFile.FieldType.int)).before args0 about1 = true := code_word (m := ⟨3, 10⟩) (meth := k3m10) (c := k3c10) (by decide +kernel) rfl rfl rfl (by decide +kernel)
set_option maxRecDepth 65536 in
theorem w_c39 : (Jvm.Cond.code ({ cls := "com/example/slim_kripke/slimkripke/bdd/CallStack", name := "setLow", desc := "(II)V" } : Jvm.MethodName) prog_7_method_12_code (3 : Nat) (Option.none : Option Jvm.ClassFile.FieldType)).before args0 about1 = true := code_word (m := ⟨3, 11⟩) (meth := k3m11) (c := k3c11) (by decide +kernel) rfl rfl rfl (by decide +kernel)
set_option maxRecDepth 65536 in
theorem w_c40 : (Jvm.Cond.code ({ cls := "com/example/slim_kripke/slimkripke/bdd/CallStack", name := "first", desc := "(I)I" } : Jvm.MethodName) prog_7_method_7_code (2 : Nat) (Option.some Jvm.ClassFile.FieldType.int)).before args0 about1 = true := code_word (m := ⟨3, 6⟩) (meth := k3m6) (c := k3c6) (by decide +kernel) rfl rfl rfl (by decide +kernel)
set_option maxRecDepth 65536 in
theorem w_c41 : (Jvm.Cond.code ({ cls := "com/example/slim_kripke/slimkripke/bdd/CallStack", name := "second", desc := "(I)I" } : Jvm.MethodName) prog_7_method_8_code (2 : Nat) (Option.some Jvm.ClassFile.FieldType.int)).before args0 about1 = true := code_word (m := ⟨3, 7⟩) (meth := k3m7) (c := k3c7) (by decide +kernel) rfl rfl rfl (by decide +kernel)
set_option maxRecDepth 65536 in
theorem w_c42 : (Jvm.Cond.code ({ cls := "com/example/slim_kripke/slimkripke/bdd/BddManager", name := "finish", desc := "(III)I" } : Jvm.MethodName) prog_5_method_53_code (4 : Nat) (Option.some Jvm.ClassFile.FieldType.int)).before args0 about1 = true := code_word (m := ⟨2, 15⟩) (meth := k2m15) (c := k2c15) (by decide +kernel) rfl rfl rfl (by decide +kernel)
set_option maxRecDepth 65536 in
theorem w_c43 : (Jvm.Cond.code ({ cls := "com/example/slim_kripke/slimkripke/bdd/CallStack", name := "third", desc := "(I)I" } : Jvm.MethodName) prog_7_method_9_code (2 : Nat) (Option.some Jvm.ClassFile.FieldType.int)).before args0 about1 = true := code_word (m := ⟨3, 8⟩) (meth := k3m8) (c := k3c8) (by decide +kernel) rfl rfl rfl (by decide +kernel)
set_option maxRecDepth 65536 in
theorem w_c44 : (Jvm.Cond.code ({ cls := "com/example/slim_kripke/slimkripke/bdd/CallStack", name := "pop", desc := "()V" } : Jvm.MethodName) prog_7_method_5_code (1 : Nat) (Option.none : Option Jvm.ClassFile.FieldType)).before args0 about1 = true := code_word (m := ⟨3, 4⟩) (meth := k3m4) (c := k3c4) (by decide +kernel) rfl rfl rfl (by decide +kernel)
set_option maxRecDepth 65536 in
theorem w_c45 : (Jvm.Cond.code ({ cls := "com/example/slim_kripke/slimkripke/bdd/BddManager", name := "negationOnStack", desc := "(I)I" } : Jvm.MethodName) prog_5_method_47_code (6 : Nat) (Option.some Jvm.ClassFile.FieldType.int)).before args0 about1 = true := code_word (m := ⟨2, 13⟩) (meth := k2m13) (c := k2c13) (by decide +kernel) rfl rfl rfl (by decide +kernel)
def codes1 : List Jvm.Cond := [Jvm.Cond.code x code maxLocals ret, Jvm.Cond.code ({ cls := "com/example/slim_kripke/slimkripke/bdd/BddManager", name := "<init>", desc := "(II)V" } : Jvm.MethodName) prog_5_method_2_code (3 : Nat) (Option.none : Option Jvm.ClassFile.FieldType), Jvm.Cond.code ({ cls := "java/lang/Object", name := "<init>", desc := "()V" } : Jvm.MethodName) object_method_1_code (1 : Nat) (Option.none : Option Jvm.ClassFile.FieldType), Jvm.Cond.code ({ cls := "com/example/slim_kripke/slimkripke/bdd/CallStack", name := "<init>", desc := "()V" } : Jvm.MethodName) prog_7_method_1_code (1 : Nat) (Option.none : Option Jvm.ClassFile.FieldType), Jvm.Cond.code ({ cls := "com/example/slim_kripke/slimkripke/bdd/BddManager", name := "allocate", desc := "(I)V" } : Jvm.MethodName) prog_5_method_59_code (3 : Nat) (Option.none : Option Jvm.ClassFile.FieldType), Jvm.Cond.code ({ cls := "java/util/Arrays", name := "fill", desc := "([II)V" } : Jvm.MethodName) jdk_65_method_103_code (4 : Nat) (Option.none : Option Jvm.ClassFile.FieldType), Jvm.Cond.code ({ cls := "com/example/slim_kripke/slimkripke/bdd/BddManager", name := "allocateCache", desc := "(I)V" } : Jvm.MethodName) prog_5_method_60_code (3 : Nat) (Option.none : Option Jvm.ClassFile.FieldType), Jvm.Cond.code ({ cls := "java/lang/Integer", name := "highestOneBit", desc := "(I)I" } : Jvm.MethodName) jdk_33_method_45_code (1 : Nat) (Option.some Jvm.ClassFile.FieldType.int), Jvm.Cond.code ({ cls := "java/lang/Integer", name := "numberOfLeadingZeros", desc := "(I)I" } : Jvm.MethodName) jdk_33_method_47_code (2 : Nat) (Option.some Jvm.ClassFile.FieldType.int), Jvm.Cond.code ({ cls := "java/lang/Math", name := "min", desc := "(II)I" } : Jvm.MethodName) jdk_29_method_69_code (2 : Nat) (Option.some Jvm.ClassFile.FieldType.int), Jvm.Cond.code ({ cls := "com/example/slim_kripke/slimkripke/bdd/BddManager", name := "forgetCache", desc := "()V" } : Jvm.MethodName) prog_5_method_61_code (2 : Nat) (Option.none : Option Jvm.ClassFile.FieldType), Jvm.Cond.code ({ cls := "com/example/slim_kripke/slimkripke/bdd/BddManager", name := "level", desc := "(I)I" } : Jvm.MethodName) prog_5_method_33_code (2 : Nat) (Option.some Jvm.ClassFile.FieldType.int), Jvm.Cond.code ({ cls := "com/example/slim_kripke/slimkripke/bdd/BddManager", name := "variable", desc := "(I)Lcom/example/slim_kripke/slimkripke/bdd/Bdd;" } : Jvm.MethodName) prog_5_method_7_code (2 : Nat) (Option.some (Jvm.ClassFile.FieldType.object "com/example/slim_kripke/slimkripke/bdd/Bdd")), Jvm.Cond.code ({ cls := "com/example/slim_kripke/slimkripke/bdd/BddManager", name := "requireVariable", desc := "(I)V" } : Jvm.MethodName) prog_5_method_11_code (2 : Nat) (Option.none : Option Jvm.ClassFile.FieldType), Jvm.Cond.code ({ cls := "com/example/slim_kripke/slimkripke/bdd/BddManager", name := "beginOperation", desc := "()V" } : Jvm.MethodName) prog_5_method_56_code (2 : Nat) (Option.none : Option Jvm.ClassFile.FieldType), Jvm.Cond.code ({ cls := "com/example/slim_kripke/slimkripke/bdd/CallStack", name := "clear", desc := "()V" } : Jvm.MethodName) prog_7_method_6_code (1 : Nat) (Option.none : Option Jvm.ClassFile.FieldType), Jvm.Cond.code ({ cls := "com/example/slim_kripke/slimkripke/bdd/BddManager", name := "node", desc := "(III)I" } : Jvm.MethodName) prog_5_method_55_code (6 : Nat) (Option.some Jvm.ClassFile.FieldType.int), Jvm.Cond.code ({ cls := "com/example/slim_kripke/slimkripke/bdd/BddManager", name := "hash", desc := "(III)I" } : Jvm.MethodName) prog_5_method_65_code (3 : Nat) (Option.some Jvm.ClassFile.FieldType.int), Jvm.Cond.code ({ cls := "com/example/slim_kripke/slimkripke/bdd/BddManager", name := "hash", desc := "(IIII)I" } : Jvm.MethodName) prog_5_method_66_code (6 : Nat) (Option.some Jvm.ClassFile.FieldType.int), Jvm.Cond.code ({ cls := "com/example/slim_kripke/slimkripke/bdd/BddManager", name := "hold", desc := "(I)Lcom/example/slim_kripke/slimkripke/bdd/Bdd;" } : Jvm.MethodName) prog_5_method_12_code (2 : Nat) (Option.some (Jvm.ClassFile.FieldType.object "com/example/slim_kripke/slimkripke/bdd/Bdd")), Jvm.Cond.code ({ cls := "com/example/slim_kripke/slimkripke/bdd/BddManager", name := "reference", desc := "(I)V" } : Jvm.MethodName) prog_5_method_14_code (4 : Nat) (Option.none : Option Jvm.ClassFile.FieldType), Jvm.Cond.code ({ cls := "com/example/slim_kripke/slimkripke/bdd/BddManager", name := "pend", desc := "(II)I" } : Jvm.MethodName) prog_5_method_16_code (3 : Nat) (Option.some Jvm.ClassFile.FieldType.int), Jvm.Cond.code ({ cls := "java/lang/Math", name := "max", desc := "(II)I" } : Jvm.MethodName) jdk_29_method_65_code (2 : Nat) (Option.some Jvm.ClassFile.FieldType.int), Jvm.Cond.code ({ cls := "com/example/slim_kripke/slimkripke/bdd/Bdd", name := "<init>", desc := "(Lcom/example/slim_kripke/slimkripke/bdd/BddManager;I)V" } : Jvm.MethodName) prog_4_method_1_code (3 : Nat) (Option.none : Option Jvm.ClassFile.FieldType), Jvm.Cond.code ({ cls := "com/example/slim_kripke/slimkripke/bdd/BddManager", name := "and", desc := "(II)I" } : Jvm.MethodName) prog_5_method_18_code (3 : Nat) (Option.some Jvm.ClassFile.FieldType.int), Jvm.Cond.code ({ cls := "com/example/slim_kripke/slimkripke/bdd/BddManager", name := "apply", desc := "(III)I" } : Jvm.MethodName) prog_5_method_36_code (11 : Nat) (Option.some Jvm.ClassFile.FieldType.int), Jvm.Cond.code ({ cls := "com/example/slim_kripke/slimkripke/bdd/BddManager", name := "terminalCase", desc := "(III)I" } : Jvm.MethodName) prog_5_method_42_code (4 : Nat) (Option.some Jvm.ClassFile.FieldType.int), Jvm.Cond.code ({ cls := "com/example/slim_kripke/slimkripke/bdd/BddManager", name := "cached", desc := "(IIII)I" } : Jvm.MethodName) prog_5_method_62_code (7 : Nat) (Option.some Jvm.ClassFile.FieldType.int), Jvm.Cond.code ({ cls := "com/example/slim_kripke/slimkripke/bdd/BddManager", name := "entry", desc := "(IIII)I" } : Jvm.MethodName) prog_5_method_64_code (6 : Nat) (Option.some Jvm.ClassFile.FieldType.int), Jvm.Cond.code ({ cls := "com/example/slim_kripke/slimkripke/bdd/BddManager", name := "cofactor", desc := "(IIZ)I" } : Jvm.MethodName) prog_5_method_43_code (5 : Nat) (Option.some Jvm.ClassFile.FieldType.int), Jvm.Cond.code ({ cls := "com/example/slim_kripke/slimkripke/bdd/BddManager", name := "remember", desc := "(IIIII)V" } : Jvm.MethodName) prog_5_method_63_code (7 : Nat) (Option.none : Option Jvm.ClassFile.FieldType), Jvm.Cond.code ({ cls := "com/example/slim_kripke/slimkripke/bdd/BddManager", name := "not", desc := "(I)I" } : Jvm.MethodName) prog_5_method_17_code (2 : Nat) (Option.some Jvm.ClassFile.FieldType.int), Jvm.Cond.code ({ cls := "com/example/slim_kripke/slimkripke/bdd/BddManager", name := "negation", desc := "(I)I" } : Jvm.MethodName) prog_5_method_35_code (5 : Nat) (Option.some Jvm.ClassFile.FieldType.int), Jvm.Cond.code ({ cls := "com/example/slim_kripke/slimkripke/bdd/BddManager", name := "applyOnStack", desc := "(III)I" } : Jvm.MethodName) prog_5_method_48_code (10 : Nat) (Option.some Jvm.ClassFile.FieldType.int), Jvm.Cond.code ({ cls := "com/example/slim_kripke/slimkripke/bdd/CallStack", name := "size", desc := "()I" } : Jvm.MethodName) prog_7_method_2_code (1 : Nat) (Option.some Jvm.ClassFile.FieldType.int), Jvm.Cond.code ({ cls := "com/example/slim_kripke/slimkripke/bdd/CallStack", name := "push", desc := "(IIIII)V" } : Jvm.MethodName) prog_7_method_4_code (7 : Nat) (Option.none : Option Jvm.ClassFile.FieldType), Jvm.Cond.code ({ cls := "com/example/slim_kripke/slimkripke/bdd/CallStack", name := "top", desc := "()I" } : Jvm.MethodName) prog_7_method_3_code (1 : Nat) (Option.some Jvm.ClassFile.FieldType.int), Jvm.Cond.code ({ cls := "com/example/slim_kripke/slimkripke/bdd/CallStack", name := "level", desc := "(I)I" } : Jvm.MethodName) prog_7_method_10_code (2 : Nat) (Option.some Jvm.ClassFile.FieldType.int), Jvm.Cond.code ({ cls := "com/example/slim_kripke/slimkripke/bdd/CallStack", name := "low", desc := "(I)I" } : Jvm.MethodName) prog_7_method_11_code (2 : Nat) (Option.some Jvm.ClassFile.FieldType.int), Jvm.Cond.code ({ cls := "com/example/slim_kripke/slimkripke/bdd/CallStack", name := "setLow", desc := "(II)V" } : Jvm.MethodName) prog_7_method_12_code (3 : Nat) (Option.none : Option Jvm.ClassFile.FieldType), Jvm.Cond.code ({ cls := "com/example/slim_kripke/slimkripke/bdd/CallStack", name := "first", desc := "(I)I" } : Jvm.MethodName) prog_7_method_7_code (2 : Nat) (Option.some Jvm.ClassFile.FieldType.int), Jvm.Cond.code ({ cls := "com/example/slim_kripke/slimkripke/bdd/CallStack", name := "second", desc := "(I)I" } : Jvm.MethodName) prog_7_method_8_code (2 : Nat) (Option.some Jvm.ClassFile.FieldType.int), Jvm.Cond.code ({ cls := "com/example/slim_kripke/slimkripke/bdd/BddManager", name := "finish", desc := "(III)I" } : Jvm.MethodName) prog_5_method_53_code (4 : Nat) (Option.some Jvm.ClassFile.FieldType.int), Jvm.Cond.code ({ cls := "com/example/slim_kripke/slimkripke/bdd/CallStack", name := "third", desc := "(I)I" } : Jvm.MethodName) prog_7_method_9_code (2 : Nat) (Option.some Jvm.ClassFile.FieldType.int), Jvm.Cond.code ({ cls := "com/example/slim_kripke/slimkripke/bdd/CallStack", name := "pop", desc := "()V" } : Jvm.MethodName) prog_7_method_5_code (1 : Nat) (Option.none : Option Jvm.ClassFile.FieldType), Jvm.Cond.code ({ cls := "com/example/slim_kripke/slimkripke/bdd/BddManager", name := "negationOnStack", desc := "(I)I" } : Jvm.MethodName) prog_5_method_47_code (6 : Nat) (Option.some Jvm.ClassFile.FieldType.int)]
set_option maxRecDepth 65536 in
theorem codes_eq : words1.filter isCode = codes1 := rfl
theorem w_codes : ∀ c ∈ words1.filter isCode, c.before args0 about1 = true := by
  rw [codes_eq]
  intro c hc
  simp only [codes1, List.mem_cons, List.not_mem_nil, or_false] at hc
  rcases hc with rfl | rfl | rfl | rfl | rfl | rfl | rfl | rfl | rfl | rfl | rfl | rfl | rfl | rfl | rfl | rfl | rfl | rfl | rfl | rfl | rfl | rfl | rfl | rfl | rfl | rfl | rfl | rfl | rfl | rfl | rfl | rfl | rfl | rfl | rfl | rfl | rfl | rfl | rfl | rfl | rfl | rfl | rfl | rfl | rfl | rfl
  · exact w_c0
  · exact w_c1
  · exact w_c2
  · exact w_c3
  · exact w_c4
  · exact w_c5
  · exact w_c6
  · exact w_c7
  · exact w_c8
  · exact w_c9
  · exact w_c10
  · exact w_c11
  · exact w_c12
  · exact w_c13
  · exact w_c14
  · exact w_c15
  · exact w_c16
  · exact w_c17
  · exact w_c18
  · exact w_c19
  · exact w_c20
  · exact w_c21
  · exact w_c22
  · exact w_c23
  · exact w_c24
  · exact w_c25
  · exact w_c26
  · exact w_c27
  · exact w_c28
  · exact w_c29
  · exact w_c30
  · exact w_c31
  · exact w_c32
  · exact w_c33
  · exact w_c34
  · exact w_c35
  · exact w_c36
  · exact w_c37
  · exact w_c38
  · exact w_c39
  · exact w_c40
  · exact w_c41
  · exact w_c42
  · exact w_c43
  · exact w_c44
  · exact w_c45
set_option maxRecDepth 65536 in
theorem w_t1 : (words1.take 24).all (fun c => isCode c || c.before args0 about1) = true := by decide +kernel
set_option maxRecDepth 65536 in
theorem w_t2 : ((words1.drop 24).take 24).all (fun c => isCode c || c.before args0 about1) = true := by decide +kernel
set_option maxRecDepth 65536 in
theorem w_t3 : (((words1.drop 24).drop 24).take 24).all (fun c => isCode c || c.before args0 about1) = true := by decide +kernel
set_option maxRecDepth 65536 in
theorem w_t4 : ((((words1.drop 24).drop 24).drop 24).take 24).all (fun c => isCode c || c.before args0 about1) = true := by decide +kernel
set_option maxRecDepth 65536 in
theorem w_t5 : (((((words1.drop 24).drop 24).drop 24).drop 24).take 24).all (fun c => isCode c || c.before args0 about1) = true := by decide +kernel
set_option maxRecDepth 65536 in
theorem w_t6 : ((((((words1.drop 24).drop 24).drop 24).drop 24).drop 24).take 24).all (fun c => isCode c || c.before args0 about1) = true := by decide +kernel
set_option maxRecDepth 65536 in
theorem w_t7 : (((((((words1.drop 24).drop 24).drop 24).drop 24).drop 24).drop 24).take 24).all (fun c => isCode c || c.before args0 about1) = true := by decide +kernel
set_option maxRecDepth 65536 in
theorem w_t8 : ((((((((words1.drop 24).drop 24).drop 24).drop 24).drop 24).drop 24).drop 24).take 24).all (fun c => isCode c || c.before args0 about1) = true := by decide +kernel
set_option maxRecDepth 65536 in
theorem w_t9 : (((((((((words1.drop 24).drop 24).drop 24).drop 24).drop 24).drop 24).drop 24).drop 24).take 24).all (fun c => isCode c || c.before args0 about1) = true := by decide +kernel
set_option maxRecDepth 65536 in
theorem w_t10 : ((((((((((words1.drop 24).drop 24).drop 24).drop 24).drop 24).drop 24).drop 24).drop 24).drop 24).take 24).all (fun c => isCode c || c.before args0 about1) = true := by decide +kernel
set_option maxRecDepth 65536 in
theorem w_t11 : ((((((((((words1.drop 24).drop 24).drop 24).drop 24).drop 24).drop 24).drop 24).drop 24).drop 24).drop 24).all (fun c => isCode c || c.before args0 about1) = true := by decide +kernel
theorem w_tables : (allAtoms (Jvm.Cond.code x code maxLocals ret :: tables_1)).before args0 about1 = true := by
  rw [allAtoms_all]
  show words1.all (fun c => c.before args0 about1) = true
  refine all_split ?_ w_codes
  rw [← List.take_append_drop 24 words1, List.all_append, w_t1, ← List.take_append_drop 24 (words1.drop 24), List.all_append, w_t2, ← List.take_append_drop 24 ((words1.drop 24).drop 24), List.all_append, w_t3, ← List.take_append_drop 24 (((words1.drop 24).drop 24).drop 24), List.all_append, w_t4, ← List.take_append_drop 24 ((((words1.drop 24).drop 24).drop 24).drop 24), List.all_append, w_t5, ← List.take_append_drop 24 (((((words1.drop 24).drop 24).drop 24).drop 24).drop 24), List.all_append, w_t6, ← List.take_append_drop 24 ((((((words1.drop 24).drop 24).drop 24).drop 24).drop 24).drop 24), List.all_append, w_t7, ← List.take_append_drop 24 (((((((words1.drop 24).drop 24).drop 24).drop 24).drop 24).drop 24).drop 24), List.all_append, w_t8, ← List.take_append_drop 24 ((((((((words1.drop 24).drop 24).drop 24).drop 24).drop 24).drop 24).drop 24).drop 24), List.all_append, w_t9, ← List.take_append_drop 24 (((((((((words1.drop 24).drop 24).drop 24).drop 24).drop 24).drop 24).drop 24).drop 24).drop 24), List.all_append, w_t10, w_t11]
  rfl
set_option maxRecDepth 65536 in
theorem w_case : (Jvm.Cond.and given_1 narrow_1).before args0 about1 = true := by decide +kernel
theorem w_applies : (headSpec (Jvm.Cond.code x code maxLocals ret :: tables_1) room_1).applies x e0.platform about1 = true :=
  (Spec.applies_iff w_frames).mpr ⟨w_running, w_runnable, w_alone, w_named, w_hears, w_ripe, w_room, w_tables⟩
theorem atStart : AtStart classFile x code maxLocals ret World_1 tables_1 room_1 Calls_1 rest_1 Pre_1 launch0 p0 e0 about1 theMethod args0 below0 :=
  ⟨lists_1, trivial, launch0.admits_env _ _ _, launch0.least_env, fairChoices_fair.cas, fairChoices_fair.clock, w_frames, w_args, w_heap, w_applies, trivial, trivial, w_case⟩
end start1
theorem witness_1 : WitnessClaimed_1 := ⟨start1.p0, start1.e0, start1.about1, start1.theMethod, start1.args0, start1.below0, start1.atStart⟩
end Jvm.Pilot.@@N@@
