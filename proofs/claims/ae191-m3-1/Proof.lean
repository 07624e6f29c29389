import JvmDerived
import JvmDerived.Pilot.@@N@@Statement
import JvmDerived.Pilot.@@N@@Code
set_option linter.unusedVariables false
set_option linter.unusedSimpArgs false
namespace Jvm.RoadKit
open Sem ClassFile Op Lib Jvm.Stand Jvm.Free Jvm.LawKit
section New
variable {p : Program} {l : Launch} {e : Env} {R : Room} {s : State} {m : MethodId} {args : Array Value} {below : List Frame} {meth : Method} {c : Code} {T : State} {locs : List Loc} {cells slots : Nat}
theorem retI (X : Stand p l e R s m args below meth c T locs cells slots) (hx : p.tables.exec = Jvm.exec) {pc : Nat} {Ls : Array Slot} {z : Int32} {rest : List Value} (hret : meth.sig.returnType = some .int) (hd : decode c.code pc = .ok (.ireturn, 1)) {fs : List Frame}
    (hl : ∀ (f : JFrame) (acts : List Action), f.method = m → f.locked = none → f.entered = [] → (doReturn e (T.setTop f) acts (some (.int z))).1 = T.setFrames fs) : Steps p.tables e below (T.setTop (mkF m pc Ls (.int z :: rest))) (T.setFrames fs) := by
  have hm' : T.vm.method? m = some meth := X.method'
  have hn : narrow .int (.int z) = .int z := rfl
  show Steps p.tables e below (T.setTop { method := m, pc := pc, locals := Ls, stack := _ :: rest, locked := none }) _
  jvm_step X.here [X.here.top, hx, hd, hm', hret, hn]
  first | (intro acts; rw [hl _ acts rfl rfl rfl]) | rw [hl _ _ rfl rfl rfl]
  exact Steps.refl _
end New
end Jvm.RoadKit
namespace Jvm.Pilot.@@N@@
open Jvm Jvm.ClassFile Sem Op Lib Jvm.Free Jvm.Stand Jvm.LawKit Jvm.RoadKit Bundle Jvm.Pilot.@@N@@.Jvm.D
def QP (w : Option Value) (h0 : Heap) (n0 : Nat) (v : Option Value) (h : Heap) (L : List Loc) : Prop := v = w ∧ Fr n0 L ∧ h = h0
def QL (w : Option Value) (n0 : Nat) (v : Option Value) (h : Heap) (L : List Loc) : Prop := v = w ∧ Fr n0 L ∧ True

theorem own_dret {p : Program} {l : Launch} {e : Env} {R : Room} {s : State} {m : MethodId} {args : Array Value} {below : List Frame} {meth : Method} {c : Code} {T : State} {locs : List Loc} {cells slots : Nat} (Y : Stand p l e R s m args below meth c T locs cells slots) (hexec : p.tables.exec = Jvm.exec) {pc : Nat} {Ls : Array Slot} {w : UInt64} (hret : meth.sig.returnType = some .double)
    (hdg : decode c.code pc = .ok (.dreturn, 1)) {fs : List Frame} (hleave : ∀ (f : JFrame) (acts : List Action), f.method = m → f.locked = none → f.entered = [] → (doReturn e (T.setTop f) acts (some (.double w))).1 = T.setFrames fs) :
    Steps p.tables e below (T.setTop { method := m, pc := pc, locals := Ls, stack := [.double w], locked := none }) (T.setFrames fs) := by
  have hm' : T.vm.method? m = some meth := Y.method'
  jvm_step Y.here [Y.here.top, hexec, hdg, hm', hret]
  first | (intro acts; rw [hleave _ acts rfl rfl rfl]) | rw [hleave _ _ rfl rfl rfl]
  exact Steps.refl _
open Jvm.FP
theorem own_eighth (m : Int) (h : m.natAbs < 2 ^ 53) : ∃ V, Core.fits Core.b64 V ∧ (∃ s c q, V = .fin s c q) ∧ 8 * Core.zval Core.b64 V = m * (Core.one64 : Int) := by
  by_cases h0 : m = 0
  · refine ⟨.fin false 0 Core.b64.qmin, Core.zero_fits Core.good_b64 false, ⟨_, _, _, rfl⟩, ?_⟩
    rw [h0, Int.zero_mul]; decide +kernel
  have ea : (Int64.ofInt m).toInt = m := by
    rw [Int64.toInt_ofInt]; have : Int64.size = 18446744073709551616 := rfl; exact Int.bmod_eq_of_le (by omega) (by omega)
  have hd : Core.DInt m (Core.l2d (Int64.ofInt m)) := by
    have := Core.l2d_int (a := Int64.ofInt m) (by rw [ea]; omega)
    rwa [ea] at this
  have hz := Core.DInt_zval hd
  obtain ⟨s, c, q, hv⟩ := Core.l2d_fin (Int64.ofInt m)
  have hf := Core.val64_fits (Core.l2d (Int64.ofInt m))
  rw [hv] at hz hf
  have e1 : Core.b64.qmin = -1074 := by decide +kernel
  obtain ⟨f1, f2, f3, f4⟩ := hf
  rw [e1] at f2 f4
  have ht : Core.b64.p = 53 := rfl
  rw [ht] at f1
  have hz' : Core.signed s (c * 2 ^ (q - Core.b64.qmin).toNat) = m * (Core.one64 : Int) := hz
  rw [e1] at hz'
  have hn := congrArg Int.natAbs hz'
  rw [Core.natAbs_signed, Int.natAbs_mul] at hn
  have hone : 2 ^ 56 ≤ Core.one64 := Nat.pow_le_pow_right (by decide) (by decide)
  have hq : 3 ≤ q + 1074 := by
    apply Classical.byContradiction
    intro hlt
    have h2 : 2 ^ (q - -1074).toNat ≤ 2 ^ 2 := Nat.pow_le_pow_right (by decide) (by omega)
    have h3 : c * 2 ^ (q - -1074).toNat ≤ c * 2 ^ 2 := Nat.mul_le_mul_left _ h2
    have h4 : 1 * Core.one64 ≤ m.natAbs * (Core.one64 : Int).natAbs := Nat.mul_le_mul (by omega) (by omega)
    omega
  refine ⟨.fin s c (q - 3), ⟨by rw [ht]; exact f1, by rw [e1]; omega, by omega, Or.inr ?_⟩, ⟨_, _, _, rfl⟩, ?_⟩
  · rcases f4 with g | g
    · omega
    · exact g
  · show 8 * Core.signed s (c * 2 ^ (q - 3 - Core.b64.qmin).toNat) = _
    rw [← hz', e1, show (q - -1074).toNat = (q - 3 - -1074).toNat + 3 by omega, Nat.pow_add, ← Nat.mul_assoc, Core.signed_mul _ (c * _) (2 ^ 3)]
    rw [show ((2 ^ 3 : Nat) : Int) = 8 from rfl]; omega
theorem own_nan {a : UInt64} (h : Core.DFin a) : Core.val64 a ≠ .nan := by
  obtain ⟨s, c, q, e⟩ := h; rw [e]; exact nofun
theorem own_sum {a b : UInt64} (ha : Core.DFin a) (hb : Core.DFin b) (m : Int) (hm : m.natAbs < 2 ^ 53) (h : 8 * (Core.zval Core.b64 (Core.val64 a) + Core.zval Core.b64 (Core.val64 b)) = m * (Core.one64 : Int)) :
    8 * Core.zval Core.b64 (Core.val64 (Core.dadd a b)) = m * (Core.one64 : Int) := by
  obtain ⟨V, fV, ⟨s, c, q, eV⟩, hV⟩ := own_eighth m hm
  have nV : V ≠ .nan := by rw [eV]; exact nofun
  rw [Core.val64_dadd]
  have h1 := Core.sum_le Core.good_b64 ha hb (Core.val64_fits a) (Core.val64_fits b) fV nV (by omega)
  have h2 := Core.sum_ge Core.good_b64 ha hb (Core.val64_fits a) (Core.val64_fits b) fV nV (by omega)
  omega
theorem own_cv {a b : UInt64} (ha : Core.val64 a ≠ .nan) (hb : Core.val64 b ≠ .nan) (o : CmpOp) :
    ((cmpValue (FP.dcmp a b) o < 0) ↔ Core.zval Core.b64 (Core.val64 a) < Core.zval Core.b64 (Core.val64 b)) ∧ ((0 < cmpValue (FP.dcmp a b) o) ↔ Core.zval Core.b64 (Core.val64 b) < Core.zval Core.b64 (Core.val64 a)) := by
  rw [show FP.dcmp a b = _ from Core.dcmp_zval ha hb, Core.compare_ite]
  generalize Core.zval Core.b64 (Core.val64 a) = x
  generalize Core.zval Core.b64 (Core.val64 b) = y
  by_cases h : x < y
  · rw [if_pos h]; exact ⟨⟨fun _ => h, fun _ => by cases o <;> decide⟩, ⟨fun q => absurd q (by cases o <;> decide), fun q => absurd h (by omega)⟩⟩
  · rw [if_neg h]
    by_cases h' : x = y
    · rw [if_pos h']; exact ⟨⟨fun q => absurd q (by cases o <;> decide), fun q => absurd q h⟩, ⟨fun q => absurd q (by cases o <;> decide), fun q => absurd q (by omega)⟩⟩
    · rw [if_neg h']; exact ⟨⟨fun q => absurd q (by cases o <;> decide), fun q => absurd q h⟩, ⟨fun _ => by omega, fun _ => by cases o <;> decide⟩⟩
theorem own_half : Core.DFin 4602678819172646912 ∧ 8 * Core.zval Core.b64 (Core.val64 4602678819172646912) = 4 * (Core.one64 : Int) :=
  ⟨(Core.fin_bits _).mpr (by decide +kernel), by decide +kernel⟩
theorem own_i2d (x : Int32) : Core.DFin (FP.i2d x) ∧ Core.zval Core.b64 (Core.val64 (FP.i2d x)) = x.toInt * (Core.one64 : Int) := ⟨Core.i2d_fin x, Core.DInt_zval (Core.i2d_int x)⟩
theorem own_div8 : ∀ k : Fin 8, Core.DFin (FP.ddiv (FP.i2d (Int32.ofNat k.val)) 4620693217682128896) ∧ 8 * Core.zval Core.b64 (Core.val64 (FP.ddiv (FP.i2d (Int32.ofNat k.val)) 4620693217682128896)) = (k.val : Int) * (Core.one64 : Int) := by
  have h : ∀ k : Fin 8, (FP.ddiv (FP.i2d (Int32.ofNat k.val)) 4620693217682128896).toNat % 2 ^ 63 < 9218868437227405312 ∧ 8 * Core.zval Core.b64 (Core.val64 (FP.ddiv (FP.i2d (Int32.ofNat k.val)) 4620693217682128896)) = (k.val : Int) * (Core.one64 : Int) := by decide +kernel
  exact fun k => ⟨(Core.fin_bits _).mpr (h k).1, (h k).2⟩
theorem d1_0 : decode method_2_code 0 = .ok (.iload_n 1, 1) := by decide +kernel
theorem d1_1 : decode method_2_code 1 = .ok (.ifCond .eq 12, 3) := by decide +kernel
theorem d1_4 : decode method_2_code 4 = .ok (.iload_n 0, 1) := by decide +kernel
theorem d1_5 : decode method_2_code 5 = .ok (.i2d, 1) := by decide +kernel
theorem d1_6 : decode method_2_code 6 = .ok (.ldc2_w 7, 3) := by decide +kernel
theorem d1_9 : decode method_2_code 9 = .ok (.dadd, 1) := by decide +kernel
theorem d1_10 : decode method_2_code 10 = .ok (.goto 5, 3) := by decide +kernel
theorem d1_13 : decode method_2_code 13 = .ok (.iload_n 0, 1) := by decide +kernel
theorem d1_14 : decode method_2_code 14 = .ok (.i2d, 1) := by decide +kernel
theorem d1_15 : decode method_2_code 15 = .ok (.dreturn, 1) := by decide +kernel
theorem pn_1 : plainName "com/example/modloc/modloc/spectrum/IsolationWindowHoldsPinLaw" = true := by first | (simp [plainName, overriddenIn]; done) | decide +kernel
theorem ef_1 (m : MethodId) (x0 : Int32) (x1 : Int32) : entryFrame m #[(.int x0), (.int x1)] 2 = mkF m 0 #[.val (.int x0), .val (.int x1)] [] := by first | (simp [entryFrame, mkF, argsToLocals, Value.category]; done) | rfl
def f1 (p0 : Int32) (p1 : Int32) : UInt64 := (if p1 = (0 : Int32) then (FP.i2d p0) else (FP.dadd (FP.i2d p0) (4602678819172646912 : UInt64)))
set_option maxRecDepth 65536 in
set_option maxHeartbeats 40000000 in
theorem rm1 (l : Launch) (Z : State) (a0 : Array Value) (hw : ∀ d ∈ tables_1, d.before a0 Z = true) (ws : List Jvm.Cond) (p0 : Int32) (p1 : Int32) (h0 : Heap) (n0 : Nat) (Z0 : n0 ≤ h0.size) :
    MetFree l (⟨"com/example/modloc/modloc/spectrum/IsolationWindowHoldsPinLaw", "half", "(II)D"⟩ : MethodName) (head1 (Jvm.Cond.code (⟨"com/example/modloc/modloc/spectrum/IsolationWindowHoldsPinLaw", "half", "(II)D"⟩ : MethodName) method_2_code 2 (some .double) :: ws) ({ frames := 0, cells := 0, slots := 0, locals := 0 } : Room)) (fun a U => a = #[(.int p0), (.int p1)] ∧ Z.Warmed39 U.vm ∧ U.heap = h0) (fun _ _ _ _ _ => True) (fun _ U o U' => ∃ v L, o = .returned v ∧ QP (some (.double (f1 p0 p1))) h0 n0 v U'.heap L ∧ FrameEnd U o U' L ({ frames := 0, cells := 0, slots := 0, locals := 0 } : Room).cells ({ frames := 0, cells := 0, slots := 0, locals := 0 } : Room).slots) := by
  refine MetFree.of_bodySF (plainFor_of_name pn_1) hisR ?_
  intro p e s m args below meth c s₁ Bd hml0 hP hK
  obtain ⟨rfl, hZ, hh⟩ := hP
  have hx := Bd.exec
  have hby := Bd.bytes
  have hml : c.maxLocals = 2 := hml0
  have hown : s.vm.findClass "com/example/modloc/modloc/spectrum/IsolationWindowHoldsPinLaw" = some m.cls := findClass_of_methodNamed Bd.named
  have hnm := (name_of_methodNamed Bd.named Bd.method).1
  have X0 : Stand p l e ({ frames := 0, cells := 0, slots := 0, locals := 0 } : Room) s m #[(.int p0), (.int p1)] below meth c s₁ [] 0 0 := Stand.of_body Bd
  have e0 : s₁.heap = h0 := by rw [← hh, Bd.state]; rfl
  have N0 := Fr.nil n0
  have K0 : Keep h0 h0 [] := Keep.refl _ _
  have pre0 : ∀ t, Steps p.tables e below (s₁.setTop (mkF m 0 #[.val (.int p0), .val (.int p1)] [])) t → Steps p.tables e below (s₁.setTop (entryFrame m #[(.int p0), (.int p1)] 2)) t := fun t k => castTop (ef_1 m p0 p1) k
  have pre2 : ∀ t, Steps p.tables e below (s₁.setTop (mkF m 1 #[.val (.int p0), .val (.int p1)] [(.int p1)])) t → Steps p.tables e below (s₁.setTop (entryFrame m #[(.int p0), (.int p1)] 2)) t := fun t k => pre0 t (by
    show Steps p.tables e below (s₁.setTop (mkF m 0 #[.val (.int p0), .val (.int p1)] [])) _
    refine XS.iloadN X0.here hx rfl (hb hby d1_0) rfl ?_
    exact k)
  by_cases hc1_1 : p1 = (0 : Int32)
  · have pre3 : ∀ t, Steps p.tables e below (s₁.setTop (mkF m 15 #[.val (.int p0), .val (.int p1)] [(.double (FP.i2d p0))])) t → Steps p.tables e below (s₁.setTop (entryFrame m #[(.int p0), (.int p1)] 2)) t := fun t k => pre2 t (by
      show Steps p.tables e below (s₁.setTop (mkF m 1 #[.val (.int p0), .val (.int p1)] [(.int p1)])) _
      refine XS.ifYes X0.here hx rfl (pc0 := 1) (pc' := 13) rfl (hb hby d1_1) rfl ((if0 _ _).trans (teq hc1_1).1) (by decide) (by decide) ?_
      show Steps p.tables e below (s₁.setTop (mkF m 13 #[.val (.int p0), .val (.int p1)] [])) _
      refine XS.iloadN X0.here hx rfl (hb hby d1_13) rfl ?_
      show Steps p.tables e below (s₁.setTop (mkF m 14 #[.val (.int p0), .val (.int p1)] [(.int p0)])) _
      refine XS.i2dS X0.here hx rfl (hb hby d1_14) rfl rfl ?_
      exact k)
    obtain ⟨fs, hr, hrun, hended, hW, hsame⟩ := X0.leave (v := some (.double (FP.i2d p0))) (fun h => by rw [Bd.returns] at h; cases h)
    refine ⟨_, _, ?_, hrun, hended, _, _, rfl, ?_, ⟨_, rfl⟩, hW, hsame.mono (by decide) (by decide)⟩
    · exact pre3 _ (own_dret X0 hx Bd.returns (hb hby d1_15) hr)
    · exact ⟨by simp only [f1, if_pos hc1_1], N0, e0⟩
  · have pre4 : ∀ t, Steps p.tables e below (s₁.setTop (mkF m 15 #[.val (.int p0), .val (.int p1)] [(.double (FP.dadd (FP.i2d p0) (4602678819172646912 : UInt64)))])) t → Steps p.tables e below (s₁.setTop (entryFrame m #[(.int p0), (.int p1)] 2)) t := fun t k => pre2 t (by
      show Steps p.tables e below (s₁.setTop (mkF m 1 #[.val (.int p0), .val (.int p1)] [(.int p1)])) _
      refine XS.ifNo X0.here hx rfl (hb hby d1_1) rfl ((if0 _ _).trans (feq hc1_1).1) ?_
      show Steps p.tables e below (s₁.setTop (mkF m 4 #[.val (.int p0), .val (.int p1)] [])) _
      refine XS.iloadN X0.here hx rfl (hb hby d1_4) rfl ?_
      show Steps p.tables e below (s₁.setTop (mkF m 5 #[.val (.int p0), .val (.int p1)] [(.int p0)])) _
      refine XS.i2dS X0.here hx rfl (hb hby d1_5) rfl rfl ?_
      show Steps p.tables e below (s₁.setTop (mkF m 6 #[.val (.int p0), .val (.int p1)] [(.double (FP.i2d p0))])) _
      refine X0.ldc2DoubleC hx hown (mvT hZ (hw _ (List.mem_of_getElem? (i := 4) rfl))) (g := (mkF m 6 #[.val (.int p0), .val (.int p1)] [(.double (FP.i2d p0))])) rfl (hb hby d1_6) _ ?_
      show Steps p.tables e below (s₁.setTop (mkF m 9 #[.val (.int p0), .val (.int p1)] [(.double (4602678819172646912 : UInt64)), (.double (FP.i2d p0))])) _
      refine XS.daddS X0.here hx rfl (hb hby d1_9) rfl (Jvm.Free.Fl.dadd_out (Jvm.Free.Fl.i2d_fin _).noNaN (Jvm.Free.Fl.fin64_core.mpr own_half.1)) rfl ?_
      show Steps p.tables e below (s₁.setTop (mkF m 10 #[.val (.int p0), .val (.int p1)] [(.double (FP.dadd (FP.i2d p0) (4602678819172646912 : UInt64)))])) _
      refine XS.goto X0.here hx rfl (pc0 := 10) (pc' := 15) rfl (hb hby d1_10) (by decide) (by decide) ?_
      exact k)
    obtain ⟨fs, hr, hrun, hended, hW, hsame⟩ := X0.leave (v := some (.double (FP.dadd (FP.i2d p0) (4602678819172646912 : UInt64)))) (fun h => by rw [Bd.returns] at h; cases h)
    refine ⟨_, _, ?_, hrun, hended, _, _, rfl, ?_, ⟨_, rfl⟩, hW, hsame.mono (by decide) (by decide)⟩
    · exact pre4 _ (own_dret X0 hx Bd.returns (hb hby d1_15) hr)
    · exact ⟨by simp only [f1, if_neg hc1_1], N0, e0⟩
theorem d3_0 : decode jdk_30_method_1_code 0 = .ok (.aload_n 0, 1) := by decide +kernel
theorem d3_1 : decode jdk_30_method_1_code 1 = .ok (.invokespecial 1, 3) := by decide +kernel
theorem d3_4 : decode jdk_30_method_1_code 4 = .ok (.return_, 1) := by decide +kernel
theorem pn_3 : plainName "java/lang/Record" = true := by first | (simp [plainName, overriddenIn]; done) | decide +kernel
theorem ef_3 (m : MethodId) (x0 : Addr) : entryFrame m #[(.ref x0)] 1 = mkF m 0 #[.val (.ref x0)] [] := by first | (simp [entryFrame, mkF, argsToLocals, Value.category]; done) | rfl
set_option maxRecDepth 65536 in
set_option maxHeartbeats 40000000 in
theorem rm3 (l : Launch) (Z : State) (a0 : Array Value) (hw : ∀ d ∈ tables_1, d.before a0 Z = true) (ws : List Jvm.Cond) (o0 : Addr) (h0 : Heap) (n0 : Nat) (Z0 : n0 ≤ h0.size) :
    MetFree l (⟨"java/lang/Record", "<init>", "()V"⟩ : MethodName) (head1 (Jvm.Cond.code (⟨"java/lang/Record", "<init>", "()V"⟩ : MethodName) jdk_30_method_1_code 1 none :: ws) ({ frames := 1, cells := 0, slots := 0, locals := 12 } : Room)) (fun a U => a = #[(.ref o0)] ∧ Z.Warmed39 U.vm ∧ U.heap = h0) (fun _ _ _ _ _ => True) (fun _ U o U' => ∃ v L, o = .returned v ∧ QP none h0 n0 v U'.heap L ∧ FrameEnd U o U' L ({ frames := 1, cells := 0, slots := 0, locals := 12 } : Room).cells ({ frames := 1, cells := 0, slots := 0, locals := 12 } : Room).slots) := by
  refine MetFree.of_bodySF (plainFor_of_name pn_3) hisR ?_
  intro p e s m args below meth c s₁ Bd hml0 hP hK
  obtain ⟨rfl, hZ, hh⟩ := hP
  have hx := Bd.exec
  have hby := Bd.bytes
  have hml : c.maxLocals = 1 := hml0
  have hown : s.vm.findClass "java/lang/Record" = some m.cls := findClass_of_methodNamed Bd.named
  have hnm := (name_of_methodNamed Bd.named Bd.method).1
  have X0 : Stand p l e ({ frames := 1, cells := 0, slots := 0, locals := 12 } : Room) s m #[(.ref o0)] below meth c s₁ [] 0 0 := Stand.of_body Bd
  have e0 : s₁.heap = h0 := by rw [← hh, Bd.state]; rfl
  have N0 := Fr.nil n0
  have K0 : Keep h0 h0 [] := Keep.refl _ _
  have pre0 : ∀ t, Steps p.tables e below (s₁.setTop (mkF m 0 #[.val (.ref o0)] [])) t → Steps p.tables e below (s₁.setTop (entryFrame m #[(.ref o0)] 1)) t := fun t k => castTop (ef_3 m o0) k
  have pre1 : ∀ t, Steps p.tables e below (s₁.setTop (mkF m 1 #[.val (.ref o0)] [(.ref o0)])) t → Steps p.tables e below (s₁.setTop (entryFrame m #[(.ref o0)] 1)) t := fun t k => pre0 t (by
    show Steps p.tables e below (s₁.setTop (mkF m 0 #[.val (.ref o0)] [])) _
    refine XS.aloadN X0.here hx rfl (hb hby d3_0) rfl rfl ?_
    exact k)
  obtain ⟨T2, X2, e2, st2⟩ := initO X0 hx hZ hown (hw _ (List.mem_of_getElem? (i := 17) rfl)) (hw _ (List.mem_of_getElem? (i := 18) rfl)) (hw _ (List.mem_of_getElem? (i := 19) rfl)) e0 (g := (mkF m 1 #[.val (.ref o0)] [(.ref o0)])) rfl (by rw [hml]; rfl) rfl (hb hby d3_1) (by decide) (W := 0) (by show 2 * 0 + _ ≤ _; exact Nat.le_of_eq rfl) (by decide)
  have pre3 : ∀ t, Steps p.tables e below (T2.setTop (mkF m 4 #[.val (.ref o0)] [])) t → Steps p.tables e below (s₁.setTop (entryFrame m #[(.ref o0)] 1)) t := fun t k => pre1 t (st2 _ k)
  obtain ⟨fs, hr, hrun, hended, hW, hsame⟩ := X2.leave (v := none) (fun _ => rfl)
  refine ⟨_, _, ?_, hrun, hended, _, _, rfl, ?_, ⟨_, rfl⟩, hW, hsame.mono (by decide) (by decide)⟩
  · exact pre3 _ (X2.returnOut hx Bd.returns (hb hby d3_4) hr)
  · exact ⟨rfl, N0, e2⟩
theorem d2_0 : decode prog_70_method_1_code 0 = .ok (.aload_n 0, 1) := by decide +kernel
theorem d2_1 : decode prog_70_method_1_code 1 = .ok (.invokespecial 1, 3) := by decide +kernel
theorem d2_4 : decode prog_70_method_1_code 4 = .ok (.aload_n 0, 1) := by decide +kernel
theorem d2_5 : decode prog_70_method_1_code 5 = .ok (.dload_n 1, 1) := by decide +kernel
theorem d2_6 : decode prog_70_method_1_code 6 = .ok (.putfield 7, 3) := by decide +kernel
theorem d2_9 : decode prog_70_method_1_code 9 = .ok (.aload_n 0, 1) := by decide +kernel
theorem d2_10 : decode prog_70_method_1_code 10 = .ok (.dload_n 3, 1) := by decide +kernel
theorem d2_11 : decode prog_70_method_1_code 11 = .ok (.putfield 13, 3) := by decide +kernel
theorem d2_14 : decode prog_70_method_1_code 14 = .ok (.return_, 1) := by decide +kernel
theorem pn_2 : plainName "com/example/modloc/modloc/spectrum/IsolationWindow" = true := by first | (simp [plainName, overriddenIn]; done) | decide +kernel
theorem pd___V : parseMethodDescriptor "()V" = some ⟨[], none⟩ := by decide +kernel
theorem ef_2 (m : MethodId) (x0 : Addr) (x1 : UInt64) (x2 : UInt64) : entryFrame m #[(.ref x0), (.double x1), (.double x2)] 5 = mkF m 0 #[.val (.ref x0), .val (.double x1), .second, .val (.double x2), .second] [] := by first | (simp [entryFrame, mkF, argsToLocals, Value.category]; done) | rfl
def Q2 (Z : State) (o0 : Addr) (u1 : UInt64) (u2 : UInt64) (h0 : Heap) (n0 : Nat) (v : Option Value) (h : Heap) (L : List Loc) : Prop := v = none ∧ Fr n0 L ∧ Keep h0 h [o0] ∧ Fld Z h o0 "com/example/modloc/modloc/spectrum/IsolationWindow" "lowest" "D" (.double u1) ∧ Fld Z h o0 "com/example/modloc/modloc/spectrum/IsolationWindow" "highest" "D" (.double u2)
set_option maxRecDepth 65536 in
set_option maxHeartbeats 40000000 in
theorem rm2 (l : Launch) (Z : State) (a0 : Array Value) (hw : ∀ d ∈ tables_1, d.before a0 Z = true) (ws : List Jvm.Cond) (o0 : Addr) (u1 : UInt64) (u2 : UInt64) (h0 : Heap) (n0 : Nat) (Z0 : n0 ≤ h0.size) (I0 : Exa Z h0 o0 "com/example/modloc/modloc/spectrum/IsolationWindow") (I1 : Fld Z h0 o0 "com/example/modloc/modloc/spectrum/IsolationWindow" "lowest" "D" (.double (0 : UInt64))) (I2 : Fld Z h0 o0 "com/example/modloc/modloc/spectrum/IsolationWindow" "highest" "D" (.double (0 : UInt64))) (gw_o0 : n0 ≤ o0) :
    MetFree l (⟨"com/example/modloc/modloc/spectrum/IsolationWindow", "<init>", "(DD)V"⟩ : MethodName) (head1 (Jvm.Cond.code (⟨"com/example/modloc/modloc/spectrum/IsolationWindow", "<init>", "(DD)V"⟩ : MethodName) prog_70_method_1_code 5 none :: ws) ({ frames := 2, cells := 0, slots := 0, locals := 24 } : Room)) (fun a U => a = #[(.ref o0), (.double u1), (.double u2)] ∧ Z.Warmed39 U.vm ∧ U.heap = h0) (fun _ _ _ _ _ => True) (fun _ U o U' => ∃ v L, o = .returned v ∧ Q2 Z o0 u1 u2 h0 n0 v U'.heap L ∧ FrameEnd U o U' L ({ frames := 2, cells := 0, slots := 0, locals := 24 } : Room).cells ({ frames := 2, cells := 0, slots := 0, locals := 24 } : Room).slots) := by
  refine MetFree.of_bodySF (plainFor_of_name pn_2) hisR ?_
  intro p e s m args below meth c s₁ Bd hml0 hP hK
  obtain ⟨rfl, hZ, hh⟩ := hP
  have hx := Bd.exec
  have hby := Bd.bytes
  have hml : c.maxLocals = 5 := hml0
  have hown : s.vm.findClass "com/example/modloc/modloc/spectrum/IsolationWindow" = some m.cls := findClass_of_methodNamed Bd.named
  have hnm := (name_of_methodNamed Bd.named Bd.method).1
  have X0 : Stand p l e ({ frames := 2, cells := 0, slots := 0, locals := 24 } : Room) s m #[(.ref o0), (.double u1), (.double u2)] below meth c s₁ [] 0 0 := Stand.of_body Bd
  have e0 : s₁.heap = h0 := by rw [← hh, Bd.state]; rfl
  have N0 := Fr.nil n0
  have K0 : Keep h0 h0 [o0] := Keep.refl _ _
  have pre0 : ∀ t, Steps p.tables e below (s₁.setTop (mkF m 0 #[.val (.ref o0), .val (.double u1), .second, .val (.double u2), .second] [])) t → Steps p.tables e below (s₁.setTop (entryFrame m #[(.ref o0), (.double u1), (.double u2)] 5)) t := fun t k => castTop (ef_2 m o0 u1 u2) k
  have pre1 : ∀ t, Steps p.tables e below (s₁.setTop (mkF m 1 #[.val (.ref o0), .val (.double u1), .second, .val (.double u2), .second] [(.ref o0)])) t → Steps p.tables e below (s₁.setTop (entryFrame m #[(.ref o0), (.double u1), (.double u2)] 5)) t := fun t k => pre0 t (by
    show Steps p.tables e below (s₁.setTop (mkF m 0 #[.val (.ref o0), .val (.double u1), .second, .val (.double u2), .second] [])) _
    refine XS.aloadN X0.here hx rfl (hb hby d2_0) rfl rfl ?_
    exact k)
  obtain ⟨_, _, ⟨T2, L2, k2, n2⟩, -, X2, ⟨Lc2, hQ2, l2, y2, z2⟩, st2⟩ := X0.specialBack hx (y := (⟨"java/lang/Record", "<init>", "()V"⟩ : MethodName)) rfl hown (mvT hZ (hw _ (List.mem_of_getElem? (i := 12) rfl))) (mvT hZ (hw _ (List.mem_of_getElem? (i := 13) rfl))) (mvT hZ (hw _ (List.mem_of_getElem? (i := 16) rfl))) (by decide) (backOf (W := 0) (rm3 l Z a0 hw [] o0 h0 n0 Z0) hZ (hw _ (List.mem_of_getElem? (i := 16) rfl)) (hw _ (List.mem_of_getElem? (i := 15) rfl)) (by decide) (by decide)) (g := (mkF m 1 #[.val (.ref o0), .val (.double u1), .second, .val (.double u2), .second] [(.ref o0)])) rfl (by rw [hml]; rfl) (Steps.refl _) (a := o0) (argsL := []) (rest := []) (lenOf pd___V rfl) rfl (by show 2 * 0 + _ ≤ _; exact Nat.le_of_eq rfl) (hb hby d2_1) (fun _ _ => ⟨rfl, e0, (by decide : 0 + 0 ≤ _), (by decide : 0 + 0 ≤ _)⟩)
  dsimp only [Pt.U, Pt.locs, Pt.cells, Pt.slots] at X2 l2 y2 z2 st2 hQ2
  subst l2 y2 z2
  obtain ⟨rfl, Nq2, e2⟩ := hQ2
  have N2 := Fr.app N0 Nq2
  have pre3 : ∀ t, Steps p.tables e below (T2.setTop (mkF m 4 #[.val (.ref o0), .val (.double u1), .second, .val (.double u2), .second] [])) t → Steps p.tables e below (s₁.setTop (entryFrame m #[(.ref o0), (.double u1), (.double u2)] 5)) t := fun t k => pre1 t (st2.trans k)
  have pre4 : ∀ t, Steps p.tables e below (T2.setTop (mkF m 6 #[.val (.ref o0), .val (.double u1), .second, .val (.double u2), .second] [(.double u1), (.ref o0)])) t → Steps p.tables e below (s₁.setTop (entryFrame m #[(.ref o0), (.double u1), (.double u2)] 5)) t := fun t k => pre3 t (by
    show Steps p.tables e below (T2.setTop (mkF m 4 #[.val (.ref o0), .val (.double u1), .second, .val (.double u2), .second] [])) _
    refine XS.aloadN X2.here hx rfl (hb hby d2_4) rfl rfl ?_
    show Steps p.tables e below (T2.setTop (mkF m 5 #[.val (.ref o0), .val (.double u1), .second, .val (.double u2), .second] [(.ref o0)])) _
    refine XS.dloadN X2.here hx rfl (hb hby d2_5) rfl ?_
    exact k)
  obtain ⟨T5, h5, X5, e5, W5, st5⟩ := putF X2 hx hZ hown (host := "") (Or.inl (hw _ (List.mem_of_getElem? (i := 20) rfl))) Via.refl e2 I1 I0 (Or.inr ⟨(hw _ (List.mem_of_getElem? (i := 21) rfl)), rfl, hnm⟩) (hw _ (List.mem_of_getElem? (i := 7) rfl)) (ty := .double) (by decide) rfl rfl (g := (mkF m 6 #[.val (.ref o0), .val (.double u1), .second, .val (.double u2), .second] [(.double u1), (.ref o0)])) rfl rfl (hb hby d2_6)
  have N5 := Fr.snoc X5 N2 gw_o0
  have K5 : Keep h0 h5 [o0] := K0.wr W5 (Or.inl (List.mem_of_getElem? (i := 0) rfl))
  have Z5 : n0 ≤ h5.size := Nat.le_trans Z0 (Keep.of_wr W5).1
  have x6 := I0.wr W5
  have x7 := I1.same W5
  have x8 := I2.other W5 (Or.inr (slot_ne (Or.inr (hw _ (List.mem_of_getElem? (i := 23) rfl))) (Or.inr (hw _ (List.mem_of_getElem? (i := 21) rfl))) (by decide) (t := .double) (t' := .double) (by decide) (by decide)))
  have pre9 : ∀ t, Steps p.tables e below (T5.setTop (mkF m 9 #[.val (.ref o0), .val (.double u1), .second, .val (.double u2), .second] [])) t → Steps p.tables e below (s₁.setTop (entryFrame m #[(.ref o0), (.double u1), (.double u2)] 5)) t := fun t k => pre4 t (st5 _ k)
  have pre10 : ∀ t, Steps p.tables e below (T5.setTop (mkF m 11 #[.val (.ref o0), .val (.double u1), .second, .val (.double u2), .second] [(.double u2), (.ref o0)])) t → Steps p.tables e below (s₁.setTop (entryFrame m #[(.ref o0), (.double u1), (.double u2)] 5)) t := fun t k => pre9 t (by
    show Steps p.tables e below (T5.setTop (mkF m 9 #[.val (.ref o0), .val (.double u1), .second, .val (.double u2), .second] [])) _
    refine XS.aloadN X5.here hx rfl (hb hby d2_9) rfl rfl ?_
    show Steps p.tables e below (T5.setTop (mkF m 10 #[.val (.ref o0), .val (.double u1), .second, .val (.double u2), .second] [(.ref o0)])) _
    refine XS.dloadN X5.here hx rfl (hb hby d2_10) rfl ?_
    exact k)
  obtain ⟨T11, h11, X11, e11, W11, st11⟩ := putF X5 hx hZ hown (host := "") (Or.inl (hw _ (List.mem_of_getElem? (i := 22) rfl))) Via.refl e5 x8 x6 (Or.inr ⟨(hw _ (List.mem_of_getElem? (i := 23) rfl)), rfl, hnm⟩) (hw _ (List.mem_of_getElem? (i := 7) rfl)) (ty := .double) (by decide) rfl rfl (g := (mkF m 11 #[.val (.ref o0), .val (.double u1), .second, .val (.double u2), .second] [(.double u2), (.ref o0)])) rfl rfl (hb hby d2_11)
  have N11 := Fr.snoc X11 N5 gw_o0
  have K11 : Keep h0 h11 [o0] := K5.wr W11 (Or.inl (List.mem_of_getElem? (i := 0) rfl))
  have Z11 : n0 ≤ h11.size := Nat.le_trans Z5 (Keep.of_wr W11).1
  have x12 := x6.wr W11
  have x13 := x7.other W11 (Or.inr (slot_ne (Or.inr (hw _ (List.mem_of_getElem? (i := 21) rfl))) (Or.inr (hw _ (List.mem_of_getElem? (i := 23) rfl))) (by decide) (t := .double) (t' := .double) (by decide) (by decide)))
  have x14 := x8.same W11
  have pre15 : ∀ t, Steps p.tables e below (T11.setTop (mkF m 14 #[.val (.ref o0), .val (.double u1), .second, .val (.double u2), .second] [])) t → Steps p.tables e below (s₁.setTop (entryFrame m #[(.ref o0), (.double u1), (.double u2)] 5)) t := fun t k => pre10 t (st11 _ k)
  obtain ⟨fs, hr, hrun, hended, hW, hsame⟩ := X11.leave (v := none) (fun _ => rfl)
  refine ⟨_, _, ?_, hrun, hended, _, _, rfl, ?_, ⟨_, rfl⟩, hW, hsame.mono (by decide) (by decide)⟩
  · exact pre15 _ (X11.returnOut hx Bd.returns (hb hby d2_14) hr)
  · show Q2 Z o0 u1 u2 h0 n0 _ T11.heap _
    rw [e11]
    exact ⟨rfl, N11, K11, x13, x14⟩
theorem d5_0 : decode prog_70_method_2_code 0 = .ok (.dload_n 1, 1) := by decide +kernel
theorem d5_1 : decode prog_70_method_2_code 1 = .ok (.aload_n 0, 1) := by decide +kernel
theorem d5_2 : decode prog_70_method_2_code 2 = .ok (.getfield 7, 3) := by decide +kernel
theorem d5_5 : decode prog_70_method_2_code 5 = .ok (.dcmp .l, 1) := by decide +kernel
theorem d5_6 : decode prog_70_method_2_code 6 = .ok (.ifCond .lt 16, 3) := by decide +kernel
theorem d5_9 : decode prog_70_method_2_code 9 = .ok (.dload_n 1, 1) := by decide +kernel
theorem d5_10 : decode prog_70_method_2_code 10 = .ok (.aload_n 0, 1) := by decide +kernel
theorem d5_11 : decode prog_70_method_2_code 11 = .ok (.getfield 13, 3) := by decide +kernel
theorem d5_14 : decode prog_70_method_2_code 14 = .ok (.dcmp .g, 1) := by decide +kernel
theorem d5_15 : decode prog_70_method_2_code 15 = .ok (.ifCond .gt 7, 3) := by decide +kernel
theorem d5_18 : decode prog_70_method_2_code 18 = .ok (.iconst 1, 1) := by decide +kernel
theorem d5_19 : decode prog_70_method_2_code 19 = .ok (.goto 4, 3) := by decide +kernel
theorem d5_22 : decode prog_70_method_2_code 22 = .ok (.iconst 0, 1) := by decide +kernel
theorem d5_23 : decode prog_70_method_2_code 23 = .ok (.ireturn, 1) := by decide +kernel
theorem pn_5 : plainName "com/example/modloc/modloc/spectrum/IsolationWindow" = true := by first | (simp [plainName, overriddenIn]; done) | decide +kernel
theorem ef_5 (m : MethodId) (x0 : Addr) (x1 : UInt64) : entryFrame m #[(.ref x0), (.double x1)] 3 = mkF m 0 #[.val (.ref x0), .val (.double x1), .second] [] := by first | (simp [entryFrame, mkF, argsToLocals, Value.category]; done) | rfl
def f5 (u1 : UInt64) (lo : UInt64) (hi : UInt64) : Int32 := (if (cmpValue (FP.dcmp u1 lo) .l) < (0 : Int32) then (0 : Int32) else (if (0 : Int32) < (cmpValue (FP.dcmp u1 hi) .g) then (0 : Int32) else (1 : Int32)))
set_option maxRecDepth 65536 in
set_option maxHeartbeats 40000000 in
theorem rm5 (l : Launch) (Z : State) (a0 : Array Value) (hw : ∀ d ∈ tables_1, d.before a0 Z = true) (ws : List Jvm.Cond) (o0 : Addr) (u1 : UInt64) (lo : UInt64) (hi : UInt64) (h0 : Heap) (n0 : Nat) (Z0 : n0 ≤ h0.size) (I0 : Fld Z h0 o0 "com/example/modloc/modloc/spectrum/IsolationWindow" "lowest" "D" (.double lo)) (I1 : Fld Z h0 o0 "com/example/modloc/modloc/spectrum/IsolationWindow" "highest" "D" (.double hi)) :
    MetFree l (⟨"com/example/modloc/modloc/spectrum/IsolationWindow", "holds", "(D)Z"⟩ : MethodName) (head1 (Jvm.Cond.code (⟨"com/example/modloc/modloc/spectrum/IsolationWindow", "holds", "(D)Z"⟩ : MethodName) prog_70_method_2_code 3 (some .boolean) :: ws) ({ frames := 0, cells := 0, slots := 0, locals := 0 } : Room)) (fun a U => a = #[(.ref o0), (.double u1)] ∧ Z.Warmed39 U.vm ∧ U.heap = h0) (fun _ _ _ _ _ => True) (fun _ U o U' => ∃ v L, o = .returned v ∧ QP (some (.int (f5 u1 lo hi))) h0 n0 v U'.heap L ∧ FrameEnd U o U' L ({ frames := 0, cells := 0, slots := 0, locals := 0 } : Room).cells ({ frames := 0, cells := 0, slots := 0, locals := 0 } : Room).slots) := by
  refine MetFree.of_bodySF (plainFor_of_name pn_5) hisR ?_
  intro p e s m args below meth c s₁ Bd hml0 hP hK
  obtain ⟨rfl, hZ, hh⟩ := hP
  have hx := Bd.exec
  have hby := Bd.bytes
  have hml : c.maxLocals = 3 := hml0
  have hown : s.vm.findClass "com/example/modloc/modloc/spectrum/IsolationWindow" = some m.cls := findClass_of_methodNamed Bd.named
  have hnm := (name_of_methodNamed Bd.named Bd.method).1
  have X0 : Stand p l e ({ frames := 0, cells := 0, slots := 0, locals := 0 } : Room) s m #[(.ref o0), (.double u1)] below meth c s₁ [] 0 0 := Stand.of_body Bd
  have e0 : s₁.heap = h0 := by rw [← hh, Bd.state]; rfl
  have N0 := Fr.nil n0
  have K0 : Keep h0 h0 [] := Keep.refl _ _
  have pre0 : ∀ t, Steps p.tables e below (s₁.setTop (mkF m 0 #[.val (.ref o0), .val (.double u1), .second] [])) t → Steps p.tables e below (s₁.setTop (entryFrame m #[(.ref o0), (.double u1)] 3)) t := fun t k => castTop (ef_5 m o0 u1) k
  have pre3 : ∀ t, Steps p.tables e below (s₁.setTop (mkF m 2 #[.val (.ref o0), .val (.double u1), .second] [(.ref o0), (.double u1)])) t → Steps p.tables e below (s₁.setTop (entryFrame m #[(.ref o0), (.double u1)] 3)) t := fun t k => pre0 t (by
    show Steps p.tables e below (s₁.setTop (mkF m 0 #[.val (.ref o0), .val (.double u1), .second] [])) _
    refine XS.dloadN X0.here hx rfl (hb hby d5_0) rfl ?_
    show Steps p.tables e below (s₁.setTop (mkF m 1 #[.val (.ref o0), .val (.double u1), .second] [(.double u1)])) _
    refine XS.aloadN X0.here hx rfl (hb hby d5_1) rfl rfl ?_
    exact k)
  obtain ⟨T4, X4, e4, st4⟩ := getF X0 hx hZ hown (host := "") (Or.inl (hw _ (List.mem_of_getElem? (i := 20) rfl))) Via.refl e0 I0 (g := (mkF m 2 #[.val (.ref o0), .val (.double u1), .second] [(.ref o0), (.double u1)])) rfl rfl (hb hby d5_2)
  have pre5 : ∀ t, Steps p.tables e below (T4.setTop (mkF m 5 #[.val (.ref o0), .val (.double u1), .second] [(.double lo), (.double u1)])) t → Steps p.tables e below (s₁.setTop (entryFrame m #[(.ref o0), (.double u1)] 3)) t := fun t k => pre3 t (st4 _ k)
  have pre6 : ∀ t, Steps p.tables e below (T4.setTop (mkF m 6 #[.val (.ref o0), .val (.double u1), .second] [(.int (cmpValue (FP.dcmp u1 lo) .l))])) t → Steps p.tables e below (s₁.setTop (entryFrame m #[(.ref o0), (.double u1)] 3)) t := fun t k => pre5 t (by
    show Steps p.tables e below (T4.setTop (mkF m 5 #[.val (.ref o0), .val (.double u1), .second] [(.double lo), (.double u1)])) _
    refine XS.dcmpS X4.here hx rfl (hb hby d5_5) rfl rfl ?_
    exact k)
  by_cases hc6_1 : (cmpValue (FP.dcmp u1 lo) .l) < (0 : Int32)
  · have pre7 : ∀ t, Steps p.tables e below (T4.setTop (mkF m 23 #[.val (.ref o0), .val (.double u1), .second] [(.int (0 : Int32))])) t → Steps p.tables e below (s₁.setTop (entryFrame m #[(.ref o0), (.double u1)] 3)) t := fun t k => pre6 t (by
      show Steps p.tables e below (T4.setTop (mkF m 6 #[.val (.ref o0), .val (.double u1), .second] [(.int (cmpValue (FP.dcmp u1 lo) .l))])) _
      refine XS.ifYes X4.here hx rfl (pc0 := 6) (pc' := 22) rfl (hb hby d5_6) rfl ((if0 _ _).trans (tlt hc6_1).1) (by decide) (by decide) ?_
      show Steps p.tables e below (T4.setTop (mkF m 22 #[.val (.ref o0), .val (.double u1), .second] [])) _
      refine XS.iconst X4.here hx rfl (hb hby d5_22) ?_
      exact k)
    obtain ⟨fs, hr, hrun, hended, hW, hsame⟩ := X4.leave (v := some (.int (0 : Int32))) (fun h => by rw [Bd.returns] at h; cases h)
    refine ⟨_, _, ?_, hrun, hended, _, _, rfl, ?_, ⟨_, rfl⟩, hW, hsame.mono (by decide) (by decide)⟩
    · exact pre7 _ (retN X4 hx (t := .boolean) Bd.returns (by simp) (hb hby d5_23) hr)
    · exact ⟨by simp only [f5, if_pos hc6_1], N0, e4⟩
  · have pre8 : ∀ t, Steps p.tables e below (T4.setTop (mkF m 11 #[.val (.ref o0), .val (.double u1), .second] [(.ref o0), (.double u1)])) t → Steps p.tables e below (s₁.setTop (entryFrame m #[(.ref o0), (.double u1)] 3)) t := fun t k => pre6 t (by
      show Steps p.tables e below (T4.setTop (mkF m 6 #[.val (.ref o0), .val (.double u1), .second] [(.int (cmpValue (FP.dcmp u1 lo) .l))])) _
      refine XS.ifNo X4.here hx rfl (hb hby d5_6) rfl ((if0 _ _).trans (flt hc6_1).1) ?_
      show Steps p.tables e below (T4.setTop (mkF m 9 #[.val (.ref o0), .val (.double u1), .second] [])) _
      refine XS.dloadN X4.here hx rfl (hb hby d5_9) rfl ?_
      show Steps p.tables e below (T4.setTop (mkF m 10 #[.val (.ref o0), .val (.double u1), .second] [(.double u1)])) _
      refine XS.aloadN X4.here hx rfl (hb hby d5_10) rfl rfl ?_
      exact k)
    obtain ⟨T9, X9, e9, st9⟩ := getF X4 hx hZ hown (host := "") (Or.inl (hw _ (List.mem_of_getElem? (i := 22) rfl))) Via.refl e4 I1 (g := (mkF m 11 #[.val (.ref o0), .val (.double u1), .second] [(.ref o0), (.double u1)])) rfl rfl (hb hby d5_11)
    have pre10 : ∀ t, Steps p.tables e below (T9.setTop (mkF m 14 #[.val (.ref o0), .val (.double u1), .second] [(.double hi), (.double u1)])) t → Steps p.tables e below (s₁.setTop (entryFrame m #[(.ref o0), (.double u1)] 3)) t := fun t k => pre8 t (st9 _ k)
    have pre11 : ∀ t, Steps p.tables e below (T9.setTop (mkF m 15 #[.val (.ref o0), .val (.double u1), .second] [(.int (cmpValue (FP.dcmp u1 hi) .g))])) t → Steps p.tables e below (s₁.setTop (entryFrame m #[(.ref o0), (.double u1)] 3)) t := fun t k => pre10 t (by
      show Steps p.tables e below (T9.setTop (mkF m 14 #[.val (.ref o0), .val (.double u1), .second] [(.double hi), (.double u1)])) _
      refine XS.dcmpS X9.here hx rfl (hb hby d5_14) rfl rfl ?_
      exact k)
    by_cases hc15_2 : (0 : Int32) < (cmpValue (FP.dcmp u1 hi) .g)
    · have pre12 : ∀ t, Steps p.tables e below (T9.setTop (mkF m 23 #[.val (.ref o0), .val (.double u1), .second] [(.int (0 : Int32))])) t → Steps p.tables e below (s₁.setTop (entryFrame m #[(.ref o0), (.double u1)] 3)) t := fun t k => pre11 t (by
        show Steps p.tables e below (T9.setTop (mkF m 15 #[.val (.ref o0), .val (.double u1), .second] [(.int (cmpValue (FP.dcmp u1 hi) .g))])) _
        refine XS.ifYes X9.here hx rfl (pc0 := 15) (pc' := 22) rfl (hb hby d5_15) rfl ((if0 _ _).trans (tlt hc15_2).2.2.1) (by decide) (by decide) ?_
        show Steps p.tables e below (T9.setTop (mkF m 22 #[.val (.ref o0), .val (.double u1), .second] [])) _
        refine XS.iconst X9.here hx rfl (hb hby d5_22) ?_
        exact k)
      obtain ⟨fs, hr, hrun, hended, hW, hsame⟩ := X9.leave (v := some (.int (0 : Int32))) (fun h => by rw [Bd.returns] at h; cases h)
      refine ⟨_, _, ?_, hrun, hended, _, _, rfl, ?_, ⟨_, rfl⟩, hW, hsame.mono (by decide) (by decide)⟩
      · exact pre12 _ (retN X9 hx (t := .boolean) Bd.returns (by simp) (hb hby d5_23) hr)
      · exact ⟨by simp only [f5, if_neg hc6_1, if_pos hc15_2], N0, e9⟩
    · have pre13 : ∀ t, Steps p.tables e below (T9.setTop (mkF m 23 #[.val (.ref o0), .val (.double u1), .second] [(.int (1 : Int32))])) t → Steps p.tables e below (s₁.setTop (entryFrame m #[(.ref o0), (.double u1)] 3)) t := fun t k => pre11 t (by
        show Steps p.tables e below (T9.setTop (mkF m 15 #[.val (.ref o0), .val (.double u1), .second] [(.int (cmpValue (FP.dcmp u1 hi) .g))])) _
        refine XS.ifNo X9.here hx rfl (hb hby d5_15) rfl ((if0 _ _).trans (flt hc15_2).2.2.1) ?_
        show Steps p.tables e below (T9.setTop (mkF m 18 #[.val (.ref o0), .val (.double u1), .second] [])) _
        refine XS.iconst X9.here hx rfl (hb hby d5_18) ?_
        show Steps p.tables e below (T9.setTop (mkF m 19 #[.val (.ref o0), .val (.double u1), .second] [(.int (1 : Int32))])) _
        refine XS.goto X9.here hx rfl (pc0 := 19) (pc' := 23) rfl (hb hby d5_19) (by decide) (by decide) ?_
        exact k)
      obtain ⟨fs, hr, hrun, hended, hW, hsame⟩ := X9.leave (v := some (.int (1 : Int32))) (fun h => by rw [Bd.returns] at h; cases h)
      refine ⟨_, _, ?_, hrun, hended, _, _, rfl, ?_, ⟨_, rfl⟩, hW, hsame.mono (by decide) (by decide)⟩
      · exact pre13 _ (retN X9 hx (t := .boolean) Bd.returns (by simp) (hb hby d5_23) hr)
      · exact ⟨by simp only [f5, if_neg hc6_1, if_neg hc15_2], N0, e9⟩
theorem pn_0 : plainName "com/example/modloc/modloc/spectrum/IsolationWindowHoldsPinLaw" = true := by first | (simp [plainName, overriddenIn]; done) | decide +kernel
theorem pd__II_D : parseMethodDescriptor "(II)D" = some ⟨[.int, .int], some .double⟩ := by decide +kernel
theorem pd__DD_V : parseMethodDescriptor "(DD)V" = some ⟨[.double, .double], none⟩ := by decide +kernel
theorem pd__D_Z : parseMethodDescriptor "(D)Z" = some ⟨[.double], some .boolean⟩ := by decide +kernel
theorem ef_0 (m : MethodId) (x0 : Int32) (x1 : Int32) (x2 : Int32) (x3 : Int32) : entryFrame m #[(.int x0), (.int x1), (.int x2), (.int x3)] maxLocals = mkF m 0 #[.val (.int x0), .val (.int x1), .val (.int x2), .val (.int x3), .unset, .unset, .unset, .unset, .unset, .unset, .unset, .unset, .unset, .unset, .unset, .unset, .unset, .unset, .unset, .unset, .unset] [] := by first | (simp [entryFrame, mkF, argsToLocals, Value.category, maxLocals]; done) | rfl
def v0_100_s0 (p0 : Int32) (p1 : Int32) (p2 : Int32) (p3 : Int32) : Int32 := (if (((2 : Int64) * (p2.toInt64)) + (((p3 >>> ((2 : Int32) &&& 31)) &&& (1 : Int32)).toInt64)) < (((2 : Int64) * (p0.toInt64)) + ((p3 &&& (1 : Int32)).toInt64)) then (0 : Int32) else (if (((2 : Int64) * (p1.toInt64)) + (((p3 >>> ((1 : Int32) &&& 31)) &&& (1 : Int32)).toInt64)) < (((2 : Int64) * (p2.toInt64)) + (((p3 >>> ((2 : Int32) &&& 31)) &&& (1 : Int32)).toInt64)) then (0 : Int32) else (1 : Int32)))
def f0 (p0 : Int32) (p1 : Int32) (p2 : Int32) (p3 : Int32) : Int32 := (if (f5 (f1 p2 ((p3 >>> ((2 : Int32) &&& 31)) &&& (1 : Int32))) (f1 p0 (p3 &&& (1 : Int32))) (f1 p1 ((p3 >>> ((1 : Int32) &&& 31)) &&& (1 : Int32)))) = (v0_100_s0 p0 p1 p2 p3) then (1 : Int32) else (0 : Int32))
set_option maxRecDepth 65536 in
set_option maxHeartbeats 40000000 in
theorem rm0 (l : Launch) (Z : State) (a0 : Array Value) (hw : ∀ d ∈ tables_1, d.before a0 Z = true) (ws : List Jvm.Cond) (p0 : Int32) (p1 : Int32) (p2 : Int32) (p3 : Int32) (h0 : Heap) (n0 : Nat) (Z0 : n0 ≤ h0.size) :
    MetFree l x (head1 (Jvm.Cond.code x code maxLocals ret :: ws) room_1) (fun a U => a = #[(.int p0), (.int p1), (.int p2), (.int p3)] ∧ Z.Warmed39 U.vm ∧ U.heap = h0) (fun _ _ _ _ _ => True) (fun _ U o U' => ∃ v L, o = .returned v ∧ QL (some (.int (f0 p0 p1 p2 p3))) n0 v U'.heap L ∧ FrameEnd U o U' L room_1.cells room_1.slots) := by
  refine MetFree.of_bodySF (plainFor_of_name pn_0) hisR ?_
  intro p e s m args below meth c s₁ Bd hml0 hP hK
  obtain ⟨rfl, hZ, hh⟩ := hP
  have hx := Bd.exec
  have hby := Bd.bytes
  have hml : c.maxLocals = 21 := hml0
  have hown : s.vm.findClass "com/example/modloc/modloc/spectrum/IsolationWindowHoldsPinLaw" = some m.cls := findClass_of_methodNamed Bd.named
  have hnm := (name_of_methodNamed Bd.named Bd.method).1
  have X0 : Stand p l e room_1 s m #[(.int p0), (.int p1), (.int p2), (.int p3)] below meth c s₁ [] 0 0 := Stand.of_body Bd
  have e0 : s₁.heap = h0 := by rw [← hh, Bd.state]; rfl
  have N0 := Fr.nil n0
  have K0 : Keep h0 h0 [] := Keep.refl _ _
  have pre0 : ∀ t, Steps p.tables e below (s₁.setTop (mkF m 0 #[.val (.int p0), .val (.int p1), .val (.int p2), .val (.int p3), .unset, .unset, .unset, .unset, .unset, .unset, .unset, .unset, .unset, .unset, .unset, .unset, .unset, .unset, .unset, .unset, .unset] [])) t → Steps p.tables e below (s₁.setTop (entryFrame m #[(.int p0), (.int p1), (.int p2), (.int p3)] maxLocals)) t := fun t k => castTop (ef_0 m p0 p1 p2 p3) k
  have pre4 : ∀ t, Steps p.tables e below (s₁.setTop (mkF m 22 #[.val (.int p0), .val (.int p1), .val (.int p2), .val (.int p3), .val (.int (p3 &&& (1 : Int32))), .val (.int ((p3 >>> ((1 : Int32) &&& 31)) &&& (1 : Int32))), .val (.int ((p3 >>> ((2 : Int32) &&& 31)) &&& (1 : Int32))), .unset, .unset, .unset, .unset, .unset, .unset, .unset, .unset, .unset, .unset, .unset, .unset, .unset, .unset] [(.int (p3 &&& (1 : Int32))), (.int p0)])) t → Steps p.tables e below (s₁.setTop (entryFrame m #[(.int p0), (.int p1), (.int p2), (.int p3)] maxLocals)) t := fun t k => pre0 t (by
    show Steps p.tables e below (s₁.setTop (mkF m 0 #[.val (.int p0), .val (.int p1), .val (.int p2), .val (.int p3), .unset, .unset, .unset, .unset, .unset, .unset, .unset, .unset, .unset, .unset, .unset, .unset, .unset, .unset, .unset, .unset, .unset] [])) _
    refine XS.iloadN X0.here hx rfl (hb hby at_0) rfl ?_
    show Steps p.tables e below (s₁.setTop (mkF m 1 #[.val (.int p0), .val (.int p1), .val (.int p2), .val (.int p3), .unset, .unset, .unset, .unset, .unset, .unset, .unset, .unset, .unset, .unset, .unset, .unset, .unset, .unset, .unset, .unset, .unset] [(.int p3)])) _
    refine XS.iconst X0.here hx rfl (hb hby at_1) ?_
    show Steps p.tables e below (s₁.setTop (mkF m 2 #[.val (.int p0), .val (.int p1), .val (.int p2), .val (.int p3), .unset, .unset, .unset, .unset, .unset, .unset, .unset, .unset, .unset, .unset, .unset, .unset, .unset, .unset, .unset, .unset, .unset] [(.int (1 : Int32)), (.int p3)])) _
    refine XS.iand X0.here hx rfl (hb hby at_2) rfl ?_
    show Steps p.tables e below (s₁.setTop (mkF m 3 #[.val (.int p0), .val (.int p1), .val (.int p2), .val (.int p3), .unset, .unset, .unset, .unset, .unset, .unset, .unset, .unset, .unset, .unset, .unset, .unset, .unset, .unset, .unset, .unset, .unset] [(.int (p3 &&& (1 : Int32)))])) _
    refine XS.istore X0.here hx rfl (hb hby at_3) rfl (l' := #[.val (.int p0), .val (.int p1), .val (.int p2), .val (.int p3), .val (.int (p3 &&& (1 : Int32))), .unset, .unset, .unset, .unset, .unset, .unset, .unset, .unset, .unset, .unset, .unset, .unset, .unset, .unset, .unset, .unset]) rfl ?_
    show Steps p.tables e below (s₁.setTop (mkF m 5 #[.val (.int p0), .val (.int p1), .val (.int p2), .val (.int p3), .val (.int (p3 &&& (1 : Int32))), .unset, .unset, .unset, .unset, .unset, .unset, .unset, .unset, .unset, .unset, .unset, .unset, .unset, .unset, .unset, .unset] [])) _
    refine XS.iloadN X0.here hx rfl (hb hby at_5) rfl ?_
    show Steps p.tables e below (s₁.setTop (mkF m 6 #[.val (.int p0), .val (.int p1), .val (.int p2), .val (.int p3), .val (.int (p3 &&& (1 : Int32))), .unset, .unset, .unset, .unset, .unset, .unset, .unset, .unset, .unset, .unset, .unset, .unset, .unset, .unset, .unset, .unset] [(.int p3)])) _
    refine XS.iconst X0.here hx rfl (hb hby at_6) ?_
    show Steps p.tables e below (s₁.setTop (mkF m 7 #[.val (.int p0), .val (.int p1), .val (.int p2), .val (.int p3), .val (.int (p3 &&& (1 : Int32))), .unset, .unset, .unset, .unset, .unset, .unset, .unset, .unset, .unset, .unset, .unset, .unset, .unset, .unset, .unset, .unset] [(.int (1 : Int32)), (.int p3)])) _
    refine XS.ishr X0.here hx rfl (hb hby at_7) rfl ?_
    show Steps p.tables e below (s₁.setTop (mkF m 8 #[.val (.int p0), .val (.int p1), .val (.int p2), .val (.int p3), .val (.int (p3 &&& (1 : Int32))), .unset, .unset, .unset, .unset, .unset, .unset, .unset, .unset, .unset, .unset, .unset, .unset, .unset, .unset, .unset, .unset] [(.int (p3 >>> ((1 : Int32) &&& 31)))])) _
    refine XS.iconst X0.here hx rfl (hb hby at_8) ?_
    show Steps p.tables e below (s₁.setTop (mkF m 9 #[.val (.int p0), .val (.int p1), .val (.int p2), .val (.int p3), .val (.int (p3 &&& (1 : Int32))), .unset, .unset, .unset, .unset, .unset, .unset, .unset, .unset, .unset, .unset, .unset, .unset, .unset, .unset, .unset, .unset] [(.int (1 : Int32)), (.int (p3 >>> ((1 : Int32) &&& 31)))])) _
    refine XS.iand X0.here hx rfl (hb hby at_9) rfl ?_
    show Steps p.tables e below (s₁.setTop (mkF m 10 #[.val (.int p0), .val (.int p1), .val (.int p2), .val (.int p3), .val (.int (p3 &&& (1 : Int32))), .unset, .unset, .unset, .unset, .unset, .unset, .unset, .unset, .unset, .unset, .unset, .unset, .unset, .unset, .unset, .unset] [(.int ((p3 >>> ((1 : Int32) &&& 31)) &&& (1 : Int32)))])) _
    refine XS.istore X0.here hx rfl (hb hby at_10) rfl (l' := #[.val (.int p0), .val (.int p1), .val (.int p2), .val (.int p3), .val (.int (p3 &&& (1 : Int32))), .val (.int ((p3 >>> ((1 : Int32) &&& 31)) &&& (1 : Int32))), .unset, .unset, .unset, .unset, .unset, .unset, .unset, .unset, .unset, .unset, .unset, .unset, .unset, .unset, .unset]) rfl ?_
    show Steps p.tables e below (s₁.setTop (mkF m 12 #[.val (.int p0), .val (.int p1), .val (.int p2), .val (.int p3), .val (.int (p3 &&& (1 : Int32))), .val (.int ((p3 >>> ((1 : Int32) &&& 31)) &&& (1 : Int32))), .unset, .unset, .unset, .unset, .unset, .unset, .unset, .unset, .unset, .unset, .unset, .unset, .unset, .unset, .unset] [])) _
    refine XS.iloadN X0.here hx rfl (hb hby at_12) rfl ?_
    show Steps p.tables e below (s₁.setTop (mkF m 13 #[.val (.int p0), .val (.int p1), .val (.int p2), .val (.int p3), .val (.int (p3 &&& (1 : Int32))), .val (.int ((p3 >>> ((1 : Int32) &&& 31)) &&& (1 : Int32))), .unset, .unset, .unset, .unset, .unset, .unset, .unset, .unset, .unset, .unset, .unset, .unset, .unset, .unset, .unset] [(.int p3)])) _
    refine XS.iconst X0.here hx rfl (hb hby at_13) ?_
    show Steps p.tables e below (s₁.setTop (mkF m 14 #[.val (.int p0), .val (.int p1), .val (.int p2), .val (.int p3), .val (.int (p3 &&& (1 : Int32))), .val (.int ((p3 >>> ((1 : Int32) &&& 31)) &&& (1 : Int32))), .unset, .unset, .unset, .unset, .unset, .unset, .unset, .unset, .unset, .unset, .unset, .unset, .unset, .unset, .unset] [(.int (2 : Int32)), (.int p3)])) _
    refine XS.ishr X0.here hx rfl (hb hby at_14) rfl ?_
    show Steps p.tables e below (s₁.setTop (mkF m 15 #[.val (.int p0), .val (.int p1), .val (.int p2), .val (.int p3), .val (.int (p3 &&& (1 : Int32))), .val (.int ((p3 >>> ((1 : Int32) &&& 31)) &&& (1 : Int32))), .unset, .unset, .unset, .unset, .unset, .unset, .unset, .unset, .unset, .unset, .unset, .unset, .unset, .unset, .unset] [(.int (p3 >>> ((2 : Int32) &&& 31)))])) _
    refine XS.iconst X0.here hx rfl (hb hby at_15) ?_
    show Steps p.tables e below (s₁.setTop (mkF m 16 #[.val (.int p0), .val (.int p1), .val (.int p2), .val (.int p3), .val (.int (p3 &&& (1 : Int32))), .val (.int ((p3 >>> ((1 : Int32) &&& 31)) &&& (1 : Int32))), .unset, .unset, .unset, .unset, .unset, .unset, .unset, .unset, .unset, .unset, .unset, .unset, .unset, .unset, .unset] [(.int (1 : Int32)), (.int (p3 >>> ((2 : Int32) &&& 31)))])) _
    refine XS.iand X0.here hx rfl (hb hby at_16) rfl ?_
    show Steps p.tables e below (s₁.setTop (mkF m 17 #[.val (.int p0), .val (.int p1), .val (.int p2), .val (.int p3), .val (.int (p3 &&& (1 : Int32))), .val (.int ((p3 >>> ((1 : Int32) &&& 31)) &&& (1 : Int32))), .unset, .unset, .unset, .unset, .unset, .unset, .unset, .unset, .unset, .unset, .unset, .unset, .unset, .unset, .unset] [(.int ((p3 >>> ((2 : Int32) &&& 31)) &&& (1 : Int32)))])) _
    refine XS.istore X0.here hx rfl (hb hby at_17) rfl (l' := #[.val (.int p0), .val (.int p1), .val (.int p2), .val (.int p3), .val (.int (p3 &&& (1 : Int32))), .val (.int ((p3 >>> ((1 : Int32) &&& 31)) &&& (1 : Int32))), .val (.int ((p3 >>> ((2 : Int32) &&& 31)) &&& (1 : Int32))), .unset, .unset, .unset, .unset, .unset, .unset, .unset, .unset, .unset, .unset, .unset, .unset, .unset, .unset]) rfl ?_
    show Steps p.tables e below (s₁.setTop (mkF m 19 #[.val (.int p0), .val (.int p1), .val (.int p2), .val (.int p3), .val (.int (p3 &&& (1 : Int32))), .val (.int ((p3 >>> ((1 : Int32) &&& 31)) &&& (1 : Int32))), .val (.int ((p3 >>> ((2 : Int32) &&& 31)) &&& (1 : Int32))), .unset, .unset, .unset, .unset, .unset, .unset, .unset, .unset, .unset, .unset, .unset, .unset, .unset, .unset] [])) _
    refine XS.iloadN X0.here hx rfl (hb hby at_19) rfl ?_
    show Steps p.tables e below (s₁.setTop (mkF m 20 #[.val (.int p0), .val (.int p1), .val (.int p2), .val (.int p3), .val (.int (p3 &&& (1 : Int32))), .val (.int ((p3 >>> ((1 : Int32) &&& 31)) &&& (1 : Int32))), .val (.int ((p3 >>> ((2 : Int32) &&& 31)) &&& (1 : Int32))), .unset, .unset, .unset, .unset, .unset, .unset, .unset, .unset, .unset, .unset, .unset, .unset, .unset, .unset] [(.int p0)])) _
    refine XS.iload X0.here hx rfl (hb hby at_20) rfl ?_
    exact k)
  obtain ⟨_, _, ⟨T5, L5, k5, n5⟩, -, X5, ⟨Lc5, hQ5, l5, y5, z5⟩, st5⟩ := Jvm.LawKit.callS X0 hx (y := (⟨"com/example/modloc/modloc/spectrum/IsolationWindowHoldsPinLaw", "half", "(II)D"⟩ : MethodName)) hown (mvT hZ (hw _ (List.mem_of_getElem? (i := 0) rfl))) (mvT hZ (hw _ (List.mem_of_getElem? (i := 1) rfl))) (mvT hZ (hw _ (List.mem_of_getElem? (i := 2) rfl))) (mvT hZ (hw _ (List.mem_of_getElem? (i := 3) rfl))) (by decide) (backOf (W := 0) (rm1 l Z a0 hw [] p0 (p3 &&& (1 : Int32)) h0 n0 Z0) hZ (hw _ (List.mem_of_getElem? (i := 3) rfl)) (hw _ (List.mem_of_getElem? (i := 2) rfl)) (by decide) (by decide)) (g := (mkF m 22 #[.val (.int p0), .val (.int p1), .val (.int p2), .val (.int p3), .val (.int (p3 &&& (1 : Int32))), .val (.int ((p3 >>> ((1 : Int32) &&& 31)) &&& (1 : Int32))), .val (.int ((p3 >>> ((2 : Int32) &&& 31)) &&& (1 : Int32))), .unset, .unset, .unset, .unset, .unset, .unset, .unset, .unset, .unset, .unset, .unset, .unset, .unset, .unset] [(.int (p3 &&& (1 : Int32))), (.int p0)])) rfl (by rw [hml]; rfl) (argsL := [(.int p0), (.int (p3 &&& (1 : Int32)))]) (rest := []) (lenOf pd__II_D rfl) rfl (by show 2 * 0 + _ ≤ _; exact Nat.le_of_eq rfl) (hb hby at_22) (fun _ _ => ⟨rfl, e0, (by decide : 0 + 0 ≤ _), (by decide : 0 + 0 ≤ _)⟩)
  dsimp only [Pt.U, Pt.locs, Pt.cells, Pt.slots] at X5 l5 y5 z5 st5 hQ5
  subst l5 y5 z5
  obtain ⟨rfl, Nq5, e5⟩ := hQ5
  have N5 := Fr.app N0 Nq5
  have pre6 : ∀ t, Steps p.tables e below (T5.setTop (mkF m 25 #[.val (.int p0), .val (.int p1), .val (.int p2), .val (.int p3), .val (.int (p3 &&& (1 : Int32))), .val (.int ((p3 >>> ((1 : Int32) &&& 31)) &&& (1 : Int32))), .val (.int ((p3 >>> ((2 : Int32) &&& 31)) &&& (1 : Int32))), .unset, .unset, .unset, .unset, .unset, .unset, .unset, .unset, .unset, .unset, .unset, .unset, .unset, .unset] [(.double (f1 p0 (p3 &&& (1 : Int32))))])) t → Steps p.tables e below (s₁.setTop (entryFrame m #[(.int p0), (.int p1), (.int p2), (.int p3)] maxLocals)) t := fun t k => pre4 t (st5 _ k)
  have pre7 : ∀ t, Steps p.tables e below (T5.setTop (mkF m 30 #[.val (.int p0), .val (.int p1), .val (.int p2), .val (.int p3), .val (.int (p3 &&& (1 : Int32))), .val (.int ((p3 >>> ((1 : Int32) &&& 31)) &&& (1 : Int32))), .val (.int ((p3 >>> ((2 : Int32) &&& 31)) &&& (1 : Int32))), .val (.double (f1 p0 (p3 &&& (1 : Int32)))), .second, .unset, .unset, .unset, .unset, .unset, .unset, .unset, .unset, .unset, .unset, .unset, .unset] [(.int ((p3 >>> ((1 : Int32) &&& 31)) &&& (1 : Int32))), (.int p1)])) t → Steps p.tables e below (s₁.setTop (entryFrame m #[(.int p0), (.int p1), (.int p2), (.int p3)] maxLocals)) t := fun t k => pre6 t (by
    show Steps p.tables e below (T5.setTop (mkF m 25 #[.val (.int p0), .val (.int p1), .val (.int p2), .val (.int p3), .val (.int (p3 &&& (1 : Int32))), .val (.int ((p3 >>> ((1 : Int32) &&& 31)) &&& (1 : Int32))), .val (.int ((p3 >>> ((2 : Int32) &&& 31)) &&& (1 : Int32))), .unset, .unset, .unset, .unset, .unset, .unset, .unset, .unset, .unset, .unset, .unset, .unset, .unset, .unset] [(.double (f1 p0 (p3 &&& (1 : Int32))))])) _
    refine XS.dstore X5.here hx rfl (hb hby at_25) rfl (l' := #[.val (.int p0), .val (.int p1), .val (.int p2), .val (.int p3), .val (.int (p3 &&& (1 : Int32))), .val (.int ((p3 >>> ((1 : Int32) &&& 31)) &&& (1 : Int32))), .val (.int ((p3 >>> ((2 : Int32) &&& 31)) &&& (1 : Int32))), .val (.double (f1 p0 (p3 &&& (1 : Int32)))), .second, .unset, .unset, .unset, .unset, .unset, .unset, .unset, .unset, .unset, .unset, .unset, .unset]) rfl ?_
    show Steps p.tables e below (T5.setTop (mkF m 27 #[.val (.int p0), .val (.int p1), .val (.int p2), .val (.int p3), .val (.int (p3 &&& (1 : Int32))), .val (.int ((p3 >>> ((1 : Int32) &&& 31)) &&& (1 : Int32))), .val (.int ((p3 >>> ((2 : Int32) &&& 31)) &&& (1 : Int32))), .val (.double (f1 p0 (p3 &&& (1 : Int32)))), .second, .unset, .unset, .unset, .unset, .unset, .unset, .unset, .unset, .unset, .unset, .unset, .unset] [])) _
    refine XS.iloadN X5.here hx rfl (hb hby at_27) rfl ?_
    show Steps p.tables e below (T5.setTop (mkF m 28 #[.val (.int p0), .val (.int p1), .val (.int p2), .val (.int p3), .val (.int (p3 &&& (1 : Int32))), .val (.int ((p3 >>> ((1 : Int32) &&& 31)) &&& (1 : Int32))), .val (.int ((p3 >>> ((2 : Int32) &&& 31)) &&& (1 : Int32))), .val (.double (f1 p0 (p3 &&& (1 : Int32)))), .second, .unset, .unset, .unset, .unset, .unset, .unset, .unset, .unset, .unset, .unset, .unset, .unset] [(.int p1)])) _
    refine XS.iload X5.here hx rfl (hb hby at_28) rfl ?_
    exact k)
  obtain ⟨_, _, ⟨T8, L8, k8, n8⟩, -, X8, ⟨Lc8, hQ8, l8, y8, z8⟩, st8⟩ := Jvm.LawKit.callS X5 hx (y := (⟨"com/example/modloc/modloc/spectrum/IsolationWindowHoldsPinLaw", "half", "(II)D"⟩ : MethodName)) hown (mvT hZ (hw _ (List.mem_of_getElem? (i := 0) rfl))) (mvT hZ (hw _ (List.mem_of_getElem? (i := 1) rfl))) (mvT hZ (hw _ (List.mem_of_getElem? (i := 2) rfl))) (mvT hZ (hw _ (List.mem_of_getElem? (i := 3) rfl))) (by decide) (backOf (W := 0) (rm1 l Z a0 hw [] p1 ((p3 >>> ((1 : Int32) &&& 31)) &&& (1 : Int32)) h0 n0 Z0) hZ (hw _ (List.mem_of_getElem? (i := 3) rfl)) (hw _ (List.mem_of_getElem? (i := 2) rfl)) (by decide) (by decide)) (g := (mkF m 30 #[.val (.int p0), .val (.int p1), .val (.int p2), .val (.int p3), .val (.int (p3 &&& (1 : Int32))), .val (.int ((p3 >>> ((1 : Int32) &&& 31)) &&& (1 : Int32))), .val (.int ((p3 >>> ((2 : Int32) &&& 31)) &&& (1 : Int32))), .val (.double (f1 p0 (p3 &&& (1 : Int32)))), .second, .unset, .unset, .unset, .unset, .unset, .unset, .unset, .unset, .unset, .unset, .unset, .unset] [(.int ((p3 >>> ((1 : Int32) &&& 31)) &&& (1 : Int32))), (.int p1)])) rfl (by rw [hml]; rfl) (argsL := [(.int p1), (.int ((p3 >>> ((1 : Int32) &&& 31)) &&& (1 : Int32)))]) (rest := []) (lenOf pd__II_D rfl) rfl (by show 2 * 0 + _ ≤ _; exact Nat.le_of_eq rfl) (hb hby at_30) (fun _ _ => ⟨rfl, e5, (by decide : 0 + 0 ≤ _), (by decide : 0 + 0 ≤ _)⟩)
  dsimp only [Pt.U, Pt.locs, Pt.cells, Pt.slots] at X8 l8 y8 z8 st8 hQ8
  subst l8 y8 z8
  obtain ⟨rfl, Nq8, e8⟩ := hQ8
  have N8 := Fr.app N5 Nq8
  have pre9 : ∀ t, Steps p.tables e below (T8.setTop (mkF m 33 #[.val (.int p0), .val (.int p1), .val (.int p2), .val (.int p3), .val (.int (p3 &&& (1 : Int32))), .val (.int ((p3 >>> ((1 : Int32) &&& 31)) &&& (1 : Int32))), .val (.int ((p3 >>> ((2 : Int32) &&& 31)) &&& (1 : Int32))), .val (.double (f1 p0 (p3 &&& (1 : Int32)))), .second, .unset, .unset, .unset, .unset, .unset, .unset, .unset, .unset, .unset, .unset, .unset, .unset] [(.double (f1 p1 ((p3 >>> ((1 : Int32) &&& 31)) &&& (1 : Int32))))])) t → Steps p.tables e below (s₁.setTop (entryFrame m #[(.int p0), (.int p1), (.int p2), (.int p3)] maxLocals)) t := fun t k => pre7 t (st8 _ k)
  have pre10 : ∀ t, Steps p.tables e below (T8.setTop (mkF m 38 #[.val (.int p0), .val (.int p1), .val (.int p2), .val (.int p3), .val (.int (p3 &&& (1 : Int32))), .val (.int ((p3 >>> ((1 : Int32) &&& 31)) &&& (1 : Int32))), .val (.int ((p3 >>> ((2 : Int32) &&& 31)) &&& (1 : Int32))), .val (.double (f1 p0 (p3 &&& (1 : Int32)))), .second, .val (.double (f1 p1 ((p3 >>> ((1 : Int32) &&& 31)) &&& (1 : Int32)))), .second, .unset, .unset, .unset, .unset, .unset, .unset, .unset, .unset, .unset, .unset] [(.int ((p3 >>> ((2 : Int32) &&& 31)) &&& (1 : Int32))), (.int p2)])) t → Steps p.tables e below (s₁.setTop (entryFrame m #[(.int p0), (.int p1), (.int p2), (.int p3)] maxLocals)) t := fun t k => pre9 t (by
    show Steps p.tables e below (T8.setTop (mkF m 33 #[.val (.int p0), .val (.int p1), .val (.int p2), .val (.int p3), .val (.int (p3 &&& (1 : Int32))), .val (.int ((p3 >>> ((1 : Int32) &&& 31)) &&& (1 : Int32))), .val (.int ((p3 >>> ((2 : Int32) &&& 31)) &&& (1 : Int32))), .val (.double (f1 p0 (p3 &&& (1 : Int32)))), .second, .unset, .unset, .unset, .unset, .unset, .unset, .unset, .unset, .unset, .unset, .unset, .unset] [(.double (f1 p1 ((p3 >>> ((1 : Int32) &&& 31)) &&& (1 : Int32))))])) _
    refine XS.dstore X8.here hx rfl (hb hby at_33) rfl (l' := #[.val (.int p0), .val (.int p1), .val (.int p2), .val (.int p3), .val (.int (p3 &&& (1 : Int32))), .val (.int ((p3 >>> ((1 : Int32) &&& 31)) &&& (1 : Int32))), .val (.int ((p3 >>> ((2 : Int32) &&& 31)) &&& (1 : Int32))), .val (.double (f1 p0 (p3 &&& (1 : Int32)))), .second, .val (.double (f1 p1 ((p3 >>> ((1 : Int32) &&& 31)) &&& (1 : Int32)))), .second, .unset, .unset, .unset, .unset, .unset, .unset, .unset, .unset, .unset, .unset]) rfl ?_
    show Steps p.tables e below (T8.setTop (mkF m 35 #[.val (.int p0), .val (.int p1), .val (.int p2), .val (.int p3), .val (.int (p3 &&& (1 : Int32))), .val (.int ((p3 >>> ((1 : Int32) &&& 31)) &&& (1 : Int32))), .val (.int ((p3 >>> ((2 : Int32) &&& 31)) &&& (1 : Int32))), .val (.double (f1 p0 (p3 &&& (1 : Int32)))), .second, .val (.double (f1 p1 ((p3 >>> ((1 : Int32) &&& 31)) &&& (1 : Int32)))), .second, .unset, .unset, .unset, .unset, .unset, .unset, .unset, .unset, .unset, .unset] [])) _
    refine XS.iloadN X8.here hx rfl (hb hby at_35) rfl ?_
    show Steps p.tables e below (T8.setTop (mkF m 36 #[.val (.int p0), .val (.int p1), .val (.int p2), .val (.int p3), .val (.int (p3 &&& (1 : Int32))), .val (.int ((p3 >>> ((1 : Int32) &&& 31)) &&& (1 : Int32))), .val (.int ((p3 >>> ((2 : Int32) &&& 31)) &&& (1 : Int32))), .val (.double (f1 p0 (p3 &&& (1 : Int32)))), .second, .val (.double (f1 p1 ((p3 >>> ((1 : Int32) &&& 31)) &&& (1 : Int32)))), .second, .unset, .unset, .unset, .unset, .unset, .unset, .unset, .unset, .unset, .unset] [(.int p2)])) _
    refine XS.iload X8.here hx rfl (hb hby at_36) rfl ?_
    exact k)
  obtain ⟨_, _, ⟨T11, L11, k11, n11⟩, -, X11, ⟨Lc11, hQ11, l11, y11, z11⟩, st11⟩ := Jvm.LawKit.callS X8 hx (y := (⟨"com/example/modloc/modloc/spectrum/IsolationWindowHoldsPinLaw", "half", "(II)D"⟩ : MethodName)) hown (mvT hZ (hw _ (List.mem_of_getElem? (i := 0) rfl))) (mvT hZ (hw _ (List.mem_of_getElem? (i := 1) rfl))) (mvT hZ (hw _ (List.mem_of_getElem? (i := 2) rfl))) (mvT hZ (hw _ (List.mem_of_getElem? (i := 3) rfl))) (by decide) (backOf (W := 0) (rm1 l Z a0 hw [] p2 ((p3 >>> ((2 : Int32) &&& 31)) &&& (1 : Int32)) h0 n0 Z0) hZ (hw _ (List.mem_of_getElem? (i := 3) rfl)) (hw _ (List.mem_of_getElem? (i := 2) rfl)) (by decide) (by decide)) (g := (mkF m 38 #[.val (.int p0), .val (.int p1), .val (.int p2), .val (.int p3), .val (.int (p3 &&& (1 : Int32))), .val (.int ((p3 >>> ((1 : Int32) &&& 31)) &&& (1 : Int32))), .val (.int ((p3 >>> ((2 : Int32) &&& 31)) &&& (1 : Int32))), .val (.double (f1 p0 (p3 &&& (1 : Int32)))), .second, .val (.double (f1 p1 ((p3 >>> ((1 : Int32) &&& 31)) &&& (1 : Int32)))), .second, .unset, .unset, .unset, .unset, .unset, .unset, .unset, .unset, .unset, .unset] [(.int ((p3 >>> ((2 : Int32) &&& 31)) &&& (1 : Int32))), (.int p2)])) rfl (by rw [hml]; rfl) (argsL := [(.int p2), (.int ((p3 >>> ((2 : Int32) &&& 31)) &&& (1 : Int32)))]) (rest := []) (lenOf pd__II_D rfl) rfl (by show 2 * 0 + _ ≤ _; exact Nat.le_of_eq rfl) (hb hby at_38) (fun _ _ => ⟨rfl, e8, (by decide : 0 + 0 ≤ _), (by decide : 0 + 0 ≤ _)⟩)
  dsimp only [Pt.U, Pt.locs, Pt.cells, Pt.slots] at X11 l11 y11 z11 st11 hQ11
  subst l11 y11 z11
  obtain ⟨rfl, Nq11, e11⟩ := hQ11
  have N11 := Fr.app N8 Nq11
  have pre12 : ∀ t, Steps p.tables e below (T11.setTop (mkF m 41 #[.val (.int p0), .val (.int p1), .val (.int p2), .val (.int p3), .val (.int (p3 &&& (1 : Int32))), .val (.int ((p3 >>> ((1 : Int32) &&& 31)) &&& (1 : Int32))), .val (.int ((p3 >>> ((2 : Int32) &&& 31)) &&& (1 : Int32))), .val (.double (f1 p0 (p3 &&& (1 : Int32)))), .second, .val (.double (f1 p1 ((p3 >>> ((1 : Int32) &&& 31)) &&& (1 : Int32)))), .second, .unset, .unset, .unset, .unset, .unset, .unset, .unset, .unset, .unset, .unset] [(.double (f1 p2 ((p3 >>> ((2 : Int32) &&& 31)) &&& (1 : Int32))))])) t → Steps p.tables e below (s₁.setTop (entryFrame m #[(.int p0), (.int p1), (.int p2), (.int p3)] maxLocals)) t := fun t k => pre10 t (st11 _ k)
  have pre13 : ∀ t, Steps p.tables e below (T11.setTop (mkF m 84 #[.val (.int p0), .val (.int p1), .val (.int p2), .val (.int p3), .val (.int (p3 &&& (1 : Int32))), .val (.int ((p3 >>> ((1 : Int32) &&& 31)) &&& (1 : Int32))), .val (.int ((p3 >>> ((2 : Int32) &&& 31)) &&& (1 : Int32))), .val (.double (f1 p0 (p3 &&& (1 : Int32)))), .second, .val (.double (f1 p1 ((p3 >>> ((1 : Int32) &&& 31)) &&& (1 : Int32)))), .second, .val (.double (f1 p2 ((p3 >>> ((2 : Int32) &&& 31)) &&& (1 : Int32)))), .second, .val (.long (((2 : Int64) * (p0.toInt64)) + ((p3 &&& (1 : Int32)).toInt64))), .second, .val (.long (((2 : Int64) * (p1.toInt64)) + (((p3 >>> ((1 : Int32) &&& 31)) &&& (1 : Int32)).toInt64))), .second, .val (.long (((2 : Int64) * (p2.toInt64)) + (((p3 >>> ((2 : Int32) &&& 31)) &&& (1 : Int32)).toInt64))), .second, .unset, .unset] [(.int (lcmpW (((2 : Int64) * (p2.toInt64)) + (((p3 >>> ((2 : Int32) &&& 31)) &&& (1 : Int32)).toInt64)) (((2 : Int64) * (p0.toInt64)) + ((p3 &&& (1 : Int32)).toInt64))))])) t → Steps p.tables e below (s₁.setTop (entryFrame m #[(.int p0), (.int p1), (.int p2), (.int p3)] maxLocals)) t := fun t k => pre12 t (by
    show Steps p.tables e below (T11.setTop (mkF m 41 #[.val (.int p0), .val (.int p1), .val (.int p2), .val (.int p3), .val (.int (p3 &&& (1 : Int32))), .val (.int ((p3 >>> ((1 : Int32) &&& 31)) &&& (1 : Int32))), .val (.int ((p3 >>> ((2 : Int32) &&& 31)) &&& (1 : Int32))), .val (.double (f1 p0 (p3 &&& (1 : Int32)))), .second, .val (.double (f1 p1 ((p3 >>> ((1 : Int32) &&& 31)) &&& (1 : Int32)))), .second, .unset, .unset, .unset, .unset, .unset, .unset, .unset, .unset, .unset, .unset] [(.double (f1 p2 ((p3 >>> ((2 : Int32) &&& 31)) &&& (1 : Int32))))])) _
    refine XS.dstore X11.here hx rfl (hb hby at_41) rfl (l' := #[.val (.int p0), .val (.int p1), .val (.int p2), .val (.int p3), .val (.int (p3 &&& (1 : Int32))), .val (.int ((p3 >>> ((1 : Int32) &&& 31)) &&& (1 : Int32))), .val (.int ((p3 >>> ((2 : Int32) &&& 31)) &&& (1 : Int32))), .val (.double (f1 p0 (p3 &&& (1 : Int32)))), .second, .val (.double (f1 p1 ((p3 >>> ((1 : Int32) &&& 31)) &&& (1 : Int32)))), .second, .val (.double (f1 p2 ((p3 >>> ((2 : Int32) &&& 31)) &&& (1 : Int32)))), .second, .unset, .unset, .unset, .unset, .unset, .unset, .unset, .unset]) rfl ?_
    show Steps p.tables e below (T11.setTop (mkF m 43 #[.val (.int p0), .val (.int p1), .val (.int p2), .val (.int p3), .val (.int (p3 &&& (1 : Int32))), .val (.int ((p3 >>> ((1 : Int32) &&& 31)) &&& (1 : Int32))), .val (.int ((p3 >>> ((2 : Int32) &&& 31)) &&& (1 : Int32))), .val (.double (f1 p0 (p3 &&& (1 : Int32)))), .second, .val (.double (f1 p1 ((p3 >>> ((1 : Int32) &&& 31)) &&& (1 : Int32)))), .second, .val (.double (f1 p2 ((p3 >>> ((2 : Int32) &&& 31)) &&& (1 : Int32)))), .second, .unset, .unset, .unset, .unset, .unset, .unset, .unset, .unset] [])) _
    refine X11.ldc2Long hx hown (mvT hZ (hw _ (List.mem_of_getElem? (i := 5) rfl))) (g := (mkF m 43 #[.val (.int p0), .val (.int p1), .val (.int p2), .val (.int p3), .val (.int (p3 &&& (1 : Int32))), .val (.int ((p3 >>> ((1 : Int32) &&& 31)) &&& (1 : Int32))), .val (.int ((p3 >>> ((2 : Int32) &&& 31)) &&& (1 : Int32))), .val (.double (f1 p0 (p3 &&& (1 : Int32)))), .second, .val (.double (f1 p1 ((p3 >>> ((1 : Int32) &&& 31)) &&& (1 : Int32)))), .second, .val (.double (f1 p2 ((p3 >>> ((2 : Int32) &&& 31)) &&& (1 : Int32)))), .second, .unset, .unset, .unset, .unset, .unset, .unset, .unset, .unset] [])) rfl (hb hby at_43) _ ?_
    show Steps p.tables e below (T11.setTop (mkF m 46 #[.val (.int p0), .val (.int p1), .val (.int p2), .val (.int p3), .val (.int (p3 &&& (1 : Int32))), .val (.int ((p3 >>> ((1 : Int32) &&& 31)) &&& (1 : Int32))), .val (.int ((p3 >>> ((2 : Int32) &&& 31)) &&& (1 : Int32))), .val (.double (f1 p0 (p3 &&& (1 : Int32)))), .second, .val (.double (f1 p1 ((p3 >>> ((1 : Int32) &&& 31)) &&& (1 : Int32)))), .second, .val (.double (f1 p2 ((p3 >>> ((2 : Int32) &&& 31)) &&& (1 : Int32)))), .second, .unset, .unset, .unset, .unset, .unset, .unset, .unset, .unset] [(.long (2 : Int64))])) _
    refine XS.iloadN X11.here hx rfl (hb hby at_46) rfl ?_
    show Steps p.tables e below (T11.setTop (mkF m 47 #[.val (.int p0), .val (.int p1), .val (.int p2), .val (.int p3), .val (.int (p3 &&& (1 : Int32))), .val (.int ((p3 >>> ((1 : Int32) &&& 31)) &&& (1 : Int32))), .val (.int ((p3 >>> ((2 : Int32) &&& 31)) &&& (1 : Int32))), .val (.double (f1 p0 (p3 &&& (1 : Int32)))), .second, .val (.double (f1 p1 ((p3 >>> ((1 : Int32) &&& 31)) &&& (1 : Int32)))), .second, .val (.double (f1 p2 ((p3 >>> ((2 : Int32) &&& 31)) &&& (1 : Int32)))), .second, .unset, .unset, .unset, .unset, .unset, .unset, .unset, .unset] [(.int p0), (.long (2 : Int64))])) _
    refine XS.i2l X11.here hx rfl (hb hby at_47) rfl ?_
    show Steps p.tables e below (T11.setTop (mkF m 48 #[.val (.int p0), .val (.int p1), .val (.int p2), .val (.int p3), .val (.int (p3 &&& (1 : Int32))), .val (.int ((p3 >>> ((1 : Int32) &&& 31)) &&& (1 : Int32))), .val (.int ((p3 >>> ((2 : Int32) &&& 31)) &&& (1 : Int32))), .val (.double (f1 p0 (p3 &&& (1 : Int32)))), .second, .val (.double (f1 p1 ((p3 >>> ((1 : Int32) &&& 31)) &&& (1 : Int32)))), .second, .val (.double (f1 p2 ((p3 >>> ((2 : Int32) &&& 31)) &&& (1 : Int32)))), .second, .unset, .unset, .unset, .unset, .unset, .unset, .unset, .unset] [(.long (p0.toInt64)), (.long (2 : Int64))])) _
    refine XS.lmul X11.here hx rfl (hb hby at_48) rfl ?_
    show Steps p.tables e below (T11.setTop (mkF m 49 #[.val (.int p0), .val (.int p1), .val (.int p2), .val (.int p3), .val (.int (p3 &&& (1 : Int32))), .val (.int ((p3 >>> ((1 : Int32) &&& 31)) &&& (1 : Int32))), .val (.int ((p3 >>> ((2 : Int32) &&& 31)) &&& (1 : Int32))), .val (.double (f1 p0 (p3 &&& (1 : Int32)))), .second, .val (.double (f1 p1 ((p3 >>> ((1 : Int32) &&& 31)) &&& (1 : Int32)))), .second, .val (.double (f1 p2 ((p3 >>> ((2 : Int32) &&& 31)) &&& (1 : Int32)))), .second, .unset, .unset, .unset, .unset, .unset, .unset, .unset, .unset] [(.long ((2 : Int64) * (p0.toInt64)))])) _
    refine XS.iload X11.here hx rfl (hb hby at_49) rfl ?_
    show Steps p.tables e below (T11.setTop (mkF m 51 #[.val (.int p0), .val (.int p1), .val (.int p2), .val (.int p3), .val (.int (p3 &&& (1 : Int32))), .val (.int ((p3 >>> ((1 : Int32) &&& 31)) &&& (1 : Int32))), .val (.int ((p3 >>> ((2 : Int32) &&& 31)) &&& (1 : Int32))), .val (.double (f1 p0 (p3 &&& (1 : Int32)))), .second, .val (.double (f1 p1 ((p3 >>> ((1 : Int32) &&& 31)) &&& (1 : Int32)))), .second, .val (.double (f1 p2 ((p3 >>> ((2 : Int32) &&& 31)) &&& (1 : Int32)))), .second, .unset, .unset, .unset, .unset, .unset, .unset, .unset, .unset] [(.int (p3 &&& (1 : Int32))), (.long ((2 : Int64) * (p0.toInt64)))])) _
    refine XS.i2l X11.here hx rfl (hb hby at_51) rfl ?_
    show Steps p.tables e below (T11.setTop (mkF m 52 #[.val (.int p0), .val (.int p1), .val (.int p2), .val (.int p3), .val (.int (p3 &&& (1 : Int32))), .val (.int ((p3 >>> ((1 : Int32) &&& 31)) &&& (1 : Int32))), .val (.int ((p3 >>> ((2 : Int32) &&& 31)) &&& (1 : Int32))), .val (.double (f1 p0 (p3 &&& (1 : Int32)))), .second, .val (.double (f1 p1 ((p3 >>> ((1 : Int32) &&& 31)) &&& (1 : Int32)))), .second, .val (.double (f1 p2 ((p3 >>> ((2 : Int32) &&& 31)) &&& (1 : Int32)))), .second, .unset, .unset, .unset, .unset, .unset, .unset, .unset, .unset] [(.long ((p3 &&& (1 : Int32)).toInt64)), (.long ((2 : Int64) * (p0.toInt64)))])) _
    refine XS.ladd X11.here hx rfl (hb hby at_52) rfl ?_
    show Steps p.tables e below (T11.setTop (mkF m 53 #[.val (.int p0), .val (.int p1), .val (.int p2), .val (.int p3), .val (.int (p3 &&& (1 : Int32))), .val (.int ((p3 >>> ((1 : Int32) &&& 31)) &&& (1 : Int32))), .val (.int ((p3 >>> ((2 : Int32) &&& 31)) &&& (1 : Int32))), .val (.double (f1 p0 (p3 &&& (1 : Int32)))), .second, .val (.double (f1 p1 ((p3 >>> ((1 : Int32) &&& 31)) &&& (1 : Int32)))), .second, .val (.double (f1 p2 ((p3 >>> ((2 : Int32) &&& 31)) &&& (1 : Int32)))), .second, .unset, .unset, .unset, .unset, .unset, .unset, .unset, .unset] [(.long (((2 : Int64) * (p0.toInt64)) + ((p3 &&& (1 : Int32)).toInt64)))])) _
    refine XS.lstore X11.here hx rfl (hb hby at_53) rfl (l' := #[.val (.int p0), .val (.int p1), .val (.int p2), .val (.int p3), .val (.int (p3 &&& (1 : Int32))), .val (.int ((p3 >>> ((1 : Int32) &&& 31)) &&& (1 : Int32))), .val (.int ((p3 >>> ((2 : Int32) &&& 31)) &&& (1 : Int32))), .val (.double (f1 p0 (p3 &&& (1 : Int32)))), .second, .val (.double (f1 p1 ((p3 >>> ((1 : Int32) &&& 31)) &&& (1 : Int32)))), .second, .val (.double (f1 p2 ((p3 >>> ((2 : Int32) &&& 31)) &&& (1 : Int32)))), .second, .val (.long (((2 : Int64) * (p0.toInt64)) + ((p3 &&& (1 : Int32)).toInt64))), .second, .unset, .unset, .unset, .unset, .unset, .unset]) rfl ?_
    show Steps p.tables e below (T11.setTop (mkF m 55 #[.val (.int p0), .val (.int p1), .val (.int p2), .val (.int p3), .val (.int (p3 &&& (1 : Int32))), .val (.int ((p3 >>> ((1 : Int32) &&& 31)) &&& (1 : Int32))), .val (.int ((p3 >>> ((2 : Int32) &&& 31)) &&& (1 : Int32))), .val (.double (f1 p0 (p3 &&& (1 : Int32)))), .second, .val (.double (f1 p1 ((p3 >>> ((1 : Int32) &&& 31)) &&& (1 : Int32)))), .second, .val (.double (f1 p2 ((p3 >>> ((2 : Int32) &&& 31)) &&& (1 : Int32)))), .second, .val (.long (((2 : Int64) * (p0.toInt64)) + ((p3 &&& (1 : Int32)).toInt64))), .second, .unset, .unset, .unset, .unset, .unset, .unset] [])) _
    refine X11.ldc2Long hx hown (mvT hZ (hw _ (List.mem_of_getElem? (i := 5) rfl))) (g := (mkF m 55 #[.val (.int p0), .val (.int p1), .val (.int p2), .val (.int p3), .val (.int (p3 &&& (1 : Int32))), .val (.int ((p3 >>> ((1 : Int32) &&& 31)) &&& (1 : Int32))), .val (.int ((p3 >>> ((2 : Int32) &&& 31)) &&& (1 : Int32))), .val (.double (f1 p0 (p3 &&& (1 : Int32)))), .second, .val (.double (f1 p1 ((p3 >>> ((1 : Int32) &&& 31)) &&& (1 : Int32)))), .second, .val (.double (f1 p2 ((p3 >>> ((2 : Int32) &&& 31)) &&& (1 : Int32)))), .second, .val (.long (((2 : Int64) * (p0.toInt64)) + ((p3 &&& (1 : Int32)).toInt64))), .second, .unset, .unset, .unset, .unset, .unset, .unset] [])) rfl (hb hby at_55) _ ?_
    show Steps p.tables e below (T11.setTop (mkF m 58 #[.val (.int p0), .val (.int p1), .val (.int p2), .val (.int p3), .val (.int (p3 &&& (1 : Int32))), .val (.int ((p3 >>> ((1 : Int32) &&& 31)) &&& (1 : Int32))), .val (.int ((p3 >>> ((2 : Int32) &&& 31)) &&& (1 : Int32))), .val (.double (f1 p0 (p3 &&& (1 : Int32)))), .second, .val (.double (f1 p1 ((p3 >>> ((1 : Int32) &&& 31)) &&& (1 : Int32)))), .second, .val (.double (f1 p2 ((p3 >>> ((2 : Int32) &&& 31)) &&& (1 : Int32)))), .second, .val (.long (((2 : Int64) * (p0.toInt64)) + ((p3 &&& (1 : Int32)).toInt64))), .second, .unset, .unset, .unset, .unset, .unset, .unset] [(.long (2 : Int64))])) _
    refine XS.iloadN X11.here hx rfl (hb hby at_58) rfl ?_
    show Steps p.tables e below (T11.setTop (mkF m 59 #[.val (.int p0), .val (.int p1), .val (.int p2), .val (.int p3), .val (.int (p3 &&& (1 : Int32))), .val (.int ((p3 >>> ((1 : Int32) &&& 31)) &&& (1 : Int32))), .val (.int ((p3 >>> ((2 : Int32) &&& 31)) &&& (1 : Int32))), .val (.double (f1 p0 (p3 &&& (1 : Int32)))), .second, .val (.double (f1 p1 ((p3 >>> ((1 : Int32) &&& 31)) &&& (1 : Int32)))), .second, .val (.double (f1 p2 ((p3 >>> ((2 : Int32) &&& 31)) &&& (1 : Int32)))), .second, .val (.long (((2 : Int64) * (p0.toInt64)) + ((p3 &&& (1 : Int32)).toInt64))), .second, .unset, .unset, .unset, .unset, .unset, .unset] [(.int p1), (.long (2 : Int64))])) _
    refine XS.i2l X11.here hx rfl (hb hby at_59) rfl ?_
    show Steps p.tables e below (T11.setTop (mkF m 60 #[.val (.int p0), .val (.int p1), .val (.int p2), .val (.int p3), .val (.int (p3 &&& (1 : Int32))), .val (.int ((p3 >>> ((1 : Int32) &&& 31)) &&& (1 : Int32))), .val (.int ((p3 >>> ((2 : Int32) &&& 31)) &&& (1 : Int32))), .val (.double (f1 p0 (p3 &&& (1 : Int32)))), .second, .val (.double (f1 p1 ((p3 >>> ((1 : Int32) &&& 31)) &&& (1 : Int32)))), .second, .val (.double (f1 p2 ((p3 >>> ((2 : Int32) &&& 31)) &&& (1 : Int32)))), .second, .val (.long (((2 : Int64) * (p0.toInt64)) + ((p3 &&& (1 : Int32)).toInt64))), .second, .unset, .unset, .unset, .unset, .unset, .unset] [(.long (p1.toInt64)), (.long (2 : Int64))])) _
    refine XS.lmul X11.here hx rfl (hb hby at_60) rfl ?_
    show Steps p.tables e below (T11.setTop (mkF m 61 #[.val (.int p0), .val (.int p1), .val (.int p2), .val (.int p3), .val (.int (p3 &&& (1 : Int32))), .val (.int ((p3 >>> ((1 : Int32) &&& 31)) &&& (1 : Int32))), .val (.int ((p3 >>> ((2 : Int32) &&& 31)) &&& (1 : Int32))), .val (.double (f1 p0 (p3 &&& (1 : Int32)))), .second, .val (.double (f1 p1 ((p3 >>> ((1 : Int32) &&& 31)) &&& (1 : Int32)))), .second, .val (.double (f1 p2 ((p3 >>> ((2 : Int32) &&& 31)) &&& (1 : Int32)))), .second, .val (.long (((2 : Int64) * (p0.toInt64)) + ((p3 &&& (1 : Int32)).toInt64))), .second, .unset, .unset, .unset, .unset, .unset, .unset] [(.long ((2 : Int64) * (p1.toInt64)))])) _
    refine XS.iload X11.here hx rfl (hb hby at_61) rfl ?_
    show Steps p.tables e below (T11.setTop (mkF m 63 #[.val (.int p0), .val (.int p1), .val (.int p2), .val (.int p3), .val (.int (p3 &&& (1 : Int32))), .val (.int ((p3 >>> ((1 : Int32) &&& 31)) &&& (1 : Int32))), .val (.int ((p3 >>> ((2 : Int32) &&& 31)) &&& (1 : Int32))), .val (.double (f1 p0 (p3 &&& (1 : Int32)))), .second, .val (.double (f1 p1 ((p3 >>> ((1 : Int32) &&& 31)) &&& (1 : Int32)))), .second, .val (.double (f1 p2 ((p3 >>> ((2 : Int32) &&& 31)) &&& (1 : Int32)))), .second, .val (.long (((2 : Int64) * (p0.toInt64)) + ((p3 &&& (1 : Int32)).toInt64))), .second, .unset, .unset, .unset, .unset, .unset, .unset] [(.int ((p3 >>> ((1 : Int32) &&& 31)) &&& (1 : Int32))), (.long ((2 : Int64) * (p1.toInt64)))])) _
    refine XS.i2l X11.here hx rfl (hb hby at_63) rfl ?_
    show Steps p.tables e below (T11.setTop (mkF m 64 #[.val (.int p0), .val (.int p1), .val (.int p2), .val (.int p3), .val (.int (p3 &&& (1 : Int32))), .val (.int ((p3 >>> ((1 : Int32) &&& 31)) &&& (1 : Int32))), .val (.int ((p3 >>> ((2 : Int32) &&& 31)) &&& (1 : Int32))), .val (.double (f1 p0 (p3 &&& (1 : Int32)))), .second, .val (.double (f1 p1 ((p3 >>> ((1 : Int32) &&& 31)) &&& (1 : Int32)))), .second, .val (.double (f1 p2 ((p3 >>> ((2 : Int32) &&& 31)) &&& (1 : Int32)))), .second, .val (.long (((2 : Int64) * (p0.toInt64)) + ((p3 &&& (1 : Int32)).toInt64))), .second, .unset, .unset, .unset, .unset, .unset, .unset] [(.long (((p3 >>> ((1 : Int32) &&& 31)) &&& (1 : Int32)).toInt64)), (.long ((2 : Int64) * (p1.toInt64)))])) _
    refine XS.ladd X11.here hx rfl (hb hby at_64) rfl ?_
    show Steps p.tables e below (T11.setTop (mkF m 65 #[.val (.int p0), .val (.int p1), .val (.int p2), .val (.int p3), .val (.int (p3 &&& (1 : Int32))), .val (.int ((p3 >>> ((1 : Int32) &&& 31)) &&& (1 : Int32))), .val (.int ((p3 >>> ((2 : Int32) &&& 31)) &&& (1 : Int32))), .val (.double (f1 p0 (p3 &&& (1 : Int32)))), .second, .val (.double (f1 p1 ((p3 >>> ((1 : Int32) &&& 31)) &&& (1 : Int32)))), .second, .val (.double (f1 p2 ((p3 >>> ((2 : Int32) &&& 31)) &&& (1 : Int32)))), .second, .val (.long (((2 : Int64) * (p0.toInt64)) + ((p3 &&& (1 : Int32)).toInt64))), .second, .unset, .unset, .unset, .unset, .unset, .unset] [(.long (((2 : Int64) * (p1.toInt64)) + (((p3 >>> ((1 : Int32) &&& 31)) &&& (1 : Int32)).toInt64)))])) _
    refine XS.lstore X11.here hx rfl (hb hby at_65) rfl (l' := #[.val (.int p0), .val (.int p1), .val (.int p2), .val (.int p3), .val (.int (p3 &&& (1 : Int32))), .val (.int ((p3 >>> ((1 : Int32) &&& 31)) &&& (1 : Int32))), .val (.int ((p3 >>> ((2 : Int32) &&& 31)) &&& (1 : Int32))), .val (.double (f1 p0 (p3 &&& (1 : Int32)))), .second, .val (.double (f1 p1 ((p3 >>> ((1 : Int32) &&& 31)) &&& (1 : Int32)))), .second, .val (.double (f1 p2 ((p3 >>> ((2 : Int32) &&& 31)) &&& (1 : Int32)))), .second, .val (.long (((2 : Int64) * (p0.toInt64)) + ((p3 &&& (1 : Int32)).toInt64))), .second, .val (.long (((2 : Int64) * (p1.toInt64)) + (((p3 >>> ((1 : Int32) &&& 31)) &&& (1 : Int32)).toInt64))), .second, .unset, .unset, .unset, .unset]) rfl ?_
    show Steps p.tables e below (T11.setTop (mkF m 67 #[.val (.int p0), .val (.int p1), .val (.int p2), .val (.int p3), .val (.int (p3 &&& (1 : Int32))), .val (.int ((p3 >>> ((1 : Int32) &&& 31)) &&& (1 : Int32))), .val (.int ((p3 >>> ((2 : Int32) &&& 31)) &&& (1 : Int32))), .val (.double (f1 p0 (p3 &&& (1 : Int32)))), .second, .val (.double (f1 p1 ((p3 >>> ((1 : Int32) &&& 31)) &&& (1 : Int32)))), .second, .val (.double (f1 p2 ((p3 >>> ((2 : Int32) &&& 31)) &&& (1 : Int32)))), .second, .val (.long (((2 : Int64) * (p0.toInt64)) + ((p3 &&& (1 : Int32)).toInt64))), .second, .val (.long (((2 : Int64) * (p1.toInt64)) + (((p3 >>> ((1 : Int32) &&& 31)) &&& (1 : Int32)).toInt64))), .second, .unset, .unset, .unset, .unset] [])) _
    refine X11.ldc2Long hx hown (mvT hZ (hw _ (List.mem_of_getElem? (i := 5) rfl))) (g := (mkF m 67 #[.val (.int p0), .val (.int p1), .val (.int p2), .val (.int p3), .val (.int (p3 &&& (1 : Int32))), .val (.int ((p3 >>> ((1 : Int32) &&& 31)) &&& (1 : Int32))), .val (.int ((p3 >>> ((2 : Int32) &&& 31)) &&& (1 : Int32))), .val (.double (f1 p0 (p3 &&& (1 : Int32)))), .second, .val (.double (f1 p1 ((p3 >>> ((1 : Int32) &&& 31)) &&& (1 : Int32)))), .second, .val (.double (f1 p2 ((p3 >>> ((2 : Int32) &&& 31)) &&& (1 : Int32)))), .second, .val (.long (((2 : Int64) * (p0.toInt64)) + ((p3 &&& (1 : Int32)).toInt64))), .second, .val (.long (((2 : Int64) * (p1.toInt64)) + (((p3 >>> ((1 : Int32) &&& 31)) &&& (1 : Int32)).toInt64))), .second, .unset, .unset, .unset, .unset] [])) rfl (hb hby at_67) _ ?_
    show Steps p.tables e below (T11.setTop (mkF m 70 #[.val (.int p0), .val (.int p1), .val (.int p2), .val (.int p3), .val (.int (p3 &&& (1 : Int32))), .val (.int ((p3 >>> ((1 : Int32) &&& 31)) &&& (1 : Int32))), .val (.int ((p3 >>> ((2 : Int32) &&& 31)) &&& (1 : Int32))), .val (.double (f1 p0 (p3 &&& (1 : Int32)))), .second, .val (.double (f1 p1 ((p3 >>> ((1 : Int32) &&& 31)) &&& (1 : Int32)))), .second, .val (.double (f1 p2 ((p3 >>> ((2 : Int32) &&& 31)) &&& (1 : Int32)))), .second, .val (.long (((2 : Int64) * (p0.toInt64)) + ((p3 &&& (1 : Int32)).toInt64))), .second, .val (.long (((2 : Int64) * (p1.toInt64)) + (((p3 >>> ((1 : Int32) &&& 31)) &&& (1 : Int32)).toInt64))), .second, .unset, .unset, .unset, .unset] [(.long (2 : Int64))])) _
    refine XS.iloadN X11.here hx rfl (hb hby at_70) rfl ?_
    show Steps p.tables e below (T11.setTop (mkF m 71 #[.val (.int p0), .val (.int p1), .val (.int p2), .val (.int p3), .val (.int (p3 &&& (1 : Int32))), .val (.int ((p3 >>> ((1 : Int32) &&& 31)) &&& (1 : Int32))), .val (.int ((p3 >>> ((2 : Int32) &&& 31)) &&& (1 : Int32))), .val (.double (f1 p0 (p3 &&& (1 : Int32)))), .second, .val (.double (f1 p1 ((p3 >>> ((1 : Int32) &&& 31)) &&& (1 : Int32)))), .second, .val (.double (f1 p2 ((p3 >>> ((2 : Int32) &&& 31)) &&& (1 : Int32)))), .second, .val (.long (((2 : Int64) * (p0.toInt64)) + ((p3 &&& (1 : Int32)).toInt64))), .second, .val (.long (((2 : Int64) * (p1.toInt64)) + (((p3 >>> ((1 : Int32) &&& 31)) &&& (1 : Int32)).toInt64))), .second, .unset, .unset, .unset, .unset] [(.int p2), (.long (2 : Int64))])) _
    refine XS.i2l X11.here hx rfl (hb hby at_71) rfl ?_
    show Steps p.tables e below (T11.setTop (mkF m 72 #[.val (.int p0), .val (.int p1), .val (.int p2), .val (.int p3), .val (.int (p3 &&& (1 : Int32))), .val (.int ((p3 >>> ((1 : Int32) &&& 31)) &&& (1 : Int32))), .val (.int ((p3 >>> ((2 : Int32) &&& 31)) &&& (1 : Int32))), .val (.double (f1 p0 (p3 &&& (1 : Int32)))), .second, .val (.double (f1 p1 ((p3 >>> ((1 : Int32) &&& 31)) &&& (1 : Int32)))), .second, .val (.double (f1 p2 ((p3 >>> ((2 : Int32) &&& 31)) &&& (1 : Int32)))), .second, .val (.long (((2 : Int64) * (p0.toInt64)) + ((p3 &&& (1 : Int32)).toInt64))), .second, .val (.long (((2 : Int64) * (p1.toInt64)) + (((p3 >>> ((1 : Int32) &&& 31)) &&& (1 : Int32)).toInt64))), .second, .unset, .unset, .unset, .unset] [(.long (p2.toInt64)), (.long (2 : Int64))])) _
    refine XS.lmul X11.here hx rfl (hb hby at_72) rfl ?_
    show Steps p.tables e below (T11.setTop (mkF m 73 #[.val (.int p0), .val (.int p1), .val (.int p2), .val (.int p3), .val (.int (p3 &&& (1 : Int32))), .val (.int ((p3 >>> ((1 : Int32) &&& 31)) &&& (1 : Int32))), .val (.int ((p3 >>> ((2 : Int32) &&& 31)) &&& (1 : Int32))), .val (.double (f1 p0 (p3 &&& (1 : Int32)))), .second, .val (.double (f1 p1 ((p3 >>> ((1 : Int32) &&& 31)) &&& (1 : Int32)))), .second, .val (.double (f1 p2 ((p3 >>> ((2 : Int32) &&& 31)) &&& (1 : Int32)))), .second, .val (.long (((2 : Int64) * (p0.toInt64)) + ((p3 &&& (1 : Int32)).toInt64))), .second, .val (.long (((2 : Int64) * (p1.toInt64)) + (((p3 >>> ((1 : Int32) &&& 31)) &&& (1 : Int32)).toInt64))), .second, .unset, .unset, .unset, .unset] [(.long ((2 : Int64) * (p2.toInt64)))])) _
    refine XS.iload X11.here hx rfl (hb hby at_73) rfl ?_
    show Steps p.tables e below (T11.setTop (mkF m 75 #[.val (.int p0), .val (.int p1), .val (.int p2), .val (.int p3), .val (.int (p3 &&& (1 : Int32))), .val (.int ((p3 >>> ((1 : Int32) &&& 31)) &&& (1 : Int32))), .val (.int ((p3 >>> ((2 : Int32) &&& 31)) &&& (1 : Int32))), .val (.double (f1 p0 (p3 &&& (1 : Int32)))), .second, .val (.double (f1 p1 ((p3 >>> ((1 : Int32) &&& 31)) &&& (1 : Int32)))), .second, .val (.double (f1 p2 ((p3 >>> ((2 : Int32) &&& 31)) &&& (1 : Int32)))), .second, .val (.long (((2 : Int64) * (p0.toInt64)) + ((p3 &&& (1 : Int32)).toInt64))), .second, .val (.long (((2 : Int64) * (p1.toInt64)) + (((p3 >>> ((1 : Int32) &&& 31)) &&& (1 : Int32)).toInt64))), .second, .unset, .unset, .unset, .unset] [(.int ((p3 >>> ((2 : Int32) &&& 31)) &&& (1 : Int32))), (.long ((2 : Int64) * (p2.toInt64)))])) _
    refine XS.i2l X11.here hx rfl (hb hby at_75) rfl ?_
    show Steps p.tables e below (T11.setTop (mkF m 76 #[.val (.int p0), .val (.int p1), .val (.int p2), .val (.int p3), .val (.int (p3 &&& (1 : Int32))), .val (.int ((p3 >>> ((1 : Int32) &&& 31)) &&& (1 : Int32))), .val (.int ((p3 >>> ((2 : Int32) &&& 31)) &&& (1 : Int32))), .val (.double (f1 p0 (p3 &&& (1 : Int32)))), .second, .val (.double (f1 p1 ((p3 >>> ((1 : Int32) &&& 31)) &&& (1 : Int32)))), .second, .val (.double (f1 p2 ((p3 >>> ((2 : Int32) &&& 31)) &&& (1 : Int32)))), .second, .val (.long (((2 : Int64) * (p0.toInt64)) + ((p3 &&& (1 : Int32)).toInt64))), .second, .val (.long (((2 : Int64) * (p1.toInt64)) + (((p3 >>> ((1 : Int32) &&& 31)) &&& (1 : Int32)).toInt64))), .second, .unset, .unset, .unset, .unset] [(.long (((p3 >>> ((2 : Int32) &&& 31)) &&& (1 : Int32)).toInt64)), (.long ((2 : Int64) * (p2.toInt64)))])) _
    refine XS.ladd X11.here hx rfl (hb hby at_76) rfl ?_
    show Steps p.tables e below (T11.setTop (mkF m 77 #[.val (.int p0), .val (.int p1), .val (.int p2), .val (.int p3), .val (.int (p3 &&& (1 : Int32))), .val (.int ((p3 >>> ((1 : Int32) &&& 31)) &&& (1 : Int32))), .val (.int ((p3 >>> ((2 : Int32) &&& 31)) &&& (1 : Int32))), .val (.double (f1 p0 (p3 &&& (1 : Int32)))), .second, .val (.double (f1 p1 ((p3 >>> ((1 : Int32) &&& 31)) &&& (1 : Int32)))), .second, .val (.double (f1 p2 ((p3 >>> ((2 : Int32) &&& 31)) &&& (1 : Int32)))), .second, .val (.long (((2 : Int64) * (p0.toInt64)) + ((p3 &&& (1 : Int32)).toInt64))), .second, .val (.long (((2 : Int64) * (p1.toInt64)) + (((p3 >>> ((1 : Int32) &&& 31)) &&& (1 : Int32)).toInt64))), .second, .unset, .unset, .unset, .unset] [(.long (((2 : Int64) * (p2.toInt64)) + (((p3 >>> ((2 : Int32) &&& 31)) &&& (1 : Int32)).toInt64)))])) _
    refine XS.lstore X11.here hx rfl (hb hby at_77) rfl (l' := #[.val (.int p0), .val (.int p1), .val (.int p2), .val (.int p3), .val (.int (p3 &&& (1 : Int32))), .val (.int ((p3 >>> ((1 : Int32) &&& 31)) &&& (1 : Int32))), .val (.int ((p3 >>> ((2 : Int32) &&& 31)) &&& (1 : Int32))), .val (.double (f1 p0 (p3 &&& (1 : Int32)))), .second, .val (.double (f1 p1 ((p3 >>> ((1 : Int32) &&& 31)) &&& (1 : Int32)))), .second, .val (.double (f1 p2 ((p3 >>> ((2 : Int32) &&& 31)) &&& (1 : Int32)))), .second, .val (.long (((2 : Int64) * (p0.toInt64)) + ((p3 &&& (1 : Int32)).toInt64))), .second, .val (.long (((2 : Int64) * (p1.toInt64)) + (((p3 >>> ((1 : Int32) &&& 31)) &&& (1 : Int32)).toInt64))), .second, .val (.long (((2 : Int64) * (p2.toInt64)) + (((p3 >>> ((2 : Int32) &&& 31)) &&& (1 : Int32)).toInt64))), .second, .unset, .unset]) rfl ?_
    show Steps p.tables e below (T11.setTop (mkF m 79 #[.val (.int p0), .val (.int p1), .val (.int p2), .val (.int p3), .val (.int (p3 &&& (1 : Int32))), .val (.int ((p3 >>> ((1 : Int32) &&& 31)) &&& (1 : Int32))), .val (.int ((p3 >>> ((2 : Int32) &&& 31)) &&& (1 : Int32))), .val (.double (f1 p0 (p3 &&& (1 : Int32)))), .second, .val (.double (f1 p1 ((p3 >>> ((1 : Int32) &&& 31)) &&& (1 : Int32)))), .second, .val (.double (f1 p2 ((p3 >>> ((2 : Int32) &&& 31)) &&& (1 : Int32)))), .second, .val (.long (((2 : Int64) * (p0.toInt64)) + ((p3 &&& (1 : Int32)).toInt64))), .second, .val (.long (((2 : Int64) * (p1.toInt64)) + (((p3 >>> ((1 : Int32) &&& 31)) &&& (1 : Int32)).toInt64))), .second, .val (.long (((2 : Int64) * (p2.toInt64)) + (((p3 >>> ((2 : Int32) &&& 31)) &&& (1 : Int32)).toInt64))), .second, .unset, .unset] [])) _
    refine XS.lload X11.here hx rfl (hb hby at_79) rfl ?_
    show Steps p.tables e below (T11.setTop (mkF m 81 #[.val (.int p0), .val (.int p1), .val (.int p2), .val (.int p3), .val (.int (p3 &&& (1 : Int32))), .val (.int ((p3 >>> ((1 : Int32) &&& 31)) &&& (1 : Int32))), .val (.int ((p3 >>> ((2 : Int32) &&& 31)) &&& (1 : Int32))), .val (.double (f1 p0 (p3 &&& (1 : Int32)))), .second, .val (.double (f1 p1 ((p3 >>> ((1 : Int32) &&& 31)) &&& (1 : Int32)))), .second, .val (.double (f1 p2 ((p3 >>> ((2 : Int32) &&& 31)) &&& (1 : Int32)))), .second, .val (.long (((2 : Int64) * (p0.toInt64)) + ((p3 &&& (1 : Int32)).toInt64))), .second, .val (.long (((2 : Int64) * (p1.toInt64)) + (((p3 >>> ((1 : Int32) &&& 31)) &&& (1 : Int32)).toInt64))), .second, .val (.long (((2 : Int64) * (p2.toInt64)) + (((p3 >>> ((2 : Int32) &&& 31)) &&& (1 : Int32)).toInt64))), .second, .unset, .unset] [(.long (((2 : Int64) * (p2.toInt64)) + (((p3 >>> ((2 : Int32) &&& 31)) &&& (1 : Int32)).toInt64)))])) _
    refine XS.lload X11.here hx rfl (hb hby at_81) rfl ?_
    show Steps p.tables e below (T11.setTop (mkF m 83 #[.val (.int p0), .val (.int p1), .val (.int p2), .val (.int p3), .val (.int (p3 &&& (1 : Int32))), .val (.int ((p3 >>> ((1 : Int32) &&& 31)) &&& (1 : Int32))), .val (.int ((p3 >>> ((2 : Int32) &&& 31)) &&& (1 : Int32))), .val (.double (f1 p0 (p3 &&& (1 : Int32)))), .second, .val (.double (f1 p1 ((p3 >>> ((1 : Int32) &&& 31)) &&& (1 : Int32)))), .second, .val (.double (f1 p2 ((p3 >>> ((2 : Int32) &&& 31)) &&& (1 : Int32)))), .second, .val (.long (((2 : Int64) * (p0.toInt64)) + ((p3 &&& (1 : Int32)).toInt64))), .second, .val (.long (((2 : Int64) * (p1.toInt64)) + (((p3 >>> ((1 : Int32) &&& 31)) &&& (1 : Int32)).toInt64))), .second, .val (.long (((2 : Int64) * (p2.toInt64)) + (((p3 >>> ((2 : Int32) &&& 31)) &&& (1 : Int32)).toInt64))), .second, .unset, .unset] [(.long (((2 : Int64) * (p0.toInt64)) + ((p3 &&& (1 : Int32)).toInt64))), (.long (((2 : Int64) * (p2.toInt64)) + (((p3 >>> ((2 : Int32) &&& 31)) &&& (1 : Int32)).toInt64)))])) _
    refine XS.lcmp X11.here hx rfl (hb hby at_83) rfl ?_
    exact k)
  obtain ⟨T14, L14, X14, e14, N14, pre14⟩ : ∃ (T' : State) (L' : List Loc), Stand p l e room_1 s m #[(.int p0), (.int p1), (.int p2), (.int p3)] below meth c T' L' 0 0 ∧ T'.heap = h0 ∧ Fr n0 L' ∧ ∀ t, Steps p.tables e below (T'.setTop (mkF m 100 #[.val (.int p0), .val (.int p1), .val (.int p2), .val (.int p3), .val (.int (p3 &&& (1 : Int32))), .val (.int ((p3 >>> ((1 : Int32) &&& 31)) &&& (1 : Int32))), .val (.int ((p3 >>> ((2 : Int32) &&& 31)) &&& (1 : Int32))), .val (.double (f1 p0 (p3 &&& (1 : Int32)))), .second, .val (.double (f1 p1 ((p3 >>> ((1 : Int32) &&& 31)) &&& (1 : Int32)))), .second, .val (.double (f1 p2 ((p3 >>> ((2 : Int32) &&& 31)) &&& (1 : Int32)))), .second, .val (.long (((2 : Int64) * (p0.toInt64)) + ((p3 &&& (1 : Int32)).toInt64))), .second, .val (.long (((2 : Int64) * (p1.toInt64)) + (((p3 >>> ((1 : Int32) &&& 31)) &&& (1 : Int32)).toInt64))), .second, .val (.long (((2 : Int64) * (p2.toInt64)) + (((p3 >>> ((2 : Int32) &&& 31)) &&& (1 : Int32)).toInt64))), .second, .unset, .unset] [(.int (v0_100_s0 p0 p1 p2 p3))])) t → Steps p.tables e below (s₁.setTop (entryFrame m #[(.int p0), (.int p1), (.int p2), (.int p3)] maxLocals)) t := by
    by_cases hc84_1 : (((2 : Int64) * (p2.toInt64)) + (((p3 >>> ((2 : Int32) &&& 31)) &&& (1 : Int32)).toInt64)) < (((2 : Int64) * (p0.toInt64)) + ((p3 &&& (1 : Int32)).toInt64))
    · have pre15 : ∀ t, Steps p.tables e below (T11.setTop (mkF m 100 #[.val (.int p0), .val (.int p1), .val (.int p2), .val (.int p3), .val (.int (p3 &&& (1 : Int32))), .val (.int ((p3 >>> ((1 : Int32) &&& 31)) &&& (1 : Int32))), .val (.int ((p3 >>> ((2 : Int32) &&& 31)) &&& (1 : Int32))), .val (.double (f1 p0 (p3 &&& (1 : Int32)))), .second, .val (.double (f1 p1 ((p3 >>> ((1 : Int32) &&& 31)) &&& (1 : Int32)))), .second, .val (.double (f1 p2 ((p3 >>> ((2 : Int32) &&& 31)) &&& (1 : Int32)))), .second, .val (.long (((2 : Int64) * (p0.toInt64)) + ((p3 &&& (1 : Int32)).toInt64))), .second, .val (.long (((2 : Int64) * (p1.toInt64)) + (((p3 >>> ((1 : Int32) &&& 31)) &&& (1 : Int32)).toInt64))), .second, .val (.long (((2 : Int64) * (p2.toInt64)) + (((p3 >>> ((2 : Int32) &&& 31)) &&& (1 : Int32)).toInt64))), .second, .unset, .unset] [(.int (0 : Int32))])) t → Steps p.tables e below (s₁.setTop (entryFrame m #[(.int p0), (.int p1), (.int p2), (.int p3)] maxLocals)) t := fun t k => pre13 t (by
        show Steps p.tables e below (T11.setTop (mkF m 84 #[.val (.int p0), .val (.int p1), .val (.int p2), .val (.int p3), .val (.int (p3 &&& (1 : Int32))), .val (.int ((p3 >>> ((1 : Int32) &&& 31)) &&& (1 : Int32))), .val (.int ((p3 >>> ((2 : Int32) &&& 31)) &&& (1 : Int32))), .val (.double (f1 p0 (p3 &&& (1 : Int32)))), .second, .val (.double (f1 p1 ((p3 >>> ((1 : Int32) &&& 31)) &&& (1 : Int32)))), .second, .val (.double (f1 p2 ((p3 >>> ((2 : Int32) &&& 31)) &&& (1 : Int32)))), .second, .val (.long (((2 : Int64) * (p0.toInt64)) + ((p3 &&& (1 : Int32)).toInt64))), .second, .val (.long (((2 : Int64) * (p1.toInt64)) + (((p3 >>> ((1 : Int32) &&& 31)) &&& (1 : Int32)).toInt64))), .second, .val (.long (((2 : Int64) * (p2.toInt64)) + (((p3 >>> ((2 : Int32) &&& 31)) &&& (1 : Int32)).toInt64))), .second, .unset, .unset] [(.int (lcmpW (((2 : Int64) * (p2.toInt64)) + (((p3 >>> ((2 : Int32) &&& 31)) &&& (1 : Int32)).toInt64)) (((2 : Int64) * (p0.toInt64)) + ((p3 &&& (1 : Int32)).toInt64))))])) _
        refine XS.ifYes X11.here hx rfl (pc0 := 84) (pc' := 99) rfl (hb hby at_84) rfl ((if0 _ _).trans (tlt ((lw_lt _ _).mpr hc84_1)).1) (by decide) (by decide) ?_
        show Steps p.tables e below (T11.setTop (mkF m 99 #[.val (.int p0), .val (.int p1), .val (.int p2), .val (.int p3), .val (.int (p3 &&& (1 : Int32))), .val (.int ((p3 >>> ((1 : Int32) &&& 31)) &&& (1 : Int32))), .val (.int ((p3 >>> ((2 : Int32) &&& 31)) &&& (1 : Int32))), .val (.double (f1 p0 (p3 &&& (1 : Int32)))), .second, .val (.double (f1 p1 ((p3 >>> ((1 : Int32) &&& 31)) &&& (1 : Int32)))), .second, .val (.double (f1 p2 ((p3 >>> ((2 : Int32) &&& 31)) &&& (1 : Int32)))), .second, .val (.long (((2 : Int64) * (p0.toInt64)) + ((p3 &&& (1 : Int32)).toInt64))), .second, .val (.long (((2 : Int64) * (p1.toInt64)) + (((p3 >>> ((1 : Int32) &&& 31)) &&& (1 : Int32)).toInt64))), .second, .val (.long (((2 : Int64) * (p2.toInt64)) + (((p3 >>> ((2 : Int32) &&& 31)) &&& (1 : Int32)).toInt64))), .second, .unset, .unset] [])) _
        refine XS.iconst X11.here hx rfl (hb hby at_99) ?_
        exact k)
      exact ⟨T11, _, X11, e11, N11, fun t k => pre15 t (by simpa only [v0_100_s0, if_pos hc84_1] using k)⟩
    · have pre16 : ∀ t, Steps p.tables e below (T11.setTop (mkF m 92 #[.val (.int p0), .val (.int p1), .val (.int p2), .val (.int p3), .val (.int (p3 &&& (1 : Int32))), .val (.int ((p3 >>> ((1 : Int32) &&& 31)) &&& (1 : Int32))), .val (.int ((p3 >>> ((2 : Int32) &&& 31)) &&& (1 : Int32))), .val (.double (f1 p0 (p3 &&& (1 : Int32)))), .second, .val (.double (f1 p1 ((p3 >>> ((1 : Int32) &&& 31)) &&& (1 : Int32)))), .second, .val (.double (f1 p2 ((p3 >>> ((2 : Int32) &&& 31)) &&& (1 : Int32)))), .second, .val (.long (((2 : Int64) * (p0.toInt64)) + ((p3 &&& (1 : Int32)).toInt64))), .second, .val (.long (((2 : Int64) * (p1.toInt64)) + (((p3 >>> ((1 : Int32) &&& 31)) &&& (1 : Int32)).toInt64))), .second, .val (.long (((2 : Int64) * (p2.toInt64)) + (((p3 >>> ((2 : Int32) &&& 31)) &&& (1 : Int32)).toInt64))), .second, .unset, .unset] [(.int (lcmpW (((2 : Int64) * (p2.toInt64)) + (((p3 >>> ((2 : Int32) &&& 31)) &&& (1 : Int32)).toInt64)) (((2 : Int64) * (p1.toInt64)) + (((p3 >>> ((1 : Int32) &&& 31)) &&& (1 : Int32)).toInt64))))])) t → Steps p.tables e below (s₁.setTop (entryFrame m #[(.int p0), (.int p1), (.int p2), (.int p3)] maxLocals)) t := fun t k => pre13 t (by
        show Steps p.tables e below (T11.setTop (mkF m 84 #[.val (.int p0), .val (.int p1), .val (.int p2), .val (.int p3), .val (.int (p3 &&& (1 : Int32))), .val (.int ((p3 >>> ((1 : Int32) &&& 31)) &&& (1 : Int32))), .val (.int ((p3 >>> ((2 : Int32) &&& 31)) &&& (1 : Int32))), .val (.double (f1 p0 (p3 &&& (1 : Int32)))), .second, .val (.double (f1 p1 ((p3 >>> ((1 : Int32) &&& 31)) &&& (1 : Int32)))), .second, .val (.double (f1 p2 ((p3 >>> ((2 : Int32) &&& 31)) &&& (1 : Int32)))), .second, .val (.long (((2 : Int64) * (p0.toInt64)) + ((p3 &&& (1 : Int32)).toInt64))), .second, .val (.long (((2 : Int64) * (p1.toInt64)) + (((p3 >>> ((1 : Int32) &&& 31)) &&& (1 : Int32)).toInt64))), .second, .val (.long (((2 : Int64) * (p2.toInt64)) + (((p3 >>> ((2 : Int32) &&& 31)) &&& (1 : Int32)).toInt64))), .second, .unset, .unset] [(.int (lcmpW (((2 : Int64) * (p2.toInt64)) + (((p3 >>> ((2 : Int32) &&& 31)) &&& (1 : Int32)).toInt64)) (((2 : Int64) * (p0.toInt64)) + ((p3 &&& (1 : Int32)).toInt64))))])) _
        refine XS.ifNo X11.here hx rfl (hb hby at_84) rfl ((if0 _ _).trans (flt (fun q => hc84_1 ((lw_lt _ _).mp q))).1) ?_
        show Steps p.tables e below (T11.setTop (mkF m 87 #[.val (.int p0), .val (.int p1), .val (.int p2), .val (.int p3), .val (.int (p3 &&& (1 : Int32))), .val (.int ((p3 >>> ((1 : Int32) &&& 31)) &&& (1 : Int32))), .val (.int ((p3 >>> ((2 : Int32) &&& 31)) &&& (1 : Int32))), .val (.double (f1 p0 (p3 &&& (1 : Int32)))), .second, .val (.double (f1 p1 ((p3 >>> ((1 : Int32) &&& 31)) &&& (1 : Int32)))), .second, .val (.double (f1 p2 ((p3 >>> ((2 : Int32) &&& 31)) &&& (1 : Int32)))), .second, .val (.long (((2 : Int64) * (p0.toInt64)) + ((p3 &&& (1 : Int32)).toInt64))), .second, .val (.long (((2 : Int64) * (p1.toInt64)) + (((p3 >>> ((1 : Int32) &&& 31)) &&& (1 : Int32)).toInt64))), .second, .val (.long (((2 : Int64) * (p2.toInt64)) + (((p3 >>> ((2 : Int32) &&& 31)) &&& (1 : Int32)).toInt64))), .second, .unset, .unset] [])) _
        refine XS.lload X11.here hx rfl (hb hby at_87) rfl ?_
        show Steps p.tables e below (T11.setTop (mkF m 89 #[.val (.int p0), .val (.int p1), .val (.int p2), .val (.int p3), .val (.int (p3 &&& (1 : Int32))), .val (.int ((p3 >>> ((1 : Int32) &&& 31)) &&& (1 : Int32))), .val (.int ((p3 >>> ((2 : Int32) &&& 31)) &&& (1 : Int32))), .val (.double (f1 p0 (p3 &&& (1 : Int32)))), .second, .val (.double (f1 p1 ((p3 >>> ((1 : Int32) &&& 31)) &&& (1 : Int32)))), .second, .val (.double (f1 p2 ((p3 >>> ((2 : Int32) &&& 31)) &&& (1 : Int32)))), .second, .val (.long (((2 : Int64) * (p0.toInt64)) + ((p3 &&& (1 : Int32)).toInt64))), .second, .val (.long (((2 : Int64) * (p1.toInt64)) + (((p3 >>> ((1 : Int32) &&& 31)) &&& (1 : Int32)).toInt64))), .second, .val (.long (((2 : Int64) * (p2.toInt64)) + (((p3 >>> ((2 : Int32) &&& 31)) &&& (1 : Int32)).toInt64))), .second, .unset, .unset] [(.long (((2 : Int64) * (p2.toInt64)) + (((p3 >>> ((2 : Int32) &&& 31)) &&& (1 : Int32)).toInt64)))])) _
        refine XS.lload X11.here hx rfl (hb hby at_89) rfl ?_
        show Steps p.tables e below (T11.setTop (mkF m 91 #[.val (.int p0), .val (.int p1), .val (.int p2), .val (.int p3), .val (.int (p3 &&& (1 : Int32))), .val (.int ((p3 >>> ((1 : Int32) &&& 31)) &&& (1 : Int32))), .val (.int ((p3 >>> ((2 : Int32) &&& 31)) &&& (1 : Int32))), .val (.double (f1 p0 (p3 &&& (1 : Int32)))), .second, .val (.double (f1 p1 ((p3 >>> ((1 : Int32) &&& 31)) &&& (1 : Int32)))), .second, .val (.double (f1 p2 ((p3 >>> ((2 : Int32) &&& 31)) &&& (1 : Int32)))), .second, .val (.long (((2 : Int64) * (p0.toInt64)) + ((p3 &&& (1 : Int32)).toInt64))), .second, .val (.long (((2 : Int64) * (p1.toInt64)) + (((p3 >>> ((1 : Int32) &&& 31)) &&& (1 : Int32)).toInt64))), .second, .val (.long (((2 : Int64) * (p2.toInt64)) + (((p3 >>> ((2 : Int32) &&& 31)) &&& (1 : Int32)).toInt64))), .second, .unset, .unset] [(.long (((2 : Int64) * (p1.toInt64)) + (((p3 >>> ((1 : Int32) &&& 31)) &&& (1 : Int32)).toInt64))), (.long (((2 : Int64) * (p2.toInt64)) + (((p3 >>> ((2 : Int32) &&& 31)) &&& (1 : Int32)).toInt64)))])) _
        refine XS.lcmp X11.here hx rfl (hb hby at_91) rfl ?_
        exact k)
      by_cases hc92_2 : (((2 : Int64) * (p1.toInt64)) + (((p3 >>> ((1 : Int32) &&& 31)) &&& (1 : Int32)).toInt64)) < (((2 : Int64) * (p2.toInt64)) + (((p3 >>> ((2 : Int32) &&& 31)) &&& (1 : Int32)).toInt64))
      · have pre17 : ∀ t, Steps p.tables e below (T11.setTop (mkF m 100 #[.val (.int p0), .val (.int p1), .val (.int p2), .val (.int p3), .val (.int (p3 &&& (1 : Int32))), .val (.int ((p3 >>> ((1 : Int32) &&& 31)) &&& (1 : Int32))), .val (.int ((p3 >>> ((2 : Int32) &&& 31)) &&& (1 : Int32))), .val (.double (f1 p0 (p3 &&& (1 : Int32)))), .second, .val (.double (f1 p1 ((p3 >>> ((1 : Int32) &&& 31)) &&& (1 : Int32)))), .second, .val (.double (f1 p2 ((p3 >>> ((2 : Int32) &&& 31)) &&& (1 : Int32)))), .second, .val (.long (((2 : Int64) * (p0.toInt64)) + ((p3 &&& (1 : Int32)).toInt64))), .second, .val (.long (((2 : Int64) * (p1.toInt64)) + (((p3 >>> ((1 : Int32) &&& 31)) &&& (1 : Int32)).toInt64))), .second, .val (.long (((2 : Int64) * (p2.toInt64)) + (((p3 >>> ((2 : Int32) &&& 31)) &&& (1 : Int32)).toInt64))), .second, .unset, .unset] [(.int (0 : Int32))])) t → Steps p.tables e below (s₁.setTop (entryFrame m #[(.int p0), (.int p1), (.int p2), (.int p3)] maxLocals)) t := fun t k => pre16 t (by
          show Steps p.tables e below (T11.setTop (mkF m 92 #[.val (.int p0), .val (.int p1), .val (.int p2), .val (.int p3), .val (.int (p3 &&& (1 : Int32))), .val (.int ((p3 >>> ((1 : Int32) &&& 31)) &&& (1 : Int32))), .val (.int ((p3 >>> ((2 : Int32) &&& 31)) &&& (1 : Int32))), .val (.double (f1 p0 (p3 &&& (1 : Int32)))), .second, .val (.double (f1 p1 ((p3 >>> ((1 : Int32) &&& 31)) &&& (1 : Int32)))), .second, .val (.double (f1 p2 ((p3 >>> ((2 : Int32) &&& 31)) &&& (1 : Int32)))), .second, .val (.long (((2 : Int64) * (p0.toInt64)) + ((p3 &&& (1 : Int32)).toInt64))), .second, .val (.long (((2 : Int64) * (p1.toInt64)) + (((p3 >>> ((1 : Int32) &&& 31)) &&& (1 : Int32)).toInt64))), .second, .val (.long (((2 : Int64) * (p2.toInt64)) + (((p3 >>> ((2 : Int32) &&& 31)) &&& (1 : Int32)).toInt64))), .second, .unset, .unset] [(.int (lcmpW (((2 : Int64) * (p2.toInt64)) + (((p3 >>> ((2 : Int32) &&& 31)) &&& (1 : Int32)).toInt64)) (((2 : Int64) * (p1.toInt64)) + (((p3 >>> ((1 : Int32) &&& 31)) &&& (1 : Int32)).toInt64))))])) _
          refine XS.ifYes X11.here hx rfl (pc0 := 92) (pc' := 99) rfl (hb hby at_92) rfl ((if0 _ _).trans (tlt ((lw_gt _ _).mpr hc92_2)).2.2.1) (by decide) (by decide) ?_
          show Steps p.tables e below (T11.setTop (mkF m 99 #[.val (.int p0), .val (.int p1), .val (.int p2), .val (.int p3), .val (.int (p3 &&& (1 : Int32))), .val (.int ((p3 >>> ((1 : Int32) &&& 31)) &&& (1 : Int32))), .val (.int ((p3 >>> ((2 : Int32) &&& 31)) &&& (1 : Int32))), .val (.double (f1 p0 (p3 &&& (1 : Int32)))), .second, .val (.double (f1 p1 ((p3 >>> ((1 : Int32) &&& 31)) &&& (1 : Int32)))), .second, .val (.double (f1 p2 ((p3 >>> ((2 : Int32) &&& 31)) &&& (1 : Int32)))), .second, .val (.long (((2 : Int64) * (p0.toInt64)) + ((p3 &&& (1 : Int32)).toInt64))), .second, .val (.long (((2 : Int64) * (p1.toInt64)) + (((p3 >>> ((1 : Int32) &&& 31)) &&& (1 : Int32)).toInt64))), .second, .val (.long (((2 : Int64) * (p2.toInt64)) + (((p3 >>> ((2 : Int32) &&& 31)) &&& (1 : Int32)).toInt64))), .second, .unset, .unset] [])) _
          refine XS.iconst X11.here hx rfl (hb hby at_99) ?_
          exact k)
        exact ⟨T11, _, X11, e11, N11, fun t k => pre17 t (by simpa only [v0_100_s0, if_neg hc84_1, if_pos hc92_2] using k)⟩
      · have pre18 : ∀ t, Steps p.tables e below (T11.setTop (mkF m 100 #[.val (.int p0), .val (.int p1), .val (.int p2), .val (.int p3), .val (.int (p3 &&& (1 : Int32))), .val (.int ((p3 >>> ((1 : Int32) &&& 31)) &&& (1 : Int32))), .val (.int ((p3 >>> ((2 : Int32) &&& 31)) &&& (1 : Int32))), .val (.double (f1 p0 (p3 &&& (1 : Int32)))), .second, .val (.double (f1 p1 ((p3 >>> ((1 : Int32) &&& 31)) &&& (1 : Int32)))), .second, .val (.double (f1 p2 ((p3 >>> ((2 : Int32) &&& 31)) &&& (1 : Int32)))), .second, .val (.long (((2 : Int64) * (p0.toInt64)) + ((p3 &&& (1 : Int32)).toInt64))), .second, .val (.long (((2 : Int64) * (p1.toInt64)) + (((p3 >>> ((1 : Int32) &&& 31)) &&& (1 : Int32)).toInt64))), .second, .val (.long (((2 : Int64) * (p2.toInt64)) + (((p3 >>> ((2 : Int32) &&& 31)) &&& (1 : Int32)).toInt64))), .second, .unset, .unset] [(.int (1 : Int32))])) t → Steps p.tables e below (s₁.setTop (entryFrame m #[(.int p0), (.int p1), (.int p2), (.int p3)] maxLocals)) t := fun t k => pre16 t (by
          show Steps p.tables e below (T11.setTop (mkF m 92 #[.val (.int p0), .val (.int p1), .val (.int p2), .val (.int p3), .val (.int (p3 &&& (1 : Int32))), .val (.int ((p3 >>> ((1 : Int32) &&& 31)) &&& (1 : Int32))), .val (.int ((p3 >>> ((2 : Int32) &&& 31)) &&& (1 : Int32))), .val (.double (f1 p0 (p3 &&& (1 : Int32)))), .second, .val (.double (f1 p1 ((p3 >>> ((1 : Int32) &&& 31)) &&& (1 : Int32)))), .second, .val (.double (f1 p2 ((p3 >>> ((2 : Int32) &&& 31)) &&& (1 : Int32)))), .second, .val (.long (((2 : Int64) * (p0.toInt64)) + ((p3 &&& (1 : Int32)).toInt64))), .second, .val (.long (((2 : Int64) * (p1.toInt64)) + (((p3 >>> ((1 : Int32) &&& 31)) &&& (1 : Int32)).toInt64))), .second, .val (.long (((2 : Int64) * (p2.toInt64)) + (((p3 >>> ((2 : Int32) &&& 31)) &&& (1 : Int32)).toInt64))), .second, .unset, .unset] [(.int (lcmpW (((2 : Int64) * (p2.toInt64)) + (((p3 >>> ((2 : Int32) &&& 31)) &&& (1 : Int32)).toInt64)) (((2 : Int64) * (p1.toInt64)) + (((p3 >>> ((1 : Int32) &&& 31)) &&& (1 : Int32)).toInt64))))])) _
          refine XS.ifNo X11.here hx rfl (hb hby at_92) rfl ((if0 _ _).trans (flt (fun q => hc92_2 ((lw_gt _ _).mp q))).2.2.1) ?_
          show Steps p.tables e below (T11.setTop (mkF m 95 #[.val (.int p0), .val (.int p1), .val (.int p2), .val (.int p3), .val (.int (p3 &&& (1 : Int32))), .val (.int ((p3 >>> ((1 : Int32) &&& 31)) &&& (1 : Int32))), .val (.int ((p3 >>> ((2 : Int32) &&& 31)) &&& (1 : Int32))), .val (.double (f1 p0 (p3 &&& (1 : Int32)))), .second, .val (.double (f1 p1 ((p3 >>> ((1 : Int32) &&& 31)) &&& (1 : Int32)))), .second, .val (.double (f1 p2 ((p3 >>> ((2 : Int32) &&& 31)) &&& (1 : Int32)))), .second, .val (.long (((2 : Int64) * (p0.toInt64)) + ((p3 &&& (1 : Int32)).toInt64))), .second, .val (.long (((2 : Int64) * (p1.toInt64)) + (((p3 >>> ((1 : Int32) &&& 31)) &&& (1 : Int32)).toInt64))), .second, .val (.long (((2 : Int64) * (p2.toInt64)) + (((p3 >>> ((2 : Int32) &&& 31)) &&& (1 : Int32)).toInt64))), .second, .unset, .unset] [])) _
          refine XS.iconst X11.here hx rfl (hb hby at_95) ?_
          show Steps p.tables e below (T11.setTop (mkF m 96 #[.val (.int p0), .val (.int p1), .val (.int p2), .val (.int p3), .val (.int (p3 &&& (1 : Int32))), .val (.int ((p3 >>> ((1 : Int32) &&& 31)) &&& (1 : Int32))), .val (.int ((p3 >>> ((2 : Int32) &&& 31)) &&& (1 : Int32))), .val (.double (f1 p0 (p3 &&& (1 : Int32)))), .second, .val (.double (f1 p1 ((p3 >>> ((1 : Int32) &&& 31)) &&& (1 : Int32)))), .second, .val (.double (f1 p2 ((p3 >>> ((2 : Int32) &&& 31)) &&& (1 : Int32)))), .second, .val (.long (((2 : Int64) * (p0.toInt64)) + ((p3 &&& (1 : Int32)).toInt64))), .second, .val (.long (((2 : Int64) * (p1.toInt64)) + (((p3 >>> ((1 : Int32) &&& 31)) &&& (1 : Int32)).toInt64))), .second, .val (.long (((2 : Int64) * (p2.toInt64)) + (((p3 >>> ((2 : Int32) &&& 31)) &&& (1 : Int32)).toInt64))), .second, .unset, .unset] [(.int (1 : Int32))])) _
          refine XS.goto X11.here hx rfl (pc0 := 96) (pc' := 100) rfl (hb hby at_96) (by decide) (by decide) ?_
          exact k)
        exact ⟨T11, _, X11, e11, N11, fun t k => pre18 t (by simpa only [v0_100_s0, if_neg hc84_1, if_neg hc92_2] using k)⟩
  have pre19 : ∀ t, Steps p.tables e below (T14.setTop (mkF m 102 #[.val (.int p0), .val (.int p1), .val (.int p2), .val (.int p3), .val (.int (p3 &&& (1 : Int32))), .val (.int ((p3 >>> ((1 : Int32) &&& 31)) &&& (1 : Int32))), .val (.int ((p3 >>> ((2 : Int32) &&& 31)) &&& (1 : Int32))), .val (.double (f1 p0 (p3 &&& (1 : Int32)))), .second, .val (.double (f1 p1 ((p3 >>> ((1 : Int32) &&& 31)) &&& (1 : Int32)))), .second, .val (.double (f1 p2 ((p3 >>> ((2 : Int32) &&& 31)) &&& (1 : Int32)))), .second, .val (.long (((2 : Int64) * (p0.toInt64)) + ((p3 &&& (1 : Int32)).toInt64))), .second, .val (.long (((2 : Int64) * (p1.toInt64)) + (((p3 >>> ((1 : Int32) &&& 31)) &&& (1 : Int32)).toInt64))), .second, .val (.long (((2 : Int64) * (p2.toInt64)) + (((p3 >>> ((2 : Int32) &&& 31)) &&& (1 : Int32)).toInt64))), .second, .val (.int (v0_100_s0 p0 p1 p2 p3)), .unset] [])) t → Steps p.tables e below (s₁.setTop (entryFrame m #[(.int p0), (.int p1), (.int p2), (.int p3)] maxLocals)) t := fun t k => pre14 t (by
    show Steps p.tables e below (T14.setTop (mkF m 100 #[.val (.int p0), .val (.int p1), .val (.int p2), .val (.int p3), .val (.int (p3 &&& (1 : Int32))), .val (.int ((p3 >>> ((1 : Int32) &&& 31)) &&& (1 : Int32))), .val (.int ((p3 >>> ((2 : Int32) &&& 31)) &&& (1 : Int32))), .val (.double (f1 p0 (p3 &&& (1 : Int32)))), .second, .val (.double (f1 p1 ((p3 >>> ((1 : Int32) &&& 31)) &&& (1 : Int32)))), .second, .val (.double (f1 p2 ((p3 >>> ((2 : Int32) &&& 31)) &&& (1 : Int32)))), .second, .val (.long (((2 : Int64) * (p0.toInt64)) + ((p3 &&& (1 : Int32)).toInt64))), .second, .val (.long (((2 : Int64) * (p1.toInt64)) + (((p3 >>> ((1 : Int32) &&& 31)) &&& (1 : Int32)).toInt64))), .second, .val (.long (((2 : Int64) * (p2.toInt64)) + (((p3 >>> ((2 : Int32) &&& 31)) &&& (1 : Int32)).toInt64))), .second, .unset, .unset] [(.int (v0_100_s0 p0 p1 p2 p3))])) _
    refine XS.istore X14.here hx rfl (hb hby at_100) rfl (l' := #[.val (.int p0), .val (.int p1), .val (.int p2), .val (.int p3), .val (.int (p3 &&& (1 : Int32))), .val (.int ((p3 >>> ((1 : Int32) &&& 31)) &&& (1 : Int32))), .val (.int ((p3 >>> ((2 : Int32) &&& 31)) &&& (1 : Int32))), .val (.double (f1 p0 (p3 &&& (1 : Int32)))), .second, .val (.double (f1 p1 ((p3 >>> ((1 : Int32) &&& 31)) &&& (1 : Int32)))), .second, .val (.double (f1 p2 ((p3 >>> ((2 : Int32) &&& 31)) &&& (1 : Int32)))), .second, .val (.long (((2 : Int64) * (p0.toInt64)) + ((p3 &&& (1 : Int32)).toInt64))), .second, .val (.long (((2 : Int64) * (p1.toInt64)) + (((p3 >>> ((1 : Int32) &&& 31)) &&& (1 : Int32)).toInt64))), .second, .val (.long (((2 : Int64) * (p2.toInt64)) + (((p3 >>> ((2 : Int32) &&& 31)) &&& (1 : Int32)).toInt64))), .second, .val (.int (v0_100_s0 p0 p1 p2 p3)), .unset]) rfl ?_
    exact k)
  obtain ⟨T20, h20, X20, e20, E20, A20, D20, -, st20⟩ := newO X14 hx hZ hown (hw _ (List.mem_of_getElem? (i := 6) rfl)) (hw _ (List.mem_of_getElem? (i := 7) rfl)) (hw _ (List.mem_of_getElem? (i := 8) rfl)) e14 (g := (mkF m 102 #[.val (.int p0), .val (.int p1), .val (.int p2), .val (.int p3), .val (.int (p3 &&& (1 : Int32))), .val (.int ((p3 >>> ((1 : Int32) &&& 31)) &&& (1 : Int32))), .val (.int ((p3 >>> ((2 : Int32) &&& 31)) &&& (1 : Int32))), .val (.double (f1 p0 (p3 &&& (1 : Int32)))), .second, .val (.double (f1 p1 ((p3 >>> ((1 : Int32) &&& 31)) &&& (1 : Int32)))), .second, .val (.double (f1 p2 ((p3 >>> ((2 : Int32) &&& 31)) &&& (1 : Int32)))), .second, .val (.long (((2 : Int64) * (p0.toInt64)) + ((p3 &&& (1 : Int32)).toInt64))), .second, .val (.long (((2 : Int64) * (p1.toInt64)) + (((p3 >>> ((1 : Int32) &&& 31)) &&& (1 : Int32)).toInt64))), .second, .val (.long (((2 : Int64) * (p2.toInt64)) + (((p3 >>> ((2 : Int32) &&& 31)) &&& (1 : Int32)).toInt64))), .second, .val (.int (v0_100_s0 p0 p1 p2 p3)), .unset] [])) rfl (hb hby at_102) (by decide) (by decide)
  obtain ⟨b102, g20⟩ : ∃ z, z = h0.size := ⟨_, rfl⟩
  rw [← g20] at A20 D20 st20
  have gg20 : n0 ≤ b102 := Nat.le_trans Z0 (Nat.le_of_eq g20.symm)
  have sz20 : h0.size ≤ b102 := Nat.le_trans K0.1 (Nat.le_of_eq g20.symm)
  have K20 : Keep h0 h20 [] := K0.ext E20
  have Z20 : n0 ≤ h20.size := Nat.le_trans Z0 E20.1
  have Fn20_lowest : Fld Z h20 b102 "com/example/modloc/modloc/spectrum/IsolationWindow" "lowest" "D" (.double (0 : UInt64)) := D20 (Or.inr (hw _ (List.mem_of_getElem? (i := 21) rfl))) (ty := .double) (by decide)
  have Fn20_highest : Fld Z h20 b102 "com/example/modloc/modloc/spectrum/IsolationWindow" "highest" "D" (.double (0 : UInt64)) := D20 (Or.inr (hw _ (List.mem_of_getElem? (i := 23) rfl))) (ty := .double) (by decide)
  have pre21 : ∀ t, Steps p.tables e below (T20.setTop (mkF m 105 #[.val (.int p0), .val (.int p1), .val (.int p2), .val (.int p3), .val (.int (p3 &&& (1 : Int32))), .val (.int ((p3 >>> ((1 : Int32) &&& 31)) &&& (1 : Int32))), .val (.int ((p3 >>> ((2 : Int32) &&& 31)) &&& (1 : Int32))), .val (.double (f1 p0 (p3 &&& (1 : Int32)))), .second, .val (.double (f1 p1 ((p3 >>> ((1 : Int32) &&& 31)) &&& (1 : Int32)))), .second, .val (.double (f1 p2 ((p3 >>> ((2 : Int32) &&& 31)) &&& (1 : Int32)))), .second, .val (.long (((2 : Int64) * (p0.toInt64)) + ((p3 &&& (1 : Int32)).toInt64))), .second, .val (.long (((2 : Int64) * (p1.toInt64)) + (((p3 >>> ((1 : Int32) &&& 31)) &&& (1 : Int32)).toInt64))), .second, .val (.long (((2 : Int64) * (p2.toInt64)) + (((p3 >>> ((2 : Int32) &&& 31)) &&& (1 : Int32)).toInt64))), .second, .val (.int (v0_100_s0 p0 p1 p2 p3)), .unset] [(.ref b102)])) t → Steps p.tables e below (s₁.setTop (entryFrame m #[(.int p0), (.int p1), (.int p2), (.int p3)] maxLocals)) t := fun t k => pre19 t (st20 _ k)
  have pre22 : ∀ t, Steps p.tables e below (T20.setTop (mkF m 110 #[.val (.int p0), .val (.int p1), .val (.int p2), .val (.int p3), .val (.int (p3 &&& (1 : Int32))), .val (.int ((p3 >>> ((1 : Int32) &&& 31)) &&& (1 : Int32))), .val (.int ((p3 >>> ((2 : Int32) &&& 31)) &&& (1 : Int32))), .val (.double (f1 p0 (p3 &&& (1 : Int32)))), .second, .val (.double (f1 p1 ((p3 >>> ((1 : Int32) &&& 31)) &&& (1 : Int32)))), .second, .val (.double (f1 p2 ((p3 >>> ((2 : Int32) &&& 31)) &&& (1 : Int32)))), .second, .val (.long (((2 : Int64) * (p0.toInt64)) + ((p3 &&& (1 : Int32)).toInt64))), .second, .val (.long (((2 : Int64) * (p1.toInt64)) + (((p3 >>> ((1 : Int32) &&& 31)) &&& (1 : Int32)).toInt64))), .second, .val (.long (((2 : Int64) * (p2.toInt64)) + (((p3 >>> ((2 : Int32) &&& 31)) &&& (1 : Int32)).toInt64))), .second, .val (.int (v0_100_s0 p0 p1 p2 p3)), .unset] [(.double (f1 p1 ((p3 >>> ((1 : Int32) &&& 31)) &&& (1 : Int32)))), (.double (f1 p0 (p3 &&& (1 : Int32)))), (.ref b102), (.ref b102)])) t → Steps p.tables e below (s₁.setTop (entryFrame m #[(.int p0), (.int p1), (.int p2), (.int p3)] maxLocals)) t := fun t k => pre21 t (by
    show Steps p.tables e below (T20.setTop (mkF m 105 #[.val (.int p0), .val (.int p1), .val (.int p2), .val (.int p3), .val (.int (p3 &&& (1 : Int32))), .val (.int ((p3 >>> ((1 : Int32) &&& 31)) &&& (1 : Int32))), .val (.int ((p3 >>> ((2 : Int32) &&& 31)) &&& (1 : Int32))), .val (.double (f1 p0 (p3 &&& (1 : Int32)))), .second, .val (.double (f1 p1 ((p3 >>> ((1 : Int32) &&& 31)) &&& (1 : Int32)))), .second, .val (.double (f1 p2 ((p3 >>> ((2 : Int32) &&& 31)) &&& (1 : Int32)))), .second, .val (.long (((2 : Int64) * (p0.toInt64)) + ((p3 &&& (1 : Int32)).toInt64))), .second, .val (.long (((2 : Int64) * (p1.toInt64)) + (((p3 >>> ((1 : Int32) &&& 31)) &&& (1 : Int32)).toInt64))), .second, .val (.long (((2 : Int64) * (p2.toInt64)) + (((p3 >>> ((2 : Int32) &&& 31)) &&& (1 : Int32)).toInt64))), .second, .val (.int (v0_100_s0 p0 p1 p2 p3)), .unset] [(.ref b102)])) _
    refine XS.dup X20.here hx rfl (hb hby at_105) rfl rfl ?_
    show Steps p.tables e below (T20.setTop (mkF m 106 #[.val (.int p0), .val (.int p1), .val (.int p2), .val (.int p3), .val (.int (p3 &&& (1 : Int32))), .val (.int ((p3 >>> ((1 : Int32) &&& 31)) &&& (1 : Int32))), .val (.int ((p3 >>> ((2 : Int32) &&& 31)) &&& (1 : Int32))), .val (.double (f1 p0 (p3 &&& (1 : Int32)))), .second, .val (.double (f1 p1 ((p3 >>> ((1 : Int32) &&& 31)) &&& (1 : Int32)))), .second, .val (.double (f1 p2 ((p3 >>> ((2 : Int32) &&& 31)) &&& (1 : Int32)))), .second, .val (.long (((2 : Int64) * (p0.toInt64)) + ((p3 &&& (1 : Int32)).toInt64))), .second, .val (.long (((2 : Int64) * (p1.toInt64)) + (((p3 >>> ((1 : Int32) &&& 31)) &&& (1 : Int32)).toInt64))), .second, .val (.long (((2 : Int64) * (p2.toInt64)) + (((p3 >>> ((2 : Int32) &&& 31)) &&& (1 : Int32)).toInt64))), .second, .val (.int (v0_100_s0 p0 p1 p2 p3)), .unset] [(.ref b102), (.ref b102)])) _
    refine XS.dload X20.here hx rfl (hb hby at_106) rfl ?_
    show Steps p.tables e below (T20.setTop (mkF m 108 #[.val (.int p0), .val (.int p1), .val (.int p2), .val (.int p3), .val (.int (p3 &&& (1 : Int32))), .val (.int ((p3 >>> ((1 : Int32) &&& 31)) &&& (1 : Int32))), .val (.int ((p3 >>> ((2 : Int32) &&& 31)) &&& (1 : Int32))), .val (.double (f1 p0 (p3 &&& (1 : Int32)))), .second, .val (.double (f1 p1 ((p3 >>> ((1 : Int32) &&& 31)) &&& (1 : Int32)))), .second, .val (.double (f1 p2 ((p3 >>> ((2 : Int32) &&& 31)) &&& (1 : Int32)))), .second, .val (.long (((2 : Int64) * (p0.toInt64)) + ((p3 &&& (1 : Int32)).toInt64))), .second, .val (.long (((2 : Int64) * (p1.toInt64)) + (((p3 >>> ((1 : Int32) &&& 31)) &&& (1 : Int32)).toInt64))), .second, .val (.long (((2 : Int64) * (p2.toInt64)) + (((p3 >>> ((2 : Int32) &&& 31)) &&& (1 : Int32)).toInt64))), .second, .val (.int (v0_100_s0 p0 p1 p2 p3)), .unset] [(.double (f1 p0 (p3 &&& (1 : Int32)))), (.ref b102), (.ref b102)])) _
    refine XS.dload X20.here hx rfl (hb hby at_108) rfl ?_
    exact k)
  obtain ⟨_, _, ⟨T23, L23, k23, n23⟩, -, X23, ⟨Lc23, hQ23, l23, y23, z23⟩, st23⟩ := X20.specialBack hx (y := (⟨"com/example/modloc/modloc/spectrum/IsolationWindow", "<init>", "(DD)V"⟩ : MethodName)) rfl hown (mvT hZ (hw _ (List.mem_of_getElem? (i := 9) rfl))) (mvT hZ (hw _ (List.mem_of_getElem? (i := 10) rfl))) (mvT hZ (hw _ (List.mem_of_getElem? (i := 11) rfl))) (by decide) (backOf (W := 1) (rm2 l Z a0 hw [] b102 (f1 p0 (p3 &&& (1 : Int32))) (f1 p1 ((p3 >>> ((1 : Int32) &&& 31)) &&& (1 : Int32))) h20 n0 Z20 A20 Fn20_lowest Fn20_highest gg20) hZ (hw _ (List.mem_of_getElem? (i := 11) rfl)) (hw _ (List.mem_of_getElem? (i := 8) rfl)) (by decide) (by decide)) (g := (mkF m 110 #[.val (.int p0), .val (.int p1), .val (.int p2), .val (.int p3), .val (.int (p3 &&& (1 : Int32))), .val (.int ((p3 >>> ((1 : Int32) &&& 31)) &&& (1 : Int32))), .val (.int ((p3 >>> ((2 : Int32) &&& 31)) &&& (1 : Int32))), .val (.double (f1 p0 (p3 &&& (1 : Int32)))), .second, .val (.double (f1 p1 ((p3 >>> ((1 : Int32) &&& 31)) &&& (1 : Int32)))), .second, .val (.double (f1 p2 ((p3 >>> ((2 : Int32) &&& 31)) &&& (1 : Int32)))), .second, .val (.long (((2 : Int64) * (p0.toInt64)) + ((p3 &&& (1 : Int32)).toInt64))), .second, .val (.long (((2 : Int64) * (p1.toInt64)) + (((p3 >>> ((1 : Int32) &&& 31)) &&& (1 : Int32)).toInt64))), .second, .val (.long (((2 : Int64) * (p2.toInt64)) + (((p3 >>> ((2 : Int32) &&& 31)) &&& (1 : Int32)).toInt64))), .second, .val (.int (v0_100_s0 p0 p1 p2 p3)), .unset] [(.double (f1 p1 ((p3 >>> ((1 : Int32) &&& 31)) &&& (1 : Int32)))), (.double (f1 p0 (p3 &&& (1 : Int32)))), (.ref b102), (.ref b102)])) rfl (by rw [hml]; rfl) (Steps.refl _) (a := b102) (argsL := [(.double (f1 p0 (p3 &&& (1 : Int32)))), (.double (f1 p1 ((p3 >>> ((1 : Int32) &&& 31)) &&& (1 : Int32))))]) (rest := [(.ref b102)]) (lenOf pd__DD_V rfl) rfl (by show 2 * 0 + _ ≤ _; exact Nat.le_of_eq rfl) (hb hby at_110) (fun _ _ => ⟨rfl, e20, (by decide : 1 + 0 ≤ _), (by decide : 2 + 0 ≤ _)⟩)
  dsimp only [Pt.U, Pt.locs, Pt.cells, Pt.slots] at X23 l23 y23 z23 st23 hQ23
  subst l23 y23 z23
  obtain ⟨rfl, Nq23, Kq23, o23_0, o23_1⟩ := hQ23
  have N23 := Fr.app N14 Nq23
  have K23 : Keep h0 T23.heap [] := K20.trans Kq23 (allS (Or.inr sz20) all0)
  have Z23 : n0 ≤ T23.heap.size := Nat.le_trans Z20 Kq23.1
  have x24 := A20.keep Kq23
  have pre25 : ∀ t, Steps p.tables e below (T23.setTop (mkF m 113 #[.val (.int p0), .val (.int p1), .val (.int p2), .val (.int p3), .val (.int (p3 &&& (1 : Int32))), .val (.int ((p3 >>> ((1 : Int32) &&& 31)) &&& (1 : Int32))), .val (.int ((p3 >>> ((2 : Int32) &&& 31)) &&& (1 : Int32))), .val (.double (f1 p0 (p3 &&& (1 : Int32)))), .second, .val (.double (f1 p1 ((p3 >>> ((1 : Int32) &&& 31)) &&& (1 : Int32)))), .second, .val (.double (f1 p2 ((p3 >>> ((2 : Int32) &&& 31)) &&& (1 : Int32)))), .second, .val (.long (((2 : Int64) * (p0.toInt64)) + ((p3 &&& (1 : Int32)).toInt64))), .second, .val (.long (((2 : Int64) * (p1.toInt64)) + (((p3 >>> ((1 : Int32) &&& 31)) &&& (1 : Int32)).toInt64))), .second, .val (.long (((2 : Int64) * (p2.toInt64)) + (((p3 >>> ((2 : Int32) &&& 31)) &&& (1 : Int32)).toInt64))), .second, .val (.int (v0_100_s0 p0 p1 p2 p3)), .unset] [(.ref b102)])) t → Steps p.tables e below (s₁.setTop (entryFrame m #[(.int p0), (.int p1), (.int p2), (.int p3)] maxLocals)) t := fun t k => pre22 t (st23.trans k)
  have pre26 : ∀ t, Steps p.tables e below (T23.setTop (mkF m 119 #[.val (.int p0), .val (.int p1), .val (.int p2), .val (.int p3), .val (.int (p3 &&& (1 : Int32))), .val (.int ((p3 >>> ((1 : Int32) &&& 31)) &&& (1 : Int32))), .val (.int ((p3 >>> ((2 : Int32) &&& 31)) &&& (1 : Int32))), .val (.double (f1 p0 (p3 &&& (1 : Int32)))), .second, .val (.double (f1 p1 ((p3 >>> ((1 : Int32) &&& 31)) &&& (1 : Int32)))), .second, .val (.double (f1 p2 ((p3 >>> ((2 : Int32) &&& 31)) &&& (1 : Int32)))), .second, .val (.long (((2 : Int64) * (p0.toInt64)) + ((p3 &&& (1 : Int32)).toInt64))), .second, .val (.long (((2 : Int64) * (p1.toInt64)) + (((p3 >>> ((1 : Int32) &&& 31)) &&& (1 : Int32)).toInt64))), .second, .val (.long (((2 : Int64) * (p2.toInt64)) + (((p3 >>> ((2 : Int32) &&& 31)) &&& (1 : Int32)).toInt64))), .second, .val (.int (v0_100_s0 p0 p1 p2 p3)), .val (.ref b102)] [(.double (f1 p2 ((p3 >>> ((2 : Int32) &&& 31)) &&& (1 : Int32)))), (.ref b102)])) t → Steps p.tables e below (s₁.setTop (entryFrame m #[(.int p0), (.int p1), (.int p2), (.int p3)] maxLocals)) t := fun t k => pre25 t (by
    show Steps p.tables e below (T23.setTop (mkF m 113 #[.val (.int p0), .val (.int p1), .val (.int p2), .val (.int p3), .val (.int (p3 &&& (1 : Int32))), .val (.int ((p3 >>> ((1 : Int32) &&& 31)) &&& (1 : Int32))), .val (.int ((p3 >>> ((2 : Int32) &&& 31)) &&& (1 : Int32))), .val (.double (f1 p0 (p3 &&& (1 : Int32)))), .second, .val (.double (f1 p1 ((p3 >>> ((1 : Int32) &&& 31)) &&& (1 : Int32)))), .second, .val (.double (f1 p2 ((p3 >>> ((2 : Int32) &&& 31)) &&& (1 : Int32)))), .second, .val (.long (((2 : Int64) * (p0.toInt64)) + ((p3 &&& (1 : Int32)).toInt64))), .second, .val (.long (((2 : Int64) * (p1.toInt64)) + (((p3 >>> ((1 : Int32) &&& 31)) &&& (1 : Int32)).toInt64))), .second, .val (.long (((2 : Int64) * (p2.toInt64)) + (((p3 >>> ((2 : Int32) &&& 31)) &&& (1 : Int32)).toInt64))), .second, .val (.int (v0_100_s0 p0 p1 p2 p3)), .unset] [(.ref b102)])) _
    refine XS.astore X23.here hx rfl (hb hby at_113) rfl rfl (l' := #[.val (.int p0), .val (.int p1), .val (.int p2), .val (.int p3), .val (.int (p3 &&& (1 : Int32))), .val (.int ((p3 >>> ((1 : Int32) &&& 31)) &&& (1 : Int32))), .val (.int ((p3 >>> ((2 : Int32) &&& 31)) &&& (1 : Int32))), .val (.double (f1 p0 (p3 &&& (1 : Int32)))), .second, .val (.double (f1 p1 ((p3 >>> ((1 : Int32) &&& 31)) &&& (1 : Int32)))), .second, .val (.double (f1 p2 ((p3 >>> ((2 : Int32) &&& 31)) &&& (1 : Int32)))), .second, .val (.long (((2 : Int64) * (p0.toInt64)) + ((p3 &&& (1 : Int32)).toInt64))), .second, .val (.long (((2 : Int64) * (p1.toInt64)) + (((p3 >>> ((1 : Int32) &&& 31)) &&& (1 : Int32)).toInt64))), .second, .val (.long (((2 : Int64) * (p2.toInt64)) + (((p3 >>> ((2 : Int32) &&& 31)) &&& (1 : Int32)).toInt64))), .second, .val (.int (v0_100_s0 p0 p1 p2 p3)), .val (.ref b102)]) rfl ?_
    show Steps p.tables e below (T23.setTop (mkF m 115 #[.val (.int p0), .val (.int p1), .val (.int p2), .val (.int p3), .val (.int (p3 &&& (1 : Int32))), .val (.int ((p3 >>> ((1 : Int32) &&& 31)) &&& (1 : Int32))), .val (.int ((p3 >>> ((2 : Int32) &&& 31)) &&& (1 : Int32))), .val (.double (f1 p0 (p3 &&& (1 : Int32)))), .second, .val (.double (f1 p1 ((p3 >>> ((1 : Int32) &&& 31)) &&& (1 : Int32)))), .second, .val (.double (f1 p2 ((p3 >>> ((2 : Int32) &&& 31)) &&& (1 : Int32)))), .second, .val (.long (((2 : Int64) * (p0.toInt64)) + ((p3 &&& (1 : Int32)).toInt64))), .second, .val (.long (((2 : Int64) * (p1.toInt64)) + (((p3 >>> ((1 : Int32) &&& 31)) &&& (1 : Int32)).toInt64))), .second, .val (.long (((2 : Int64) * (p2.toInt64)) + (((p3 >>> ((2 : Int32) &&& 31)) &&& (1 : Int32)).toInt64))), .second, .val (.int (v0_100_s0 p0 p1 p2 p3)), .val (.ref b102)] [])) _
    refine XS.aload X23.here hx rfl (hb hby at_115) rfl rfl ?_
    show Steps p.tables e below (T23.setTop (mkF m 117 #[.val (.int p0), .val (.int p1), .val (.int p2), .val (.int p3), .val (.int (p3 &&& (1 : Int32))), .val (.int ((p3 >>> ((1 : Int32) &&& 31)) &&& (1 : Int32))), .val (.int ((p3 >>> ((2 : Int32) &&& 31)) &&& (1 : Int32))), .val (.double (f1 p0 (p3 &&& (1 : Int32)))), .second, .val (.double (f1 p1 ((p3 >>> ((1 : Int32) &&& 31)) &&& (1 : Int32)))), .second, .val (.double (f1 p2 ((p3 >>> ((2 : Int32) &&& 31)) &&& (1 : Int32)))), .second, .val (.long (((2 : Int64) * (p0.toInt64)) + ((p3 &&& (1 : Int32)).toInt64))), .second, .val (.long (((2 : Int64) * (p1.toInt64)) + (((p3 >>> ((1 : Int32) &&& 31)) &&& (1 : Int32)).toInt64))), .second, .val (.long (((2 : Int64) * (p2.toInt64)) + (((p3 >>> ((2 : Int32) &&& 31)) &&& (1 : Int32)).toInt64))), .second, .val (.int (v0_100_s0 p0 p1 p2 p3)), .val (.ref b102)] [(.ref b102)])) _
    refine XS.dload X23.here hx rfl (hb hby at_117) rfl ?_
    exact k)
  obtain ⟨cq27, kq27, q27a, q27b, q27c⟩ := isOf hZ rfl x24
  obtain ⟨_, _, ⟨T27, L27, k27, n27⟩, -, X27, ⟨Lc27, hQ27, l27, y27, z27⟩, st27⟩ := X23.virtualBack hx (y := (⟨"com/example/modloc/modloc/spectrum/IsolationWindow", "holds", "(D)Z"⟩ : MethodName)) (z := (⟨"com/example/modloc/modloc/spectrum/IsolationWindow", "holds", "(D)Z"⟩ : MethodName)) hown (mvT hZ (hw _ (List.mem_of_getElem? (i := 24) rfl))) (mvT hZ (hw _ (List.mem_of_getElem? (i := 25) rfl))) (notFace_of_selects (args := #[]) (mvT hZ (hw _ (List.mem_of_getElem? (i := 27) rfl)))) (mvT hZ (hw _ (List.mem_of_getElem? (i := 27) rfl))) (mvT hZ (hw _ (List.mem_of_getElem? (i := 26) rfl))) (by decide) (backOf (W := 0) (rm5 l Z a0 hw [] b102 (f1 p2 ((p3 >>> ((2 : Int32) &&& 31)) &&& (1 : Int32))) (f1 p0 (p3 &&& (1 : Int32))) (f1 p1 ((p3 >>> ((1 : Int32) &&& 31)) &&& (1 : Int32))) T23.heap n0 Z23 o23_0 o23_1) hZ (hw _ (List.mem_of_getElem? (i := 28) rfl)) (hw _ (List.mem_of_getElem? (i := 8) rfl)) (by decide) (by decide)) q27a q27c (g := (mkF m 119 #[.val (.int p0), .val (.int p1), .val (.int p2), .val (.int p3), .val (.int (p3 &&& (1 : Int32))), .val (.int ((p3 >>> ((1 : Int32) &&& 31)) &&& (1 : Int32))), .val (.int ((p3 >>> ((2 : Int32) &&& 31)) &&& (1 : Int32))), .val (.double (f1 p0 (p3 &&& (1 : Int32)))), .second, .val (.double (f1 p1 ((p3 >>> ((1 : Int32) &&& 31)) &&& (1 : Int32)))), .second, .val (.double (f1 p2 ((p3 >>> ((2 : Int32) &&& 31)) &&& (1 : Int32)))), .second, .val (.long (((2 : Int64) * (p0.toInt64)) + ((p3 &&& (1 : Int32)).toInt64))), .second, .val (.long (((2 : Int64) * (p1.toInt64)) + (((p3 >>> ((1 : Int32) &&& 31)) &&& (1 : Int32)).toInt64))), .second, .val (.long (((2 : Int64) * (p2.toInt64)) + (((p3 >>> ((2 : Int32) &&& 31)) &&& (1 : Int32)).toInt64))), .second, .val (.int (v0_100_s0 p0 p1 p2 p3)), .val (.ref b102)] [(.double (f1 p2 ((p3 >>> ((2 : Int32) &&& 31)) &&& (1 : Int32)))), (.ref b102)])) rfl (by rw [hml]; rfl) (Steps.refl _) (argsL := [(.double (f1 p2 ((p3 >>> ((2 : Int32) &&& 31)) &&& (1 : Int32))))]) (rest := []) (lenOf pd__D_Z rfl) rfl (by show 2 * 0 + _ ≤ _; exact Nat.le_of_eq rfl) (hb hby at_119) (fun _ _ => ⟨rfl, rfl, (by decide : 1 + 0 ≤ _), (by decide : 2 + 0 ≤ _)⟩)
  dsimp only [Pt.U, Pt.locs, Pt.cells, Pt.slots] at X27 l27 y27 z27 st27 hQ27
  subst l27 y27 z27
  obtain ⟨rfl, Nq27, e27⟩ := hQ27
  have N27 := Fr.app N23 Nq27
  have pre28 : ∀ t, Steps p.tables e below (T27.setTop (mkF m 122 #[.val (.int p0), .val (.int p1), .val (.int p2), .val (.int p3), .val (.int (p3 &&& (1 : Int32))), .val (.int ((p3 >>> ((1 : Int32) &&& 31)) &&& (1 : Int32))), .val (.int ((p3 >>> ((2 : Int32) &&& 31)) &&& (1 : Int32))), .val (.double (f1 p0 (p3 &&& (1 : Int32)))), .second, .val (.double (f1 p1 ((p3 >>> ((1 : Int32) &&& 31)) &&& (1 : Int32)))), .second, .val (.double (f1 p2 ((p3 >>> ((2 : Int32) &&& 31)) &&& (1 : Int32)))), .second, .val (.long (((2 : Int64) * (p0.toInt64)) + ((p3 &&& (1 : Int32)).toInt64))), .second, .val (.long (((2 : Int64) * (p1.toInt64)) + (((p3 >>> ((1 : Int32) &&& 31)) &&& (1 : Int32)).toInt64))), .second, .val (.long (((2 : Int64) * (p2.toInt64)) + (((p3 >>> ((2 : Int32) &&& 31)) &&& (1 : Int32)).toInt64))), .second, .val (.int (v0_100_s0 p0 p1 p2 p3)), .val (.ref b102)] [(.int (f5 (f1 p2 ((p3 >>> ((2 : Int32) &&& 31)) &&& (1 : Int32))) (f1 p0 (p3 &&& (1 : Int32))) (f1 p1 ((p3 >>> ((1 : Int32) &&& 31)) &&& (1 : Int32)))))])) t → Steps p.tables e below (s₁.setTop (entryFrame m #[(.int p0), (.int p1), (.int p2), (.int p3)] maxLocals)) t := fun t k => pre26 t (st27.trans k)
  have pre29 : ∀ t, Steps p.tables e below (T27.setTop (mkF m 124 #[.val (.int p0), .val (.int p1), .val (.int p2), .val (.int p3), .val (.int (p3 &&& (1 : Int32))), .val (.int ((p3 >>> ((1 : Int32) &&& 31)) &&& (1 : Int32))), .val (.int ((p3 >>> ((2 : Int32) &&& 31)) &&& (1 : Int32))), .val (.double (f1 p0 (p3 &&& (1 : Int32)))), .second, .val (.double (f1 p1 ((p3 >>> ((1 : Int32) &&& 31)) &&& (1 : Int32)))), .second, .val (.double (f1 p2 ((p3 >>> ((2 : Int32) &&& 31)) &&& (1 : Int32)))), .second, .val (.long (((2 : Int64) * (p0.toInt64)) + ((p3 &&& (1 : Int32)).toInt64))), .second, .val (.long (((2 : Int64) * (p1.toInt64)) + (((p3 >>> ((1 : Int32) &&& 31)) &&& (1 : Int32)).toInt64))), .second, .val (.long (((2 : Int64) * (p2.toInt64)) + (((p3 >>> ((2 : Int32) &&& 31)) &&& (1 : Int32)).toInt64))), .second, .val (.int (v0_100_s0 p0 p1 p2 p3)), .val (.ref b102)] [(.int (v0_100_s0 p0 p1 p2 p3)), (.int (f5 (f1 p2 ((p3 >>> ((2 : Int32) &&& 31)) &&& (1 : Int32))) (f1 p0 (p3 &&& (1 : Int32))) (f1 p1 ((p3 >>> ((1 : Int32) &&& 31)) &&& (1 : Int32)))))])) t → Steps p.tables e below (s₁.setTop (entryFrame m #[(.int p0), (.int p1), (.int p2), (.int p3)] maxLocals)) t := fun t k => pre28 t (by
    show Steps p.tables e below (T27.setTop (mkF m 122 #[.val (.int p0), .val (.int p1), .val (.int p2), .val (.int p3), .val (.int (p3 &&& (1 : Int32))), .val (.int ((p3 >>> ((1 : Int32) &&& 31)) &&& (1 : Int32))), .val (.int ((p3 >>> ((2 : Int32) &&& 31)) &&& (1 : Int32))), .val (.double (f1 p0 (p3 &&& (1 : Int32)))), .second, .val (.double (f1 p1 ((p3 >>> ((1 : Int32) &&& 31)) &&& (1 : Int32)))), .second, .val (.double (f1 p2 ((p3 >>> ((2 : Int32) &&& 31)) &&& (1 : Int32)))), .second, .val (.long (((2 : Int64) * (p0.toInt64)) + ((p3 &&& (1 : Int32)).toInt64))), .second, .val (.long (((2 : Int64) * (p1.toInt64)) + (((p3 >>> ((1 : Int32) &&& 31)) &&& (1 : Int32)).toInt64))), .second, .val (.long (((2 : Int64) * (p2.toInt64)) + (((p3 >>> ((2 : Int32) &&& 31)) &&& (1 : Int32)).toInt64))), .second, .val (.int (v0_100_s0 p0 p1 p2 p3)), .val (.ref b102)] [(.int (f5 (f1 p2 ((p3 >>> ((2 : Int32) &&& 31)) &&& (1 : Int32))) (f1 p0 (p3 &&& (1 : Int32))) (f1 p1 ((p3 >>> ((1 : Int32) &&& 31)) &&& (1 : Int32)))))])) _
    refine XS.iload X27.here hx rfl (hb hby at_122) rfl ?_
    exact k)
  by_cases hc124_3 : (f5 (f1 p2 ((p3 >>> ((2 : Int32) &&& 31)) &&& (1 : Int32))) (f1 p0 (p3 &&& (1 : Int32))) (f1 p1 ((p3 >>> ((1 : Int32) &&& 31)) &&& (1 : Int32)))) = (v0_100_s0 p0 p1 p2 p3)
  · have pre30 : ∀ t, Steps p.tables e below (T27.setTop (mkF m 132 #[.val (.int p0), .val (.int p1), .val (.int p2), .val (.int p3), .val (.int (p3 &&& (1 : Int32))), .val (.int ((p3 >>> ((1 : Int32) &&& 31)) &&& (1 : Int32))), .val (.int ((p3 >>> ((2 : Int32) &&& 31)) &&& (1 : Int32))), .val (.double (f1 p0 (p3 &&& (1 : Int32)))), .second, .val (.double (f1 p1 ((p3 >>> ((1 : Int32) &&& 31)) &&& (1 : Int32)))), .second, .val (.double (f1 p2 ((p3 >>> ((2 : Int32) &&& 31)) &&& (1 : Int32)))), .second, .val (.long (((2 : Int64) * (p0.toInt64)) + ((p3 &&& (1 : Int32)).toInt64))), .second, .val (.long (((2 : Int64) * (p1.toInt64)) + (((p3 >>> ((1 : Int32) &&& 31)) &&& (1 : Int32)).toInt64))), .second, .val (.long (((2 : Int64) * (p2.toInt64)) + (((p3 >>> ((2 : Int32) &&& 31)) &&& (1 : Int32)).toInt64))), .second, .val (.int (v0_100_s0 p0 p1 p2 p3)), .val (.ref b102)] [(.int (1 : Int32))])) t → Steps p.tables e below (s₁.setTop (entryFrame m #[(.int p0), (.int p1), (.int p2), (.int p3)] maxLocals)) t := fun t k => pre29 t (by
      show Steps p.tables e below (T27.setTop (mkF m 124 #[.val (.int p0), .val (.int p1), .val (.int p2), .val (.int p3), .val (.int (p3 &&& (1 : Int32))), .val (.int ((p3 >>> ((1 : Int32) &&& 31)) &&& (1 : Int32))), .val (.int ((p3 >>> ((2 : Int32) &&& 31)) &&& (1 : Int32))), .val (.double (f1 p0 (p3 &&& (1 : Int32)))), .second, .val (.double (f1 p1 ((p3 >>> ((1 : Int32) &&& 31)) &&& (1 : Int32)))), .second, .val (.double (f1 p2 ((p3 >>> ((2 : Int32) &&& 31)) &&& (1 : Int32)))), .second, .val (.long (((2 : Int64) * (p0.toInt64)) + ((p3 &&& (1 : Int32)).toInt64))), .second, .val (.long (((2 : Int64) * (p1.toInt64)) + (((p3 >>> ((1 : Int32) &&& 31)) &&& (1 : Int32)).toInt64))), .second, .val (.long (((2 : Int64) * (p2.toInt64)) + (((p3 >>> ((2 : Int32) &&& 31)) &&& (1 : Int32)).toInt64))), .second, .val (.int (v0_100_s0 p0 p1 p2 p3)), .val (.ref b102)] [(.int (v0_100_s0 p0 p1 p2 p3)), (.int (f5 (f1 p2 ((p3 >>> ((2 : Int32) &&& 31)) &&& (1 : Int32))) (f1 p0 (p3 &&& (1 : Int32))) (f1 p1 ((p3 >>> ((1 : Int32) &&& 31)) &&& (1 : Int32)))))])) _
      refine XS.icmpNo X27.here hx rfl (hb hby at_124) rfl (teq hc124_3).2 ?_
      show Steps p.tables e below (T27.setTop (mkF m 127 #[.val (.int p0), .val (.int p1), .val (.int p2), .val (.int p3), .val (.int (p3 &&& (1 : Int32))), .val (.int ((p3 >>> ((1 : Int32) &&& 31)) &&& (1 : Int32))), .val (.int ((p3 >>> ((2 : Int32) &&& 31)) &&& (1 : Int32))), .val (.double (f1 p0 (p3 &&& (1 : Int32)))), .second, .val (.double (f1 p1 ((p3 >>> ((1 : Int32) &&& 31)) &&& (1 : Int32)))), .second, .val (.double (f1 p2 ((p3 >>> ((2 : Int32) &&& 31)) &&& (1 : Int32)))), .second, .val (.long (((2 : Int64) * (p0.toInt64)) + ((p3 &&& (1 : Int32)).toInt64))), .second, .val (.long (((2 : Int64) * (p1.toInt64)) + (((p3 >>> ((1 : Int32) &&& 31)) &&& (1 : Int32)).toInt64))), .second, .val (.long (((2 : Int64) * (p2.toInt64)) + (((p3 >>> ((2 : Int32) &&& 31)) &&& (1 : Int32)).toInt64))), .second, .val (.int (v0_100_s0 p0 p1 p2 p3)), .val (.ref b102)] [])) _
      refine XS.iconst X27.here hx rfl (hb hby at_127) ?_
      show Steps p.tables e below (T27.setTop (mkF m 128 #[.val (.int p0), .val (.int p1), .val (.int p2), .val (.int p3), .val (.int (p3 &&& (1 : Int32))), .val (.int ((p3 >>> ((1 : Int32) &&& 31)) &&& (1 : Int32))), .val (.int ((p3 >>> ((2 : Int32) &&& 31)) &&& (1 : Int32))), .val (.double (f1 p0 (p3 &&& (1 : Int32)))), .second, .val (.double (f1 p1 ((p3 >>> ((1 : Int32) &&& 31)) &&& (1 : Int32)))), .second, .val (.double (f1 p2 ((p3 >>> ((2 : Int32) &&& 31)) &&& (1 : Int32)))), .second, .val (.long (((2 : Int64) * (p0.toInt64)) + ((p3 &&& (1 : Int32)).toInt64))), .second, .val (.long (((2 : Int64) * (p1.toInt64)) + (((p3 >>> ((1 : Int32) &&& 31)) &&& (1 : Int32)).toInt64))), .second, .val (.long (((2 : Int64) * (p2.toInt64)) + (((p3 >>> ((2 : Int32) &&& 31)) &&& (1 : Int32)).toInt64))), .second, .val (.int (v0_100_s0 p0 p1 p2 p3)), .val (.ref b102)] [(.int (1 : Int32))])) _
      refine XS.goto X27.here hx rfl (pc0 := 128) (pc' := 132) rfl (hb hby at_128) (by decide) (by decide) ?_
      exact k)
    obtain ⟨fs, hr, hrun, hended, hW, hsame⟩ := X27.leave (v := some (.int (1 : Int32))) (fun h => by rw [Bd.returns] at h; cases h)
    refine ⟨_, _, ?_, hrun, hended, _, _, rfl, ?_, ⟨_, rfl⟩, hW, hsame.mono (by decide) (by decide)⟩
    · exact pre30 _ (retN X27 hx (t := .boolean) Bd.returns (by simp) (hb hby at_132) hr)
    · exact ⟨by simp only [f0, if_pos hc124_3], N27, trivial⟩
  · have pre31 : ∀ t, Steps p.tables e below (T27.setTop (mkF m 132 #[.val (.int p0), .val (.int p1), .val (.int p2), .val (.int p3), .val (.int (p3 &&& (1 : Int32))), .val (.int ((p3 >>> ((1 : Int32) &&& 31)) &&& (1 : Int32))), .val (.int ((p3 >>> ((2 : Int32) &&& 31)) &&& (1 : Int32))), .val (.double (f1 p0 (p3 &&& (1 : Int32)))), .second, .val (.double (f1 p1 ((p3 >>> ((1 : Int32) &&& 31)) &&& (1 : Int32)))), .second, .val (.double (f1 p2 ((p3 >>> ((2 : Int32) &&& 31)) &&& (1 : Int32)))), .second, .val (.long (((2 : Int64) * (p0.toInt64)) + ((p3 &&& (1 : Int32)).toInt64))), .second, .val (.long (((2 : Int64) * (p1.toInt64)) + (((p3 >>> ((1 : Int32) &&& 31)) &&& (1 : Int32)).toInt64))), .second, .val (.long (((2 : Int64) * (p2.toInt64)) + (((p3 >>> ((2 : Int32) &&& 31)) &&& (1 : Int32)).toInt64))), .second, .val (.int (v0_100_s0 p0 p1 p2 p3)), .val (.ref b102)] [(.int (0 : Int32))])) t → Steps p.tables e below (s₁.setTop (entryFrame m #[(.int p0), (.int p1), (.int p2), (.int p3)] maxLocals)) t := fun t k => pre29 t (by
      show Steps p.tables e below (T27.setTop (mkF m 124 #[.val (.int p0), .val (.int p1), .val (.int p2), .val (.int p3), .val (.int (p3 &&& (1 : Int32))), .val (.int ((p3 >>> ((1 : Int32) &&& 31)) &&& (1 : Int32))), .val (.int ((p3 >>> ((2 : Int32) &&& 31)) &&& (1 : Int32))), .val (.double (f1 p0 (p3 &&& (1 : Int32)))), .second, .val (.double (f1 p1 ((p3 >>> ((1 : Int32) &&& 31)) &&& (1 : Int32)))), .second, .val (.double (f1 p2 ((p3 >>> ((2 : Int32) &&& 31)) &&& (1 : Int32)))), .second, .val (.long (((2 : Int64) * (p0.toInt64)) + ((p3 &&& (1 : Int32)).toInt64))), .second, .val (.long (((2 : Int64) * (p1.toInt64)) + (((p3 >>> ((1 : Int32) &&& 31)) &&& (1 : Int32)).toInt64))), .second, .val (.long (((2 : Int64) * (p2.toInt64)) + (((p3 >>> ((2 : Int32) &&& 31)) &&& (1 : Int32)).toInt64))), .second, .val (.int (v0_100_s0 p0 p1 p2 p3)), .val (.ref b102)] [(.int (v0_100_s0 p0 p1 p2 p3)), (.int (f5 (f1 p2 ((p3 >>> ((2 : Int32) &&& 31)) &&& (1 : Int32))) (f1 p0 (p3 &&& (1 : Int32))) (f1 p1 ((p3 >>> ((1 : Int32) &&& 31)) &&& (1 : Int32)))))])) _
      refine XS.icmpYes X27.here hx rfl (pc0 := 124) (pc' := 131) rfl (hb hby at_124) rfl (feq hc124_3).2 (by decide) (by decide) ?_
      show Steps p.tables e below (T27.setTop (mkF m 131 #[.val (.int p0), .val (.int p1), .val (.int p2), .val (.int p3), .val (.int (p3 &&& (1 : Int32))), .val (.int ((p3 >>> ((1 : Int32) &&& 31)) &&& (1 : Int32))), .val (.int ((p3 >>> ((2 : Int32) &&& 31)) &&& (1 : Int32))), .val (.double (f1 p0 (p3 &&& (1 : Int32)))), .second, .val (.double (f1 p1 ((p3 >>> ((1 : Int32) &&& 31)) &&& (1 : Int32)))), .second, .val (.double (f1 p2 ((p3 >>> ((2 : Int32) &&& 31)) &&& (1 : Int32)))), .second, .val (.long (((2 : Int64) * (p0.toInt64)) + ((p3 &&& (1 : Int32)).toInt64))), .second, .val (.long (((2 : Int64) * (p1.toInt64)) + (((p3 >>> ((1 : Int32) &&& 31)) &&& (1 : Int32)).toInt64))), .second, .val (.long (((2 : Int64) * (p2.toInt64)) + (((p3 >>> ((2 : Int32) &&& 31)) &&& (1 : Int32)).toInt64))), .second, .val (.int (v0_100_s0 p0 p1 p2 p3)), .val (.ref b102)] [])) _
      refine XS.iconst X27.here hx rfl (hb hby at_131) ?_
      exact k)
    obtain ⟨fs, hr, hrun, hended, hW, hsame⟩ := X27.leave (v := some (.int (0 : Int32))) (fun h => by rw [Bd.returns] at h; cases h)
    refine ⟨_, _, ?_, hrun, hended, _, _, rfl, ?_, ⟨_, rfl⟩, hW, hsame.mono (by decide) (by decide)⟩
    · exact pre31 _ (retN X27 hx (t := .boolean) Bd.returns (by simp) (hb hby at_132) hr)
    · exact ⟨by simp only [f0, if_neg hc124_3], N27, trivial⟩
theorem own_f1 (x b : Int32) (hb : b = 0 ∨ b = 1) : Core.val64 (f1 x b) ≠ .nan ∧ 8 * Core.zval Core.b64 (Core.val64 (f1 x b)) = 4 * ((2 * x.toInt + b.toInt) * (Core.one64 : Int)) := by
  have b1 := x.toInt_lt
  have b2 := x.le_toInt
  rcases hb with rfl | rfl
  · unfold f1
    rw [if_pos rfl]
    refine ⟨own_nan (own_i2d x).1, ?_⟩
    rw [(own_i2d x).2, show (0 : Int32).toInt = 0 from rfl, Int.add_zero, Int.mul_assoc]; omega
  · unfold f1
    rw [if_neg (by decide)]
    refine ⟨Jvm.Free.Fl.val64_no.mp (Jvm.Free.Fl.dadd_out (Jvm.Free.Fl.i2d_fin _).noNaN (Jvm.Free.Fl.fin64_core.mpr own_half.1)), ?_⟩
    rw [← Int.mul_assoc]
    refine own_sum (own_i2d x).1 own_half.1 (4 * (2 * x.toInt + (1 : Int32).toInt)) (by rw [show (1 : Int32).toInt = 1 from rfl]; omega) ?_
    rw [Int.mul_add, own_half.2, (own_i2d x).2, show (1 : Int32).toInt = 1 from rfl, Int.mul_assoc, Int.add_mul, Int.mul_assoc]; omega
theorem own_and1 (x : Int32) : x &&& 1 = 0 ∨ x &&& 1 = 1 := by
  have e : (x &&& 1).toBitVec.toNat = x.toBitVec.toNat % 2 := by
    show (x.toBitVec &&& 1#32).toNat = _
    rw [BitVec.toNat_and]
    exact Nat.and_two_pow_sub_one_eq_mod (x.toBitVec.toNat) 1
  rcases Nat.mod_two_eq_zero_or_one x.toBitVec.toNat with h | h
  · left; apply Int32.toBitVec_inj.mp; apply BitVec.eq_of_toNat_eq; rw [e, h]; rfl
  · right; apply Int32.toBitVec_inj.mp; apply BitVec.eq_of_toNat_eq; rw [e, h]; rfl
theorem own_l (x b : Int32) (hb : b = 0 ∨ b = 1) : ((2 : Int64) * x.toInt64 + b.toInt64).toInt = 2 * x.toInt + b.toInt := by
  have b1 := x.toInt_lt
  have b2 := x.le_toInt
  have b3 : 0 ≤ b.toInt ∧ b.toInt ≤ 1 := by rcases hb with rfl | rfl <;> decide
  rw [Int64.toInt_add, Int64.toInt_mul, Int32.toInt_toInt64, Int32.toInt_toInt64, show (2 : Int64).toInt = 2 from rfl]
  rw [Int.bmod_eq_of_le (n := 2 * x.toInt) (by omega) (by omega), Int.bmod_eq_of_le (by omega) (by omega)]
theorem own_lt {x y b d : Int32} (hb : b = 0 ∨ b = 1) (hd : d = 0 ∨ d = 1) : Core.zval Core.b64 (Core.val64 (f1 x b)) < Core.zval Core.b64 (Core.val64 (f1 y d)) ↔ (2 : Int64) * x.toInt64 + b.toInt64 < (2 : Int64) * y.toInt64 + d.toInt64 := by
  have h1 := (own_f1 x b hb).2
  have h2 := (own_f1 y d hd).2
  have hp : (0 : Int) < (Core.one64 : Int) := by have := Core.one64_pos; omega
  rw [Int64.lt_iff_toInt_lt, own_l x b hb, own_l y d hd]
  have h3 := Int.mul_lt_mul_right (b := 2 * x.toInt + b.toInt) (c := 2 * y.toInt + d.toInt) hp
  omega
theorem own_law (i0 i1 i2 i3 : Int32) : f0 i0 i1 i2 i3 = 1 := by
  unfold f0
  refine if_pos ?_
  unfold f5 v0_100_s0
  have ha := own_and1 i3
  have hb := own_and1 (i3 >>> ((1 : Int32) &&& 31))
  have hc := own_and1 (i3 >>> ((2 : Int32) &&& 31))
  have e1 := (own_cv (own_f1 i2 _ hc).1 (own_f1 i0 _ ha).1 .l).1.trans (own_lt hc ha)
  have e2 := (own_cv (own_f1 i2 _ hc).1 (own_f1 i1 _ hb).1 .g).2.trans (own_lt hb hc)
  simp only [e1, e2]
set_option maxRecDepth 65536 in
set_option maxHeartbeats 40000000 in
theorem comes_1 {Post : Tables → Env → Array Value → State → Outcome → State → Prop} (hpost : ∀ tb e args s v u, (limb_1_1.after args s (.returned v) u = true ∧ limb_1_2.after args s (.returned v) u = true ∧ True) → FrameEnd s (.returned v) u (Jvm.fieldLocs frame_1_writes args s ++ Jvm.arrayLocs frame_1_arrays args s ++ Jvm.staticLocs frame_1_statics s) 16 128 → Post tb e args s (.returned v) u) :
    ArmFor flags0 classFile x code maxLocals ret World_1 tables_1 room_1 Calls_1 rest_1 Pre_1 Post := by
  intro l hfl _ _ p e ha hc hk s m args below hf hA hF happ hP
  obtain ⟨hcalls, hrest, hpre⟩ := hP
  obtain ⟨-, -, -, hnamed, -, -, -, hat⟩ := (Spec.applies_iff hf).mp happ
  obtain ⟨hg, hn⟩ := and_e (Cond.before_iff.mp (show (Jvm.Cond.and given_1 narrow_1).before args s = true from hpre))
  obtain ⟨g1, g2⟩ := and_e hg
  obtain ⟨g3, g4⟩ := and_e g2
  obtain ⟨g5, g6⟩ := and_e g4
  obtain ⟨g7, g8⟩ := and_e g6
  obtain ⟨w0, w1, w2, w3, rfl⟩ : ∃ w0 w1 w2 w3 : Value, args = #[w0, w1, w2, w3] := by
    have hs : args.size = 4 := by simpa [Cond.value, given_1] using g1
    obtain ⟨L⟩ := args
    match L, hs with
    | [w0, w1, w2, w3], _ => exact ⟨w0, w1, w2, w3, rfl⟩
  have hw := fun d (hd : d ∈ tables_1) => atoms_spec (ws := Jvm.Cond.code x code maxLocals ret :: tables_1) hat d (List.mem_cons_of_mem _ hd)
  obtain ⟨i0, ei0⟩ := is_v g3
  obtain rfl : w0 = (.int i0) := Option.some.inj ei0
  obtain ⟨i1, ei1⟩ := is_v g5
  obtain rfl : w1 = (.int i1) := Option.some.inj ei1
  obtain ⟨i2, ei2⟩ := is_v g7
  obtain rfl : w2 = (.int i2) := Option.some.inj ei2
  obtain ⟨i3, ei3⟩ := is_v g8
  obtain rfl : w3 = (.int i3) := Option.some.inj ei3
  obtain ⟨n, o, h1, h2, h3, _, L, rfl, ⟨rfl, N, -⟩, hq⟩ := rm0 l s _ hw tables_1 i0 i1 i2 i3 s.heap s.heap.size (Nat.le_refl _) p e ha hc hk s m _ below hf ((Spec.applies_iff_loose hf).mp happ).1 ⟨rfl, State.Warmed39.refl s, rfl⟩ trivial
  rw [own_law i0 i1 i2 i3] at h3 hq
  refine ⟨n, _, h1, h2, h3, hpost _ _ _ _ _ _ ⟨Cond.after_iff.mpr rfl, Cond.after_iff.mpr (eq_i res_at (Term.int_eval (1)) rfl), trivial⟩ ⟨hq.1, hq.2.1, (hq.2.2.sift fun y hy => Or.inr (N y hy)).mono (by decide) (by decide)⟩⟩
theorem main_1_1 : Claimed_1_1 := comes_1 fun _ _ _ _ _ _ h hF => ⟨h.1, hF⟩
theorem main_1_2 : Claimed_1_2 := comes_1 fun _ _ _ _ _ _ h hF => ⟨h.2.1, hF⟩
end Jvm.Pilot.@@N@@
namespace Jvm.Pilot.@@N@@
open Jvm Jvm.ClassFile Sem Op Lib Jvm.Free Jvm.Stand Jvm.Pilot.@@N@@.Jvm.D
/-! MADE BY PROGRAM (witnessworld.py) out of the Statement's table words and the real class files: 10 classes; the members and pool entries that the words name. The judged class is class 1, her method 2. -/
namespace start1
open Jvm.ClassFile
def u (s : String) : CpInfo := .utf8 (stringToUtf16 s)
/-- a pool by its gaps: so many unusable entries, then the entry; so many at the end -/
def gap : Nat → List CpInfo → List CpInfo
  | 0, r => r
  | n + 1, r => .unusable :: gap n r
def poolList (es : List (Nat × CpInfo)) (last : Nat) : List CpInfo := es.foldr (fun e r => gap e.1 (e.2 :: r)) (gap last [])
def pool (es : List (Nat × CpInfo)) (last : Nat) : Array CpInfo := ⟨poolList es last⟩
def fileOf (pool : Array CpInfo) (this : Nat) (attrs : Array Attribute := #[]) (ms : Array MethodInfo := #[]) (fl : Nat := 33) (sup : Nat := 0) (ifs : Array Nat := #[]) (fds : Array FieldInfo := #[]) : ClassFile where
  minorVersion := 0
  majorVersion := 65
  constantPool := pool
  accessFlags := fl
  thisClass := this
  superClass := sup
  interfaces := ifs
  fields := fds
  methods := ms
  attributes := attrs
def plain (name : String) (sup : Option ClassId) : Class where
  name := name
  kind := .ordinary
  loader := none
  accessFlags := 33
  super := sup
  interfaces := #[]
  cf := none
  fields := #[]
  methods := #[]
  instanceTypes := #[]
  staticTypes := #[]
  resolved := #[]
  callSites := []
  init := .initialized
  statics := none
  mirror := none

def pool0 : Array CpInfo := pool [(5, u "<init>"), (0, u "()V"), (1, .class_ 10), (1, u "java/lang/Object")] 113

def k0c0 : Code := { maxStack := 0, maxLocals := 1, code := object_method_1_code, exceptionTable := #[], attributes := #[] }
def k0m0 : Method := { name := "<init>", desc := "()V", sig := { parameters := [], returnType := none }, accessFlags := 1, code := some k0c0 }
/-- java/lang/Object -/
def k0 : Class := { plain "java/lang/Object" none with
  accessFlags := 33
  interfaces := #[]
  cf := some (fileOf pool0 8 #[] #[{ accessFlags := 1, nameIndex := 5, descriptorIndex := 6, attributes := #[] }] 33 0 #[] #[])
  fields := #[]
  methods := #[k0m0]
  instanceTypes := #[]
  staticTypes := #[]
  resolved := Array.replicate 124 none
  statics := none }

def pool1 : Array CpInfo := pool [(2, .class_ 4), (1, u "java/lang/Object"), (0, u "<init>"), (0, u "()V"), (0, .double 4602678819172646912), (1, .methodref 10 11), (0, .class_ 12), (0, .nameAndType 13 14), (0, u "com/example/modloc/modloc/spectrum/IsolationWindowHoldsPinLaw"), (0, u "half"), (0, u "(II)D"), (0, .long 2), (1, .class_ 18), (0, u "com/example/modloc/modloc/spectrum/IsolationWindow"), (0, .methodref 17 20), (0, .nameAndType 5 21), (0, u "(DD)V"), (0, .methodref 17 23), (0, .nameAndType 24 25), (0, u "holds"), (0, u "(D)Z"), (3, u "law"), (0, u "(IIII)Z")] 2

def k1m0 : Method := { name := "<init>", desc := "()V", sig := { parameters := [], returnType := none }, accessFlags := 1, code := none }
def k1c1 : Code := { maxStack := 4, maxLocals := 2, code := method_2_code, exceptionTable := #[], attributes := #[] }
def k1m1 : Method := { name := "half", desc := "(II)D", sig := { parameters := [.int, .int], returnType := some .double }, accessFlags := 10, code := some k1c1 }
def k1c2 : Code := { maxStack := 6, maxLocals := 21, code := code, exceptionTable := #[], attributes := #[] }
def k1m2 : Method := { name := "law", desc := "(IIII)Z", sig := { parameters := [.int, .int, .int, .int], returnType := some .boolean }, accessFlags := 9, code := some k1c2 }
/-- com/example/modloc/modloc/spectrum/IsolationWindowHoldsPinLaw -/
def k1 : Class := { plain "com/example/modloc/modloc/spectrum/IsolationWindowHoldsPinLaw" (some 0) with
  accessFlags := 49
  interfaces := #[]
  cf := some (fileOf pool1 10 #[] #[{ accessFlags := 1, nameIndex := 5, descriptorIndex := 6, attributes := #[] }, { accessFlags := 10, nameIndex := 13, descriptorIndex := 14, attributes := #[] }, { accessFlags := 9, nameIndex := 29, descriptorIndex := 30, attributes := #[] }] 49 2 #[] #[])
  fields := #[]
  methods := #[k1m0, k1m1, k1m2]
  instanceTypes := #[]
  staticTypes := #[]
  resolved := Array.replicate 33 none
  statics := none }

def pool2 : Array CpInfo := pool [(1, .methodref 2 3), (0, .class_ 4), (0, .nameAndType 5 6), (0, u "java/lang/Object"), (0, u "<init>"), (0, u "()V"), (0, .class_ 8), (0, u "java/lang/Record")] 13

def k2c0 : Code := { maxStack := 1, maxLocals := 1, code := jdk_30_method_1_code, exceptionTable := #[], attributes := #[] }
def k2m0 : Method := { name := "<init>", desc := "()V", sig := { parameters := [], returnType := none }, accessFlags := 4, code := some k2c0 }
/-- java/lang/Record -/
def k2 : Class := { plain "java/lang/Record" (some 0) with
  accessFlags := 1057
  interfaces := #[]
  cf := some (fileOf pool2 7 #[] #[{ accessFlags := 4, nameIndex := 5, descriptorIndex := 6, attributes := #[] }] 1057 2 #[] #[])
  fields := #[]
  methods := #[k2m0]
  instanceTypes := #[]
  staticTypes := #[]
  resolved := Array.replicate 22 none
  statics := none }

def pool3 : Array CpInfo := pool [(1, .methodref 2 3), (0, .class_ 4), (0, .nameAndType 5 6), (0, u "java/lang/Record"), (0, u "<init>"), (0, u "()V"), (0, .fieldref 8 9), (0, .class_ 10), (0, .nameAndType 11 12), (0, u "com/example/modloc/modloc/spectrum/IsolationWindow"), (0, u "lowest"), (0, u "D"), (0, .fieldref 8 14), (0, .nameAndType 15 12), (0, u "highest"), (20, u "(DD)V"), (3, u "holds"), (0, u "(D)Z")] 27

def k3c0 : Code := { maxStack := 3, maxLocals := 5, code := prog_70_method_1_code, exceptionTable := #[], attributes := #[] }
def k3m0 : Method := { name := "<init>", desc := "(DD)V", sig := { parameters := [.double, .double], returnType := none }, accessFlags := 1, code := some k3c0 }
def k3c1 : Code := { maxStack := 4, maxLocals := 3, code := prog_70_method_2_code, exceptionTable := #[], attributes := #[] }
def k3m1 : Method := { name := "holds", desc := "(D)Z", sig := { parameters := [.double], returnType := some .boolean }, accessFlags := 1, code := some k3c1 }
/-- com/example/modloc/modloc/spectrum/IsolationWindow -/
def k3 : Class := { plain "com/example/modloc/modloc/spectrum/IsolationWindow" (some 2) with
  accessFlags := 49
  interfaces := #[]
  cf := some (fileOf pool3 8 #[] #[{ accessFlags := 1, nameIndex := 5, descriptorIndex := 36, attributes := #[] }, { accessFlags := 1, nameIndex := 40, descriptorIndex := 41, attributes := #[] }] 49 2 #[] #[{ accessFlags := 18, nameIndex := 11, descriptorIndex := 12, attributes := #[] }, { accessFlags := 18, nameIndex := 15, descriptorIndex := 12, attributes := #[] }])
  fields := #[{ name := "lowest", type := .double, accessFlags := 18, slot := 0, constantValue := 0 }, { name := "highest", type := .double, accessFlags := 18, slot := 1, constantValue := 0 }]
  methods := #[k3m0, k3m1]
  instanceTypes := #[.double, .double]
  staticTypes := #[]
  resolved := Array.replicate 69 none
  statics := none }

def pool4 : Array CpInfo := pool [(1, u "java/lang/Cloneable"), (0, .class_ 1), (0, u "java/lang/Object"), (0, .class_ 3)] 3

/-- java/lang/Cloneable -/
def k4 : Class := { plain "java/lang/Cloneable" (some 0) with
  accessFlags := 1537
  interfaces := #[]
  cf := some (fileOf pool4 2 #[] #[] 1537 4 #[] #[])
  fields := #[]
  methods := #[]
  instanceTypes := #[]
  staticTypes := #[]
  resolved := Array.replicate 8 none
  statics := none }

def pool5 : Array CpInfo := pool [(1, u "java/io/Serializable"), (0, .class_ 1), (0, u "java/lang/Object"), (0, .class_ 3)] 3

/-- java/io/Serializable -/
def k5 : Class := { plain "java/io/Serializable" (some 0) with
  accessFlags := 1537
  interfaces := #[]
  cf := some (fileOf pool5 2 #[] #[] 1537 4 #[] #[])
  fields := #[]
  methods := #[]
  instanceTypes := #[]
  staticTypes := #[]
  resolved := Array.replicate 8 none
  statics := none }

/-- the primitive byte -/
def k6 : Class := { plain "byte" none with kind := .primitive 'B', accessFlags := 0x411 }
/-- [B -/
def k7 : Class := { plain "[B" (some 0) with kind := .array 6 .byte, interfaces := #[4, 5], accessFlags := 1041 }

/-- the primitive int -/
def k8 : Class := { plain "int" none with kind := .primitive 'I', accessFlags := 0x411 }
/-- [I -/
def k9 : Class := { plain "[I" (some 0) with kind := .array 8 .int, interfaces := #[4, 5], accessFlags := 1041 }

def heap : Heap := #[]
def classes : Array Class := #[k0, k1, k2, k3, k4, k5, k6, k7, k8, k9]
def interned : List (Array UInt16 × Addr) := []
def slotsUsed : Nat := 0
def theMethod : MethodId := ⟨1, 2⟩
def args0 : Array Value := #[.int 3, .int 7, .int 5, .int 6]
def aboutOver (below : List Frame) : State where
  vm := { classes := classes, interned := interned.toArray }
  heap := heap
  slotsUsed := slotsUsed
  threads := #[{ frames := .invoking theMethod args0 :: below }]
def below0 : List Frame := [.native { method := ⟨0, 0⟩, args := #[] }]
def about1 : State := aboutOver below0
def p0 : Program := .bare "" "" ""
def e0 : Env := launch0.env 0 0 0
theorem w_frames : about1.frames = Frame.invoking theMethod args0 :: below0 := rfl
set_option maxRecDepth 65536 in
theorem w_args : argsFit about1.vm theMethod args0 = true := by decide +kernel
set_option maxRecDepth 65536 in
theorem w_heap : heapFits about1 = true := by decide +kernel
set_option maxRecDepth 65536 in
theorem w_runnable : about1.curStatus? = some .runnable := by decide +kernel
set_option maxRecDepth 65536 in
theorem w_alone : about1.alone = true := by decide +kernel
set_option maxRecDepth 65536 in
theorem w_named : about1.methodNamed? x = some theMethod := by decide +kernel
set_option maxRecDepth 65536 in
theorem w_hears : about1.hears theMethod below0 = true := by decide +kernel
set_option maxRecDepth 65536 in
theorem w_ripe : about1.ripe theMethod args0 below0 = true := by decide +kernel
theorem w_running : about1.status = .running := rfl
set_option maxRecDepth 65536 in
theorem w_room : about1.hasRoom e0.platform room_1 = true :=
  launch0.hasRoom_least _ room_1 (by decide +kernel) (by decide +kernel) (by decide +kernel) (by decide +kernel) (by decide +kernel) (by decide +kernel)
theorem allAtoms_all (ts : List Jvm.Cond) (a : Array Jvm.Value) (st : Jvm.State) : (allAtoms ts).before a st = ts.all (fun c => c.before a st) := by
  induction ts with
  | nil => rfl
  | cons c t ih =>
    show (Jvm.Cond.and c (allAtoms t)).before a st = _
    rw [Jvm.Cond.before_and, ih, List.all_cons]
def words1 : List Jvm.Cond := Jvm.Cond.code x code maxLocals ret :: tables_1
/-- a 'code' word, met by the world's own term for the bytes: nothing is compared byte by byte -/
theorem code_word {y : MethodName} {bytes : ByteArray} {mx : Nat} {rt : Option FieldType} {a : Array Value} {s : State} {m : MethodId} {meth : Method} {c : Code} (h1 : s.methodNamed? y = some m) (h2 : s.vm.method? m = some meth) (h3 : meth.code = some c) (h4 : c.code = bytes)
    (h5 : (c.maxLocals == mx && c.exceptionTable.isEmpty && decide (c.maxStack ≤ mostOperands) && decide (meth.sig.returnType = rt) && !meth.locks && decide (parseMethodDescriptor y.desc = some meth.sig)) = true) : (Jvm.Cond.code y bytes mx rt).before a s = true := by
  simp only [Bool.and_eq_true, beq_iff_eq, Bool.not_eq_true', decide_eq_true_eq] at h5
  obtain ⟨⟨⟨⟨⟨g1, g2⟩, g3⟩, g4⟩, g5⟩, g6⟩ := h5
  simp [Cond.before, Cond.holds, Cond.value, h1, h2, h3, h4, g1, g2, g3, g4, g5, g6]
def isCode : Jvm.Cond → Bool
  | .code _ _ _ _ => true
  | _ => false
theorem all_split {L : List Jvm.Cond} {P : Jvm.Cond → Bool} (h1 : L.all (fun c => isCode c || P c) = true) (h2 : ∀ c ∈ L.filter isCode, P c = true) : L.all P = true := by
  refine List.all_eq_true.mpr fun c hc => ?_
  have h := List.all_eq_true.mp h1 c hc
  rcases Bool.eq_false_or_eq_true (isCode c) with hi | hi
  · exact h2 c (List.mem_filter.mpr ⟨hc, hi⟩)
  · simpa [hi] using h
set_option maxRecDepth 65536 in
theorem w_c0 : (Jvm.Cond.code x code maxLocals ret).before args0 about1 = true := code_word (m := ⟨1, 2⟩) (meth := k1m2) (c := k1c2) (by decide +kernel) rfl rfl rfl (by decide +kernel)
set_option maxRecDepth 65536 in
theorem w_c1 : (Jvm.Cond.code ({ cls := "com/example/modloc/modloc/spectrum/IsolationWindowHoldsPinLaw", name := "half", desc := "(II)D" } : Jvm.MethodName) method_2_code (2 : Nat) (Option.some Jvm.ClassFile.FieldType.double)).before args0 about1 = true := code_word (m := ⟨1, 1⟩) (meth := k1m1) (c := k1c1) (by decide +kernel) rfl rfl rfl (by decide +kernel)
set_option maxRecDepth 65536 in
theorem w_c2 : (Jvm.Cond.code ({ cls := "com/example/modloc/modloc/spectrum/IsolationWindow", name := "<init>", desc := "(DD)V" } : Jvm.MethodName) prog_70_method_1_code (5 : Nat) (Option.none : Option Jvm.ClassFile.FieldType)).before args0 about1 = true := code_word (m := ⟨3, 0⟩) (meth := k3m0) (c := k3c0) (by decide +kernel) rfl rfl rfl (by decide +kernel)
set_option maxRecDepth 65536 in
theorem w_c3 : (Jvm.Cond.code ({ cls := "java/lang/Record", name := "<init>", desc := "()V" } : Jvm.MethodName) jdk_30_method_1_code (1 : Nat) (Option.none : Option Jvm.ClassFile.FieldType)).before args0 about1 = true := code_word (m := ⟨2, 0⟩) (meth := k2m0) (c := k2c0) (by decide +kernel) rfl rfl rfl (by decide +kernel)
set_option maxRecDepth 65536 in
theorem w_c4 : (Jvm.Cond.code ({ cls := "java/lang/Object", name := "<init>", desc := "()V" } : Jvm.MethodName) object_method_1_code (1 : Nat) (Option.none : Option Jvm.ClassFile.FieldType)).before args0 about1 = true := code_word (m := ⟨0, 0⟩) (meth := k0m0) (c := k0c0) (by decide +kernel) rfl rfl rfl (by decide +kernel)
set_option maxRecDepth 65536 in
theorem w_c5 : (Jvm.Cond.code ({ cls := "com/example/modloc/modloc/spectrum/IsolationWindow", name := "holds", desc := "(D)Z" } : Jvm.MethodName) prog_70_method_2_code (3 : Nat) (Option.some Jvm.ClassFile.FieldType.boolean)).before args0 about1 = true := code_word (m := ⟨3, 1⟩) (meth := k3m1) (c := k3c1) (by decide +kernel) rfl rfl rfl (by decide +kernel)
def codes1 : List Jvm.Cond := [Jvm.Cond.code x code maxLocals ret, Jvm.Cond.code ({ cls := "com/example/modloc/modloc/spectrum/IsolationWindowHoldsPinLaw", name := "half", desc := "(II)D" } : Jvm.MethodName) method_2_code (2 : Nat) (Option.some Jvm.ClassFile.FieldType.double), Jvm.Cond.code ({ cls := "com/example/modloc/modloc/spectrum/IsolationWindow", name := "<init>", desc := "(DD)V" } : Jvm.MethodName) prog_70_method_1_code (5 : Nat) (Option.none : Option Jvm.ClassFile.FieldType), Jvm.Cond.code ({ cls := "java/lang/Record", name := "<init>", desc := "()V" } : Jvm.MethodName) jdk_30_method_1_code (1 : Nat) (Option.none : Option Jvm.ClassFile.FieldType), Jvm.Cond.code ({ cls := "java/lang/Object", name := "<init>", desc := "()V" } : Jvm.MethodName) object_method_1_code (1 : Nat) (Option.none : Option Jvm.ClassFile.FieldType), Jvm.Cond.code ({ cls := "com/example/modloc/modloc/spectrum/IsolationWindow", name := "holds", desc := "(D)Z" } : Jvm.MethodName) prog_70_method_2_code (3 : Nat) (Option.some Jvm.ClassFile.FieldType.boolean)]
set_option maxRecDepth 65536 in
theorem codes_eq : words1.filter isCode = codes1 := rfl
theorem w_codes : ∀ c ∈ words1.filter isCode, c.before args0 about1 = true := by
  rw [codes_eq]
  intro c hc
  simp only [codes1, List.mem_cons, List.not_mem_nil, or_false] at hc
  rcases hc with rfl | rfl | rfl | rfl | rfl | rfl
  · exact w_c0
  · exact w_c1
  · exact w_c2
  · exact w_c3
  · exact w_c4
  · exact w_c5
set_option maxRecDepth 65536 in
theorem w_t1 : (words1.take 24).all (fun c => isCode c || c.before args0 about1) = true := by decide +kernel
set_option maxRecDepth 65536 in
theorem w_t2 : (words1.drop 24).all (fun c => isCode c || c.before args0 about1) = true := by decide +kernel
theorem w_tables : (allAtoms (Jvm.Cond.code x code maxLocals ret :: tables_1)).before args0 about1 = true := by
  rw [allAtoms_all]
  show words1.all (fun c => c.before args0 about1) = true
  refine all_split ?_ w_codes
  rw [← List.take_append_drop 24 words1, List.all_append, w_t1, w_t2]
  rfl
set_option maxRecDepth 65536 in
theorem w_case : (Jvm.Cond.and given_1 narrow_1).before args0 about1 = true := by decide +kernel
theorem w_applies : (headSpec (Jvm.Cond.code x code maxLocals ret :: tables_1) room_1).applies x e0.platform about1 = true :=
  (Spec.applies_iff w_frames).mpr ⟨w_running, w_runnable, w_alone, w_named, w_hears, w_ripe, w_room, w_tables⟩
theorem atStart : AtStart classFile x code maxLocals ret World_1 tables_1 room_1 Calls_1 rest_1 Pre_1 launch0 p0 e0 about1 theMethod args0 below0 :=
  ⟨lists_1, trivial, launch0.admits_env _ _ _, launch0.least_env, fairChoices_fair.cas, fairChoices_fair.clock, w_frames, w_args, w_heap, w_applies, trivial, trivial, w_case⟩
end start1
theorem witness_1 : WitnessClaimed_1 := ⟨start1.p0, start1.e0, start1.about1, start1.theMethod, start1.args0, start1.below0, start1.atStart⟩
end Jvm.Pilot.@@N@@
