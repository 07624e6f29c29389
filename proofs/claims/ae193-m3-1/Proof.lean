import JvmDerived
import JvmDerived.Pilot.@@N@@Statement
import JvmDerived.Pilot.@@N@@Code
set_option linter.unusedVariables false
set_option linter.unusedSimpArgs false
namespace Jvm.RoadKit
open Sem ClassFile Op Lib Jvm.Stand Jvm.Free Jvm.LawKit
section New
variable {p : Program} {l : Launch} {e : Env} {R : Room} {s : State} {m : MethodId} {args : Array Value} {below : List Frame} {meth : Method} {c : Code} {T : State} {locs : List Loc} {cells slots : Nat}
theorem retI (X : Stand p l e R s m args below meth c T locs cells slots) (hx : p.tables.exec = Jvm.exec) {pc : Nat} {Ls : Array Slot} {z : Int32} {rest : List Value} (hret : meth.sig.returnType = some .int) (hd : decode c.code pc = .ok (.ireturn, 1)) {fs : List Frame}
    (hl : ∀ (f : JFrame) (acts : List Action), f.method = m → f.locked = none → f.entered = [] → (doReturn e (T.setTop f) acts (some (.int z))).1 = T.setFrames fs) : Steps p.tables e below (T.setTop (mkF m pc Ls (.int z :: rest))) (T.setFrames fs) := by
  have hm' : T.vm.method? m = some meth := X.method'
  have hn : narrow .int (.int z) = .int z := rfl
  show Steps p.tables e below (T.setTop { method := m, pc := pc, locals := Ls, stack := _ :: rest, locked := none }) _
  jvm_step X.here [X.here.top, hx, hd, hm', hret, hn]
  first | (intro acts; rw [hl _ acts rfl rfl rfl]) | rw [hl _ _ rfl rfl rfl]
  exact Steps.refl _
end New
end Jvm.RoadKit
namespace Jvm.Pilot.@@N@@
open Jvm Jvm.ClassFile Sem Op Lib Jvm.Free Jvm.Stand Jvm.LawKit Jvm.RoadKit Bundle Jvm.Pilot.@@N@@.Jvm.D
def QP (w : Option Value) (h0 : Heap) (n0 : Nat) (v : Option Value) (h : Heap) (L : List Loc) : Prop := v = w ∧ Fr n0 L ∧ h = h0
def QL (w : Option Value) (n0 : Nat) (v : Option Value) (h : Heap) (L : List Loc) : Prop := v = w ∧ Fr n0 L ∧ True
open Jvm.FP
theorem own_eighth (m : Int) (h : m.natAbs < 2 ^ 53) : ∃ V, Core.fits Core.b64 V ∧ (∃ s c q, V = .fin s c q) ∧ 8 * Core.zval Core.b64 V = m * (Core.one64 : Int) := by
  by_cases h0 : m = 0
  · refine ⟨.fin false 0 Core.b64.qmin, Core.zero_fits Core.good_b64 false, ⟨_, _, _, rfl⟩, ?_⟩
    rw [h0, Int.zero_mul]; decide +kernel
  have ea : (Int64.ofInt m).toInt = m := by
    rw [Int64.toInt_ofInt]; have : Int64.size = 18446744073709551616 := rfl; exact Int.bmod_eq_of_le (by omega) (by omega)
  have hd : Core.DInt m (Core.l2d (Int64.ofInt m)) := by
    have := Core.l2d_int (a := Int64.ofInt m) (by rw [ea]; omega)
    rwa [ea] at this
  have hz := Core.DInt_zval hd
  obtain ⟨s, c, q, hv⟩ := Core.l2d_fin (Int64.ofInt m)
  have hf := Core.val64_fits (Core.l2d (Int64.ofInt m))
  rw [hv] at hz hf
  have e1 : Core.b64.qmin = -1074 := by decide +kernel
  obtain ⟨f1, f2, f3, f4⟩ := hf
  rw [e1] at f2 f4
  have ht : Core.b64.p = 53 := rfl
  rw [ht] at f1
  have hz' : Core.signed s (c * 2 ^ (q - Core.b64.qmin).toNat) = m * (Core.one64 : Int) := hz
  rw [e1] at hz'
  have hn := congrArg Int.natAbs hz'
  rw [Core.natAbs_signed, Int.natAbs_mul] at hn
  have hone : 2 ^ 56 ≤ Core.one64 := Nat.pow_le_pow_right (by decide) (by decide)
  have hq : 3 ≤ q + 1074 := by
    apply Classical.byContradiction
    intro hlt
    have h2 : 2 ^ (q - -1074).toNat ≤ 2 ^ 2 := Nat.pow_le_pow_right (by decide) (by omega)
    have h3 : c * 2 ^ (q - -1074).toNat ≤ c * 2 ^ 2 := Nat.mul_le_mul_left _ h2
    have h4 : 1 * Core.one64 ≤ m.natAbs * (Core.one64 : Int).natAbs := Nat.mul_le_mul (by omega) (by omega)
    omega
  refine ⟨.fin s c (q - 3), ⟨by rw [ht]; exact f1, by rw [e1]; omega, by omega, Or.inr ?_⟩, ⟨_, _, _, rfl⟩, ?_⟩
  · rcases f4 with g | g
    · omega
    · exact g
  · show 8 * Core.signed s (c * 2 ^ (q - 3 - Core.b64.qmin).toNat) = _
    rw [← hz', e1, show (q - -1074).toNat = (q - 3 - -1074).toNat + 3 by omega, Nat.pow_add, ← Nat.mul_assoc, Core.signed_mul _ (c * _) (2 ^ 3)]
    rw [show ((2 ^ 3 : Nat) : Int) = 8 from rfl]; omega
theorem own_nan {a : UInt64} (h : Core.DFin a) : Core.val64 a ≠ .nan := by
  obtain ⟨s, c, q, e⟩ := h; rw [e]; exact nofun
theorem own_sum {a b : UInt64} (ha : Core.DFin a) (hb : Core.DFin b) (m : Int) (hm : m.natAbs < 2 ^ 53) (h : 8 * (Core.zval Core.b64 (Core.val64 a) + Core.zval Core.b64 (Core.val64 b)) = m * (Core.one64 : Int)) :
    8 * Core.zval Core.b64 (Core.val64 (Core.dadd a b)) = m * (Core.one64 : Int) := by
  obtain ⟨V, fV, ⟨s, c, q, eV⟩, hV⟩ := own_eighth m hm
  have nV : V ≠ .nan := by rw [eV]; exact nofun
  rw [Core.val64_dadd]
  have h1 := Core.sum_le Core.good_b64 ha hb (Core.val64_fits a) (Core.val64_fits b) fV nV (by omega)
  have h2 := Core.sum_ge Core.good_b64 ha hb (Core.val64_fits a) (Core.val64_fits b) fV nV (by omega)
  omega
theorem own_cv {a b : UInt64} (ha : Core.val64 a ≠ .nan) (hb : Core.val64 b ≠ .nan) (o : CmpOp) :
    ((cmpValue (FP.dcmp a b) o < 0) ↔ Core.zval Core.b64 (Core.val64 a) < Core.zval Core.b64 (Core.val64 b)) ∧ ((0 < cmpValue (FP.dcmp a b) o) ↔ Core.zval Core.b64 (Core.val64 b) < Core.zval Core.b64 (Core.val64 a)) := by
  rw [show FP.dcmp a b = _ from Core.dcmp_zval ha hb, Core.compare_ite]
  generalize Core.zval Core.b64 (Core.val64 a) = x
  generalize Core.zval Core.b64 (Core.val64 b) = y
  by_cases h : x < y
  · rw [if_pos h]; exact ⟨⟨fun _ => h, fun _ => by cases o <;> decide⟩, ⟨fun q => absurd q (by cases o <;> decide), fun q => absurd h (by omega)⟩⟩
  · rw [if_neg h]
    by_cases h' : x = y
    · rw [if_pos h']; exact ⟨⟨fun q => absurd q (by cases o <;> decide), fun q => absurd q h⟩, ⟨fun q => absurd q (by cases o <;> decide), fun q => absurd q (by omega)⟩⟩
    · rw [if_neg h']; exact ⟨⟨fun q => absurd q (by cases o <;> decide), fun q => absurd q h⟩, ⟨fun _ => by omega, fun _ => by cases o <;> decide⟩⟩
theorem own_half : Core.DFin 4602678819172646912 ∧ 8 * Core.zval Core.b64 (Core.val64 4602678819172646912) = 4 * (Core.one64 : Int) :=
  ⟨(Core.fin_bits _).mpr (by decide +kernel), by decide +kernel⟩
theorem own_i2d (x : Int32) : Core.DFin (FP.i2d x) ∧ Core.zval Core.b64 (Core.val64 (FP.i2d x)) = x.toInt * (Core.one64 : Int) := ⟨Core.i2d_fin x, Core.DInt_zval (Core.i2d_int x)⟩
theorem own_div8 : ∀ k : Fin 8, Core.DFin (FP.ddiv (FP.i2d (Int32.ofNat k.val)) 4620693217682128896) ∧ 8 * Core.zval Core.b64 (Core.val64 (FP.ddiv (FP.i2d (Int32.ofNat k.val)) 4620693217682128896)) = (k.val : Int) * (Core.one64 : Int) := by
  have h : ∀ k : Fin 8, (FP.ddiv (FP.i2d (Int32.ofNat k.val)) 4620693217682128896).toNat % 2 ^ 63 < 9218868437227405312 ∧ 8 * Core.zval Core.b64 (Core.val64 (FP.ddiv (FP.i2d (Int32.ofNat k.val)) 4620693217682128896)) = (k.val : Int) * (Core.one64 : Int) := by decide +kernel
  exact fun k => ⟨(Core.fin_bits _).mpr (h k).1, (h k).2⟩
theorem own_and7 (x : Int32) : ∃ k : Fin 8, x &&& 7 = Int32.ofNat k.val := by
  have e : (x &&& 7).toBitVec.toNat = x.toBitVec.toNat % 8 := by
    show (x.toBitVec &&& 7#32).toNat = _
    rw [BitVec.toNat_and]
    exact Nat.and_two_pow_sub_one_eq_mod (x.toBitVec.toNat) 3
  refine ⟨⟨x.toBitVec.toNat % 8, Nat.mod_lt _ (by decide)⟩, ?_⟩
  apply Int32.toBitVec_inj.mp
  apply BitVec.eq_of_toNat_eq
  rw [e]
  show _ = (BitVec.ofNat 32 (x.toBitVec.toNat % 8)).toNat
  rw [BitVec.toNat_ofNat]
  omega
theorem own_d8 (x : Int32) : Core.DFin (FP.ddiv (FP.i2d (x &&& 7)) 4620693217682128896) ∧ ∃ k : Int, 0 ≤ k ∧ k < 8 ∧ 8 * Core.zval Core.b64 (Core.val64 (FP.ddiv (FP.i2d (x &&& 7)) 4620693217682128896)) = k * (Core.one64 : Int) := by
  obtain ⟨k, e⟩ := own_and7 x
  rw [e]
  exact ⟨(own_div8 k).1, k.val, by omega, by have := k.isLt; omega, (own_div8 k).2⟩
/-- the sum of xi and k eighths, and what the two comparisons of it say -/
theorem own_x (xi xf : Int32) : Core.val64 (FP.dadd (FP.i2d xi) (FP.ddiv (FP.i2d (xf &&& 7)) 4620693217682128896)) ≠ .nan ∧ ∃ k : Int, 0 ≤ k ∧ k < 8 ∧ 8 * Core.zval Core.b64 (Core.val64 (FP.dadd (FP.i2d xi) (FP.ddiv (FP.i2d (xf &&& 7)) 4620693217682128896))) = (8 * xi.toInt + k) * (Core.one64 : Int) := by
  obtain ⟨hf, k, k0, k8, hz⟩ := own_d8 xf
  refine ⟨Jvm.Free.Fl.val64_no.mp (Jvm.Free.Fl.dadd_out (Jvm.Free.Fl.i2d_fin _).noNaN (Jvm.Free.Fl.fin64_core.mpr hf)), k, k0, k8, ?_⟩
  have b1 := xi.toInt_lt
  have b2 := xi.le_toInt
  refine own_sum (own_i2d xi).1 hf (8 * xi.toInt + k) (by omega) ?_
  rw [Int.mul_add, hz, (own_i2d xi).2, Int.add_mul, Int.mul_assoc]
theorem own_x0 (xi xf : Int32) : (cmpValue (FP.dcmp (FP.dadd (FP.i2d xi) (FP.ddiv (FP.i2d (xf &&& 7)) 4620693217682128896)) 0) .l < 0) ↔ xi < 0 := by
  obtain ⟨hn, k, k0, k8, hz⟩ := own_x xi xf
  rw [(own_cv hn (own_nan ((Core.fin_bits 0).mpr (by decide +kernel))) .l).1, Core.zval64_zero, Int32.lt_iff_toInt_lt, show (0 : Int32).toInt = 0 from rfl]
  have hp : (0 : Int) < (Core.one64 : Int) := by have := Core.one64_pos; omega
  constructor
  · intro h
    have h1 : (8 * xi.toInt + k) * (Core.one64 : Int) < 0 := by omega
    have h2 : 8 * xi.toInt + k < 0 := by
      apply Classical.byContradiction
      intro g
      have := Int.mul_nonneg (show 0 ≤ 8 * xi.toInt + k by omega) (Int.le_of_lt hp)
      omega
    omega
  · intro h
    have h1 : (8 * xi.toInt + k) * (Core.one64 : Int) < 0 := Int.mul_neg_of_neg_of_pos (by omega) hp
    omega
theorem own_xw (xi xf : Int32) (w : Int64) : (cmpValue (FP.dcmp (FP.dadd (FP.i2d xi) (FP.ddiv (FP.i2d (xf &&& 7)) 4620693217682128896)) (FP.l2d w)) .g < 0) ↔ xi.toInt64 < w := by
  obtain ⟨hn, k, k0, k8, hz⟩ := own_x xi xf
  rw [(own_cv hn (own_nan (Core.l2d_fin w)) .g).1, Int64.lt_iff_toInt_lt, Int32.toInt_toInt64]
  have hp : (0 : Int) < (Core.one64 : Int) := by have := Core.one64_pos; omega
  have b1 := xi.toInt_lt
  have b2 := xi.le_toInt
  rw [Int.add_mul, Int.mul_assoc] at hz
  have k1 : 0 ≤ k * (Core.one64 : Int) := Int.mul_nonneg k0 (Int.le_of_lt hp)
  have k2 : k * (Core.one64 : Int) ≤ 7 * (Core.one64 : Int) := Int.mul_le_mul_of_nonneg_right (by omega) (Int.le_of_lt hp)
  constructor
  · intro h
    apply Classical.byContradiction
    intro g
    have h1 := Core.l2d_zval_le (n := w) (V := FP.i2d xi) (own_nan (own_i2d xi).1) (by
      rw [(own_i2d xi).2]; exact Int.mul_le_mul_of_nonneg_right (by omega) (Int.le_of_lt hp))
    rw [(own_i2d xi).2] at h1
    have h2 : Core.zval Core.b64 (Core.val64 (FP.l2d w)) ≤ xi.toInt * (Core.one64 : Int) := h1
    omega
  · intro h
    have ea : (Int64.ofInt (xi.toInt + 1)).toInt = xi.toInt + 1 := by
      rw [Int64.toInt_ofInt]; have : Int64.size = 18446744073709551616 := rfl; exact Int.bmod_eq_of_le (by omega) (by omega)
    have hd : Core.DInt (xi.toInt + 1) (Core.l2d (Int64.ofInt (xi.toInt + 1))) := by
      have := Core.l2d_int (a := Int64.ofInt (xi.toInt + 1)) (by rw [ea]; omega)
      rwa [ea] at this
    have h1 := Core.l2d_zval_ge (n := w) (V := Core.l2d (Int64.ofInt (xi.toInt + 1))) (Core.DInt_ne_nan hd) (by
      rw [Core.DInt_zval hd]; exact Int.mul_le_mul_of_nonneg_right (by omega) (Int.le_of_lt hp))
    rw [Core.DInt_zval hd, Int.add_mul] at h1
    have h2 : xi.toInt * (Core.one64 : Int) + 1 * (Core.one64 : Int) ≤ Core.zval Core.b64 (Core.val64 (FP.l2d w)) := h1
    omega
theorem d1_0 : decode prog_27_method_10_code 0 = .ok (.dload_n 0, 1) := by decide +kernel
theorem d1_1 : decode prog_27_method_10_code 1 = .ok (.dconst 0, 1) := by decide +kernel
theorem d1_2 : decode prog_27_method_10_code 2 = .ok (.dcmp .l, 1) := by decide +kernel
theorem d1_3 : decode prog_27_method_10_code 3 = .ok (.ifCond .lt 29, 3) := by decide +kernel
theorem d1_6 : decode prog_27_method_10_code 6 = .ok (.dload_n 0, 1) := by decide +kernel
theorem d1_7 : decode prog_27_method_10_code 7 = .ok (.lload 4, 2) := by decide +kernel
theorem d1_9 : decode prog_27_method_10_code 9 = .ok (.l2d, 1) := by decide +kernel
theorem d1_10 : decode prog_27_method_10_code 10 = .ok (.dcmp .g, 1) := by decide +kernel
theorem d1_11 : decode prog_27_method_10_code 11 = .ok (.ifCond .ge 21, 3) := by decide +kernel
theorem d1_14 : decode prog_27_method_10_code 14 = .ok (.dload_n 2, 1) := by decide +kernel
theorem d1_15 : decode prog_27_method_10_code 15 = .ok (.dconst 0, 1) := by decide +kernel
theorem d1_16 : decode prog_27_method_10_code 16 = .ok (.dcmp .l, 1) := by decide +kernel
theorem d1_17 : decode prog_27_method_10_code 17 = .ok (.ifCond .lt 15, 3) := by decide +kernel
theorem d1_20 : decode prog_27_method_10_code 20 = .ok (.dload_n 2, 1) := by decide +kernel
theorem d1_21 : decode prog_27_method_10_code 21 = .ok (.lload 6, 2) := by decide +kernel
theorem d1_23 : decode prog_27_method_10_code 23 = .ok (.l2d, 1) := by decide +kernel
theorem d1_24 : decode prog_27_method_10_code 24 = .ok (.dcmp .g, 1) := by decide +kernel
theorem d1_25 : decode prog_27_method_10_code 25 = .ok (.ifCond .ge 7, 3) := by decide +kernel
theorem d1_28 : decode prog_27_method_10_code 28 = .ok (.iconst 1, 1) := by decide +kernel
theorem d1_29 : decode prog_27_method_10_code 29 = .ok (.goto 4, 3) := by decide +kernel
theorem d1_32 : decode prog_27_method_10_code 32 = .ok (.iconst 0, 1) := by decide +kernel
theorem d1_33 : decode prog_27_method_10_code 33 = .ok (.ireturn, 1) := by decide +kernel
theorem pn_1 : plainName "com/example/touchfall/touchfall/Node" = true := by first | (simp [plainName, overriddenIn]; done) | decide +kernel
theorem ef_1 (m : MethodId) (x0 : UInt64) (x1 : UInt64) (x2 : Int64) (x3 : Int64) : entryFrame m #[(.double x0), (.double x1), (.long x2), (.long x3)] 8 = mkF m 0 #[.val (.double x0), .second, .val (.double x1), .second, .val (.long x2), .second, .val (.long x3), .second] [] := by first | (simp [entryFrame, mkF, argsToLocals, Value.category]; done) | rfl
def f1 (u0 : UInt64) (u1 : UInt64) (q2 : Int64) (q3 : Int64) : Int32 := (if (cmpValue (FP.dcmp u0 (0 : UInt64)) .l) < (0 : Int32) then (0 : Int32) else (if (cmpValue (FP.dcmp u0 (FP.l2d q2)) .g) < (0 : Int32) then (if (cmpValue (FP.dcmp u1 (0 : UInt64)) .l) < (0 : Int32) then (0 : Int32) else (if (cmpValue (FP.dcmp u1 (FP.l2d q3)) .g) < (0 : Int32) then (1 : Int32) else (0 : Int32))) else (0 : Int32)))
set_option maxRecDepth 65536 in
set_option maxHeartbeats 40000000 in
theorem rm1 (l : Launch) (Z : State) (a0 : Array Value) (hw : ∀ d ∈ tables_1, d.before a0 Z = true) (ws : List Jvm.Cond) (u0 : UInt64) (u1 : UInt64) (q2 : Int64) (q3 : Int64) (h0 : Heap) (n0 : Nat) (Z0 : n0 ≤ h0.size) :
    MetFree l (⟨"com/example/touchfall/touchfall/Node", "isInBox", "(DDJJ)Z"⟩ : MethodName) (head1 (Jvm.Cond.code (⟨"com/example/touchfall/touchfall/Node", "isInBox", "(DDJJ)Z"⟩ : MethodName) prog_27_method_10_code 8 (some .boolean) :: ws) ({ frames := 0, cells := 0, slots := 0, locals := 0 } : Room)) (fun a U => a = #[(.double u0), (.double u1), (.long q2), (.long q3)] ∧ Z.Warmed39 U.vm ∧ U.heap = h0) (fun _ _ _ _ _ => True) (fun _ U o U' => ∃ v L, o = .returned v ∧ QP (some (.int (f1 u0 u1 q2 q3))) h0 n0 v U'.heap L ∧ FrameEnd U o U' L ({ frames := 0, cells := 0, slots := 0, locals := 0 } : Room).cells ({ frames := 0, cells := 0, slots := 0, locals := 0 } : Room).slots) := by
  refine MetFree.of_bodySF (plainFor_of_name pn_1) hisR ?_
  intro p e s m args below meth c s₁ Bd hml0 hP hK
  obtain ⟨rfl, hZ, hh⟩ := hP
  have hx := Bd.exec
  have hby := Bd.bytes
  have hml : c.maxLocals = 8 := hml0
  have hown : s.vm.findClass "com/example/touchfall/touchfall/Node" = some m.cls := findClass_of_methodNamed Bd.named
  have hnm := (name_of_methodNamed Bd.named Bd.method).1
  have X0 : Stand p l e ({ frames := 0, cells := 0, slots := 0, locals := 0 } : Room) s m #[(.double u0), (.double u1), (.long q2), (.long q3)] below meth c s₁ [] 0 0 := Stand.of_body Bd
  have e0 : s₁.heap = h0 := by rw [← hh, Bd.state]; rfl
  have N0 := Fr.nil n0
  have K0 : Keep h0 h0 [] := Keep.refl _ _
  have pre0 : ∀ t, Steps p.tables e below (s₁.setTop (mkF m 0 #[.val (.double u0), .second, .val (.double u1), .second, .val (.long q2), .second, .val (.long q3), .second] [])) t → Steps p.tables e below (s₁.setTop (entryFrame m #[(.double u0), (.double u1), (.long q2), (.long q3)] 8)) t := fun t k => castTop (ef_1 m u0 u1 q2 q3) k
  have pre5 : ∀ t, Steps p.tables e below (s₁.setTop (mkF m 3 #[.val (.double u0), .second, .val (.double u1), .second, .val (.long q2), .second, .val (.long q3), .second] [(.int (cmpValue (FP.dcmp u0 (0 : UInt64)) .l))])) t → Steps p.tables e below (s₁.setTop (entryFrame m #[(.double u0), (.double u1), (.long q2), (.long q3)] 8)) t := fun t k => pre0 t (by
    show Steps p.tables e below (s₁.setTop (mkF m 0 #[.val (.double u0), .second, .val (.double u1), .second, .val (.long q2), .second, .val (.long q3), .second] [])) _
    refine XS.dloadN X0.here hx rfl (hb hby d1_0) rfl ?_
    show Steps p.tables e below (s₁.setTop (mkF m 1 #[.val (.double u0), .second, .val (.double u1), .second, .val (.long q2), .second, .val (.long q3), .second] [(.double u0)])) _
    refine XS.dconst0 X0.here hx rfl (hb hby d1_1) (v := (0 : UInt64)) rfl ?_
    show Steps p.tables e below (s₁.setTop (mkF m 2 #[.val (.double u0), .second, .val (.double u1), .second, .val (.long q2), .second, .val (.long q3), .second] [(.double (0 : UInt64)), (.double u0)])) _
    refine XS.dcmpS X0.here hx rfl (hb hby d1_2) rfl rfl ?_
    exact k)
  by_cases hc3_1 : (cmpValue (FP.dcmp u0 (0 : UInt64)) .l) < (0 : Int32)
  · have pre6 : ∀ t, Steps p.tables e below (s₁.setTop (mkF m 33 #[.val (.double u0), .second, .val (.double u1), .second, .val (.long q2), .second, .val (.long q3), .second] [(.int (0 : Int32))])) t → Steps p.tables e below (s₁.setTop (entryFrame m #[(.double u0), (.double u1), (.long q2), (.long q3)] 8)) t := fun t k => pre5 t (by
      show Steps p.tables e below (s₁.setTop (mkF m 3 #[.val (.double u0), .second, .val (.double u1), .second, .val (.long q2), .second, .val (.long q3), .second] [(.int (cmpValue (FP.dcmp u0 (0 : UInt64)) .l))])) _
      refine XS.ifYes X0.here hx rfl (pc0 := 3) (pc' := 32) rfl (hb hby d1_3) rfl ((if0 _ _).trans (tlt hc3_1).1) (by decide) (by decide) ?_
      show Steps p.tables e below (s₁.setTop (mkF m 32 #[.val (.double u0), .second, .val (.double u1), .second, .val (.long q2), .second, .val (.long q3), .second] [])) _
      refine XS.iconst X0.here hx rfl (hb hby d1_32) ?_
      exact k)
    obtain ⟨fs, hr, hrun, hended, hW, hsame⟩ := X0.leave (v := some (.int (0 : Int32))) (fun h => by rw [Bd.returns] at h; cases h)
    refine ⟨_, _, ?_, hrun, hended, _, _, rfl, ?_, ⟨_, rfl⟩, hW, hsame.mono (by decide) (by decide)⟩
    · exact pre6 _ (retN X0 hx (t := .boolean) Bd.returns (by simp) (hb hby d1_33) hr)
    · exact ⟨by simp only [f1, if_pos hc3_1], N0, e0⟩
  · have pre7 : ∀ t, Steps p.tables e below (s₁.setTop (mkF m 11 #[.val (.double u0), .second, .val (.double u1), .second, .val (.long q2), .second, .val (.long q3), .second] [(.int (cmpValue (FP.dcmp u0 (FP.l2d q2)) .g))])) t → Steps p.tables e below (s₁.setTop (entryFrame m #[(.double u0), (.double u1), (.long q2), (.long q3)] 8)) t := fun t k => pre5 t (by
      show Steps p.tables e below (s₁.setTop (mkF m 3 #[.val (.double u0), .second, .val (.double u1), .second, .val (.long q2), .second, .val (.long q3), .second] [(.int (cmpValue (FP.dcmp u0 (0 : UInt64)) .l))])) _
      refine XS.ifNo X0.here hx rfl (hb hby d1_3) rfl ((if0 _ _).trans (flt hc3_1).1) ?_
      show Steps p.tables e below (s₁.setTop (mkF m 6 #[.val (.double u0), .second, .val (.double u1), .second, .val (.long q2), .second, .val (.long q3), .second] [])) _
      refine XS.dloadN X0.here hx rfl (hb hby d1_6) rfl ?_
      show Steps p.tables e below (s₁.setTop (mkF m 7 #[.val (.double u0), .second, .val (.double u1), .second, .val (.long q2), .second, .val (.long q3), .second] [(.double u0)])) _
      refine XS.lload X0.here hx rfl (hb hby d1_7) rfl ?_
      show Steps p.tables e below (s₁.setTop (mkF m 9 #[.val (.double u0), .second, .val (.double u1), .second, .val (.long q2), .second, .val (.long q3), .second] [(.long q2), (.double u0)])) _
      refine XS.l2dS X0.here hx rfl (hb hby d1_9) rfl rfl ?_
      show Steps p.tables e below (s₁.setTop (mkF m 10 #[.val (.double u0), .second, .val (.double u1), .second, .val (.long q2), .second, .val (.long q3), .second] [(.double (FP.l2d q2)), (.double u0)])) _
      refine XS.dcmpS X0.here hx rfl (hb hby d1_10) rfl rfl ?_
      exact k)
    by_cases hc11_2 : (cmpValue (FP.dcmp u0 (FP.l2d q2)) .g) < (0 : Int32)
    · have pre8 : ∀ t, Steps p.tables e below (s₁.setTop (mkF m 17 #[.val (.double u0), .second, .val (.double u1), .second, .val (.long q2), .second, .val (.long q3), .second] [(.int (cmpValue (FP.dcmp u1 (0 : UInt64)) .l))])) t → Steps p.tables e below (s₁.setTop (entryFrame m #[(.double u0), (.double u1), (.long q2), (.long q3)] 8)) t := fun t k => pre7 t (by
        show Steps p.tables e below (s₁.setTop (mkF m 11 #[.val (.double u0), .second, .val (.double u1), .second, .val (.long q2), .second, .val (.long q3), .second] [(.int (cmpValue (FP.dcmp u0 (FP.l2d q2)) .g))])) _
        refine XS.ifNo X0.here hx rfl (hb hby d1_11) rfl ((if0 _ _).trans (tlt hc11_2).2.1) ?_
        show Steps p.tables e below (s₁.setTop (mkF m 14 #[.val (.double u0), .second, .val (.double u1), .second, .val (.long q2), .second, .val (.long q3), .second] [])) _
        refine XS.dloadN X0.here hx rfl (hb hby d1_14) rfl ?_
        show Steps p.tables e below (s₁.setTop (mkF m 15 #[.val (.double u0), .second, .val (.double u1), .second, .val (.long q2), .second, .val (.long q3), .second] [(.double u1)])) _
        refine XS.dconst0 X0.here hx rfl (hb hby d1_15) (v := (0 : UInt64)) rfl ?_
        show Steps p.tables e below (s₁.setTop (mkF m 16 #[.val (.double u0), .second, .val (.double u1), .second, .val (.long q2), .second, .val (.long q3), .second] [(.double (0 : UInt64)), (.double u1)])) _
        refine XS.dcmpS X0.here hx rfl (hb hby d1_16) rfl rfl ?_
        exact k)
      by_cases hc17_3 : (cmpValue (FP.dcmp u1 (0 : UInt64)) .l) < (0 : Int32)
      · have pre9 : ∀ t, Steps p.tables e below (s₁.setTop (mkF m 33 #[.val (.double u0), .second, .val (.double u1), .second, .val (.long q2), .second, .val (.long q3), .second] [(.int (0 : Int32))])) t → Steps p.tables e below (s₁.setTop (entryFrame m #[(.double u0), (.double u1), (.long q2), (.long q3)] 8)) t := fun t k => pre8 t (by
          show Steps p.tables e below (s₁.setTop (mkF m 17 #[.val (.double u0), .second, .val (.double u1), .second, .val (.long q2), .second, .val (.long q3), .second] [(.int (cmpValue (FP.dcmp u1 (0 : UInt64)) .l))])) _
          refine XS.ifYes X0.here hx rfl (pc0 := 17) (pc' := 32) rfl (hb hby d1_17) rfl ((if0 _ _).trans (tlt hc17_3).1) (by decide) (by decide) ?_
          show Steps p.tables e below (s₁.setTop (mkF m 32 #[.val (.double u0), .second, .val (.double u1), .second, .val (.long q2), .second, .val (.long q3), .second] [])) _
          refine XS.iconst X0.here hx rfl (hb hby d1_32) ?_
          exact k)
        obtain ⟨fs, hr, hrun, hended, hW, hsame⟩ := X0.leave (v := some (.int (0 : Int32))) (fun h => by rw [Bd.returns] at h; cases h)
        refine ⟨_, _, ?_, hrun, hended, _, _, rfl, ?_, ⟨_, rfl⟩, hW, hsame.mono (by decide) (by decide)⟩
        · exact pre9 _ (retN X0 hx (t := .boolean) Bd.returns (by simp) (hb hby d1_33) hr)
        · exact ⟨by simp only [f1, if_neg hc3_1, if_pos hc11_2, if_pos hc17_3], N0, e0⟩
      · have pre10 : ∀ t, Steps p.tables e below (s₁.setTop (mkF m 25 #[.val (.double u0), .second, .val (.double u1), .second, .val (.long q2), .second, .val (.long q3), .second] [(.int (cmpValue (FP.dcmp u1 (FP.l2d q3)) .g))])) t → Steps p.tables e below (s₁.setTop (entryFrame m #[(.double u0), (.double u1), (.long q2), (.long q3)] 8)) t := fun t k => pre8 t (by
          show Steps p.tables e below (s₁.setTop (mkF m 17 #[.val (.double u0), .second, .val (.double u1), .second, .val (.long q2), .second, .val (.long q3), .second] [(.int (cmpValue (FP.dcmp u1 (0 : UInt64)) .l))])) _
          refine XS.ifNo X0.here hx rfl (hb hby d1_17) rfl ((if0 _ _).trans (flt hc17_3).1) ?_
          show Steps p.tables e below (s₁.setTop (mkF m 20 #[.val (.double u0), .second, .val (.double u1), .second, .val (.long q2), .second, .val (.long q3), .second] [])) _
          refine XS.dloadN X0.here hx rfl (hb hby d1_20) rfl ?_
          show Steps p.tables e below (s₁.setTop (mkF m 21 #[.val (.double u0), .second, .val (.double u1), .second, .val (.long q2), .second, .val (.long q3), .second] [(.double u1)])) _
          refine XS.lload X0.here hx rfl (hb hby d1_21) rfl ?_
          show Steps p.tables e below (s₁.setTop (mkF m 23 #[.val (.double u0), .second, .val (.double u1), .second, .val (.long q2), .second, .val (.long q3), .second] [(.long q3), (.double u1)])) _
          refine XS.l2dS X0.here hx rfl (hb hby d1_23) rfl rfl ?_
          show Steps p.tables e below (s₁.setTop (mkF m 24 #[.val (.double u0), .second, .val (.double u1), .second, .val (.long q2), .second, .val (.long q3), .second] [(.double (FP.l2d q3)), (.double u1)])) _
          refine XS.dcmpS X0.here hx rfl (hb hby d1_24) rfl rfl ?_
          exact k)
        by_cases hc25_4 : (cmpValue (FP.dcmp u1 (FP.l2d q3)) .g) < (0 : Int32)
        · have pre11 : ∀ t, Steps p.tables e below (s₁.setTop (mkF m 33 #[.val (.double u0), .second, .val (.double u1), .second, .val (.long q2), .second, .val (.long q3), .second] [(.int (1 : Int32))])) t → Steps p.tables e below (s₁.setTop (entryFrame m #[(.double u0), (.double u1), (.long q2), (.long q3)] 8)) t := fun t k => pre10 t (by
            show Steps p.tables e below (s₁.setTop (mkF m 25 #[.val (.double u0), .second, .val (.double u1), .second, .val (.long q2), .second, .val (.long q3), .second] [(.int (cmpValue (FP.dcmp u1 (FP.l2d q3)) .g))])) _
            refine XS.ifNo X0.here hx rfl (hb hby d1_25) rfl ((if0 _ _).trans (tlt hc25_4).2.1) ?_
            show Steps p.tables e below (s₁.setTop (mkF m 28 #[.val (.double u0), .second, .val (.double u1), .second, .val (.long q2), .second, .val (.long q3), .second] [])) _
            refine XS.iconst X0.here hx rfl (hb hby d1_28) ?_
            show Steps p.tables e below (s₁.setTop (mkF m 29 #[.val (.double u0), .second, .val (.double u1), .second, .val (.long q2), .second, .val (.long q3), .second] [(.int (1 : Int32))])) _
            refine XS.goto X0.here hx rfl (pc0 := 29) (pc' := 33) rfl (hb hby d1_29) (by decide) (by decide) ?_
            exact k)
          obtain ⟨fs, hr, hrun, hended, hW, hsame⟩ := X0.leave (v := some (.int (1 : Int32))) (fun h => by rw [Bd.returns] at h; cases h)
          refine ⟨_, _, ?_, hrun, hended, _, _, rfl, ?_, ⟨_, rfl⟩, hW, hsame.mono (by decide) (by decide)⟩
          · exact pre11 _ (retN X0 hx (t := .boolean) Bd.returns (by simp) (hb hby d1_33) hr)
          · exact ⟨by simp only [f1, if_neg hc3_1, if_pos hc11_2, if_neg hc17_3, if_pos hc25_4], N0, e0⟩
        · have pre12 : ∀ t, Steps p.tables e below (s₁.setTop (mkF m 33 #[.val (.double u0), .second, .val (.double u1), .second, .val (.long q2), .second, .val (.long q3), .second] [(.int (0 : Int32))])) t → Steps p.tables e below (s₁.setTop (entryFrame m #[(.double u0), (.double u1), (.long q2), (.long q3)] 8)) t := fun t k => pre10 t (by
            show Steps p.tables e below (s₁.setTop (mkF m 25 #[.val (.double u0), .second, .val (.double u1), .second, .val (.long q2), .second, .val (.long q3), .second] [(.int (cmpValue (FP.dcmp u1 (FP.l2d q3)) .g))])) _
            refine XS.ifYes X0.here hx rfl (pc0 := 25) (pc' := 32) rfl (hb hby d1_25) rfl ((if0 _ _).trans (flt hc25_4).2.1) (by decide) (by decide) ?_
            show Steps p.tables e below (s₁.setTop (mkF m 32 #[.val (.double u0), .second, .val (.double u1), .second, .val (.long q2), .second, .val (.long q3), .second] [])) _
            refine XS.iconst X0.here hx rfl (hb hby d1_32) ?_
            exact k)
          obtain ⟨fs, hr, hrun, hended, hW, hsame⟩ := X0.leave (v := some (.int (0 : Int32))) (fun h => by rw [Bd.returns] at h; cases h)
          refine ⟨_, _, ?_, hrun, hended, _, _, rfl, ?_, ⟨_, rfl⟩, hW, hsame.mono (by decide) (by decide)⟩
          · exact pre12 _ (retN X0 hx (t := .boolean) Bd.returns (by simp) (hb hby d1_33) hr)
          · exact ⟨by simp only [f1, if_neg hc3_1, if_pos hc11_2, if_neg hc17_3, if_neg hc25_4], N0, e0⟩
    · have pre13 : ∀ t, Steps p.tables e below (s₁.setTop (mkF m 33 #[.val (.double u0), .second, .val (.double u1), .second, .val (.long q2), .second, .val (.long q3), .second] [(.int (0 : Int32))])) t → Steps p.tables e below (s₁.setTop (entryFrame m #[(.double u0), (.double u1), (.long q2), (.long q3)] 8)) t := fun t k => pre7 t (by
        show Steps p.tables e below (s₁.setTop (mkF m 11 #[.val (.double u0), .second, .val (.double u1), .second, .val (.long q2), .second, .val (.long q3), .second] [(.int (cmpValue (FP.dcmp u0 (FP.l2d q2)) .g))])) _
        refine XS.ifYes X0.here hx rfl (pc0 := 11) (pc' := 32) rfl (hb hby d1_11) rfl ((if0 _ _).trans (flt hc11_2).2.1) (by decide) (by decide) ?_
        show Steps p.tables e below (s₁.setTop (mkF m 32 #[.val (.double u0), .second, .val (.double u1), .second, .val (.long q2), .second, .val (.long q3), .second] [])) _
        refine XS.iconst X0.here hx rfl (hb hby d1_32) ?_
        exact k)
      obtain ⟨fs, hr, hrun, hended, hW, hsame⟩ := X0.leave (v := some (.int (0 : Int32))) (fun h => by rw [Bd.returns] at h; cases h)
      refine ⟨_, _, ?_, hrun, hended, _, _, rfl, ?_, ⟨_, rfl⟩, hW, hsame.mono (by decide) (by decide)⟩
      · exact pre13 _ (retN X0 hx (t := .boolean) Bd.returns (by simp) (hb hby d1_33) hr)
      · exact ⟨by simp only [f1, if_neg hc3_1, if_neg hc11_2], N0, e0⟩
theorem pn_0 : plainName "com/example/touchfall/touchfall/NodeIsInBox62PinLaw" = true := by first | (simp [plainName, overriddenIn]; done) | decide +kernel
theorem pd__DDJJ_Z : parseMethodDescriptor "(DDJJ)Z" = some ⟨[.double, .double, .long, .long], some .boolean⟩ := by decide +kernel
theorem ef_0 (m : MethodId) (x0 : Int32) (x1 : Int32) (x2 : Int64) (x3 : Int32) (x4 : Int32) (x5 : Int64) : entryFrame m #[(.int x0), (.int x1), (.long x2), (.int x3), (.int x4), (.long x5)] maxLocals = mkF m 0 #[.val (.int x0), .val (.int x1), .val (.long x2), .second, .val (.int x3), .val (.int x4), .val (.long x5), .second, .unset, .unset, .unset, .unset, .unset] [] := by first | (simp [entryFrame, mkF, argsToLocals, Value.category, maxLocals]; done) | rfl
def v0_60_s0 (p0 : Int32) (q2 : Int64) (p3 : Int32) (q5 : Int64) : Int32 := (if p0 < (0 : Int32) then (0 : Int32) else (if (p0.toInt64) < q2 then (if p3 < (0 : Int32) then (0 : Int32) else (if (p3.toInt64) < q5 then (1 : Int32) else (0 : Int32))) else (0 : Int32)))
def f0 (p0 : Int32) (p1 : Int32) (q2 : Int64) (p3 : Int32) (p4 : Int32) (q5 : Int64) : Int32 := (if (f1 (FP.dadd (FP.i2d p0) (FP.ddiv (FP.i2d (p1 &&& (7 : Int32))) (4620693217682128896 : UInt64))) (FP.dadd (FP.i2d p3) (FP.ddiv (FP.i2d (p4 &&& (7 : Int32))) (4620693217682128896 : UInt64))) q2 q5) = (v0_60_s0 p0 q2 p3 q5) then (1 : Int32) else (0 : Int32))
set_option maxRecDepth 65536 in
set_option maxHeartbeats 40000000 in
theorem rm0 (l : Launch) (Z : State) (a0 : Array Value) (hw : ∀ d ∈ tables_1, d.before a0 Z = true) (ws : List Jvm.Cond) (p0 : Int32) (p1 : Int32) (q2 : Int64) (p3 : Int32) (p4 : Int32) (q5 : Int64) (h0 : Heap) (n0 : Nat) (Z0 : n0 ≤ h0.size) :
    MetFree l x (head1 (Jvm.Cond.code x code maxLocals ret :: ws) room_1) (fun a U => a = #[(.int p0), (.int p1), (.long q2), (.int p3), (.int p4), (.long q5)] ∧ Z.Warmed39 U.vm ∧ U.heap = h0) (fun _ _ _ _ _ => True) (fun _ U o U' => ∃ v L, o = .returned v ∧ QL (some (.int (f0 p0 p1 q2 p3 p4 q5))) n0 v U'.heap L ∧ FrameEnd U o U' L room_1.cells room_1.slots) := by
  refine MetFree.of_bodySF (plainFor_of_name pn_0) hisR ?_
  intro p e s m args below meth c s₁ Bd hml0 hP hK
  obtain ⟨rfl, hZ, hh⟩ := hP
  have hx := Bd.exec
  have hby := Bd.bytes
  have hml : c.maxLocals = 13 := hml0
  have hown : s.vm.findClass "com/example/touchfall/touchfall/NodeIsInBox62PinLaw" = some m.cls := findClass_of_methodNamed Bd.named
  have hnm := (name_of_methodNamed Bd.named Bd.method).1
  have X0 : Stand p l e room_1 s m #[(.int p0), (.int p1), (.long q2), (.int p3), (.int p4), (.long q5)] below meth c s₁ [] 0 0 := Stand.of_body Bd
  have e0 : s₁.heap = h0 := by rw [← hh, Bd.state]; rfl
  have N0 := Fr.nil n0
  have K0 : Keep h0 h0 [] := Keep.refl _ _
  have pre0 : ∀ t, Steps p.tables e below (s₁.setTop (mkF m 0 #[.val (.int p0), .val (.int p1), .val (.long q2), .second, .val (.int p3), .val (.int p4), .val (.long q5), .second, .unset, .unset, .unset, .unset, .unset] [])) t → Steps p.tables e below (s₁.setTop (entryFrame m #[(.int p0), (.int p1), (.long q2), (.int p3), (.int p4), (.long q5)] maxLocals)) t := fun t k => castTop (ef_0 m p0 p1 q2 p3 p4 q5) k
  have pre6 : ∀ t, Steps p.tables e below (s₁.setTop (mkF m 31 #[.val (.int p0), .val (.int p1), .val (.long q2), .second, .val (.int p3), .val (.int p4), .val (.long q5), .second, .val (.double (FP.dadd (FP.i2d p0) (FP.ddiv (FP.i2d (p1 &&& (7 : Int32))) (4620693217682128896 : UInt64)))), .second, .val (.double (FP.dadd (FP.i2d p3) (FP.ddiv (FP.i2d (p4 &&& (7 : Int32))) (4620693217682128896 : UInt64)))), .second, .unset] [(.int p0)])) t → Steps p.tables e below (s₁.setTop (entryFrame m #[(.int p0), (.int p1), (.long q2), (.int p3), (.int p4), (.long q5)] maxLocals)) t := fun t k => pre0 t (by
    show Steps p.tables e below (s₁.setTop (mkF m 0 #[.val (.int p0), .val (.int p1), .val (.long q2), .second, .val (.int p3), .val (.int p4), .val (.long q5), .second, .unset, .unset, .unset, .unset, .unset] [])) _
    refine XS.iloadN X0.here hx rfl (hb hby at_0) rfl ?_
    show Steps p.tables e below (s₁.setTop (mkF m 1 #[.val (.int p0), .val (.int p1), .val (.long q2), .second, .val (.int p3), .val (.int p4), .val (.long q5), .second, .unset, .unset, .unset, .unset, .unset] [(.int p0)])) _
    refine XS.i2dS X0.here hx rfl (hb hby at_1) rfl rfl ?_
    show Steps p.tables e below (s₁.setTop (mkF m 2 #[.val (.int p0), .val (.int p1), .val (.long q2), .second, .val (.int p3), .val (.int p4), .val (.long q5), .second, .unset, .unset, .unset, .unset, .unset] [(.double (FP.i2d p0))])) _
    refine XS.iloadN X0.here hx rfl (hb hby at_2) rfl ?_
    show Steps p.tables e below (s₁.setTop (mkF m 3 #[.val (.int p0), .val (.int p1), .val (.long q2), .second, .val (.int p3), .val (.int p4), .val (.long q5), .second, .unset, .unset, .unset, .unset, .unset] [(.int p1), (.double (FP.i2d p0))])) _
    refine XS.bipush X0.here hx rfl (hb hby at_3) ?_
    show Steps p.tables e below (s₁.setTop (mkF m 5 #[.val (.int p0), .val (.int p1), .val (.long q2), .second, .val (.int p3), .val (.int p4), .val (.long q5), .second, .unset, .unset, .unset, .unset, .unset] [(.int (7 : Int32)), (.int p1), (.double (FP.i2d p0))])) _
    refine XS.iand X0.here hx rfl (hb hby at_5) rfl ?_
    show Steps p.tables e below (s₁.setTop (mkF m 6 #[.val (.int p0), .val (.int p1), .val (.long q2), .second, .val (.int p3), .val (.int p4), .val (.long q5), .second, .unset, .unset, .unset, .unset, .unset] [(.int (p1 &&& (7 : Int32))), (.double (FP.i2d p0))])) _
    refine XS.i2dS X0.here hx rfl (hb hby at_6) rfl rfl ?_
    show Steps p.tables e below (s₁.setTop (mkF m 7 #[.val (.int p0), .val (.int p1), .val (.long q2), .second, .val (.int p3), .val (.int p4), .val (.long q5), .second, .unset, .unset, .unset, .unset, .unset] [(.double (FP.i2d (p1 &&& (7 : Int32)))), (.double (FP.i2d p0))])) _
    refine X0.ldc2DoubleC hx hown (mvT hZ (hw _ (List.mem_of_getElem? (i := 0) rfl))) (g := (mkF m 7 #[.val (.int p0), .val (.int p1), .val (.long q2), .second, .val (.int p3), .val (.int p4), .val (.long q5), .second, .unset, .unset, .unset, .unset, .unset] [(.double (FP.i2d (p1 &&& (7 : Int32)))), (.double (FP.i2d p0))])) rfl (hb hby at_7) _ ?_
    show Steps p.tables e below (s₁.setTop (mkF m 10 #[.val (.int p0), .val (.int p1), .val (.long q2), .second, .val (.int p3), .val (.int p4), .val (.long q5), .second, .unset, .unset, .unset, .unset, .unset] [(.double (4620693217682128896 : UInt64)), (.double (FP.i2d (p1 &&& (7 : Int32)))), (.double (FP.i2d p0))])) _
    refine XS.ddivS X0.here hx rfl (hb hby at_10) rfl (Jvm.Free.Fl.fin64_core.mpr (own_d8 _).1).noNaN rfl ?_
    show Steps p.tables e below (s₁.setTop (mkF m 11 #[.val (.int p0), .val (.int p1), .val (.long q2), .second, .val (.int p3), .val (.int p4), .val (.long q5), .second, .unset, .unset, .unset, .unset, .unset] [(.double (FP.ddiv (FP.i2d (p1 &&& (7 : Int32))) (4620693217682128896 : UInt64))), (.double (FP.i2d p0))])) _
    refine XS.daddS X0.here hx rfl (hb hby at_11) rfl (Jvm.Free.Fl.dadd_out (Jvm.Free.Fl.i2d_fin _).noNaN (Jvm.Free.Fl.fin64_core.mpr (own_d8 _).1)) rfl ?_
    show Steps p.tables e below (s₁.setTop (mkF m 12 #[.val (.int p0), .val (.int p1), .val (.long q2), .second, .val (.int p3), .val (.int p4), .val (.long q5), .second, .unset, .unset, .unset, .unset, .unset] [(.double (FP.dadd (FP.i2d p0) (FP.ddiv (FP.i2d (p1 &&& (7 : Int32))) (4620693217682128896 : UInt64))))])) _
    refine XS.dstore X0.here hx rfl (hb hby at_12) rfl (l' := #[.val (.int p0), .val (.int p1), .val (.long q2), .second, .val (.int p3), .val (.int p4), .val (.long q5), .second, .val (.double (FP.dadd (FP.i2d p0) (FP.ddiv (FP.i2d (p1 &&& (7 : Int32))) (4620693217682128896 : UInt64)))), .second, .unset, .unset, .unset]) rfl ?_
    show Steps p.tables e below (s₁.setTop (mkF m 14 #[.val (.int p0), .val (.int p1), .val (.long q2), .second, .val (.int p3), .val (.int p4), .val (.long q5), .second, .val (.double (FP.dadd (FP.i2d p0) (FP.ddiv (FP.i2d (p1 &&& (7 : Int32))) (4620693217682128896 : UInt64)))), .second, .unset, .unset, .unset] [])) _
    refine XS.iload X0.here hx rfl (hb hby at_14) rfl ?_
    show Steps p.tables e below (s₁.setTop (mkF m 16 #[.val (.int p0), .val (.int p1), .val (.long q2), .second, .val (.int p3), .val (.int p4), .val (.long q5), .second, .val (.double (FP.dadd (FP.i2d p0) (FP.ddiv (FP.i2d (p1 &&& (7 : Int32))) (4620693217682128896 : UInt64)))), .second, .unset, .unset, .unset] [(.int p3)])) _
    refine XS.i2dS X0.here hx rfl (hb hby at_16) rfl rfl ?_
    show Steps p.tables e below (s₁.setTop (mkF m 17 #[.val (.int p0), .val (.int p1), .val (.long q2), .second, .val (.int p3), .val (.int p4), .val (.long q5), .second, .val (.double (FP.dadd (FP.i2d p0) (FP.ddiv (FP.i2d (p1 &&& (7 : Int32))) (4620693217682128896 : UInt64)))), .second, .unset, .unset, .unset] [(.double (FP.i2d p3))])) _
    refine XS.iload X0.here hx rfl (hb hby at_17) rfl ?_
    show Steps p.tables e below (s₁.setTop (mkF m 19 #[.val (.int p0), .val (.int p1), .val (.long q2), .second, .val (.int p3), .val (.int p4), .val (.long q5), .second, .val (.double (FP.dadd (FP.i2d p0) (FP.ddiv (FP.i2d (p1 &&& (7 : Int32))) (4620693217682128896 : UInt64)))), .second, .unset, .unset, .unset] [(.int p4), (.double (FP.i2d p3))])) _
    refine XS.bipush X0.here hx rfl (hb hby at_19) ?_
    show Steps p.tables e below (s₁.setTop (mkF m 21 #[.val (.int p0), .val (.int p1), .val (.long q2), .second, .val (.int p3), .val (.int p4), .val (.long q5), .second, .val (.double (FP.dadd (FP.i2d p0) (FP.ddiv (FP.i2d (p1 &&& (7 : Int32))) (4620693217682128896 : UInt64)))), .second, .unset, .unset, .unset] [(.int (7 : Int32)), (.int p4), (.double (FP.i2d p3))])) _
    refine XS.iand X0.here hx rfl (hb hby at_21) rfl ?_
    show Steps p.tables e below (s₁.setTop (mkF m 22 #[.val (.int p0), .val (.int p1), .val (.long q2), .second, .val (.int p3), .val (.int p4), .val (.long q5), .second, .val (.double (FP.dadd (FP.i2d p0) (FP.ddiv (FP.i2d (p1 &&& (7 : Int32))) (4620693217682128896 : UInt64)))), .second, .unset, .unset, .unset] [(.int (p4 &&& (7 : Int32))), (.double (FP.i2d p3))])) _
    refine XS.i2dS X0.here hx rfl (hb hby at_22) rfl rfl ?_
    show Steps p.tables e below (s₁.setTop (mkF m 23 #[.val (.int p0), .val (.int p1), .val (.long q2), .second, .val (.int p3), .val (.int p4), .val (.long q5), .second, .val (.double (FP.dadd (FP.i2d p0) (FP.ddiv (FP.i2d (p1 &&& (7 : Int32))) (4620693217682128896 : UInt64)))), .second, .unset, .unset, .unset] [(.double (FP.i2d (p4 &&& (7 : Int32)))), (.double (FP.i2d p3))])) _
    refine X0.ldc2DoubleC hx hown (mvT hZ (hw _ (List.mem_of_getElem? (i := 0) rfl))) (g := (mkF m 23 #[.val (.int p0), .val (.int p1), .val (.long q2), .second, .val (.int p3), .val (.int p4), .val (.long q5), .second, .val (.double (FP.dadd (FP.i2d p0) (FP.ddiv (FP.i2d (p1 &&& (7 : Int32))) (4620693217682128896 : UInt64)))), .second, .unset, .unset, .unset] [(.double (FP.i2d (p4 &&& (7 : Int32)))), (.double (FP.i2d p3))])) rfl (hb hby at_23) _ ?_
    show Steps p.tables e below (s₁.setTop (mkF m 26 #[.val (.int p0), .val (.int p1), .val (.long q2), .second, .val (.int p3), .val (.int p4), .val (.long q5), .second, .val (.double (FP.dadd (FP.i2d p0) (FP.ddiv (FP.i2d (p1 &&& (7 : Int32))) (4620693217682128896 : UInt64)))), .second, .unset, .unset, .unset] [(.double (4620693217682128896 : UInt64)), (.double (FP.i2d (p4 &&& (7 : Int32)))), (.double (FP.i2d p3))])) _
    refine XS.ddivS X0.here hx rfl (hb hby at_26) rfl (Jvm.Free.Fl.fin64_core.mpr (own_d8 _).1).noNaN rfl ?_
    show Steps p.tables e below (s₁.setTop (mkF m 27 #[.val (.int p0), .val (.int p1), .val (.long q2), .second, .val (.int p3), .val (.int p4), .val (.long q5), .second, .val (.double (FP.dadd (FP.i2d p0) (FP.ddiv (FP.i2d (p1 &&& (7 : Int32))) (4620693217682128896 : UInt64)))), .second, .unset, .unset, .unset] [(.double (FP.ddiv (FP.i2d (p4 &&& (7 : Int32))) (4620693217682128896 : UInt64))), (.double (FP.i2d p3))])) _
    refine XS.daddS X0.here hx rfl (hb hby at_27) rfl (Jvm.Free.Fl.dadd_out (Jvm.Free.Fl.i2d_fin _).noNaN (Jvm.Free.Fl.fin64_core.mpr (own_d8 _).1)) rfl ?_
    show Steps p.tables e below (s₁.setTop (mkF m 28 #[.val (.int p0), .val (.int p1), .val (.long q2), .second, .val (.int p3), .val (.int p4), .val (.long q5), .second, .val (.double (FP.dadd (FP.i2d p0) (FP.ddiv (FP.i2d (p1 &&& (7 : Int32))) (4620693217682128896 : UInt64)))), .second, .unset, .unset, .unset] [(.double (FP.dadd (FP.i2d p3) (FP.ddiv (FP.i2d (p4 &&& (7 : Int32))) (4620693217682128896 : UInt64))))])) _
    refine XS.dstore X0.here hx rfl (hb hby at_28) rfl (l' := #[.val (.int p0), .val (.int p1), .val (.long q2), .second, .val (.int p3), .val (.int p4), .val (.long q5), .second, .val (.double (FP.dadd (FP.i2d p0) (FP.ddiv (FP.i2d (p1 &&& (7 : Int32))) (4620693217682128896 : UInt64)))), .second, .val (.double (FP.dadd (FP.i2d p3) (FP.ddiv (FP.i2d (p4 &&& (7 : Int32))) (4620693217682128896 : UInt64)))), .second, .unset]) rfl ?_
    show Steps p.tables e below (s₁.setTop (mkF m 30 #[.val (.int p0), .val (.int p1), .val (.long q2), .second, .val (.int p3), .val (.int p4), .val (.long q5), .second, .val (.double (FP.dadd (FP.i2d p0) (FP.ddiv (FP.i2d (p1 &&& (7 : Int32))) (4620693217682128896 : UInt64)))), .second, .val (.double (FP.dadd (FP.i2d p3) (FP.ddiv (FP.i2d (p4 &&& (7 : Int32))) (4620693217682128896 : UInt64)))), .second, .unset] [])) _
    refine XS.iloadN X0.here hx rfl (hb hby at_30) rfl ?_
    exact k)
  obtain ⟨T7, L7, X7, e7, N7, pre7⟩ : ∃ (T' : State) (L' : List Loc), Stand p l e room_1 s m #[(.int p0), (.int p1), (.long q2), (.int p3), (.int p4), (.long q5)] below meth c T' L' 0 0 ∧ T'.heap = h0 ∧ Fr n0 L' ∧ ∀ t, Steps p.tables e below (T'.setTop (mkF m 60 #[.val (.int p0), .val (.int p1), .val (.long q2), .second, .val (.int p3), .val (.int p4), .val (.long q5), .second, .val (.double (FP.dadd (FP.i2d p0) (FP.ddiv (FP.i2d (p1 &&& (7 : Int32))) (4620693217682128896 : UInt64)))), .second, .val (.double (FP.dadd (FP.i2d p3) (FP.ddiv (FP.i2d (p4 &&& (7 : Int32))) (4620693217682128896 : UInt64)))), .second, .unset] [(.int (v0_60_s0 p0 q2 p3 q5))])) t → Steps p.tables e below (s₁.setTop (entryFrame m #[(.int p0), (.int p1), (.long q2), (.int p3), (.int p4), (.long q5)] maxLocals)) t := by
    by_cases hc31_1 : p0 < (0 : Int32)
    · have pre8 : ∀ t, Steps p.tables e below (s₁.setTop (mkF m 60 #[.val (.int p0), .val (.int p1), .val (.long q2), .second, .val (.int p3), .val (.int p4), .val (.long q5), .second, .val (.double (FP.dadd (FP.i2d p0) (FP.ddiv (FP.i2d (p1 &&& (7 : Int32))) (4620693217682128896 : UInt64)))), .second, .val (.double (FP.dadd (FP.i2d p3) (FP.ddiv (FP.i2d (p4 &&& (7 : Int32))) (4620693217682128896 : UInt64)))), .second, .unset] [(.int (0 : Int32))])) t → Steps p.tables e below (s₁.setTop (entryFrame m #[(.int p0), (.int p1), (.long q2), (.int p3), (.int p4), (.long q5)] maxLocals)) t := fun t k => pre6 t (by
        show Steps p.tables e below (s₁.setTop (mkF m 31 #[.val (.int p0), .val (.int p1), .val (.long q2), .second, .val (.int p3), .val (.int p4), .val (.long q5), .second, .val (.double (FP.dadd (FP.i2d p0) (FP.ddiv (FP.i2d (p1 &&& (7 : Int32))) (4620693217682128896 : UInt64)))), .second, .val (.double (FP.dadd (FP.i2d p3) (FP.ddiv (FP.i2d (p4 &&& (7 : Int32))) (4620693217682128896 : UInt64)))), .second, .unset] [(.int p0)])) _
        refine XS.ifYes X0.here hx rfl (pc0 := 31) (pc' := 59) rfl (hb hby at_31) rfl ((if0 _ _).trans (tlt hc31_1).1) (by decide) (by decide) ?_
        show Steps p.tables e below (s₁.setTop (mkF m 59 #[.val (.int p0), .val (.int p1), .val (.long q2), .second, .val (.int p3), .val (.int p4), .val (.long q5), .second, .val (.double (FP.dadd (FP.i2d p0) (FP.ddiv (FP.i2d (p1 &&& (7 : Int32))) (4620693217682128896 : UInt64)))), .second, .val (.double (FP.dadd (FP.i2d p3) (FP.ddiv (FP.i2d (p4 &&& (7 : Int32))) (4620693217682128896 : UInt64)))), .second, .unset] [])) _
        refine XS.iconst X0.here hx rfl (hb hby at_59) ?_
        exact k)
      exact ⟨s₁, _, X0, e0, N0, fun t k => pre8 t (by simpa only [v0_60_s0, if_pos hc31_1] using k)⟩
    · have pre9 : ∀ t, Steps p.tables e below (s₁.setTop (mkF m 38 #[.val (.int p0), .val (.int p1), .val (.long q2), .second, .val (.int p3), .val (.int p4), .val (.long q5), .second, .val (.double (FP.dadd (FP.i2d p0) (FP.ddiv (FP.i2d (p1 &&& (7 : Int32))) (4620693217682128896 : UInt64)))), .second, .val (.double (FP.dadd (FP.i2d p3) (FP.ddiv (FP.i2d (p4 &&& (7 : Int32))) (4620693217682128896 : UInt64)))), .second, .unset] [(.int (lcmpW (p0.toInt64) q2))])) t → Steps p.tables e below (s₁.setTop (entryFrame m #[(.int p0), (.int p1), (.long q2), (.int p3), (.int p4), (.long q5)] maxLocals)) t := fun t k => pre6 t (by
        show Steps p.tables e below (s₁.setTop (mkF m 31 #[.val (.int p0), .val (.int p1), .val (.long q2), .second, .val (.int p3), .val (.int p4), .val (.long q5), .second, .val (.double (FP.dadd (FP.i2d p0) (FP.ddiv (FP.i2d (p1 &&& (7 : Int32))) (4620693217682128896 : UInt64)))), .second, .val (.double (FP.dadd (FP.i2d p3) (FP.ddiv (FP.i2d (p4 &&& (7 : Int32))) (4620693217682128896 : UInt64)))), .second, .unset] [(.int p0)])) _
        refine XS.ifNo X0.here hx rfl (hb hby at_31) rfl ((if0 _ _).trans (flt hc31_1).1) ?_
        show Steps p.tables e below (s₁.setTop (mkF m 34 #[.val (.int p0), .val (.int p1), .val (.long q2), .second, .val (.int p3), .val (.int p4), .val (.long q5), .second, .val (.double (FP.dadd (FP.i2d p0) (FP.ddiv (FP.i2d (p1 &&& (7 : Int32))) (4620693217682128896 : UInt64)))), .second, .val (.double (FP.dadd (FP.i2d p3) (FP.ddiv (FP.i2d (p4 &&& (7 : Int32))) (4620693217682128896 : UInt64)))), .second, .unset] [])) _
        refine XS.iloadN X0.here hx rfl (hb hby at_34) rfl ?_
        show Steps p.tables e below (s₁.setTop (mkF m 35 #[.val (.int p0), .val (.int p1), .val (.long q2), .second, .val (.int p3), .val (.int p4), .val (.long q5), .second, .val (.double (FP.dadd (FP.i2d p0) (FP.ddiv (FP.i2d (p1 &&& (7 : Int32))) (4620693217682128896 : UInt64)))), .second, .val (.double (FP.dadd (FP.i2d p3) (FP.ddiv (FP.i2d (p4 &&& (7 : Int32))) (4620693217682128896 : UInt64)))), .second, .unset] [(.int p0)])) _
        refine XS.i2l X0.here hx rfl (hb hby at_35) rfl ?_
        show Steps p.tables e below (s₁.setTop (mkF m 36 #[.val (.int p0), .val (.int p1), .val (.long q2), .second, .val (.int p3), .val (.int p4), .val (.long q5), .second, .val (.double (FP.dadd (FP.i2d p0) (FP.ddiv (FP.i2d (p1 &&& (7 : Int32))) (4620693217682128896 : UInt64)))), .second, .val (.double (FP.dadd (FP.i2d p3) (FP.ddiv (FP.i2d (p4 &&& (7 : Int32))) (4620693217682128896 : UInt64)))), .second, .unset] [(.long (p0.toInt64))])) _
        refine XS.lloadN X0.here hx rfl (hb hby at_36) rfl ?_
        show Steps p.tables e below (s₁.setTop (mkF m 37 #[.val (.int p0), .val (.int p1), .val (.long q2), .second, .val (.int p3), .val (.int p4), .val (.long q5), .second, .val (.double (FP.dadd (FP.i2d p0) (FP.ddiv (FP.i2d (p1 &&& (7 : Int32))) (4620693217682128896 : UInt64)))), .second, .val (.double (FP.dadd (FP.i2d p3) (FP.ddiv (FP.i2d (p4 &&& (7 : Int32))) (4620693217682128896 : UInt64)))), .second, .unset] [(.long q2), (.long (p0.toInt64))])) _
        refine XS.lcmp X0.here hx rfl (hb hby at_37) rfl ?_
        exact k)
      by_cases hc38_2 : (p0.toInt64) < q2
      · have pre10 : ∀ t, Steps p.tables e below (s₁.setTop (mkF m 43 #[.val (.int p0), .val (.int p1), .val (.long q2), .second, .val (.int p3), .val (.int p4), .val (.long q5), .second, .val (.double (FP.dadd (FP.i2d p0) (FP.ddiv (FP.i2d (p1 &&& (7 : Int32))) (4620693217682128896 : UInt64)))), .second, .val (.double (FP.dadd (FP.i2d p3) (FP.ddiv (FP.i2d (p4 &&& (7 : Int32))) (4620693217682128896 : UInt64)))), .second, .unset] [(.int p3)])) t → Steps p.tables e below (s₁.setTop (entryFrame m #[(.int p0), (.int p1), (.long q2), (.int p3), (.int p4), (.long q5)] maxLocals)) t := fun t k => pre9 t (by
          show Steps p.tables e below (s₁.setTop (mkF m 38 #[.val (.int p0), .val (.int p1), .val (.long q2), .second, .val (.int p3), .val (.int p4), .val (.long q5), .second, .val (.double (FP.dadd (FP.i2d p0) (FP.ddiv (FP.i2d (p1 &&& (7 : Int32))) (4620693217682128896 : UInt64)))), .second, .val (.double (FP.dadd (FP.i2d p3) (FP.ddiv (FP.i2d (p4 &&& (7 : Int32))) (4620693217682128896 : UInt64)))), .second, .unset] [(.int (lcmpW (p0.toInt64) q2))])) _
          refine XS.ifNo X0.here hx rfl (hb hby at_38) rfl ((if0 _ _).trans (tlt ((lw_lt _ _).mpr hc38_2)).2.1) ?_
          show Steps p.tables e below (s₁.setTop (mkF m 41 #[.val (.int p0), .val (.int p1), .val (.long q2), .second, .val (.int p3), .val (.int p4), .val (.long q5), .second, .val (.double (FP.dadd (FP.i2d p0) (FP.ddiv (FP.i2d (p1 &&& (7 : Int32))) (4620693217682128896 : UInt64)))), .second, .val (.double (FP.dadd (FP.i2d p3) (FP.ddiv (FP.i2d (p4 &&& (7 : Int32))) (4620693217682128896 : UInt64)))), .second, .unset] [])) _
          refine XS.iload X0.here hx rfl (hb hby at_41) rfl ?_
          exact k)
        by_cases hc43_3 : p3 < (0 : Int32)
        · have pre11 : ∀ t, Steps p.tables e below (s₁.setTop (mkF m 60 #[.val (.int p0), .val (.int p1), .val (.long q2), .second, .val (.int p3), .val (.int p4), .val (.long q5), .second, .val (.double (FP.dadd (FP.i2d p0) (FP.ddiv (FP.i2d (p1 &&& (7 : Int32))) (4620693217682128896 : UInt64)))), .second, .val (.double (FP.dadd (FP.i2d p3) (FP.ddiv (FP.i2d (p4 &&& (7 : Int32))) (4620693217682128896 : UInt64)))), .second, .unset] [(.int (0 : Int32))])) t → Steps p.tables e below (s₁.setTop (entryFrame m #[(.int p0), (.int p1), (.long q2), (.int p3), (.int p4), (.long q5)] maxLocals)) t := fun t k => pre10 t (by
            show Steps p.tables e below (s₁.setTop (mkF m 43 #[.val (.int p0), .val (.int p1), .val (.long q2), .second, .val (.int p3), .val (.int p4), .val (.long q5), .second, .val (.double (FP.dadd (FP.i2d p0) (FP.ddiv (FP.i2d (p1 &&& (7 : Int32))) (4620693217682128896 : UInt64)))), .second, .val (.double (FP.dadd (FP.i2d p3) (FP.ddiv (FP.i2d (p4 &&& (7 : Int32))) (4620693217682128896 : UInt64)))), .second, .unset] [(.int p3)])) _
            refine XS.ifYes X0.here hx rfl (pc0 := 43) (pc' := 59) rfl (hb hby at_43) rfl ((if0 _ _).trans (tlt hc43_3).1) (by decide) (by decide) ?_
            show Steps p.tables e below (s₁.setTop (mkF m 59 #[.val (.int p0), .val (.int p1), .val (.long q2), .second, .val (.int p3), .val (.int p4), .val (.long q5), .second, .val (.double (FP.dadd (FP.i2d p0) (FP.ddiv (FP.i2d (p1 &&& (7 : Int32))) (4620693217682128896 : UInt64)))), .second, .val (.double (FP.dadd (FP.i2d p3) (FP.ddiv (FP.i2d (p4 &&& (7 : Int32))) (4620693217682128896 : UInt64)))), .second, .unset] [])) _
            refine XS.iconst X0.here hx rfl (hb hby at_59) ?_
            exact k)
          exact ⟨s₁, _, X0, e0, N0, fun t k => pre11 t (by simpa only [v0_60_s0, if_neg hc31_1, if_pos hc38_2, if_pos hc43_3] using k)⟩
        · have pre12 : ∀ t, Steps p.tables e below (s₁.setTop (mkF m 52 #[.val (.int p0), .val (.int p1), .val (.long q2), .second, .val (.int p3), .val (.int p4), .val (.long q5), .second, .val (.double (FP.dadd (FP.i2d p0) (FP.ddiv (FP.i2d (p1 &&& (7 : Int32))) (4620693217682128896 : UInt64)))), .second, .val (.double (FP.dadd (FP.i2d p3) (FP.ddiv (FP.i2d (p4 &&& (7 : Int32))) (4620693217682128896 : UInt64)))), .second, .unset] [(.int (lcmpW (p3.toInt64) q5))])) t → Steps p.tables e below (s₁.setTop (entryFrame m #[(.int p0), (.int p1), (.long q2), (.int p3), (.int p4), (.long q5)] maxLocals)) t := fun t k => pre10 t (by
            show Steps p.tables e below (s₁.setTop (mkF m 43 #[.val (.int p0), .val (.int p1), .val (.long q2), .second, .val (.int p3), .val (.int p4), .val (.long q5), .second, .val (.double (FP.dadd (FP.i2d p0) (FP.ddiv (FP.i2d (p1 &&& (7 : Int32))) (4620693217682128896 : UInt64)))), .second, .val (.double (FP.dadd (FP.i2d p3) (FP.ddiv (FP.i2d (p4 &&& (7 : Int32))) (4620693217682128896 : UInt64)))), .second, .unset] [(.int p3)])) _
            refine XS.ifNo X0.here hx rfl (hb hby at_43) rfl ((if0 _ _).trans (flt hc43_3).1) ?_
            show Steps p.tables e below (s₁.setTop (mkF m 46 #[.val (.int p0), .val (.int p1), .val (.long q2), .second, .val (.int p3), .val (.int p4), .val (.long q5), .second, .val (.double (FP.dadd (FP.i2d p0) (FP.ddiv (FP.i2d (p1 &&& (7 : Int32))) (4620693217682128896 : UInt64)))), .second, .val (.double (FP.dadd (FP.i2d p3) (FP.ddiv (FP.i2d (p4 &&& (7 : Int32))) (4620693217682128896 : UInt64)))), .second, .unset] [])) _
            refine XS.iload X0.here hx rfl (hb hby at_46) rfl ?_
            show Steps p.tables e below (s₁.setTop (mkF m 48 #[.val (.int p0), .val (.int p1), .val (.long q2), .second, .val (.int p3), .val (.int p4), .val (.long q5), .second, .val (.double (FP.dadd (FP.i2d p0) (FP.ddiv (FP.i2d (p1 &&& (7 : Int32))) (4620693217682128896 : UInt64)))), .second, .val (.double (FP.dadd (FP.i2d p3) (FP.ddiv (FP.i2d (p4 &&& (7 : Int32))) (4620693217682128896 : UInt64)))), .second, .unset] [(.int p3)])) _
            refine XS.i2l X0.here hx rfl (hb hby at_48) rfl ?_
            show Steps p.tables e below (s₁.setTop (mkF m 49 #[.val (.int p0), .val (.int p1), .val (.long q2), .second, .val (.int p3), .val (.int p4), .val (.long q5), .second, .val (.double (FP.dadd (FP.i2d p0) (FP.ddiv (FP.i2d (p1 &&& (7 : Int32))) (4620693217682128896 : UInt64)))), .second, .val (.double (FP.dadd (FP.i2d p3) (FP.ddiv (FP.i2d (p4 &&& (7 : Int32))) (4620693217682128896 : UInt64)))), .second, .unset] [(.long (p3.toInt64))])) _
            refine XS.lload X0.here hx rfl (hb hby at_49) rfl ?_
            show Steps p.tables e below (s₁.setTop (mkF m 51 #[.val (.int p0), .val (.int p1), .val (.long q2), .second, .val (.int p3), .val (.int p4), .val (.long q5), .second, .val (.double (FP.dadd (FP.i2d p0) (FP.ddiv (FP.i2d (p1 &&& (7 : Int32))) (4620693217682128896 : UInt64)))), .second, .val (.double (FP.dadd (FP.i2d p3) (FP.ddiv (FP.i2d (p4 &&& (7 : Int32))) (4620693217682128896 : UInt64)))), .second, .unset] [(.long q5), (.long (p3.toInt64))])) _
            refine XS.lcmp X0.here hx rfl (hb hby at_51) rfl ?_
            exact k)
          by_cases hc52_4 : (p3.toInt64) < q5
          · have pre13 : ∀ t, Steps p.tables e below (s₁.setTop (mkF m 60 #[.val (.int p0), .val (.int p1), .val (.long q2), .second, .val (.int p3), .val (.int p4), .val (.long q5), .second, .val (.double (FP.dadd (FP.i2d p0) (FP.ddiv (FP.i2d (p1 &&& (7 : Int32))) (4620693217682128896 : UInt64)))), .second, .val (.double (FP.dadd (FP.i2d p3) (FP.ddiv (FP.i2d (p4 &&& (7 : Int32))) (4620693217682128896 : UInt64)))), .second, .unset] [(.int (1 : Int32))])) t → Steps p.tables e below (s₁.setTop (entryFrame m #[(.int p0), (.int p1), (.long q2), (.int p3), (.int p4), (.long q5)] maxLocals)) t := fun t k => pre12 t (by
              show Steps p.tables e below (s₁.setTop (mkF m 52 #[.val (.int p0), .val (.int p1), .val (.long q2), .second, .val (.int p3), .val (.int p4), .val (.long q5), .second, .val (.double (FP.dadd (FP.i2d p0) (FP.ddiv (FP.i2d (p1 &&& (7 : Int32))) (4620693217682128896 : UInt64)))), .second, .val (.double (FP.dadd (FP.i2d p3) (FP.ddiv (FP.i2d (p4 &&& (7 : Int32))) (4620693217682128896 : UInt64)))), .second, .unset] [(.int (lcmpW (p3.toInt64) q5))])) _
              refine XS.ifNo X0.here hx rfl (hb hby at_52) rfl ((if0 _ _).trans (tlt ((lw_lt _ _).mpr hc52_4)).2.1) ?_
              show Steps p.tables e below (s₁.setTop (mkF m 55 #[.val (.int p0), .val (.int p1), .val (.long q2), .second, .val (.int p3), .val (.int p4), .val (.long q5), .second, .val (.double (FP.dadd (FP.i2d p0) (FP.ddiv (FP.i2d (p1 &&& (7 : Int32))) (4620693217682128896 : UInt64)))), .second, .val (.double (FP.dadd (FP.i2d p3) (FP.ddiv (FP.i2d (p4 &&& (7 : Int32))) (4620693217682128896 : UInt64)))), .second, .unset] [])) _
              refine XS.iconst X0.here hx rfl (hb hby at_55) ?_
              show Steps p.tables e below (s₁.setTop (mkF m 56 #[.val (.int p0), .val (.int p1), .val (.long q2), .second, .val (.int p3), .val (.int p4), .val (.long q5), .second, .val (.double (FP.dadd (FP.i2d p0) (FP.ddiv (FP.i2d (p1 &&& (7 : Int32))) (4620693217682128896 : UInt64)))), .second, .val (.double (FP.dadd (FP.i2d p3) (FP.ddiv (FP.i2d (p4 &&& (7 : Int32))) (4620693217682128896 : UInt64)))), .second, .unset] [(.int (1 : Int32))])) _
              refine XS.goto X0.here hx rfl (pc0 := 56) (pc' := 60) rfl (hb hby at_56) (by decide) (by decide) ?_
              exact k)
            exact ⟨s₁, _, X0, e0, N0, fun t k => pre13 t (by simpa only [v0_60_s0, if_neg hc31_1, if_pos hc38_2, if_neg hc43_3, if_pos hc52_4] using k)⟩
          · have pre14 : ∀ t, Steps p.tables e below (s₁.setTop (mkF m 60 #[.val (.int p0), .val (.int p1), .val (.long q2), .second, .val (.int p3), .val (.int p4), .val (.long q5), .second, .val (.double (FP.dadd (FP.i2d p0) (FP.ddiv (FP.i2d (p1 &&& (7 : Int32))) (4620693217682128896 : UInt64)))), .second, .val (.double (FP.dadd (FP.i2d p3) (FP.ddiv (FP.i2d (p4 &&& (7 : Int32))) (4620693217682128896 : UInt64)))), .second, .unset] [(.int (0 : Int32))])) t → Steps p.tables e below (s₁.setTop (entryFrame m #[(.int p0), (.int p1), (.long q2), (.int p3), (.int p4), (.long q5)] maxLocals)) t := fun t k => pre12 t (by
              show Steps p.tables e below (s₁.setTop (mkF m 52 #[.val (.int p0), .val (.int p1), .val (.long q2), .second, .val (.int p3), .val (.int p4), .val (.long q5), .second, .val (.double (FP.dadd (FP.i2d p0) (FP.ddiv (FP.i2d (p1 &&& (7 : Int32))) (4620693217682128896 : UInt64)))), .second, .val (.double (FP.dadd (FP.i2d p3) (FP.ddiv (FP.i2d (p4 &&& (7 : Int32))) (4620693217682128896 : UInt64)))), .second, .unset] [(.int (lcmpW (p3.toInt64) q5))])) _
              refine XS.ifYes X0.here hx rfl (pc0 := 52) (pc' := 59) rfl (hb hby at_52) rfl ((if0 _ _).trans (flt (fun q => hc52_4 ((lw_lt _ _).mp q))).2.1) (by decide) (by decide) ?_
              show Steps p.tables e below (s₁.setTop (mkF m 59 #[.val (.int p0), .val (.int p1), .val (.long q2), .second, .val (.int p3), .val (.int p4), .val (.long q5), .second, .val (.double (FP.dadd (FP.i2d p0) (FP.ddiv (FP.i2d (p1 &&& (7 : Int32))) (4620693217682128896 : UInt64)))), .second, .val (.double (FP.dadd (FP.i2d p3) (FP.ddiv (FP.i2d (p4 &&& (7 : Int32))) (4620693217682128896 : UInt64)))), .second, .unset] [])) _
              refine XS.iconst X0.here hx rfl (hb hby at_59) ?_
              exact k)
            exact ⟨s₁, _, X0, e0, N0, fun t k => pre14 t (by simpa only [v0_60_s0, if_neg hc31_1, if_pos hc38_2, if_neg hc43_3, if_neg hc52_4] using k)⟩
      · have pre15 : ∀ t, Steps p.tables e below (s₁.setTop (mkF m 60 #[.val (.int p0), .val (.int p1), .val (.long q2), .second, .val (.int p3), .val (.int p4), .val (.long q5), .second, .val (.double (FP.dadd (FP.i2d p0) (FP.ddiv (FP.i2d (p1 &&& (7 : Int32))) (4620693217682128896 : UInt64)))), .second, .val (.double (FP.dadd (FP.i2d p3) (FP.ddiv (FP.i2d (p4 &&& (7 : Int32))) (4620693217682128896 : UInt64)))), .second, .unset] [(.int (0 : Int32))])) t → Steps p.tables e below (s₁.setTop (entryFrame m #[(.int p0), (.int p1), (.long q2), (.int p3), (.int p4), (.long q5)] maxLocals)) t := fun t k => pre9 t (by
          show Steps p.tables e below (s₁.setTop (mkF m 38 #[.val (.int p0), .val (.int p1), .val (.long q2), .second, .val (.int p3), .val (.int p4), .val (.long q5), .second, .val (.double (FP.dadd (FP.i2d p0) (FP.ddiv (FP.i2d (p1 &&& (7 : Int32))) (4620693217682128896 : UInt64)))), .second, .val (.double (FP.dadd (FP.i2d p3) (FP.ddiv (FP.i2d (p4 &&& (7 : Int32))) (4620693217682128896 : UInt64)))), .second, .unset] [(.int (lcmpW (p0.toInt64) q2))])) _
          refine XS.ifYes X0.here hx rfl (pc0 := 38) (pc' := 59) rfl (hb hby at_38) rfl ((if0 _ _).trans (flt (fun q => hc38_2 ((lw_lt _ _).mp q))).2.1) (by decide) (by decide) ?_
          show Steps p.tables e below (s₁.setTop (mkF m 59 #[.val (.int p0), .val (.int p1), .val (.long q2), .second, .val (.int p3), .val (.int p4), .val (.long q5), .second, .val (.double (FP.dadd (FP.i2d p0) (FP.ddiv (FP.i2d (p1 &&& (7 : Int32))) (4620693217682128896 : UInt64)))), .second, .val (.double (FP.dadd (FP.i2d p3) (FP.ddiv (FP.i2d (p4 &&& (7 : Int32))) (4620693217682128896 : UInt64)))), .second, .unset] [])) _
          refine XS.iconst X0.here hx rfl (hb hby at_59) ?_
          exact k)
        exact ⟨s₁, _, X0, e0, N0, fun t k => pre15 t (by simpa only [v0_60_s0, if_neg hc31_1, if_neg hc38_2] using k)⟩
  have pre16 : ∀ t, Steps p.tables e below (T7.setTop (mkF m 69 #[.val (.int p0), .val (.int p1), .val (.long q2), .second, .val (.int p3), .val (.int p4), .val (.long q5), .second, .val (.double (FP.dadd (FP.i2d p0) (FP.ddiv (FP.i2d (p1 &&& (7 : Int32))) (4620693217682128896 : UInt64)))), .second, .val (.double (FP.dadd (FP.i2d p3) (FP.ddiv (FP.i2d (p4 &&& (7 : Int32))) (4620693217682128896 : UInt64)))), .second, .val (.int (v0_60_s0 p0 q2 p3 q5))] [(.long q5), (.long q2), (.double (FP.dadd (FP.i2d p3) (FP.ddiv (FP.i2d (p4 &&& (7 : Int32))) (4620693217682128896 : UInt64)))), (.double (FP.dadd (FP.i2d p0) (FP.ddiv (FP.i2d (p1 &&& (7 : Int32))) (4620693217682128896 : UInt64))))])) t → Steps p.tables e below (s₁.setTop (entryFrame m #[(.int p0), (.int p1), (.long q2), (.int p3), (.int p4), (.long q5)] maxLocals)) t := fun t k => pre7 t (by
    show Steps p.tables e below (T7.setTop (mkF m 60 #[.val (.int p0), .val (.int p1), .val (.long q2), .second, .val (.int p3), .val (.int p4), .val (.long q5), .second, .val (.double (FP.dadd (FP.i2d p0) (FP.ddiv (FP.i2d (p1 &&& (7 : Int32))) (4620693217682128896 : UInt64)))), .second, .val (.double (FP.dadd (FP.i2d p3) (FP.ddiv (FP.i2d (p4 &&& (7 : Int32))) (4620693217682128896 : UInt64)))), .second, .unset] [(.int (v0_60_s0 p0 q2 p3 q5))])) _
    refine XS.istore X7.here hx rfl (hb hby at_60) rfl (l' := #[.val (.int p0), .val (.int p1), .val (.long q2), .second, .val (.int p3), .val (.int p4), .val (.long q5), .second, .val (.double (FP.dadd (FP.i2d p0) (FP.ddiv (FP.i2d (p1 &&& (7 : Int32))) (4620693217682128896 : UInt64)))), .second, .val (.double (FP.dadd (FP.i2d p3) (FP.ddiv (FP.i2d (p4 &&& (7 : Int32))) (4620693217682128896 : UInt64)))), .second, .val (.int (v0_60_s0 p0 q2 p3 q5))]) rfl ?_
    show Steps p.tables e below (T7.setTop (mkF m 62 #[.val (.int p0), .val (.int p1), .val (.long q2), .second, .val (.int p3), .val (.int p4), .val (.long q5), .second, .val (.double (FP.dadd (FP.i2d p0) (FP.ddiv (FP.i2d (p1 &&& (7 : Int32))) (4620693217682128896 : UInt64)))), .second, .val (.double (FP.dadd (FP.i2d p3) (FP.ddiv (FP.i2d (p4 &&& (7 : Int32))) (4620693217682128896 : UInt64)))), .second, .val (.int (v0_60_s0 p0 q2 p3 q5))] [])) _
    refine XS.dload X7.here hx rfl (hb hby at_62) rfl ?_
    show Steps p.tables e below (T7.setTop (mkF m 64 #[.val (.int p0), .val (.int p1), .val (.long q2), .second, .val (.int p3), .val (.int p4), .val (.long q5), .second, .val (.double (FP.dadd (FP.i2d p0) (FP.ddiv (FP.i2d (p1 &&& (7 : Int32))) (4620693217682128896 : UInt64)))), .second, .val (.double (FP.dadd (FP.i2d p3) (FP.ddiv (FP.i2d (p4 &&& (7 : Int32))) (4620693217682128896 : UInt64)))), .second, .val (.int (v0_60_s0 p0 q2 p3 q5))] [(.double (FP.dadd (FP.i2d p0) (FP.ddiv (FP.i2d (p1 &&& (7 : Int32))) (4620693217682128896 : UInt64))))])) _
    refine XS.dload X7.here hx rfl (hb hby at_64) rfl ?_
    show Steps p.tables e below (T7.setTop (mkF m 66 #[.val (.int p0), .val (.int p1), .val (.long q2), .second, .val (.int p3), .val (.int p4), .val (.long q5), .second, .val (.double (FP.dadd (FP.i2d p0) (FP.ddiv (FP.i2d (p1 &&& (7 : Int32))) (4620693217682128896 : UInt64)))), .second, .val (.double (FP.dadd (FP.i2d p3) (FP.ddiv (FP.i2d (p4 &&& (7 : Int32))) (4620693217682128896 : UInt64)))), .second, .val (.int (v0_60_s0 p0 q2 p3 q5))] [(.double (FP.dadd (FP.i2d p3) (FP.ddiv (FP.i2d (p4 &&& (7 : Int32))) (4620693217682128896 : UInt64)))), (.double (FP.dadd (FP.i2d p0) (FP.ddiv (FP.i2d (p1 &&& (7 : Int32))) (4620693217682128896 : UInt64))))])) _
    refine XS.lloadN X7.here hx rfl (hb hby at_66) rfl ?_
    show Steps p.tables e below (T7.setTop (mkF m 67 #[.val (.int p0), .val (.int p1), .val (.long q2), .second, .val (.int p3), .val (.int p4), .val (.long q5), .second, .val (.double (FP.dadd (FP.i2d p0) (FP.ddiv (FP.i2d (p1 &&& (7 : Int32))) (4620693217682128896 : UInt64)))), .second, .val (.double (FP.dadd (FP.i2d p3) (FP.ddiv (FP.i2d (p4 &&& (7 : Int32))) (4620693217682128896 : UInt64)))), .second, .val (.int (v0_60_s0 p0 q2 p3 q5))] [(.long q2), (.double (FP.dadd (FP.i2d p3) (FP.ddiv (FP.i2d (p4 &&& (7 : Int32))) (4620693217682128896 : UInt64)))), (.double (FP.dadd (FP.i2d p0) (FP.ddiv (FP.i2d (p1 &&& (7 : Int32))) (4620693217682128896 : UInt64))))])) _
    refine XS.lload X7.here hx rfl (hb hby at_67) rfl ?_
    exact k)
  obtain ⟨_, _, ⟨T17, L17, k17, n17⟩, -, X17, ⟨Lc17, hQ17, l17, y17, z17⟩, st17⟩ := Jvm.LawKit.callS X7 hx (y := (⟨"com/example/touchfall/touchfall/Node", "isInBox", "(DDJJ)Z"⟩ : MethodName)) hown (mvT hZ (hw _ (List.mem_of_getElem? (i := 1) rfl))) (mvT hZ (hw _ (List.mem_of_getElem? (i := 2) rfl))) (mvT hZ (hw _ (List.mem_of_getElem? (i := 3) rfl))) (mvT hZ (hw _ (List.mem_of_getElem? (i := 4) rfl))) (by decide) (backOf (W := 0) (rm1 l Z a0 hw [] (FP.dadd (FP.i2d p0) (FP.ddiv (FP.i2d (p1 &&& (7 : Int32))) (4620693217682128896 : UInt64))) (FP.dadd (FP.i2d p3) (FP.ddiv (FP.i2d (p4 &&& (7 : Int32))) (4620693217682128896 : UInt64))) q2 q5 h0 n0 Z0) hZ (hw _ (List.mem_of_getElem? (i := 4) rfl)) (hw _ (List.mem_of_getElem? (i := 3) rfl)) (by decide) (by decide)) (g := (mkF m 69 #[.val (.int p0), .val (.int p1), .val (.long q2), .second, .val (.int p3), .val (.int p4), .val (.long q5), .second, .val (.double (FP.dadd (FP.i2d p0) (FP.ddiv (FP.i2d (p1 &&& (7 : Int32))) (4620693217682128896 : UInt64)))), .second, .val (.double (FP.dadd (FP.i2d p3) (FP.ddiv (FP.i2d (p4 &&& (7 : Int32))) (4620693217682128896 : UInt64)))), .second, .val (.int (v0_60_s0 p0 q2 p3 q5))] [(.long q5), (.long q2), (.double (FP.dadd (FP.i2d p3) (FP.ddiv (FP.i2d (p4 &&& (7 : Int32))) (4620693217682128896 : UInt64)))), (.double (FP.dadd (FP.i2d p0) (FP.ddiv (FP.i2d (p1 &&& (7 : Int32))) (4620693217682128896 : UInt64))))])) rfl (by rw [hml]; rfl) (argsL := [(.double (FP.dadd (FP.i2d p0) (FP.ddiv (FP.i2d (p1 &&& (7 : Int32))) (4620693217682128896 : UInt64)))), (.double (FP.dadd (FP.i2d p3) (FP.ddiv (FP.i2d (p4 &&& (7 : Int32))) (4620693217682128896 : UInt64)))), (.long q2), (.long q5)]) (rest := []) (lenOf pd__DDJJ_Z rfl) rfl (by show 2 * 0 + _ ≤ _; exact Nat.le_of_eq rfl) (hb hby at_69) (fun _ _ => ⟨rfl, e7, (by decide : 0 + 0 ≤ _), (by decide : 0 + 0 ≤ _)⟩)
  dsimp only [Pt.U, Pt.locs, Pt.cells, Pt.slots] at X17 l17 y17 z17 st17 hQ17
  subst l17 y17 z17
  obtain ⟨rfl, Nq17, e17⟩ := hQ17
  have N17 := Fr.app N7 Nq17
  have pre18 : ∀ t, Steps p.tables e below (T17.setTop (mkF m 72 #[.val (.int p0), .val (.int p1), .val (.long q2), .second, .val (.int p3), .val (.int p4), .val (.long q5), .second, .val (.double (FP.dadd (FP.i2d p0) (FP.ddiv (FP.i2d (p1 &&& (7 : Int32))) (4620693217682128896 : UInt64)))), .second, .val (.double (FP.dadd (FP.i2d p3) (FP.ddiv (FP.i2d (p4 &&& (7 : Int32))) (4620693217682128896 : UInt64)))), .second, .val (.int (v0_60_s0 p0 q2 p3 q5))] [(.int (f1 (FP.dadd (FP.i2d p0) (FP.ddiv (FP.i2d (p1 &&& (7 : Int32))) (4620693217682128896 : UInt64))) (FP.dadd (FP.i2d p3) (FP.ddiv (FP.i2d (p4 &&& (7 : Int32))) (4620693217682128896 : UInt64))) q2 q5))])) t → Steps p.tables e below (s₁.setTop (entryFrame m #[(.int p0), (.int p1), (.long q2), (.int p3), (.int p4), (.long q5)] maxLocals)) t := fun t k => pre16 t (st17 _ k)
  have pre19 : ∀ t, Steps p.tables e below (T17.setTop (mkF m 74 #[.val (.int p0), .val (.int p1), .val (.long q2), .second, .val (.int p3), .val (.int p4), .val (.long q5), .second, .val (.double (FP.dadd (FP.i2d p0) (FP.ddiv (FP.i2d (p1 &&& (7 : Int32))) (4620693217682128896 : UInt64)))), .second, .val (.double (FP.dadd (FP.i2d p3) (FP.ddiv (FP.i2d (p4 &&& (7 : Int32))) (4620693217682128896 : UInt64)))), .second, .val (.int (v0_60_s0 p0 q2 p3 q5))] [(.int (v0_60_s0 p0 q2 p3 q5)), (.int (f1 (FP.dadd (FP.i2d p0) (FP.ddiv (FP.i2d (p1 &&& (7 : Int32))) (4620693217682128896 : UInt64))) (FP.dadd (FP.i2d p3) (FP.ddiv (FP.i2d (p4 &&& (7 : Int32))) (4620693217682128896 : UInt64))) q2 q5))])) t → Steps p.tables e below (s₁.setTop (entryFrame m #[(.int p0), (.int p1), (.long q2), (.int p3), (.int p4), (.long q5)] maxLocals)) t := fun t k => pre18 t (by
    show Steps p.tables e below (T17.setTop (mkF m 72 #[.val (.int p0), .val (.int p1), .val (.long q2), .second, .val (.int p3), .val (.int p4), .val (.long q5), .second, .val (.double (FP.dadd (FP.i2d p0) (FP.ddiv (FP.i2d (p1 &&& (7 : Int32))) (4620693217682128896 : UInt64)))), .second, .val (.double (FP.dadd (FP.i2d p3) (FP.ddiv (FP.i2d (p4 &&& (7 : Int32))) (4620693217682128896 : UInt64)))), .second, .val (.int (v0_60_s0 p0 q2 p3 q5))] [(.int (f1 (FP.dadd (FP.i2d p0) (FP.ddiv (FP.i2d (p1 &&& (7 : Int32))) (4620693217682128896 : UInt64))) (FP.dadd (FP.i2d p3) (FP.ddiv (FP.i2d (p4 &&& (7 : Int32))) (4620693217682128896 : UInt64))) q2 q5))])) _
    refine XS.iload X17.here hx rfl (hb hby at_72) rfl ?_
    exact k)
  by_cases hc74_5 : (f1 (FP.dadd (FP.i2d p0) (FP.ddiv (FP.i2d (p1 &&& (7 : Int32))) (4620693217682128896 : UInt64))) (FP.dadd (FP.i2d p3) (FP.ddiv (FP.i2d (p4 &&& (7 : Int32))) (4620693217682128896 : UInt64))) q2 q5) = (v0_60_s0 p0 q2 p3 q5)
  · have pre20 : ∀ t, Steps p.tables e below (T17.setTop (mkF m 82 #[.val (.int p0), .val (.int p1), .val (.long q2), .second, .val (.int p3), .val (.int p4), .val (.long q5), .second, .val (.double (FP.dadd (FP.i2d p0) (FP.ddiv (FP.i2d (p1 &&& (7 : Int32))) (4620693217682128896 : UInt64)))), .second, .val (.double (FP.dadd (FP.i2d p3) (FP.ddiv (FP.i2d (p4 &&& (7 : Int32))) (4620693217682128896 : UInt64)))), .second, .val (.int (v0_60_s0 p0 q2 p3 q5))] [(.int (1 : Int32))])) t → Steps p.tables e below (s₁.setTop (entryFrame m #[(.int p0), (.int p1), (.long q2), (.int p3), (.int p4), (.long q5)] maxLocals)) t := fun t k => pre19 t (by
      show Steps p.tables e below (T17.setTop (mkF m 74 #[.val (.int p0), .val (.int p1), .val (.long q2), .second, .val (.int p3), .val (.int p4), .val (.long q5), .second, .val (.double (FP.dadd (FP.i2d p0) (FP.ddiv (FP.i2d (p1 &&& (7 : Int32))) (4620693217682128896 : UInt64)))), .second, .val (.double (FP.dadd (FP.i2d p3) (FP.ddiv (FP.i2d (p4 &&& (7 : Int32))) (4620693217682128896 : UInt64)))), .second, .val (.int (v0_60_s0 p0 q2 p3 q5))] [(.int (v0_60_s0 p0 q2 p3 q5)), (.int (f1 (FP.dadd (FP.i2d p0) (FP.ddiv (FP.i2d (p1 &&& (7 : Int32))) (4620693217682128896 : UInt64))) (FP.dadd (FP.i2d p3) (FP.ddiv (FP.i2d (p4 &&& (7 : Int32))) (4620693217682128896 : UInt64))) q2 q5))])) _
      refine XS.icmpNo X17.here hx rfl (hb hby at_74) rfl (teq hc74_5).2 ?_
      show Steps p.tables e below (T17.setTop (mkF m 77 #[.val (.int p0), .val (.int p1), .val (.long q2), .second, .val (.int p3), .val (.int p4), .val (.long q5), .second, .val (.double (FP.dadd (FP.i2d p0) (FP.ddiv (FP.i2d (p1 &&& (7 : Int32))) (4620693217682128896 : UInt64)))), .second, .val (.double (FP.dadd (FP.i2d p3) (FP.ddiv (FP.i2d (p4 &&& (7 : Int32))) (4620693217682128896 : UInt64)))), .second, .val (.int (v0_60_s0 p0 q2 p3 q5))] [])) _
      refine XS.iconst X17.here hx rfl (hb hby at_77) ?_
      show Steps p.tables e below (T17.setTop (mkF m 78 #[.val (.int p0), .val (.int p1), .val (.long q2), .second, .val (.int p3), .val (.int p4), .val (.long q5), .second, .val (.double (FP.dadd (FP.i2d p0) (FP.ddiv (FP.i2d (p1 &&& (7 : Int32))) (4620693217682128896 : UInt64)))), .second, .val (.double (FP.dadd (FP.i2d p3) (FP.ddiv (FP.i2d (p4 &&& (7 : Int32))) (4620693217682128896 : UInt64)))), .second, .val (.int (v0_60_s0 p0 q2 p3 q5))] [(.int (1 : Int32))])) _
      refine XS.goto X17.here hx rfl (pc0 := 78) (pc' := 82) rfl (hb hby at_78) (by decide) (by decide) ?_
      exact k)
    obtain ⟨fs, hr, hrun, hended, hW, hsame⟩ := X17.leave (v := some (.int (1 : Int32))) (fun h => by rw [Bd.returns] at h; cases h)
    refine ⟨_, _, ?_, hrun, hended, _, _, rfl, ?_, ⟨_, rfl⟩, hW, hsame.mono (by decide) (by decide)⟩
    · exact pre20 _ (retN X17 hx (t := .boolean) Bd.returns (by simp) (hb hby at_82) hr)
    · exact ⟨by simp only [f0, if_pos hc74_5], N17, trivial⟩
  · have pre21 : ∀ t, Steps p.tables e below (T17.setTop (mkF m 82 #[.val (.int p0), .val (.int p1), .val (.long q2), .second, .val (.int p3), .val (.int p4), .val (.long q5), .second, .val (.double (FP.dadd (FP.i2d p0) (FP.ddiv (FP.i2d (p1 &&& (7 : Int32))) (4620693217682128896 : UInt64)))), .second, .val (.double (FP.dadd (FP.i2d p3) (FP.ddiv (FP.i2d (p4 &&& (7 : Int32))) (4620693217682128896 : UInt64)))), .second, .val (.int (v0_60_s0 p0 q2 p3 q5))] [(.int (0 : Int32))])) t → Steps p.tables e below (s₁.setTop (entryFrame m #[(.int p0), (.int p1), (.long q2), (.int p3), (.int p4), (.long q5)] maxLocals)) t := fun t k => pre19 t (by
      show Steps p.tables e below (T17.setTop (mkF m 74 #[.val (.int p0), .val (.int p1), .val (.long q2), .second, .val (.int p3), .val (.int p4), .val (.long q5), .second, .val (.double (FP.dadd (FP.i2d p0) (FP.ddiv (FP.i2d (p1 &&& (7 : Int32))) (4620693217682128896 : UInt64)))), .second, .val (.double (FP.dadd (FP.i2d p3) (FP.ddiv (FP.i2d (p4 &&& (7 : Int32))) (4620693217682128896 : UInt64)))), .second, .val (.int (v0_60_s0 p0 q2 p3 q5))] [(.int (v0_60_s0 p0 q2 p3 q5)), (.int (f1 (FP.dadd (FP.i2d p0) (FP.ddiv (FP.i2d (p1 &&& (7 : Int32))) (4620693217682128896 : UInt64))) (FP.dadd (FP.i2d p3) (FP.ddiv (FP.i2d (p4 &&& (7 : Int32))) (4620693217682128896 : UInt64))) q2 q5))])) _
      refine XS.icmpYes X17.here hx rfl (pc0 := 74) (pc' := 81) rfl (hb hby at_74) rfl (feq hc74_5).2 (by decide) (by decide) ?_
      show Steps p.tables e below (T17.setTop (mkF m 81 #[.val (.int p0), .val (.int p1), .val (.long q2), .second, .val (.int p3), .val (.int p4), .val (.long q5), .second, .val (.double (FP.dadd (FP.i2d p0) (FP.ddiv (FP.i2d (p1 &&& (7 : Int32))) (4620693217682128896 : UInt64)))), .second, .val (.double (FP.dadd (FP.i2d p3) (FP.ddiv (FP.i2d (p4 &&& (7 : Int32))) (4620693217682128896 : UInt64)))), .second, .val (.int (v0_60_s0 p0 q2 p3 q5))] [])) _
      refine XS.iconst X17.here hx rfl (hb hby at_81) ?_
      exact k)
    obtain ⟨fs, hr, hrun, hended, hW, hsame⟩ := X17.leave (v := some (.int (0 : Int32))) (fun h => by rw [Bd.returns] at h; cases h)
    refine ⟨_, _, ?_, hrun, hended, _, _, rfl, ?_, ⟨_, rfl⟩, hW, hsame.mono (by decide) (by decide)⟩
    · exact pre21 _ (retN X17 hx (t := .boolean) Bd.returns (by simp) (hb hby at_82) hr)
    · exact ⟨by simp only [f0, if_neg hc74_5], N17, trivial⟩
theorem own_law (i0 i1 : Int32) (i2 : Int64) (i3 i4 : Int32) (i5 : Int64) : f0 i0 i1 i2 i3 i4 i5 = 1 := by
  unfold f0
  refine if_pos ?_
  unfold f1 v0_60_s0
  simp only [own_x0, own_xw]
set_option maxRecDepth 65536 in
set_option maxHeartbeats 40000000 in
theorem comes_1 {Post : Tables → Env → Array Value → State → Outcome → State → Prop} (hpost : ∀ tb e args s v u, (limb_1_1.after args s (.returned v) u = true ∧ limb_1_2.after args s (.returned v) u = true ∧ True) → FrameEnd s (.returned v) u (Jvm.fieldLocs frame_1_writes args s ++ Jvm.arrayLocs frame_1_arrays args s ++ Jvm.staticLocs frame_1_statics s) 0 0 → Post tb e args s (.returned v) u) :
    ArmFor flags0 classFile x code maxLocals ret World_1 tables_1 room_1 Calls_1 rest_1 Pre_1 Post := by
  intro l hfl _ _ p e ha hc hk s m args below hf hA hF happ hP
  obtain ⟨hcalls, hrest, hpre⟩ := hP
  obtain ⟨-, -, -, hnamed, -, -, -, hat⟩ := (Spec.applies_iff hf).mp happ
  obtain ⟨hg, hn⟩ := and_e (Cond.before_iff.mp (show (Jvm.Cond.and given_1 narrow_1).before args s = true from hpre))
  obtain ⟨g1, g2⟩ := and_e hg
  obtain ⟨g3, g4⟩ := and_e g2
  obtain ⟨g5, g6⟩ := and_e g4
  obtain ⟨g7, g8⟩ := and_e g6
  obtain ⟨g9, g10⟩ := and_e g8
  obtain ⟨g11, g12⟩ := and_e g10
  obtain ⟨w0, w1, w2, w3, w4, w5, rfl⟩ : ∃ w0 w1 w2 w3 w4 w5 : Value, args = #[w0, w1, w2, w3, w4, w5] := by
    have hs : args.size = 6 := by simpa [Cond.value, given_1] using g1
    obtain ⟨L⟩ := args
    match L, hs with
    | [w0, w1, w2, w3, w4, w5], _ => exact ⟨w0, w1, w2, w3, w4, w5, rfl⟩
  have hw := fun d (hd : d ∈ tables_1) => atoms_spec (ws := Jvm.Cond.code x code maxLocals ret :: tables_1) hat d (List.mem_cons_of_mem _ hd)
  obtain ⟨i0, ei0⟩ := is_v g3
  obtain rfl : w0 = (.int i0) := Option.some.inj ei0
  obtain ⟨i1, ei1⟩ := is_v g5
  obtain rfl : w1 = (.int i1) := Option.some.inj ei1
  obtain ⟨i2, ei2⟩ := isL_v g7
  obtain rfl : w2 = (.long i2) := Option.some.inj ei2
  obtain ⟨i3, ei3⟩ := is_v g9
  obtain rfl : w3 = (.int i3) := Option.some.inj ei3
  obtain ⟨i4, ei4⟩ := is_v g11
  obtain rfl : w4 = (.int i4) := Option.some.inj ei4
  obtain ⟨i5, ei5⟩ := isL_v g12
  obtain rfl : w5 = (.long i5) := Option.some.inj ei5
  obtain ⟨n, o, h1, h2, h3, _, L, rfl, ⟨rfl, N, -⟩, hq⟩ := rm0 l s _ hw tables_1 i0 i1 i2 i3 i4 i5 s.heap s.heap.size (Nat.le_refl _) p e ha hc hk s m _ below hf ((Spec.applies_iff_loose hf).mp happ).1 ⟨rfl, State.Warmed39.refl s, rfl⟩ trivial
  rw [own_law i0 i1 i2 i3 i4 i5] at h3 hq
  refine ⟨n, _, h1, h2, h3, hpost _ _ _ _ _ _ ⟨Cond.after_iff.mpr rfl, Cond.after_iff.mpr (eq_i res_at (Term.int_eval (1)) rfl), trivial⟩ ⟨hq.1, hq.2.1, (hq.2.2.sift fun y hy => Or.inr (N y hy)).mono (by decide) (by decide)⟩⟩
theorem main_1_1 : Claimed_1_1 := comes_1 fun _ _ _ _ _ _ h hF => ⟨h.1, hF⟩
theorem main_1_2 : Claimed_1_2 := comes_1 fun _ _ _ _ _ _ h hF => ⟨h.2.1, hF⟩
end Jvm.Pilot.@@N@@
namespace Jvm.Pilot.@@N@@
open Jvm Jvm.ClassFile Sem Op Lib Jvm.Free Jvm.Stand Jvm.Pilot.@@N@@.Jvm.D
/-! MADE BY PROGRAM (witnessworld.py) out of the Statement's table words and the real class files: 9 classes; the members and pool entries that the words name. The judged class is class 1, her method 1. -/
namespace start1
open Jvm.ClassFile
def u (s : String) : CpInfo := .utf8 (stringToUtf16 s)
/-- a pool by its gaps: so many unusable entries, then the entry; so many at the end -/
def gap : Nat → List CpInfo → List CpInfo
  | 0, r => r
  | n + 1, r => .unusable :: gap n r
def poolList (es : List (Nat × CpInfo)) (last : Nat) : List CpInfo := es.foldr (fun e r => gap e.1 (e.2 :: r)) (gap last [])
def pool (es : List (Nat × CpInfo)) (last : Nat) : Array CpInfo := ⟨poolList es last⟩
def fileOf (pool : Array CpInfo) (this : Nat) (attrs : Array Attribute := #[]) (ms : Array MethodInfo := #[]) (fl : Nat := 33) (sup : Nat := 0) (ifs : Array Nat := #[]) (fds : Array FieldInfo := #[]) : ClassFile where
  minorVersion := 0
  majorVersion := 65
  constantPool := pool
  accessFlags := fl
  thisClass := this
  superClass := sup
  interfaces := ifs
  fields := fds
  methods := ms
  attributes := attrs
def plain (name : String) (sup : Option ClassId) : Class where
  name := name
  kind := .ordinary
  loader := none
  accessFlags := 33
  super := sup
  interfaces := #[]
  cf := none
  fields := #[]
  methods := #[]
  instanceTypes := #[]
  staticTypes := #[]
  resolved := #[]
  callSites := []
  init := .initialized
  statics := none
  mirror := none

def pool0 : Array CpInfo := pool [(5, u "<init>"), (0, u "()V"), (1, .class_ 10), (1, u "java/lang/Object")] 113

def k0m0 : Method := { name := "<init>", desc := "()V", sig := { parameters := [], returnType := none }, accessFlags := 1, code := none }
/-- java/lang/Object -/
def k0 : Class := { plain "java/lang/Object" none with
  accessFlags := 33
  interfaces := #[]
  cf := some (fileOf pool0 8 #[] #[{ accessFlags := 1, nameIndex := 5, descriptorIndex := 6, attributes := #[] }] 33 0 #[] #[])
  fields := #[]
  methods := #[k0m0]
  instanceTypes := #[]
  staticTypes := #[]
  resolved := Array.replicate 124 none
  statics := none }

def pool1 : Array CpInfo := pool [(2, .class_ 4), (1, u "java/lang/Object"), (0, u "<init>"), (0, u "()V"), (0, .double 4620693217682128896), (1, .methodref 10 11), (0, .class_ 12), (0, .nameAndType 13 14), (0, u "com/example/touchfall/touchfall/Node"), (0, u "isInBox"), (0, u "(DDJJ)Z"), (0, .class_ 16), (0, u "com/example/touchfall/touchfall/NodeIsInBox62PinLaw"), (2, u "law"), (0, u "(IIJIIJ)Z")] 3

def k1m0 : Method := { name := "<init>", desc := "()V", sig := { parameters := [], returnType := none }, accessFlags := 1, code := none }
def k1c1 : Code := { maxStack := 8, maxLocals := 13, code := code, exceptionTable := #[], attributes := #[] }
def k1m1 : Method := { name := "law", desc := "(IIJIIJ)Z", sig := { parameters := [.int, .int, .long, .int, .int, .long], returnType := some .boolean }, accessFlags := 9, code := some k1c1 }
/-- com/example/touchfall/touchfall/NodeIsInBox62PinLaw -/
def k1 : Class := { plain "com/example/touchfall/touchfall/NodeIsInBox62PinLaw" (some 0) with
  accessFlags := 49
  interfaces := #[]
  cf := some (fileOf pool1 15 #[] #[{ accessFlags := 1, nameIndex := 5, descriptorIndex := 6, attributes := #[] }, { accessFlags := 9, nameIndex := 19, descriptorIndex := 20, attributes := #[] }] 49 2 #[] #[])
  fields := #[]
  methods := #[k1m0, k1m1]
  instanceTypes := #[]
  staticTypes := #[]
  resolved := Array.replicate 24 none
  statics := none }

def pool2 : Array CpInfo := pool [(2, .class_ 4), (1, u "java/lang/Object"), (3, .class_ 10), (1, u "com/example/touchfall/touchfall/Node"), (0, u "visible"), (0, u "Z"), (2, u "enabled"), (2, u "scaleX"), (0, u "D"), (2, u "scaleY"), (20, u "name"), (0, u "Ljava/lang/String;"), (2, u "left"), (0, u "I"), (2, u "top"), (2, u "width"), (2, u "height"), (4, u "pivotX"), (2, u "pivotY"), (70, u "ownFrom"), (0, u "Lcom/example/touchfall/touchfall/Coordinates;"), (8, u "undone"), (6, u "ownMade"), (5, u "parent"), (0, u "Lcom/example/touchfall/touchfall/Group;"), (34, u "transform"), (5, u "isInBox"), (40, u "animating"), (14, u "translationX"), (2, u "translationY"), (26, u "rotation"), (48, u "clickable"), (2, u "longClickable"), (2, u "doubleTap"), (0, u "Lcom/example/touchfall/touchfall/DoubleTap;"), (12, u "listener"), (0, u "Lcom/example/touchfall/touchfall/Hook;"), (2, u "touch"), (2, u "hover"), (2, u "dispatch"), (0, u "Ljava/lang/Boolean;"), (2, u "disallow"), (0, u "Lcom/example/touchfall/touchfall/Action;"), (15, u "delegate"), (0, u "Lcom/example/touchfall/touchfall/TouchDelegate;"), (2, u "clickHandler"), (0, u "Ljava/util/function/Consumer;"), (2, u "longClickHandler"), (2, u "doubleClickHandler"), (2, u "flingable"), (5, u "flingHandler"), (0, u "Lcom/example/touchfall/touchfall/FlingHandler;"), (2, u "motion"), (0, u "Lcom/example/touchfall/touchfall/Motion;"), (5, u "scalable"), (5, u "scaleHandler"), (0, u "Lcom/example/touchfall/touchfall/ScaleHandler;"), (2, u "pinch"), (0, u "Lcom/example/touchfall/touchfall/Pinch;"), (9, u "pressed"), (8, u "MAX_NAME"), (4, u "tap"), (0, u "Lcom/example/touchfall/touchfall/Clock$Work;"), (0, u "longPress"), (0, u "longPressed"), (9, u "(DDJJ)Z")] 136

def k2c0 : Code := { maxStack := 4, maxLocals := 8, code := prog_27_method_10_code, exceptionTable := #[], attributes := #[] }
def k2m0 : Method := { name := "isInBox", desc := "(DDJJ)Z", sig := { parameters := [.double, .double, .long, .long], returnType := some .boolean }, accessFlags := 8, code := some k2c0 }
/-- com/example/touchfall/touchfall/Node -/
def k2 : Class := { plain "com/example/touchfall/touchfall/Node" (some 0) with
  accessFlags := 1057
  interfaces := #[]
  cf := some (fileOf pool2 8 #[] #[{ accessFlags := 8, nameIndex := 201, descriptorIndex := 466, attributes := #[] }] 1057 2 #[] #[{ accessFlags := 26, nameIndex := 448, descriptorIndex := 48, attributes := #[] }, { accessFlags := 16, nameIndex := 43, descriptorIndex := 44, attributes := #[] }, { accessFlags := 16, nameIndex := 47, descriptorIndex := 48, attributes := #[] }, { accessFlags := 16, nameIndex := 51, descriptorIndex := 48, attributes := #[] }, { accessFlags := 16, nameIndex := 54, descriptorIndex := 48, attributes := #[] }, { accessFlags := 16, nameIndex := 57, descriptorIndex := 48, attributes := #[] }, { accessFlags := 0, nameIndex := 159, descriptorIndex := 160, attributes := #[] }, { accessFlags := 0, nameIndex := 11, descriptorIndex := 12, attributes := #[] }, { accessFlags := 0, nameIndex := 242, descriptorIndex := 12, attributes := #[] }, { accessFlags := 0, nameIndex := 15, descriptorIndex := 12, attributes := #[] }, { accessFlags := 0, nameIndex := 336, descriptorIndex := 12, attributes := #[] }, { accessFlags := 0, nameIndex := 339, descriptorIndex := 12, attributes := #[] }, { accessFlags := 0, nameIndex := 356, descriptorIndex := 357, attributes := #[] }, { accessFlags := 0, nameIndex := 360, descriptorIndex := 357, attributes := #[] }, { accessFlags := 0, nameIndex := 363, descriptorIndex := 357, attributes := #[] }, { accessFlags := 0, nameIndex := 366, descriptorIndex := 367, attributes := #[] }, { accessFlags := 0, nameIndex := 370, descriptorIndex := 371, attributes := #[] }, { accessFlags := 0, nameIndex := 387, descriptorIndex := 388, attributes := #[] }, { accessFlags := 0, nameIndex := 391, descriptorIndex := 392, attributes := #[] }, { accessFlags := 0, nameIndex := 395, descriptorIndex := 392, attributes := #[] }, { accessFlags := 0, nameIndex := 398, descriptorIndex := 392, attributes := #[] }, { accessFlags := 0, nameIndex := 342, descriptorIndex := 343, attributes := #[] }, { accessFlags := 0, nameIndex := 439, descriptorIndex := 12, attributes := #[] }, { accessFlags := 0, nameIndex := 453, descriptorIndex := 454, attributes := #[] }, { accessFlags := 0, nameIndex := 455, descriptorIndex := 454, attributes := #[] }, { accessFlags := 0, nameIndex := 456, descriptorIndex := 12, attributes := #[] }, { accessFlags := 0, nameIndex := 401, descriptorIndex := 12, attributes := #[] }, { accessFlags := 0, nameIndex := 407, descriptorIndex := 408, attributes := #[] }, { accessFlags := 0, nameIndex := 411, descriptorIndex := 412, attributes := #[] }, { accessFlags := 0, nameIndex := 418, descriptorIndex := 12, attributes := #[] }, { accessFlags := 0, nameIndex := 424, descriptorIndex := 425, attributes := #[] }, { accessFlags := 0, nameIndex := 428, descriptorIndex := 429, attributes := #[] }, { accessFlags := 2, nameIndex := 257, descriptorIndex := 19, attributes := #[] }, { accessFlags := 2, nameIndex := 260, descriptorIndex := 19, attributes := #[] }, { accessFlags := 2, nameIndex := 18, descriptorIndex := 19, attributes := #[] }, { accessFlags := 2, nameIndex := 22, descriptorIndex := 19, attributes := #[] }, { accessFlags := 2, nameIndex := 287, descriptorIndex := 19, attributes := #[] }, { accessFlags := 2, nameIndex := 62, descriptorIndex := 19, attributes := #[] }, { accessFlags := 2, nameIndex := 65, descriptorIndex := 19, attributes := #[] }, { accessFlags := 0, nameIndex := 195, descriptorIndex := 137, attributes := #[] }, { accessFlags := 2, nameIndex := 146, descriptorIndex := 137, attributes := #[] }, { accessFlags := 2, nameIndex := 136, descriptorIndex := 137, attributes := #[] }, { accessFlags := 2, nameIndex := 153, descriptorIndex := 137, attributes := #[] }])
  fields := #[{ name := "MAX_NAME", type := .int, accessFlags := 26, slot := 0, constantValue := 0 }, { name := "name", type := (.object "java/lang/String"), accessFlags := 16, slot := 0, constantValue := 0 }, { name := "left", type := .int, accessFlags := 16, slot := 1, constantValue := 0 }, { name := "top", type := .int, accessFlags := 16, slot := 2, constantValue := 0 }, { name := "width", type := .int, accessFlags := 16, slot := 3, constantValue := 0 }, { name := "height", type := .int, accessFlags := 16, slot := 4, constantValue := 0 }, { name := "parent", type := (.object "com/example/touchfall/touchfall/Group"), accessFlags := 0, slot := 5, constantValue := 0 }, { name := "visible", type := .boolean, accessFlags := 0, slot := 6, constantValue := 0 }, { name := "animating", type := .boolean, accessFlags := 0, slot := 7, constantValue := 0 }, { name := "enabled", type := .boolean, accessFlags := 0, slot := 8, constantValue := 0 }, { name := "clickable", type := .boolean, accessFlags := 0, slot := 9, constantValue := 0 }, { name := "longClickable", type := .boolean, accessFlags := 0, slot := 10, constantValue := 0 }, { name := "listener", type := (.object "com/example/touchfall/touchfall/Hook"), accessFlags := 0, slot := 11, constantValue := 0 }, { name := "touch", type := (.object "com/example/touchfall/touchfall/Hook"), accessFlags := 0, slot := 12, constantValue := 0 }, { name := "hover", type := (.object "com/example/touchfall/touchfall/Hook"), accessFlags := 0, slot := 13, constantValue := 0 }, { name := "dispatch", type := (.object "java/lang/Boolean"), accessFlags := 0, slot := 14, constantValue := 0 }, { name := "disallow", type := (.object "com/example/touchfall/touchfall/Action"), accessFlags := 0, slot := 15, constantValue := 0 }, { name := "delegate", type := (.object "com/example/touchfall/touchfall/TouchDelegate"), accessFlags := 0, slot := 16, constantValue := 0 }, { name := "clickHandler", type := (.object "java/util/function/Consumer"), accessFlags := 0, slot := 17, constantValue := 0 }, { name := "longClickHandler", type := (.object "java/util/function/Consumer"), accessFlags := 0, slot := 18, constantValue := 0 }, { name := "doubleClickHandler", type := (.object "java/util/function/Consumer"), accessFlags := 0, slot := 19, constantValue := 0 }, { name := "doubleTap", type := (.object "com/example/touchfall/touchfall/DoubleTap"), accessFlags := 0, slot := 20, constantValue := 0 }, { name := "pressed", type := .boolean, accessFlags := 0, slot := 21, constantValue := 0 }, { name := "tap", type := (.object "com/example/touchfall/touchfall/Clock$Work"), accessFlags := 0, slot := 22, constantValue := 0 }, { name := "longPress", type := (.object "com/example/touchfall/touchfall/Clock$Work"), accessFlags := 0, slot := 23, constantValue := 0 }, { name := "longPressed", type := .boolean, accessFlags := 0, slot := 24, constantValue := 0 }, { name := "flingable", type := .boolean, accessFlags := 0, slot := 25, constantValue := 0 }, { name := "flingHandler", type := (.object "com/example/touchfall/touchfall/FlingHandler"), accessFlags := 0, slot := 26, constantValue := 0 }, { name := "motion", type := (.object "com/example/touchfall/touchfall/Motion"), accessFlags := 0, slot := 27, constantValue := 0 }, { name := "scalable", type := .boolean, accessFlags := 0, slot := 28, constantValue := 0 }, { name := "scaleHandler", type := (.object "com/example/touchfall/touchfall/ScaleHandler"), accessFlags := 0, slot := 29, constantValue := 0 }, { name := "pinch", type := (.object "com/example/touchfall/touchfall/Pinch"), accessFlags := 0, slot := 30, constantValue := 0 }, { name := "translationX", type := .double, accessFlags := 2, slot := 31, constantValue := 0 }, { name := "translationY", type := .double, accessFlags := 2, slot := 32, constantValue := 0 }, { name := "scaleX", type := .double, accessFlags := 2, slot := 33, constantValue := 0 }, { name := "scaleY", type := .double, accessFlags := 2, slot := 34, constantValue := 0 }, { name := "rotation", type := .double, accessFlags := 2, slot := 35, constantValue := 0 }, { name := "pivotX", type := .double, accessFlags := 2, slot := 36, constantValue := 0 }, { name := "pivotY", type := .double, accessFlags := 2, slot := 37, constantValue := 0 }, { name := "transform", type := (.object "com/example/touchfall/touchfall/Coordinates"), accessFlags := 0, slot := 38, constantValue := 0 }, { name := "undone", type := (.object "com/example/touchfall/touchfall/Coordinates"), accessFlags := 2, slot := 39, constantValue := 0 }, { name := "ownFrom", type := (.object "com/example/touchfall/touchfall/Coordinates"), accessFlags := 2, slot := 40, constantValue := 0 }, { name := "ownMade", type := (.object "com/example/touchfall/touchfall/Coordinates"), accessFlags := 2, slot := 41, constantValue := 0 }]
  methods := #[k2m0]
  instanceTypes := #[(.object "java/lang/String"), .int, .int, .int, .int, (.object "com/example/touchfall/touchfall/Group"), .boolean, .boolean, .boolean, .boolean, .boolean, (.object "com/example/touchfall/touchfall/Hook"), (.object "com/example/touchfall/touchfall/Hook"), (.object "com/example/touchfall/touchfall/Hook"), (.object "java/lang/Boolean"), (.object "com/example/touchfall/touchfall/Action"), (.object "com/example/touchfall/touchfall/TouchDelegate"), (.object "java/util/function/Consumer"), (.object "java/util/function/Consumer"), (.object "java/util/function/Consumer"), (.object "com/example/touchfall/touchfall/DoubleTap"), .boolean, (.object "com/example/touchfall/touchfall/Clock$Work"), (.object "com/example/touchfall/touchfall/Clock$Work"), .boolean, .boolean, (.object "com/example/touchfall/touchfall/FlingHandler"), (.object "com/example/touchfall/touchfall/Motion"), .boolean, (.object "com/example/touchfall/touchfall/ScaleHandler"), (.object "com/example/touchfall/touchfall/Pinch"), .double, .double, .double, .double, .double, .double, .double, (.object "com/example/touchfall/touchfall/Coordinates"), (.object "com/example/touchfall/touchfall/Coordinates"), (.object "com/example/touchfall/touchfall/Coordinates"), (.object "com/example/touchfall/touchfall/Coordinates")]
  staticTypes := #[.int]
  resolved := Array.replicate 603 none
  statics := none }

def pool3 : Array CpInfo := pool [(1, u "java/lang/Cloneable"), (0, .class_ 1), (0, u "java/lang/Object"), (0, .class_ 3)] 3

/-- java/lang/Cloneable -/
def k3 : Class := { plain "java/lang/Cloneable" (some 0) with
  accessFlags := 1537
  interfaces := #[]
  cf := some (fileOf pool3 2 #[] #[] 1537 4 #[] #[])
  fields := #[]
  methods := #[]
  instanceTypes := #[]
  staticTypes := #[]
  resolved := Array.replicate 8 none
  statics := none }

def pool4 : Array CpInfo := pool [(1, u "java/io/Serializable"), (0, .class_ 1), (0, u "java/lang/Object"), (0, .class_ 3)] 3

/-- java/io/Serializable -/
def k4 : Class := { plain "java/io/Serializable" (some 0) with
  accessFlags := 1537
  interfaces := #[]
  cf := some (fileOf pool4 2 #[] #[] 1537 4 #[] #[])
  fields := #[]
  methods := #[]
  instanceTypes := #[]
  staticTypes := #[]
  resolved := Array.replicate 8 none
  statics := none }

/-- the primitive byte -/
def k5 : Class := { plain "byte" none with kind := .primitive 'B', accessFlags := 0x411 }
/-- [B -/
def k6 : Class := { plain "[B" (some 0) with kind := .array 5 .byte, interfaces := #[3, 4], accessFlags := 1041 }

/-- the primitive int -/
def k7 : Class := { plain "int" none with kind := .primitive 'I', accessFlags := 0x411 }
/-- [I -/
def k8 : Class := { plain "[I" (some 0) with kind := .array 7 .int, interfaces := #[3, 4], accessFlags := 1041 }

def heap : Heap := #[]
def classes : Array Class := #[k0, k1, k2, k3, k4, k5, k6, k7, k8]
def interned : List (Array UInt16 × Addr) := []
def slotsUsed : Nat := 0
def theMethod : MethodId := ⟨1, 1⟩
def args0 : Array Value := #[.int 3, .int 5, .long 9, .int 2, .int 3, .long 7]
def aboutOver (below : List Frame) : State where
  vm := { classes := classes, interned := interned.toArray }
  heap := heap
  slotsUsed := slotsUsed
  threads := #[{ frames := .invoking theMethod args0 :: below }]
def below0 : List Frame := [.native { method := ⟨0, 0⟩, args := #[] }]
def about1 : State := aboutOver below0
def p0 : Program := .bare "" "" ""
def e0 : Env := launch0.env 0 0 0
theorem w_frames : about1.frames = Frame.invoking theMethod args0 :: below0 := rfl
set_option maxRecDepth 65536 in
theorem w_args : argsFit about1.vm theMethod args0 = true := by decide +kernel
set_option maxRecDepth 65536 in
theorem w_heap : heapFits about1 = true := by decide +kernel
set_option maxRecDepth 65536 in
theorem w_runnable : about1.curStatus? = some .runnable := by decide +kernel
set_option maxRecDepth 65536 in
theorem w_alone : about1.alone = true := by decide +kernel
set_option maxRecDepth 65536 in
theorem w_named : about1.methodNamed? x = some theMethod := by decide +kernel
set_option maxRecDepth 65536 in
theorem w_hears : about1.hears theMethod below0 = true := by decide +kernel
set_option maxRecDepth 65536 in
theorem w_ripe : about1.ripe theMethod args0 below0 = true := by decide +kernel
theorem w_running : about1.status = .running := rfl
set_option maxRecDepth 65536 in
theorem w_room : about1.hasRoom e0.platform room_1 = true :=
  launch0.hasRoom_least _ room_1 (by decide +kernel) (by decide +kernel) (by decide +kernel) (by decide +kernel) (by decide +kernel) (by decide +kernel)
theorem allAtoms_all (ts : List Jvm.Cond) (a : Array Jvm.Value) (st : Jvm.State) : (allAtoms ts).before a st = ts.all (fun c => c.before a st) := by
  induction ts with
  | nil => rfl
  | cons c t ih =>
    show (Jvm.Cond.and c (allAtoms t)).before a st = _
    rw [Jvm.Cond.before_and, ih, List.all_cons]
def words1 : List Jvm.Cond := Jvm.Cond.code x code maxLocals ret :: tables_1
/-- a 'code' word, met by the world's own term for the bytes: nothing is compared byte by byte -/
theorem code_word {y : MethodName} {bytes : ByteArray} {mx : Nat} {rt : Option FieldType} {a : Array Value} {s : State} {m : MethodId} {meth : Method} {c : Code} (h1 : s.methodNamed? y = some m) (h2 : s.vm.method? m = some meth) (h3 : meth.code = some c) (h4 : c.code = bytes)
    (h5 : (c.maxLocals == mx && c.exceptionTable.isEmpty && decide (c.maxStack ≤ mostOperands) && decide (meth.sig.returnType = rt) && !meth.locks && decide (parseMethodDescriptor y.desc = some meth.sig)) = true) : (Jvm.Cond.code y bytes mx rt).before a s = true := by
  simp only [Bool.and_eq_true, beq_iff_eq, Bool.not_eq_true', decide_eq_true_eq] at h5
  obtain ⟨⟨⟨⟨⟨g1, g2⟩, g3⟩, g4⟩, g5⟩, g6⟩ := h5
  simp [Cond.before, Cond.holds, Cond.value, h1, h2, h3, h4, g1, g2, g3, g4, g5, g6]
def isCode : Jvm.Cond → Bool
  | .code _ _ _ _ => true
  | _ => false
theorem all_split {L : List Jvm.Cond} {P : Jvm.Cond → Bool} (h1 : L.all (fun c => isCode c || P c) = true) (h2 : ∀ c ∈ L.filter isCode, P c = true) : L.all P = true := by
  refine List.all_eq_true.mpr fun c hc => ?_
  have h := List.all_eq_true.mp h1 c hc
  rcases Bool.eq_false_or_eq_true (isCode c) with hi | hi
  · exact h2 c (List.mem_filter.mpr ⟨hc, hi⟩)
  · simpa [hi] using h
set_option maxRecDepth 65536 in
theorem w_c0 : (Jvm.Cond.code x code maxLocals ret).before args0 about1 = true := code_word (m := ⟨1, 1⟩) (meth := k1m1) (c := k1c1) (by decide +kernel) rfl rfl rfl (by decide +kernel)
set_option maxRecDepth 65536 in
theorem w_c1 : (Jvm.Cond.code ({ cls := "com/example/touchfall/touchfall/Node", name := "isInBox", desc := "(DDJJ)Z" } : Jvm.MethodName) prog_27_method_10_code (8 : Nat) (Option.some Jvm.ClassFile.FieldType.boolean)).before args0 about1 = true := code_word (m := ⟨2, 0⟩) (meth := k2m0) (c := k2c0) (by decide +kernel) rfl rfl rfl (by decide +kernel)
def codes1 : List Jvm.Cond := [Jvm.Cond.code x code maxLocals ret, Jvm.Cond.code ({ cls := "com/example/touchfall/touchfall/Node", name := "isInBox", desc := "(DDJJ)Z" } : Jvm.MethodName) prog_27_method_10_code (8 : Nat) (Option.some Jvm.ClassFile.FieldType.boolean)]
set_option maxRecDepth 65536 in
theorem codes_eq : words1.filter isCode = codes1 := rfl
theorem w_codes : ∀ c ∈ words1.filter isCode, c.before args0 about1 = true := by
  rw [codes_eq]
  intro c hc
  simp only [codes1, List.mem_cons, List.not_mem_nil, or_false] at hc
  rcases hc with rfl | rfl
  · exact w_c0
  · exact w_c1
set_option maxRecDepth 65536 in
theorem w_t1 : words1.all (fun c => isCode c || c.before args0 about1) = true := by decide +kernel
theorem w_tables : (allAtoms (Jvm.Cond.code x code maxLocals ret :: tables_1)).before args0 about1 = true := by
  rw [allAtoms_all]
  show words1.all (fun c => c.before args0 about1) = true
  refine all_split ?_ w_codes
  rw [w_t1]
set_option maxRecDepth 65536 in
theorem w_case : (Jvm.Cond.and given_1 narrow_1).before args0 about1 = true := by decide +kernel
theorem w_applies : (headSpec (Jvm.Cond.code x code maxLocals ret :: tables_1) room_1).applies x e0.platform about1 = true :=
  (Spec.applies_iff w_frames).mpr ⟨w_running, w_runnable, w_alone, w_named, w_hears, w_ripe, w_room, w_tables⟩
theorem atStart : AtStart classFile x code maxLocals ret World_1 tables_1 room_1 Calls_1 rest_1 Pre_1 launch0 p0 e0 about1 theMethod args0 below0 :=
  ⟨lists_1, trivial, launch0.admits_env _ _ _, launch0.least_env, fairChoices_fair.cas, fairChoices_fair.clock, w_frames, w_args, w_heap, w_applies, trivial, trivial, w_case⟩
end start1
theorem witness_1 : WitnessClaimed_1 := ⟨start1.p0, start1.e0, start1.about1, start1.theMethod, start1.args0, start1.below0, start1.atStart⟩
end Jvm.Pilot.@@N@@
