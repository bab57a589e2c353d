import JvmDerived
import JvmDerived.Pilot.@@N@@Statement
import JvmDerived.Pilot.@@N@@Code
set_option linter.unusedVariables false
set_option linter.unusedSimpArgs false
@@BLOCK:NumsL.lean.txt@@
namespace Jvm.RoadKit
open Sem ClassFile Op Lib Jvm.Stand Jvm.Free Jvm.LawKit
section New
variable {p : Program} {l : Launch} {e : Env} {R : Room} {s : State} {m : MethodId} {args : Array Value} {below : List Frame} {meth : Method} {c : Code} {T : State} {locs : List Loc} {cells slots : Nat}
theorem retI (X : Stand p l e R s m args below meth c T locs cells slots) (hx : p.tables.exec = Jvm.exec) {pc : Nat} {Ls : Array Slot} {z : Int32} {rest : List Value} (hret : meth.sig.returnType = some .int) (hd : decode c.code pc = .ok (.ireturn, 1)) {fs : List Frame}
    (hl : ∀ (f : JFrame) (acts : List Action), f.method = m → f.locked = none → f.entered = [] → (doReturn e (T.setTop f) acts (some (.int z))).1 = T.setFrames fs) : Steps p.tables e below (T.setTop (mkF m pc Ls (.int z :: rest))) (T.setFrames fs) := by
  have hm' : T.vm.method? m = some meth := X.method'
  have hn : narrow .int (.int z) = .int z := rfl
  show Steps p.tables e below (T.setTop { method := m, pc := pc, locals := Ls, stack := _ :: rest, locked := none }) _
  jvm_step X.here [X.here.top, hx, hd, hm', hret, hn]
  first | (intro acts; rw [hl _ acts rfl rfl rfl]) | rw [hl _ _ rfl rfl rfl]
  exact Steps.refl _
end New
end Jvm.RoadKit

namespace Jvm.Pilot.@@N@@
open Jvm Jvm.ClassFile Sem Op Lib Jvm.Free Jvm.Stand Jvm.LawKit Jvm.RoadKit Bundle Jvm.Pilot.@@N@@.Jvm.D
open Jvm.FP Jvm.Free.Fl
theorem own_band (x : Int32) : 0 ≤ (x &&& (1048575 : Int32)).toInt ∧ (x &&& (1048575 : Int32)).toInt ≤ 1048575 := by
  have e : (x &&& (1048575 : Int32)).toInt = x.toInt % 2 ^ 20 := Jvm.Kit.i32_mask x 1048575 (k := 20) (by decide) (by decide)
  have h1 := Int.emod_nonneg x.toInt (show (2 ^ 20 : Int) ≠ 0 by decide)
  have h2 := Int.emod_lt_of_pos x.toInt (show (0 : Int) < 2 ^ 20 by decide)
  rw [e]; omega
theorem own_bnd (c : Int32) : -2147483648 ≤ c.toInt ∧ c.toInt < 2147483648 := ⟨Int32.le_toInt c, Int32.toInt_lt c⟩
theorem own_prod {a u : Int32} (h : 0 ≤ a.toInt ∧ a.toInt ≤ 1048575) : (a.toInt * u.toInt).natAbs ≤ 1048575 * 2147483648 := by
  have hu := own_bnd u
  rw [Int.natAbs_mul]
  exact Nat.mul_le_mul (by omega) (by omega)
theorem own_p1 {a u : Int32} (h : 0 ≤ a.toInt ∧ a.toInt ≤ 1048575) : Core.DInt (a.toInt * u.toInt) (FP.dmul (FP.i2d a) (FP.i2d u)) :=
  Core.dmul_int (Core.i2d_int a) (Core.i2d_int u) (Nat.le_trans (own_prod h) (by decide))
theorem own_nn {i : Int} {x : UInt64} (h : Core.DInt i x) : NoNaN64 x := (dcmp_some (Core.dcmp_int h h)).1
theorem own_sum {a b u w : Int32} (h : 0 ≤ a.toInt ∧ a.toInt ≤ 1048575) (k : 0 ≤ b.toInt ∧ b.toInt ≤ 1048575) : Core.DInt (a.toInt * u.toInt + b.toInt * w.toInt) (FP.dadd (FP.dmul (FP.i2d a) (FP.i2d u)) (FP.dmul (FP.i2d b) (FP.i2d w))) := by
  refine Core.dadd_int (own_p1 h) (own_p1 k) ?_
  have h1 := own_prod (u := u) h
  have h2 := own_prod (u := w) k
  omega
theorem own_ref {a b u w : Int32} (h : 0 ≤ a.toInt ∧ a.toInt ≤ 1048575) (k : 0 ≤ b.toInt ∧ b.toInt ≤ 1048575) : (a.toInt64 * u.toInt64 + b.toInt64 * w.toInt64).toInt = a.toInt * u.toInt + b.toInt * w.toInt := by
  have h1 := own_prod (u := u) h
  have h2 := own_prod (u := w) k
  have e1 : (a.toInt64 * u.toInt64).toInt = a.toInt * u.toInt := by
    rw [Int64.toInt_mul, Int32.toInt_toInt64, Int32.toInt_toInt64]; exact Int.bmod_eq_of_le (by omega) (by omega)
  have e2 : (b.toInt64 * w.toInt64).toInt = b.toInt * w.toInt := by
    rw [Int64.toInt_mul, Int32.toInt_toInt64, Int32.toInt_toInt64]; exact Int.bmod_eq_of_le (by omega) (by omega)
  rw [Int64.toInt_add, e1, e2]; exact Int.bmod_eq_of_le (by omega) (by omega)
theorem own_eq {a b u w : Int32} (h : 0 ≤ a.toInt ∧ a.toInt ≤ 1048575) (k : 0 ≤ b.toInt ∧ b.toInt ≤ 1048575) : cmpValue (FP.dcmp (FP.dadd (FP.dmul (FP.i2d a) (FP.i2d u)) (FP.dmul (FP.i2d b) (FP.i2d w))) (FP.l2d (a.toInt64 * u.toInt64 + b.toInt64 * w.toInt64))) .l = (0 : Int32) := by
  have h1 := own_prod (u := u) h
  have h2 := own_prod (u := w) k
  have r := own_ref (u := u) (w := w) h k
  have e : FP.dcmp (FP.dadd (FP.dmul (FP.i2d a) (FP.i2d u)) (FP.dmul (FP.i2d b) (FP.i2d w))) (FP.l2d (a.toInt64 * u.toInt64 + b.toInt64 * w.toInt64)) = some .eq := by
    refine (Core.dcmp_int (own_sum h k) (Core.l2d_int (by rw [r]; omega))).trans ?_
    rw [r]; simp
  rw [e]; rfl
theorem own_d0 : Core.DInt 0 FP.dconst0 := Core.i2d_int 0
theorem own_lo {a : Int32} (h : 0 ≤ a.toInt ∧ a.toInt ≤ 1048575) : ¬ (cmpValue (FP.dcmp (FP.i2d a) FP.dconst0) .l < (0 : Int32)) := by
  have e : FP.dcmp (FP.i2d a) FP.dconst0 = some (compare a.toInt 0) := Core.dcmp_int (Core.i2d_int a) own_d0
  rw [e]
  have : compare a.toInt 0 ≠ .lt := fun q => by rw [Int.compare_eq_lt] at q; omega
  cases hq : compare a.toInt 0 with
  | lt => exact absurd hq this
  | eq => decide
  | gt => decide
theorem own_hi {a : Int32} : (cmpValue (FP.dcmp (FP.i2d a) (9218868437227405312 : UInt64)) .g < (0 : Int32)) := by
  rw [dcmp_pinf (i2d_fin a) .g]; decide
theorem d3_0 : decode prog_11_method_2_code 0 = .ok (.dload_n 1, 1) := by decide +kernel
theorem d3_1 : decode prog_11_method_2_code 1 = .ok (.dconst 0, 1) := by decide +kernel
theorem d3_2 : decode prog_11_method_2_code 2 = .ok (.dcmp .l, 1) := by decide +kernel
theorem d3_3 : decode prog_11_method_2_code 3 = .ok (.ifCond .lt 11, 3) := by decide +kernel
theorem d3_6 : decode prog_11_method_2_code 6 = .ok (.dload_n 1, 1) := by decide +kernel
theorem d3_7 : decode prog_11_method_2_code 7 = .ok (.ldc2_w 26, 3) := by decide +kernel
theorem d3_10 : decode prog_11_method_2_code 10 = .ok (.dcmp .g, 1) := by decide +kernel
theorem d3_11 : decode prog_11_method_2_code 11 = .ok (.ifCond .lt 18, 3) := by decide +kernel
theorem d3_29 : decode prog_11_method_2_code 29 = .ok (.dload_n 1, 1) := by decide +kernel
theorem d3_30 : decode prog_11_method_2_code 30 = .ok (.dreturn, 1) := by decide +kernel
theorem pn_0 : plainName "com/example/watchpost/watchpost/detect/Costs" = true := by first | (simp [plainName, overriddenIn]; done) | decide +kernel
theorem ef_3 (m : MethodId) (x0 : Addr) (x1 : UInt64) : entryFrame m #[(.ref x0), (.double x1)] 3 = mkF m 0 #[.val (.ref x0), .val (.double x1), .second] [] := by first | (simp [entryFrame, mkF, argsToLocals, Value.category]; done) | rfl
def Q_rm_chk (Z : State) (s0x : Addr) (d1 : UInt64) (h0 : Heap) (n0 : Nat) (v : Option Value) (h : Heap) (L : List Loc) : Prop := v = some (.double d1) ∧ Fr n0 L ∧ h = h0
set_option maxRecDepth 65536 in
set_option maxHeartbeats 40000000 in
theorem rm_chk (l : Launch) (Z : State) (a0 : Array Value) (hw : ∀ d ∈ tables_1, d.before a0 Z = true) (ws : List Jvm.Cond) (s0x : Addr) (d1 : UInt64) (h0 : Heap) (n0 : Nat) (Z0 : n0 ≤ h0.size) (hlo : ¬ (cmpValue (FP.dcmp d1 FP.dconst0) .l) < (0 : Int32)) (hhi : (cmpValue (FP.dcmp d1 (9218868437227405312 : UInt64)) .g) < (0 : Int32)) :
    MetFree l (⟨"com/example/watchpost/watchpost/detect/Costs", "checked", "(Ljava/lang/String;D)D"⟩ : MethodName) (head1 (Jvm.Cond.code (⟨"com/example/watchpost/watchpost/detect/Costs", "checked", "(Ljava/lang/String;D)D"⟩ : MethodName) prog_11_method_2_code 3 (some .double) :: ws) ({ frames := 0, cells := 0, slots := 0, locals := 0 } : Room)) (fun a U => a = #[(.ref s0x), (.double d1)] ∧ Z.Warmed39 U.vm ∧ U.heap = h0) (fun _ _ _ _ _ => True) (fun _ U o U' => ∃ v L, o = .returned v ∧ Q_rm_chk Z s0x d1 h0 n0 v U'.heap L ∧ FrameEnd U o U' L ({ frames := 0, cells := 0, slots := 0, locals := 0 } : Room).cells ({ frames := 0, cells := 0, slots := 0, locals := 0 } : Room).slots) := by
  refine MetFree.of_bodySF (plainFor_of_name pn_0) hisR ?_
  intro p e s m args below meth c s₁ Bd hml0 hP hK
  obtain ⟨rfl, hZ, hh⟩ := hP
  have hx := Bd.exec
  have hby := Bd.bytes
  have hml : c.maxLocals = 3 := hml0
  have hown : s.vm.findClass "com/example/watchpost/watchpost/detect/Costs" = some m.cls := findClass_of_methodNamed Bd.named
  have hnm := (name_of_methodNamed Bd.named Bd.method).1
  have X0 : Stand p l e ({ frames := 0, cells := 0, slots := 0, locals := 0 } : Room) s m #[(.ref s0x), (.double d1)] below meth c s₁ [] 0 0 := Stand.of_body Bd
  have e0 : s₁.heap = h0 := by rw [← hh, Bd.state]; rfl
  have N0 := Fr.nil n0
  have pre0 : ∀ t, Steps p.tables e below (s₁.setTop (mkF m 0 #[.val (.ref s0x), .val (.double d1), .second] [])) t → Steps p.tables e below (s₁.setTop (entryFrame m #[(.ref s0x), (.double d1)] 3)) t := fun t k => castTop (ef_3 m s0x d1) k
  obtain ⟨fs, hr, hrun, hended, hW, hsame⟩ := X0.leave (v := some (.double d1)) (fun h => by rw [Bd.returns] at h; cases h)
  refine ⟨_, _, pre0 _ ?_, hrun, hended, _, _, rfl, ?_, ⟨_, rfl⟩, hW, hsame.mono (by decide) (by decide)⟩
  · show Steps p.tables e below (s₁.setTop (mkF m 0 #[.val (.ref s0x), .val (.double d1), .second] [])) _
    refine XS.dloadN X0.here hx rfl (hb hby d3_0) rfl ?_
    show Steps p.tables e below (s₁.setTop (mkF m 1 #[.val (.ref s0x), .val (.double d1), .second] [(.double d1)])) _
    refine XS.dconst0 X0.here hx rfl (hb hby d3_1) rfl ?_
    show Steps p.tables e below (s₁.setTop (mkF m 2 #[.val (.ref s0x), .val (.double d1), .second] [(.double FP.dconst0), (.double d1)])) _
    refine XS.dcmpS X0.here hx rfl (hb hby d3_2) rfl rfl ?_
    show Steps p.tables e below (s₁.setTop (mkF m 3 #[.val (.ref s0x), .val (.double d1), .second] [(.int (cmpValue (FP.dcmp d1 FP.dconst0) .l))])) _
    refine XS.ifNo X0.here hx rfl (hb hby d3_3) rfl ((if0 _ _).trans (flt hlo).1) ?_
    show Steps p.tables e below (s₁.setTop (mkF m 6 #[.val (.ref s0x), .val (.double d1), .second] [])) _
    refine XS.dloadN X0.here hx rfl (hb hby d3_6) rfl ?_
    show Steps p.tables e below (s₁.setTop (mkF m 7 #[.val (.ref s0x), .val (.double d1), .second] [(.double d1)])) _
    refine X0.ldc2DoubleC hx hown (mvT hZ (hw _ (List.mem_of_getElem? (i := 21) rfl))) (g := (mkF m 7 #[.val (.ref s0x), .val (.double d1), .second] [(.double d1)])) rfl (hb hby d3_7) _ ?_
    show Steps p.tables e below (s₁.setTop (mkF m 10 #[.val (.ref s0x), .val (.double d1), .second] [(.double (9218868437227405312 : UInt64)), (.double d1)])) _
    refine XS.dcmpS X0.here hx rfl (hb hby d3_10) rfl rfl ?_
    show Steps p.tables e below (s₁.setTop (mkF m 11 #[.val (.ref s0x), .val (.double d1), .second] [(.int (cmpValue (FP.dcmp d1 (9218868437227405312 : UInt64)) .g))])) _
    refine XS.ifYes X0.here hx rfl (pc0 := 11) (pc' := 29) rfl (hb hby d3_11) rfl ((if0 _ _).trans (tlt hhi).1) (by decide) (by decide) ?_
    show Steps p.tables e below (s₁.setTop (mkF m 29 #[.val (.ref s0x), .val (.double d1), .second] [])) _
    refine XS.dloadN X0.here hx rfl (hb hby d3_29) rfl ?_
    show Steps p.tables e below (s₁.setTop (mkF m 30 #[.val (.ref s0x), .val (.double d1), .second] [(.double d1)])) _
    exact retOut X0 hx Bd.returns (by rfl) (Or.inr (Or.inr (Or.inl ⟨rfl, rfl, _, rfl⟩))) (hb hby d3_30) hr
  · show Q_rm_chk Z s0x d1 h0 n0 _ s₁.heap _
    rw [e0]
    exact ⟨rfl, N0, rfl⟩
theorem d1_0 : decode prog_11_method_1_code 0 = .ok (.aload_n 0, 1) := by decide +kernel
theorem d1_1 : decode prog_11_method_1_code 1 = .ok (.invokespecial 1, 3) := by decide +kernel
theorem d1_4 : decode prog_11_method_1_code 4 = .ok (.aload_n 0, 1) := by decide +kernel
theorem d1_5 : decode prog_11_method_1_code 5 = .ok (.ldc 7, 2) := by decide +kernel
theorem d1_7 : decode prog_11_method_1_code 7 = .ok (.dload_n 1, 1) := by decide +kernel
theorem d1_8 : decode prog_11_method_1_code 8 = .ok (.invokestatic 9, 3) := by decide +kernel
theorem pd_0 : parseMethodDescriptor "(Ljava/lang/String;D)D" = some ⟨[(.object "java/lang/String"), .double], some .double⟩ := by decide +kernel
theorem d1_11 : decode prog_11_method_1_code 11 = .ok (.putfield 15, 3) := by decide +kernel
theorem d1_14 : decode prog_11_method_1_code 14 = .ok (.aload_n 0, 1) := by decide +kernel
theorem d1_15 : decode prog_11_method_1_code 15 = .ok (.ldc 19, 2) := by decide +kernel
theorem d1_17 : decode prog_11_method_1_code 17 = .ok (.dload_n 3, 1) := by decide +kernel
theorem d1_18 : decode prog_11_method_1_code 18 = .ok (.invokestatic 9, 3) := by decide +kernel
theorem d1_21 : decode prog_11_method_1_code 21 = .ok (.putfield 21, 3) := by decide +kernel
theorem d1_24 : decode prog_11_method_1_code 24 = .ok (.return_, 1) := by decide +kernel
theorem ef_1 (m : MethodId) (x0 : Addr) (x1 : UInt64) (x2 : UInt64) : entryFrame m #[(.ref x0), (.double x1), (.double x2)] 5 = mkF m 0 #[.val (.ref x0), .val (.double x1), .second, .val (.double x2), .second] [] := by first | (simp [entryFrame, mkF, argsToLocals, Value.category]; done) | rfl
def Q_rm_costs (Z : State) (a0x : Addr) (d1 : UInt64) (d2 : UInt64) (h0 : Heap) (n0 : Nat) (v : Option Value) (h : Heap) (L : List Loc) : Prop := v = none ∧ Fr n0 L ∧ Keep h0 h [a0x] ∧ Fld Z h a0x "com/example/watchpost/watchpost/detect/Costs" "linkCost" "D" (.double d1) ∧ Fld Z h a0x "com/example/watchpost/watchpost/detect/Costs" "monitorCost" "D" (.double d2)
set_option maxRecDepth 65536 in
set_option maxHeartbeats 40000000 in
theorem rm_costs (l : Launch) (Z : State) (a0 : Array Value) (hw : ∀ d ∈ tables_1, d.before a0 Z = true) (ws : List Jvm.Cond) (a0x : Addr) (d1 : UInt64) (d2 : UInt64) (h0 : Heap) (n0 : Nat) (Z0 : n0 ≤ h0.size) (E0x : Exa Z h0 a0x "com/example/watchpost/watchpost/detect/Costs") (F0x0 : Fld Z h0 a0x "com/example/watchpost/watchpost/detect/Costs" "linkCost" "D" (.double (0 : UInt64))) (F0x1 : Fld Z h0 a0x "com/example/watchpost/watchpost/detect/Costs" "monitorCost" "D" (.double (0 : UInt64))) (g0x : n0 ≤ a0x) (hlo1 : ¬ (cmpValue (FP.dcmp d1 FP.dconst0) .l) < (0 : Int32)) (hhi1 : (cmpValue (FP.dcmp d1 (9218868437227405312 : UInt64)) .g) < (0 : Int32)) (hlo2 : ¬ (cmpValue (FP.dcmp d2 FP.dconst0) .l) < (0 : Int32)) (hhi2 : (cmpValue (FP.dcmp d2 (9218868437227405312 : UInt64)) .g) < (0 : Int32)) :
    MetFree l (⟨"com/example/watchpost/watchpost/detect/Costs", "<init>", "(DD)V"⟩ : MethodName) (head1 (Jvm.Cond.code (⟨"com/example/watchpost/watchpost/detect/Costs", "<init>", "(DD)V"⟩ : MethodName) prog_11_method_1_code 5 none :: ws) ({ frames := 1, cells := 4, slots := 52, locals := 15 } : Room)) (fun a U => a = #[(.ref a0x), (.double d1), (.double d2)] ∧ Z.Warmed39 U.vm ∧ U.heap = h0) (fun _ _ _ _ _ => True) (fun _ U o U' => ∃ v L, o = .returned v ∧ Q_rm_costs Z a0x d1 d2 h0 n0 v U'.heap L ∧ ReturnedEndW U o U' L ({ frames := 1, cells := 4, slots := 52, locals := 15 } : Room).cells ({ frames := 1, cells := 4, slots := 52, locals := 15 } : Room).slots) := by
  refine MetFree.of_bodySF (plainFor_of_name pn_0) hisR ?_
  intro p e s m args below meth c s₁ Bd hml0 hP hK
  obtain ⟨rfl, hZ, hh⟩ := hP
  have hx := Bd.exec
  have hby := Bd.bytes
  have hml : c.maxLocals = 5 := hml0
  have hown : s.vm.findClass "com/example/watchpost/watchpost/detect/Costs" = some m.cls := findClass_of_methodNamed Bd.named
  have hnm := (name_of_methodNamed Bd.named Bd.method).1
  have X0 : Stand p l e ({ frames := 1, cells := 4, slots := 52, locals := 15 } : Room) (s.setVm s.vm) m #[(.ref a0x), (.double d1), (.double d2)] below meth c s₁ [] 0 0 := Stand.of_body Bd
  have e0 : s₁.heap = h0 := by rw [← hh, Bd.state]; rfl
  have N0 := Fr.nil n0
  have hS0 : s.Since s.vm s.heap.size := (State.WarmedH.refl s).since _
  have hk0 : s.heap.size ≤ h0.size := Nat.le_of_eq (congrArg Array.size hh)
  have wS : ∀ a ∈ Bundle.stringAtoms, a.before a0 Z = true := by
    intro a ha
    simp only [Bundle.stringAtoms, List.mem_cons, List.not_mem_nil, or_false] at ha
    rcases ha with rfl | rfl | rfl | rfl | rfl | rfl | rfl <;> first | exact hw _ (List.mem_of_getElem? (i := 11) rfl) | exact hw _ (List.mem_of_getElem? (i := 12) rfl) | exact hw _ (List.mem_of_getElem? (i := 13) rfl) | exact hw _ (List.mem_of_getElem? (i := 14) rfl) | exact hw _ (List.mem_of_getElem? (i := 15) rfl) | exact hw _ (List.mem_of_getElem? (i := 16) rfl) | exact hw _ (List.mem_of_getElem? (i := 17) rfl)
  have K0 : Keep h0 h0 [a0x] := Keep.refl h0 [a0x]
  have pre0 : ∀ t, Steps p.tables e below (s₁.setTop (mkF m 0 #[.val (.ref a0x), .val (.double d1), .second, .val (.double d2), .second] [])) t → Steps p.tables e below (s₁.setTop (entryFrame m #[(.ref a0x), (.double d1), (.double d2)] 5)) t := fun t k => castTop (ef_1 m a0x d1 d2) k
  obtain ⟨T1, X1, e1, st1⟩ := initO X0 hx hZ hown (hw _ (List.mem_of_getElem? (i := 7) rfl)) (hw _ (List.mem_of_getElem? (i := 8) rfl)) (hw _ (List.mem_of_getElem? (i := 9) rfl)) e0 (g := (mkF m 1 #[.val (.ref a0x), .val (.double d1), .second, .val (.double d2), .second] [(.ref a0x)])) rfl (by rw [hml]; rfl) rfl (hb hby d1_1) (by decide) (W := 0) (by show 2 * 0 + _ ≤ _; exact Nat.le_of_eq rfl) (by decide)
  obtain ⟨ax2, T2, h2, kk2, X2, e2, E2, hS2, hk2, hZ2, hown2, st2⟩ := ldcS X1 hx hZ hown (hw _ (List.mem_of_getElem? (i := 10) rfl)) wS e1 hS0 hk0 (g := (mkF m 5 #[.val (.ref a0x), .val (.double d1), .second, .val (.double d2), .second] [(.ref a0x)])) rfl (hb hby d1_5) (n := 16) (by decide) (by decide) (by decide) (by decide)
  have E0x_2 : Exa Z h2 a0x "com/example/watchpost/watchpost/detect/Costs" := E0x.ext E2
  have F0x0_2 : Fld Z h2 a0x "com/example/watchpost/watchpost/detect/Costs" "linkCost" "D" (.double (0 : UInt64)) := F0x0.ext E2
  have F0x1_2 : Fld Z h2 a0x "com/example/watchpost/watchpost/detect/Costs" "monitorCost" "D" (.double (0 : UInt64)) := F0x1.ext E2
  have Z2 : n0 ≤ h2.size := Nat.le_trans Z0 E2.1
  have K2 : Keep h0 h2 [a0x] := K0.ext E2
  obtain ⟨_, _, ⟨T3, L3, k3, n3⟩, -, X3, ⟨Lc3, hQ3, l3, y3, z3⟩, st3⟩ := Jvm.LawKit.callS X2 hx (y := (⟨"com/example/watchpost/watchpost/detect/Costs", "checked", "(Ljava/lang/String;D)D"⟩ : MethodName)) hown2 (mvT hZ2 (hw _ (List.mem_of_getElem? (i := 18) rfl))) (mvT hZ2 (hw _ (List.mem_of_getElem? (i := 19) rfl))) (mvT hZ2 (hw _ (List.mem_of_getElem? (i := 3) rfl))) (mvT hZ2 (hw _ (List.mem_of_getElem? (i := 20) rfl))) (by decide) (backOf (W := 1) (rm_chk l Z a0 hw [] ax2 d1 h2 n0 Z2 hlo1 hhi1) hZ2 (hw _ (List.mem_of_getElem? (i := 20) rfl)) (hw _ (List.mem_of_getElem? (i := 3) rfl)) (by decide) (by decide)) (g := (mkF m 8 #[.val (.ref a0x), .val (.double d1), .second, .val (.double d2), .second] [(.double d1), (.ref ax2), (.ref a0x)])) rfl (by rw [hml]; rfl) (argsL := [(.ref ax2), (.double d1)]) (rest := [(.ref a0x)]) (lenOf pd_0 rfl) rfl (by show 2 * 0 + _ ≤ _; exact Nat.le_of_eq rfl) (hb hby d1_8) (fun _ _ => ⟨rfl, e2, (by decide : 2 + 0 ≤ _), (by decide : 20 + 0 ≤ _)⟩)
  dsimp only [Pt.U, Pt.locs, Pt.cells, Pt.slots] at X3 l3 y3 z3 st3 hQ3
  subst l3 y3 z3
  obtain ⟨rfl, N3q, e3⟩ := hQ3
  have N3 := Fr.app N0 N3q
  obtain ⟨T4, h4, X4, e4, W4, st4⟩ := putF X3 hx hZ2 hown2 (host := "") (Or.inl (hw _ (List.mem_of_getElem? (i := 22) rfl))) Via.refl e3 F0x0_2 E0x_2 (Or.inr ⟨(hw _ (List.mem_of_getElem? (i := 23) rfl)), rfl, hnm⟩) (hw _ (List.mem_of_getElem? (i := 2) rfl)) (ty := .double) (by decide) rfl rfl (g := (mkF m 11 #[.val (.ref a0x), .val (.double d1), .second, .val (.double d2), .second] [(.double d1), (.ref a0x)])) rfl rfl (hb hby d1_11)
  have N4 := Fr.snoc X4 N3 g0x
  have Fw4 : Fld Z h4 a0x "com/example/watchpost/watchpost/detect/Costs" "linkCost" "D" (.double d1) := F0x0_2.same W4
  have E0x_4 : Exa Z h4 a0x "com/example/watchpost/watchpost/detect/Costs" := E0x_2.wr W4
  have F0x1_4 : Fld Z h4 a0x "com/example/watchpost/watchpost/detect/Costs" "monitorCost" "D" (.double (0 : UInt64)) := F0x1_2.other W4 (Or.inr (slot_ne (Or.inr (hw _ (List.mem_of_getElem? (i := 26) rfl))) (Or.inr (hw _ (List.mem_of_getElem? (i := 23) rfl))) (by decide) (t := .double) (t' := .double) (by decide) (by decide)))
  have hk4' : _ ≤ h4.size := Nat.le_trans hk2 (Keep.of_wr W4).1
  have Z4 : n0 ≤ h4.size := Nat.le_trans Z2 (Keep.of_wr W4).1
  have K4 : Keep h0 h4 [a0x] := K2.wr W4 (Or.inl (List.mem_of_getElem? (i := 0) rfl))
  obtain ⟨ax5, T5, h5, kk5, X5, e5, E5, hS5, hk5, hZ5, hown5, st5⟩ := ldcS X4 hx hZ2 hown2 (hw _ (List.mem_of_getElem? (i := 24) rfl)) wS e4 hS2 hk4' (g := (mkF m 15 #[.val (.ref a0x), .val (.double d1), .second, .val (.double d2), .second] [(.ref a0x)])) rfl (hb hby d1_15) (n := 28) (by decide) (by decide) (by decide) (by decide)
  have E0x_5 : Exa Z h5 a0x "com/example/watchpost/watchpost/detect/Costs" := E0x_4.ext E5
  have F0x1_5 : Fld Z h5 a0x "com/example/watchpost/watchpost/detect/Costs" "monitorCost" "D" (.double (0 : UInt64)) := F0x1_4.ext E5
  have Fw4_5 : Fld Z h5 a0x "com/example/watchpost/watchpost/detect/Costs" "linkCost" "D" (.double d1) := Fw4.ext E5
  have Z5 : n0 ≤ h5.size := Nat.le_trans Z4 E5.1
  have K5 : Keep h0 h5 [a0x] := K4.ext E5
  obtain ⟨_, _, ⟨T6, L6, k6, n6⟩, -, X6, ⟨Lc6, hQ6, l6, y6, z6⟩, st6⟩ := Jvm.LawKit.callS X5 hx (y := (⟨"com/example/watchpost/watchpost/detect/Costs", "checked", "(Ljava/lang/String;D)D"⟩ : MethodName)) hown5 (mvT hZ5 (hw _ (List.mem_of_getElem? (i := 18) rfl))) (mvT hZ5 (hw _ (List.mem_of_getElem? (i := 19) rfl))) (mvT hZ5 (hw _ (List.mem_of_getElem? (i := 3) rfl))) (mvT hZ5 (hw _ (List.mem_of_getElem? (i := 20) rfl))) (by decide) (backOf (W := 1) (rm_chk l Z a0 hw [] ax5 d2 h5 n0 Z5 hlo2 hhi2) hZ5 (hw _ (List.mem_of_getElem? (i := 20) rfl)) (hw _ (List.mem_of_getElem? (i := 3) rfl)) (by decide) (by decide)) (g := (mkF m 18 #[.val (.ref a0x), .val (.double d1), .second, .val (.double d2), .second] [(.double d2), (.ref ax5), (.ref a0x)])) rfl (by rw [hml]; rfl) (argsL := [(.ref ax5), (.double d2)]) (rest := [(.ref a0x)]) (lenOf pd_0 rfl) rfl (by show 2 * 0 + _ ≤ _; exact Nat.le_of_eq rfl) (hb hby d1_18) (fun _ _ => ⟨rfl, e5, (by decide : 4 + 0 ≤ _), (by decide : 52 + 0 ≤ _)⟩)
  dsimp only [Pt.U, Pt.locs, Pt.cells, Pt.slots] at X6 l6 y6 z6 st6 hQ6
  subst l6 y6 z6
  obtain ⟨rfl, N6q, e6⟩ := hQ6
  have N6 := Fr.app N4 N6q
  obtain ⟨T7, h7, X7, e7, W7, st7⟩ := putF X6 hx hZ5 hown5 (host := "") (Or.inl (hw _ (List.mem_of_getElem? (i := 25) rfl))) Via.refl e6 F0x1_5 E0x_5 (Or.inr ⟨(hw _ (List.mem_of_getElem? (i := 26) rfl)), rfl, hnm⟩) (hw _ (List.mem_of_getElem? (i := 2) rfl)) (ty := .double) (by decide) rfl rfl (g := (mkF m 21 #[.val (.ref a0x), .val (.double d1), .second, .val (.double d2), .second] [(.double d2), (.ref a0x)])) rfl rfl (hb hby d1_21)
  have N7 := Fr.snoc X7 N6 g0x
  have Fw7 : Fld Z h7 a0x "com/example/watchpost/watchpost/detect/Costs" "monitorCost" "D" (.double d2) := F0x1_5.same W7
  have E0x_7 : Exa Z h7 a0x "com/example/watchpost/watchpost/detect/Costs" := E0x_5.wr W7
  have Fw4_7 : Fld Z h7 a0x "com/example/watchpost/watchpost/detect/Costs" "linkCost" "D" (.double d1) := Fw4_5.other W7 (Or.inr (slot_ne (Or.inr (hw _ (List.mem_of_getElem? (i := 23) rfl))) (Or.inr (hw _ (List.mem_of_getElem? (i := 26) rfl))) (by decide) (t := .double) (t' := .double) (by decide) (by decide)))
  have hk7' : _ ≤ h7.size := Nat.le_trans hk5 (Keep.of_wr W7).1
  have Z7 : n0 ≤ h7.size := Nat.le_trans Z5 (Keep.of_wr W7).1
  have K7 : Keep h0 h7 [a0x] := K5.wr W7 (Or.inl (List.mem_of_getElem? (i := 0) rfl))
  obtain ⟨fs, hr, hrun, hended, hREW⟩ := X7.leaveW hS5 (by first | exact hk7' | (rw [e7]; exact hk7')) (v := none) (fun _ => rfl)
  refine ⟨_, _, pre0 _ ?_, hrun, hended, _, _, rfl, ?_, hREW.1, hREW.2.1, hREW.2.2.1, hREW.2.2.2.mono (by decide) (by decide)⟩
  · show Steps p.tables e below (s₁.setTop (mkF m 0 #[.val (.ref a0x), .val (.double d1), .second, .val (.double d2), .second] [])) _
    refine XS.aloadN X0.here hx rfl (hb hby d1_0) rfl rfl ?_
    show Steps p.tables e below (s₁.setTop (mkF m 1 #[.val (.ref a0x), .val (.double d1), .second, .val (.double d2), .second] [(.ref a0x)])) _
    refine st1 _ ?_
    show Steps p.tables e below (T1.setTop (mkF m 4 #[.val (.ref a0x), .val (.double d1), .second, .val (.double d2), .second] [])) _
    refine XS.aloadN X1.here hx rfl (hb hby d1_4) rfl rfl ?_
    show Steps p.tables e below (T1.setTop (mkF m 5 #[.val (.ref a0x), .val (.double d1), .second, .val (.double d2), .second] [(.ref a0x)])) _
    refine st2 _ ?_
    show Steps p.tables e below (T2.setTop (mkF m 7 #[.val (.ref a0x), .val (.double d1), .second, .val (.double d2), .second] [(.ref ax2), (.ref a0x)])) _
    refine XS.dloadN X2.here hx rfl (hb hby d1_7) rfl ?_
    show Steps p.tables e below (T2.setTop (mkF m 8 #[.val (.ref a0x), .val (.double d1), .second, .val (.double d2), .second] [(.double d1), (.ref ax2), (.ref a0x)])) _
    refine st3 _ ?_
    show Steps p.tables e below (T3.setTop (mkF m 11 #[.val (.ref a0x), .val (.double d1), .second, .val (.double d2), .second] [(.double d1), (.ref a0x)])) _
    refine st4 _ ?_
    show Steps p.tables e below (T4.setTop (mkF m 14 #[.val (.ref a0x), .val (.double d1), .second, .val (.double d2), .second] [])) _
    refine XS.aloadN X4.here hx rfl (hb hby d1_14) rfl rfl ?_
    show Steps p.tables e below (T4.setTop (mkF m 15 #[.val (.ref a0x), .val (.double d1), .second, .val (.double d2), .second] [(.ref a0x)])) _
    refine st5 _ ?_
    show Steps p.tables e below (T5.setTop (mkF m 17 #[.val (.ref a0x), .val (.double d1), .second, .val (.double d2), .second] [(.ref ax5), (.ref a0x)])) _
    refine XS.dloadN X5.here hx rfl (hb hby d1_17) rfl ?_
    show Steps p.tables e below (T5.setTop (mkF m 18 #[.val (.ref a0x), .val (.double d1), .second, .val (.double d2), .second] [(.double d2), (.ref ax5), (.ref a0x)])) _
    refine st6 _ ?_
    show Steps p.tables e below (T6.setTop (mkF m 21 #[.val (.ref a0x), .val (.double d1), .second, .val (.double d2), .second] [(.double d2), (.ref a0x)])) _
    refine st7 _ ?_
    show Steps p.tables e below (T7.setTop (mkF m 24 #[.val (.ref a0x), .val (.double d1), .second, .val (.double d2), .second] [])) _
    exact X7.returnOut hx Bd.returns (hb hby d1_24) hr
  · show Q_rm_costs Z a0x d1 d2 h0 n0 _ T7.heap _
    rw [e7]
    exact ⟨rfl, N7, K7, Fw4_7, Fw7⟩
theorem d4_0 : decode prog_11_method_5_code 0 = .ok (.aload_n 0, 1) := by decide +kernel
theorem d4_1 : decode prog_11_method_5_code 1 = .ok (.getfield 15, 3) := by decide +kernel
theorem d4_4 : decode prog_11_method_5_code 4 = .ok (.iload_n 1, 1) := by decide +kernel
theorem d4_5 : decode prog_11_method_5_code 5 = .ok (.i2d, 1) := by decide +kernel
theorem d4_6 : decode prog_11_method_5_code 6 = .ok (.dmul, 1) := by decide +kernel
theorem d4_7 : decode prog_11_method_5_code 7 = .ok (.aload_n 0, 1) := by decide +kernel
theorem d4_8 : decode prog_11_method_5_code 8 = .ok (.getfield 21, 3) := by decide +kernel
theorem d4_11 : decode prog_11_method_5_code 11 = .ok (.iload_n 2, 1) := by decide +kernel
theorem d4_12 : decode prog_11_method_5_code 12 = .ok (.i2d, 1) := by decide +kernel
theorem d4_13 : decode prog_11_method_5_code 13 = .ok (.dmul, 1) := by decide +kernel
theorem d4_14 : decode prog_11_method_5_code 14 = .ok (.dadd, 1) := by decide +kernel
theorem d4_15 : decode prog_11_method_5_code 15 = .ok (.dreturn, 1) := by decide +kernel
theorem ef_4 (m : MethodId) (x0 : Addr) (x1 : Int32) (x2 : Int32) : entryFrame m #[(.ref x0), (.int x1), (.int x2)] 3 = mkF m 0 #[.val (.ref x0), .val (.int x1), .val (.int x2)] [] := by first | (simp [entryFrame, mkF, argsToLocals, Value.category]; done) | rfl
def Q_rm_total (Z : State) (a0x : Addr) (p1 : Int32) (p2 : Int32) (d1 : UInt64) (d2 : UInt64) (h0 : Heap) (n0 : Nat) (v : Option Value) (h : Heap) (L : List Loc) : Prop := v = some (.double (FP.dadd (FP.dmul d1 (FP.i2d p1)) (FP.dmul d2 (FP.i2d p2)))) ∧ Fr n0 L ∧ h = h0
set_option maxRecDepth 65536 in
set_option maxHeartbeats 40000000 in
theorem rm_total (l : Launch) (Z : State) (a0 : Array Value) (hw : ∀ d ∈ tables_1, d.before a0 Z = true) (ws : List Jvm.Cond) (a0x : Addr) (p1 : Int32) (p2 : Int32) (d1 : UInt64) (d2 : UInt64) (h0 : Heap) (n0 : Nat) (Z0 : n0 ≤ h0.size) (F0x : Fld Z h0 a0x "com/example/watchpost/watchpost/detect/Costs" "linkCost" "D" (.double d1)) (F1x : Fld Z h0 a0x "com/example/watchpost/watchpost/detect/Costs" "monitorCost" "D" (.double d2)) (hn1 : NoNaN64 (FP.dmul d1 (FP.i2d p1))) (hn2 : NoNaN64 (FP.dmul d2 (FP.i2d p2))) (hn3 : NoNaN64 (FP.dadd (FP.dmul d1 (FP.i2d p1)) (FP.dmul d2 (FP.i2d p2)))) :
    MetFree l (⟨"com/example/watchpost/watchpost/detect/Costs", "total", "(II)D"⟩ : MethodName) (head1 (Jvm.Cond.code (⟨"com/example/watchpost/watchpost/detect/Costs", "total", "(II)D"⟩ : MethodName) prog_11_method_5_code 3 (some .double) :: ws) ({ frames := 0, cells := 0, slots := 0, locals := 0 } : Room)) (fun a U => a = #[(.ref a0x), (.int p1), (.int p2)] ∧ Z.Warmed39 U.vm ∧ U.heap = h0) (fun _ _ _ _ _ => True) (fun _ U o U' => ∃ v L, o = .returned v ∧ Q_rm_total Z a0x p1 p2 d1 d2 h0 n0 v U'.heap L ∧ FrameEnd U o U' L ({ frames := 0, cells := 0, slots := 0, locals := 0 } : Room).cells ({ frames := 0, cells := 0, slots := 0, locals := 0 } : Room).slots) := by
  refine MetFree.of_bodySF (plainFor_of_name pn_0) hisR ?_
  intro p e s m args below meth c s₁ Bd hml0 hP hK
  obtain ⟨rfl, hZ, hh⟩ := hP
  have hx := Bd.exec
  have hby := Bd.bytes
  have hml : c.maxLocals = 3 := hml0
  have hown : s.vm.findClass "com/example/watchpost/watchpost/detect/Costs" = some m.cls := findClass_of_methodNamed Bd.named
  have hnm := (name_of_methodNamed Bd.named Bd.method).1
  have X0 : Stand p l e ({ frames := 0, cells := 0, slots := 0, locals := 0 } : Room) s m #[(.ref a0x), (.int p1), (.int p2)] below meth c s₁ [] 0 0 := Stand.of_body Bd
  have e0 : s₁.heap = h0 := by rw [← hh, Bd.state]; rfl
  have N0 := Fr.nil n0
  have pre0 : ∀ t, Steps p.tables e below (s₁.setTop (mkF m 0 #[.val (.ref a0x), .val (.int p1), .val (.int p2)] [])) t → Steps p.tables e below (s₁.setTop (entryFrame m #[(.ref a0x), (.int p1), (.int p2)] 3)) t := fun t k => castTop (ef_4 m a0x p1 p2) k
  obtain ⟨T1, X1, e1, st1⟩ := getF X0 hx hZ hown (host := "") (Or.inl (hw _ (List.mem_of_getElem? (i := 22) rfl))) Via.refl e0 F0x (g := (mkF m 1 #[.val (.ref a0x), .val (.int p1), .val (.int p2)] [(.ref a0x)])) rfl rfl (hb hby d4_1)
  obtain ⟨T2, X2, e2, st2⟩ := getF X1 hx hZ hown (host := "") (Or.inl (hw _ (List.mem_of_getElem? (i := 25) rfl))) Via.refl e1 F1x (g := (mkF m 8 #[.val (.ref a0x), .val (.int p1), .val (.int p2)] [(.ref a0x), (.double (FP.dmul d1 (FP.i2d p1)))])) rfl rfl (hb hby d4_8)
  obtain ⟨fs, hr, hrun, hended, hW, hsame⟩ := X2.leave (v := some (.double (FP.dadd (FP.dmul d1 (FP.i2d p1)) (FP.dmul d2 (FP.i2d p2))))) (fun h => by rw [Bd.returns] at h; cases h)
  refine ⟨_, _, pre0 _ ?_, hrun, hended, _, _, rfl, ?_, ⟨_, rfl⟩, hW, hsame.mono (by decide) (by decide)⟩
  · show Steps p.tables e below (s₁.setTop (mkF m 0 #[.val (.ref a0x), .val (.int p1), .val (.int p2)] [])) _
    refine XS.aloadN X0.here hx rfl (hb hby d4_0) rfl rfl ?_
    show Steps p.tables e below (s₁.setTop (mkF m 1 #[.val (.ref a0x), .val (.int p1), .val (.int p2)] [(.ref a0x)])) _
    refine st1 _ ?_
    show Steps p.tables e below (T1.setTop (mkF m 4 #[.val (.ref a0x), .val (.int p1), .val (.int p2)] [(.double d1)])) _
    refine XS.iloadN X1.here hx rfl (hb hby d4_4) rfl ?_
    show Steps p.tables e below (T1.setTop (mkF m 5 #[.val (.ref a0x), .val (.int p1), .val (.int p2)] [(.int p1), (.double d1)])) _
    refine XS.i2dS X1.here hx rfl (hb hby d4_5) rfl rfl ?_
    show Steps p.tables e below (T1.setTop (mkF m 6 #[.val (.ref a0x), .val (.int p1), .val (.int p2)] [(.double (FP.i2d p1)), (.double d1)])) _
    refine XS.dmulS X1.here hx rfl (hb hby d4_6) rfl hn1 rfl ?_
    show Steps p.tables e below (T1.setTop (mkF m 7 #[.val (.ref a0x), .val (.int p1), .val (.int p2)] [(.double (FP.dmul d1 (FP.i2d p1)))])) _
    refine XS.aloadN X1.here hx rfl (hb hby d4_7) rfl rfl ?_
    show Steps p.tables e below (T1.setTop (mkF m 8 #[.val (.ref a0x), .val (.int p1), .val (.int p2)] [(.ref a0x), (.double (FP.dmul d1 (FP.i2d p1)))])) _
    refine st2 _ ?_
    show Steps p.tables e below (T2.setTop (mkF m 11 #[.val (.ref a0x), .val (.int p1), .val (.int p2)] [(.double d2), (.double (FP.dmul d1 (FP.i2d p1)))])) _
    refine XS.iloadN X2.here hx rfl (hb hby d4_11) rfl ?_
    show Steps p.tables e below (T2.setTop (mkF m 12 #[.val (.ref a0x), .val (.int p1), .val (.int p2)] [(.int p2), (.double d2), (.double (FP.dmul d1 (FP.i2d p1)))])) _
    refine XS.i2dS X2.here hx rfl (hb hby d4_12) rfl rfl ?_
    show Steps p.tables e below (T2.setTop (mkF m 13 #[.val (.ref a0x), .val (.int p1), .val (.int p2)] [(.double (FP.i2d p2)), (.double d2), (.double (FP.dmul d1 (FP.i2d p1)))])) _
    refine XS.dmulS X2.here hx rfl (hb hby d4_13) rfl hn2 rfl ?_
    show Steps p.tables e below (T2.setTop (mkF m 14 #[.val (.ref a0x), .val (.int p1), .val (.int p2)] [(.double (FP.dmul d2 (FP.i2d p2))), (.double (FP.dmul d1 (FP.i2d p1)))])) _
    refine XS.daddS X2.here hx rfl (hb hby d4_14) rfl hn3 rfl ?_
    show Steps p.tables e below (T2.setTop (mkF m 15 #[.val (.ref a0x), .val (.int p1), .val (.int p2)] [(.double (FP.dadd (FP.dmul d1 (FP.i2d p1)) (FP.dmul d2 (FP.i2d p2))))])) _
    exact retOut X2 hx Bd.returns (by rfl) (Or.inr (Or.inr (Or.inl ⟨rfl, rfl, _, rfl⟩))) (hb hby d4_15) hr
  · show Q_rm_total Z a0x p1 p2 d1 d2 h0 n0 _ T2.heap _
    rw [e2]
    exact ⟨rfl, N0, rfl⟩
theorem pd_1 : parseMethodDescriptor "(DD)V" = some ⟨[.double, .double], none⟩ := by decide +kernel
theorem pd_2 : parseMethodDescriptor "(II)D" = some ⟨[.int, .int], some .double⟩ := by decide +kernel
theorem pn_1 : plainName "com/example/watchpost/watchpost/detect/CostsTotalPinLaw" = true := by first | (simp [plainName, overriddenIn]; done) | decide +kernel
theorem ef_0 (m : MethodId) (x0 : Int32) (x1 : Int32) (x2 : Int32) (x3 : Int32) : entryFrame m #[(.int x0), (.int x1), (.int x2), (.int x3)] maxLocals = mkF m 0 #[.val (.int x0), .val (.int x1), .val (.int x2), .val (.int x3), .unset, .unset, .unset, .unset, .unset, .unset, .unset] [] := by first | (simp [entryFrame, mkF, argsToLocals, Value.category, maxLocals]; done) | rfl
def Q_rm_law (Z : State) (p0 : Int32) (p1 : Int32) (p2 : Int32) (p3 : Int32) (h0 : Heap) (n0 : Nat) (v : Option Value) (h : Heap) (L : List Loc) : Prop := v = some (.int (1 : Int32)) ∧ Fr n0 L ∧ True
set_option maxRecDepth 65536 in
set_option maxHeartbeats 40000000 in
theorem rm_law (l : Launch) (Z : State) (a0 : Array Value) (hw : ∀ d ∈ tables_1, d.before a0 Z = true) (ws : List Jvm.Cond) (p0 : Int32) (p1 : Int32) (p2 : Int32) (p3 : Int32) (h0 : Heap) (n0 : Nat) (Z0 : n0 ≤ h0.size)  :
    MetFree l x (head1 (Jvm.Cond.code x code maxLocals ret :: ws) room_1) (fun a U => a = #[(.int p0), (.int p1), (.int p2), (.int p3)] ∧ Z.Warmed39 U.vm ∧ U.heap = h0) (fun _ _ _ _ _ => True) (fun _ U o U' => ∃ v L, o = .returned v ∧ Q_rm_law Z p0 p1 p2 p3 h0 n0 v U'.heap L ∧ ReturnedEndW U o U' L room_1.cells room_1.slots) := by
  refine MetFree.of_bodySF (plainFor_of_name pn_1) hisR ?_
  intro p e s m args below meth c s₁ Bd hml0 hP hK
  obtain ⟨rfl, hZ, hh⟩ := hP
  have hx := Bd.exec
  have hby := Bd.bytes
  have hml : c.maxLocals = 11 := hml0
  have hown : s.vm.findClass "com/example/watchpost/watchpost/detect/CostsTotalPinLaw" = some m.cls := findClass_of_methodNamed Bd.named
  have hnm := (name_of_methodNamed Bd.named Bd.method).1
  have X0 : Stand p l e room_1 (s.setVm s.vm) m #[(.int p0), (.int p1), (.int p2), (.int p3)] below meth c s₁ [] 0 0 := Stand.of_body Bd
  have e0 : s₁.heap = h0 := by rw [← hh, Bd.state]; rfl
  have N0 := Fr.nil n0
  have hS0 : s.Since s.vm s.heap.size := (State.WarmedH.refl s).since _
  have hk0 : s.heap.size ≤ h0.size := Nat.le_of_eq (congrArg Array.size hh)
  have wS : ∀ a ∈ Bundle.stringAtoms, a.before a0 Z = true := by
    intro a ha
    simp only [Bundle.stringAtoms, List.mem_cons, List.not_mem_nil, or_false] at ha
    rcases ha with rfl | rfl | rfl | rfl | rfl | rfl | rfl <;> first | exact hw _ (List.mem_of_getElem? (i := 11) rfl) | exact hw _ (List.mem_of_getElem? (i := 12) rfl) | exact hw _ (List.mem_of_getElem? (i := 13) rfl) | exact hw _ (List.mem_of_getElem? (i := 14) rfl) | exact hw _ (List.mem_of_getElem? (i := 15) rfl) | exact hw _ (List.mem_of_getElem? (i := 16) rfl) | exact hw _ (List.mem_of_getElem? (i := 17) rfl)
  have pre0 : ∀ t, Steps p.tables e below (s₁.setTop (mkF m 0 #[.val (.int p0), .val (.int p1), .val (.int p2), .val (.int p3), .unset, .unset, .unset, .unset, .unset, .unset, .unset] [])) t → Steps p.tables e below (s₁.setTop (entryFrame m #[(.int p0), (.int p1), (.int p2), (.int p3)] maxLocals)) t := fun t k => castTop (ef_0 m p0 p1 p2 p3) k
  obtain ⟨T1, h1, X1, e1, E1, A1, D1, -, st1⟩ := newO X0 hx hZ hown (hw _ (List.mem_of_getElem? (i := 1) rfl)) (hw _ (List.mem_of_getElem? (i := 2) rfl)) (hw _ (List.mem_of_getElem? (i := 3) rfl)) e0 (g := (mkF m 12 #[.val (.int p0), .val (.int p1), .val (.int p2), .val (.int p3), .val (.int (p0 &&& (1048575 : Int32))), .val (.int (p1 &&& (1048575 : Int32))), .unset, .unset, .unset, .unset, .unset] [])) rfl (hb hby at_12) (by decide) (by decide)
  obtain ⟨b1, g1⟩ : ∃ z, z = h0.size := ⟨_, rfl⟩
  rw [← g1] at A1 D1 st1
  have g_b1 : n0 ≤ b1 := Nat.le_trans Z0 (Nat.le_of_eq g1.symm)
  have hk1' : _ ≤ h1.size := Nat.le_trans hk0 E1.1
  have Z1 : n0 ≤ h1.size := Nat.le_trans Z0 E1.1
  have F_linkCost_b1 : Fld Z h1 b1 "com/example/watchpost/watchpost/detect/Costs" "linkCost" "D" (.double (0 : UInt64)) := D1 (Or.inr (hw _ (List.mem_of_getElem? (i := 23) rfl))) (ty := .double) (by decide)
  have F_monitorCost_b1 : Fld Z h1 b1 "com/example/watchpost/watchpost/detect/Costs" "monitorCost" "D" (.double (0 : UInt64)) := D1 (Or.inr (hw _ (List.mem_of_getElem? (i := 26) rfl))) (ty := .double) (by decide)
  obtain ⟨_, _, ⟨T2, L2, k2, n2⟩, -, X2, hSq2, gr2, ⟨Lc2, hQ2, l2, y2, z2⟩, st2⟩ := X1.specialBackS hx (y := (⟨"com/example/watchpost/watchpost/detect/Costs", "<init>", "(DD)V"⟩ : MethodName)) rfl hown (mvT hZ (hw _ (List.mem_of_getElem? (i := 4) rfl))) (mvT hZ (hw _ (List.mem_of_getElem? (i := 5) rfl))) (mvT hZ (hw _ (List.mem_of_getElem? (i := 6) rfl))) (by decide) (backOfS (W := 1) (rm_costs l Z a0 hw [] b1 (FP.i2d (p0 &&& (1048575 : Int32))) (FP.i2d (p1 &&& (1048575 : Int32))) h1 n0 Z1 A1 F_linkCost_b1 F_monitorCost_b1 g_b1 (own_lo (own_band p0)) own_hi (own_lo (own_band p1)) own_hi) hZ (hw _ (List.mem_of_getElem? (i := 6) rfl)) (hw _ (List.mem_of_getElem? (i := 3) rfl)) (by decide) (by decide)) (g := (mkF m 22 #[.val (.int p0), .val (.int p1), .val (.int p2), .val (.int p3), .val (.int (p0 &&& (1048575 : Int32))), .val (.int (p1 &&& (1048575 : Int32))), .unset, .unset, .unset, .unset, .unset] [(.double (FP.i2d (p1 &&& (1048575 : Int32)))), (.double (FP.i2d (p0 &&& (1048575 : Int32)))), (.ref b1), (.ref b1)])) rfl (by rw [hml]; rfl) (Steps.refl _) (a := b1) (argsL := [(.double (FP.i2d (p0 &&& (1048575 : Int32)))), (.double (FP.i2d (p1 &&& (1048575 : Int32))))]) (rest := [(.ref b1)]) (lenOf pd_1 rfl) rfl (by show 2 * 0 + _ ≤ _; exact Nat.le_of_eq rfl) (hb hby at_22) (fun _ _ => ⟨rfl, e1, (by decide : 1 + 4 ≤ _), (by decide : 2 + 52 ≤ _)⟩)
  dsimp only [Pt.U, Pt.locs, Pt.cells, Pt.slots] at X2 l2 y2 z2 st2 hQ2 hSq2 gr2
  subst l2 y2 z2
  obtain ⟨rfl, N2q, x2c0, x2c1, x2c2⟩ := hQ2
  have N2 := Fr.app N0 N2q
  have A1_2 : Exa Z T2.heap b1 "com/example/watchpost/watchpost/detect/Costs" := A1.keep x2c0
  have hk2' : _ ≤ T2.heap.size := Nat.le_trans hk1' x2c0.1
  have Z2 : n0 ≤ T2.heap.size := Nat.le_trans Z1 x2c0.1
  have X2b : Stand p l e room_1 (s.setVm T2.vm) m #[(.int p0), (.int p1), (.int p2), (.int p3)] below meth c T2 _ _ _ := X2
  have hS2 : s.Since T2.vm T2.heap.size := foldS hS0 (T := T1) (by first | exact hk1' | (rw [e1]; exact hk1')) hSq2 gr2
  have hZ2 : Z.Warmed39 (s.setVm T2.vm).vm := State.Warmed39.trans (t := s.setVm s.vm) hZ hSq2.1
  have hown2 : (s.setVm T2.vm).vm.findClass "com/example/watchpost/watchpost/detect/CostsTotalPinLaw" = some m.cls := by rw [show (s.setVm T2.vm).vm = T2.vm from rfl, hSq2.1.alike.findClass]; exact hown
  have hk2 := Nat.le_refl T2.heap.size
  obtain ⟨cq3, kq3, q3a, q3b, q3c⟩ := isOf hZ2 rfl A1_2
  obtain ⟨_, _, ⟨T3, L3, k3, n3⟩, -, X3, ⟨Lc3, hQ3, l3, y3, z3⟩, st3⟩ := X2b.virtualBack hx (y := (⟨"com/example/watchpost/watchpost/detect/Costs", "total", "(II)D"⟩ : MethodName)) (z := (⟨"com/example/watchpost/watchpost/detect/Costs", "total", "(II)D"⟩ : MethodName)) hown2 (mvT hZ2 (hw _ (List.mem_of_getElem? (i := 27) rfl))) (mvT hZ2 (hw _ (List.mem_of_getElem? (i := 28) rfl))) (notFace_of_selects (args := #[]) (mvT hZ2 (hw _ (List.mem_of_getElem? (i := 30) rfl)))) (mvT hZ2 (hw _ (List.mem_of_getElem? (i := 30) rfl))) (mvT hZ2 (hw _ (List.mem_of_getElem? (i := 29) rfl))) (by decide) (backOf (W := 0) (rm_total l Z a0 hw [] b1 p2 p3 (FP.i2d (p0 &&& (1048575 : Int32))) (FP.i2d (p1 &&& (1048575 : Int32))) T2.heap n0 Z2 x2c1 x2c2 (own_nn (own_p1 (own_band p0))) (own_nn (own_p1 (own_band p1))) (own_nn (own_sum (own_band p0) (own_band p1)))) hZ2 (hw _ (List.mem_of_getElem? (i := 31) rfl)) (hw _ (List.mem_of_getElem? (i := 3) rfl)) (by decide) (by decide)) q3a q3c (g := (mkF m 46 #[.val (.int p0), .val (.int p1), .val (.int p2), .val (.int p3), .val (.int (p0 &&& (1048575 : Int32))), .val (.int (p1 &&& (1048575 : Int32))), .val (.ref b1), .val (.long (((p0 &&& (1048575 : Int32)).toInt64 * p2.toInt64) + ((p1 &&& (1048575 : Int32)).toInt64 * p3.toInt64))), .second, .unset, .unset] [(.int p3), (.int p2), (.ref b1)])) rfl (by rw [hml]; rfl) (Steps.refl _) (argsL := [(.int p2), (.int p3)]) (rest := []) (lenOf pd_2 rfl) rfl (by show 2 * 0 + _ ≤ _; exact Nat.le_of_eq rfl) (hb hby at_46) (fun _ _ => ⟨rfl, rfl, (by decide : 5 + 0 ≤ _), (by decide : 54 + 0 ≤ _)⟩)
  dsimp only [Pt.U, Pt.locs, Pt.cells, Pt.slots] at X3 l3 y3 z3 st3 hQ3
  subst l3 y3 z3
  obtain ⟨rfl, N3q, e3⟩ := hQ3
  have N3 := Fr.app N2 N3q
  obtain ⟨fs, hr, hrun, hended, hREW⟩ := X3.leaveW hS2 (by first | exact hk2 | (rw [e3]; exact hk2)) (v := some (.int (1 : Int32))) (fun h => by rw [Bd.returns] at h; cases h)
  refine ⟨_, _, pre0 _ ?_, hrun, hended, _, _, rfl, ?_, hREW.1, hREW.2.1, hREW.2.2.1, hREW.2.2.2.mono (by decide) (by decide)⟩
  · show Steps p.tables e below (s₁.setTop (mkF m 0 #[.val (.int p0), .val (.int p1), .val (.int p2), .val (.int p3), .unset, .unset, .unset, .unset, .unset, .unset, .unset] [])) _
    refine XS.iloadN X0.here hx rfl (hb hby at_0) rfl ?_
    show Steps p.tables e below (s₁.setTop (mkF m 1 #[.val (.int p0), .val (.int p1), .val (.int p2), .val (.int p3), .unset, .unset, .unset, .unset, .unset, .unset, .unset] [(.int p0)])) _
    refine X0.ldcInt hx hown (mvT hZ (hw _ (List.mem_of_getElem? (i := 0) rfl))) (g := (mkF m 1 #[.val (.int p0), .val (.int p1), .val (.int p2), .val (.int p3), .unset, .unset, .unset, .unset, .unset, .unset, .unset] [(.int p0)])) rfl (hb hby at_1) _ ?_
    show Steps p.tables e below (s₁.setTop (mkF m 3 #[.val (.int p0), .val (.int p1), .val (.int p2), .val (.int p3), .unset, .unset, .unset, .unset, .unset, .unset, .unset] [(.int (1048575 : Int32)), (.int p0)])) _
    refine XS.iand X0.here hx rfl (hb hby at_3) rfl ?_
    show Steps p.tables e below (s₁.setTop (mkF m 4 #[.val (.int p0), .val (.int p1), .val (.int p2), .val (.int p3), .unset, .unset, .unset, .unset, .unset, .unset, .unset] [(.int (p0 &&& (1048575 : Int32)))])) _
    refine XS.istore X0.here hx rfl (hb hby at_4) rfl (l' := #[.val (.int p0), .val (.int p1), .val (.int p2), .val (.int p3), .val (.int (p0 &&& (1048575 : Int32))), .unset, .unset, .unset, .unset, .unset, .unset]) rfl ?_
    show Steps p.tables e below (s₁.setTop (mkF m 6 #[.val (.int p0), .val (.int p1), .val (.int p2), .val (.int p3), .val (.int (p0 &&& (1048575 : Int32))), .unset, .unset, .unset, .unset, .unset, .unset] [])) _
    refine XS.iloadN X0.here hx rfl (hb hby at_6) rfl ?_
    show Steps p.tables e below (s₁.setTop (mkF m 7 #[.val (.int p0), .val (.int p1), .val (.int p2), .val (.int p3), .val (.int (p0 &&& (1048575 : Int32))), .unset, .unset, .unset, .unset, .unset, .unset] [(.int p1)])) _
    refine X0.ldcInt hx hown (mvT hZ (hw _ (List.mem_of_getElem? (i := 0) rfl))) (g := (mkF m 7 #[.val (.int p0), .val (.int p1), .val (.int p2), .val (.int p3), .val (.int (p0 &&& (1048575 : Int32))), .unset, .unset, .unset, .unset, .unset, .unset] [(.int p1)])) rfl (hb hby at_7) _ ?_
    show Steps p.tables e below (s₁.setTop (mkF m 9 #[.val (.int p0), .val (.int p1), .val (.int p2), .val (.int p3), .val (.int (p0 &&& (1048575 : Int32))), .unset, .unset, .unset, .unset, .unset, .unset] [(.int (1048575 : Int32)), (.int p1)])) _
    refine XS.iand X0.here hx rfl (hb hby at_9) rfl ?_
    show Steps p.tables e below (s₁.setTop (mkF m 10 #[.val (.int p0), .val (.int p1), .val (.int p2), .val (.int p3), .val (.int (p0 &&& (1048575 : Int32))), .unset, .unset, .unset, .unset, .unset, .unset] [(.int (p1 &&& (1048575 : Int32)))])) _
    refine XS.istore X0.here hx rfl (hb hby at_10) rfl (l' := #[.val (.int p0), .val (.int p1), .val (.int p2), .val (.int p3), .val (.int (p0 &&& (1048575 : Int32))), .val (.int (p1 &&& (1048575 : Int32))), .unset, .unset, .unset, .unset, .unset]) rfl ?_
    show Steps p.tables e below (s₁.setTop (mkF m 12 #[.val (.int p0), .val (.int p1), .val (.int p2), .val (.int p3), .val (.int (p0 &&& (1048575 : Int32))), .val (.int (p1 &&& (1048575 : Int32))), .unset, .unset, .unset, .unset, .unset] [])) _
    refine st1 _ ?_
    show Steps p.tables e below (T1.setTop (mkF m 15 #[.val (.int p0), .val (.int p1), .val (.int p2), .val (.int p3), .val (.int (p0 &&& (1048575 : Int32))), .val (.int (p1 &&& (1048575 : Int32))), .unset, .unset, .unset, .unset, .unset] [(.ref b1)])) _
    refine XS.dup X1.here hx rfl (hb hby at_15) rfl rfl ?_
    show Steps p.tables e below (T1.setTop (mkF m 16 #[.val (.int p0), .val (.int p1), .val (.int p2), .val (.int p3), .val (.int (p0 &&& (1048575 : Int32))), .val (.int (p1 &&& (1048575 : Int32))), .unset, .unset, .unset, .unset, .unset] [(.ref b1), (.ref b1)])) _
    refine XS.iload X1.here hx rfl (hb hby at_16) rfl ?_
    show Steps p.tables e below (T1.setTop (mkF m 18 #[.val (.int p0), .val (.int p1), .val (.int p2), .val (.int p3), .val (.int (p0 &&& (1048575 : Int32))), .val (.int (p1 &&& (1048575 : Int32))), .unset, .unset, .unset, .unset, .unset] [(.int (p0 &&& (1048575 : Int32))), (.ref b1), (.ref b1)])) _
    refine XS.i2dS X1.here hx rfl (hb hby at_18) rfl rfl ?_
    show Steps p.tables e below (T1.setTop (mkF m 19 #[.val (.int p0), .val (.int p1), .val (.int p2), .val (.int p3), .val (.int (p0 &&& (1048575 : Int32))), .val (.int (p1 &&& (1048575 : Int32))), .unset, .unset, .unset, .unset, .unset] [(.double (FP.i2d (p0 &&& (1048575 : Int32)))), (.ref b1), (.ref b1)])) _
    refine XS.iload X1.here hx rfl (hb hby at_19) rfl ?_
    show Steps p.tables e below (T1.setTop (mkF m 21 #[.val (.int p0), .val (.int p1), .val (.int p2), .val (.int p3), .val (.int (p0 &&& (1048575 : Int32))), .val (.int (p1 &&& (1048575 : Int32))), .unset, .unset, .unset, .unset, .unset] [(.int (p1 &&& (1048575 : Int32))), (.double (FP.i2d (p0 &&& (1048575 : Int32)))), (.ref b1), (.ref b1)])) _
    refine XS.i2dS X1.here hx rfl (hb hby at_21) rfl rfl ?_
    show Steps p.tables e below (T1.setTop (mkF m 22 #[.val (.int p0), .val (.int p1), .val (.int p2), .val (.int p3), .val (.int (p0 &&& (1048575 : Int32))), .val (.int (p1 &&& (1048575 : Int32))), .unset, .unset, .unset, .unset, .unset] [(.double (FP.i2d (p1 &&& (1048575 : Int32)))), (.double (FP.i2d (p0 &&& (1048575 : Int32)))), (.ref b1), (.ref b1)])) _
    refine st2.trans ?_
    show Steps p.tables e below (T2.setTop (mkF m 25 #[.val (.int p0), .val (.int p1), .val (.int p2), .val (.int p3), .val (.int (p0 &&& (1048575 : Int32))), .val (.int (p1 &&& (1048575 : Int32))), .unset, .unset, .unset, .unset, .unset] [(.ref b1)])) _
    refine XS.astore X2b.here hx rfl (hb hby at_25) rfl rfl (l' := #[.val (.int p0), .val (.int p1), .val (.int p2), .val (.int p3), .val (.int (p0 &&& (1048575 : Int32))), .val (.int (p1 &&& (1048575 : Int32))), .val (.ref b1), .unset, .unset, .unset, .unset]) rfl ?_
    show Steps p.tables e below (T2.setTop (mkF m 27 #[.val (.int p0), .val (.int p1), .val (.int p2), .val (.int p3), .val (.int (p0 &&& (1048575 : Int32))), .val (.int (p1 &&& (1048575 : Int32))), .val (.ref b1), .unset, .unset, .unset, .unset] [])) _
    refine XS.iload X2b.here hx rfl (hb hby at_27) rfl ?_
    show Steps p.tables e below (T2.setTop (mkF m 29 #[.val (.int p0), .val (.int p1), .val (.int p2), .val (.int p3), .val (.int (p0 &&& (1048575 : Int32))), .val (.int (p1 &&& (1048575 : Int32))), .val (.ref b1), .unset, .unset, .unset, .unset] [(.int (p0 &&& (1048575 : Int32)))])) _
    refine XS.i2l X2b.here hx rfl (hb hby at_29) rfl ?_
    show Steps p.tables e below (T2.setTop (mkF m 30 #[.val (.int p0), .val (.int p1), .val (.int p2), .val (.int p3), .val (.int (p0 &&& (1048575 : Int32))), .val (.int (p1 &&& (1048575 : Int32))), .val (.ref b1), .unset, .unset, .unset, .unset] [(.long (p0 &&& (1048575 : Int32)).toInt64)])) _
    refine XS.iloadN X2b.here hx rfl (hb hby at_30) rfl ?_
    show Steps p.tables e below (T2.setTop (mkF m 31 #[.val (.int p0), .val (.int p1), .val (.int p2), .val (.int p3), .val (.int (p0 &&& (1048575 : Int32))), .val (.int (p1 &&& (1048575 : Int32))), .val (.ref b1), .unset, .unset, .unset, .unset] [(.int p2), (.long (p0 &&& (1048575 : Int32)).toInt64)])) _
    refine XS.i2l X2b.here hx rfl (hb hby at_31) rfl ?_
    show Steps p.tables e below (T2.setTop (mkF m 32 #[.val (.int p0), .val (.int p1), .val (.int p2), .val (.int p3), .val (.int (p0 &&& (1048575 : Int32))), .val (.int (p1 &&& (1048575 : Int32))), .val (.ref b1), .unset, .unset, .unset, .unset] [(.long p2.toInt64), (.long (p0 &&& (1048575 : Int32)).toInt64)])) _
    refine XS.lmul X2b.here hx rfl (hb hby at_32) rfl ?_
    show Steps p.tables e below (T2.setTop (mkF m 33 #[.val (.int p0), .val (.int p1), .val (.int p2), .val (.int p3), .val (.int (p0 &&& (1048575 : Int32))), .val (.int (p1 &&& (1048575 : Int32))), .val (.ref b1), .unset, .unset, .unset, .unset] [(.long ((p0 &&& (1048575 : Int32)).toInt64 * p2.toInt64))])) _
    refine XS.iload X2b.here hx rfl (hb hby at_33) rfl ?_
    show Steps p.tables e below (T2.setTop (mkF m 35 #[.val (.int p0), .val (.int p1), .val (.int p2), .val (.int p3), .val (.int (p0 &&& (1048575 : Int32))), .val (.int (p1 &&& (1048575 : Int32))), .val (.ref b1), .unset, .unset, .unset, .unset] [(.int (p1 &&& (1048575 : Int32))), (.long ((p0 &&& (1048575 : Int32)).toInt64 * p2.toInt64))])) _
    refine XS.i2l X2b.here hx rfl (hb hby at_35) rfl ?_
    show Steps p.tables e below (T2.setTop (mkF m 36 #[.val (.int p0), .val (.int p1), .val (.int p2), .val (.int p3), .val (.int (p0 &&& (1048575 : Int32))), .val (.int (p1 &&& (1048575 : Int32))), .val (.ref b1), .unset, .unset, .unset, .unset] [(.long (p1 &&& (1048575 : Int32)).toInt64), (.long ((p0 &&& (1048575 : Int32)).toInt64 * p2.toInt64))])) _
    refine XS.iloadN X2b.here hx rfl (hb hby at_36) rfl ?_
    show Steps p.tables e below (T2.setTop (mkF m 37 #[.val (.int p0), .val (.int p1), .val (.int p2), .val (.int p3), .val (.int (p0 &&& (1048575 : Int32))), .val (.int (p1 &&& (1048575 : Int32))), .val (.ref b1), .unset, .unset, .unset, .unset] [(.int p3), (.long (p1 &&& (1048575 : Int32)).toInt64), (.long ((p0 &&& (1048575 : Int32)).toInt64 * p2.toInt64))])) _
    refine XS.i2l X2b.here hx rfl (hb hby at_37) rfl ?_
    show Steps p.tables e below (T2.setTop (mkF m 38 #[.val (.int p0), .val (.int p1), .val (.int p2), .val (.int p3), .val (.int (p0 &&& (1048575 : Int32))), .val (.int (p1 &&& (1048575 : Int32))), .val (.ref b1), .unset, .unset, .unset, .unset] [(.long p3.toInt64), (.long (p1 &&& (1048575 : Int32)).toInt64), (.long ((p0 &&& (1048575 : Int32)).toInt64 * p2.toInt64))])) _
    refine XS.lmul X2b.here hx rfl (hb hby at_38) rfl ?_
    show Steps p.tables e below (T2.setTop (mkF m 39 #[.val (.int p0), .val (.int p1), .val (.int p2), .val (.int p3), .val (.int (p0 &&& (1048575 : Int32))), .val (.int (p1 &&& (1048575 : Int32))), .val (.ref b1), .unset, .unset, .unset, .unset] [(.long ((p1 &&& (1048575 : Int32)).toInt64 * p3.toInt64)), (.long ((p0 &&& (1048575 : Int32)).toInt64 * p2.toInt64))])) _
    refine XS.ladd X2b.here hx rfl (hb hby at_39) rfl ?_
    show Steps p.tables e below (T2.setTop (mkF m 40 #[.val (.int p0), .val (.int p1), .val (.int p2), .val (.int p3), .val (.int (p0 &&& (1048575 : Int32))), .val (.int (p1 &&& (1048575 : Int32))), .val (.ref b1), .unset, .unset, .unset, .unset] [(.long (((p0 &&& (1048575 : Int32)).toInt64 * p2.toInt64) + ((p1 &&& (1048575 : Int32)).toInt64 * p3.toInt64)))])) _
    refine XS.lstore X2b.here hx rfl (hb hby at_40) rfl (l' := #[.val (.int p0), .val (.int p1), .val (.int p2), .val (.int p3), .val (.int (p0 &&& (1048575 : Int32))), .val (.int (p1 &&& (1048575 : Int32))), .val (.ref b1), .val (.long (((p0 &&& (1048575 : Int32)).toInt64 * p2.toInt64) + ((p1 &&& (1048575 : Int32)).toInt64 * p3.toInt64))), .second, .unset, .unset]) rfl ?_
    show Steps p.tables e below (T2.setTop (mkF m 42 #[.val (.int p0), .val (.int p1), .val (.int p2), .val (.int p3), .val (.int (p0 &&& (1048575 : Int32))), .val (.int (p1 &&& (1048575 : Int32))), .val (.ref b1), .val (.long (((p0 &&& (1048575 : Int32)).toInt64 * p2.toInt64) + ((p1 &&& (1048575 : Int32)).toInt64 * p3.toInt64))), .second, .unset, .unset] [])) _
    refine XS.aload X2b.here hx rfl (hb hby at_42) rfl rfl ?_
    show Steps p.tables e below (T2.setTop (mkF m 44 #[.val (.int p0), .val (.int p1), .val (.int p2), .val (.int p3), .val (.int (p0 &&& (1048575 : Int32))), .val (.int (p1 &&& (1048575 : Int32))), .val (.ref b1), .val (.long (((p0 &&& (1048575 : Int32)).toInt64 * p2.toInt64) + ((p1 &&& (1048575 : Int32)).toInt64 * p3.toInt64))), .second, .unset, .unset] [(.ref b1)])) _
    refine XS.iloadN X2b.here hx rfl (hb hby at_44) rfl ?_
    show Steps p.tables e below (T2.setTop (mkF m 45 #[.val (.int p0), .val (.int p1), .val (.int p2), .val (.int p3), .val (.int (p0 &&& (1048575 : Int32))), .val (.int (p1 &&& (1048575 : Int32))), .val (.ref b1), .val (.long (((p0 &&& (1048575 : Int32)).toInt64 * p2.toInt64) + ((p1 &&& (1048575 : Int32)).toInt64 * p3.toInt64))), .second, .unset, .unset] [(.int p2), (.ref b1)])) _
    refine XS.iloadN X2b.here hx rfl (hb hby at_45) rfl ?_
    show Steps p.tables e below (T2.setTop (mkF m 46 #[.val (.int p0), .val (.int p1), .val (.int p2), .val (.int p3), .val (.int (p0 &&& (1048575 : Int32))), .val (.int (p1 &&& (1048575 : Int32))), .val (.ref b1), .val (.long (((p0 &&& (1048575 : Int32)).toInt64 * p2.toInt64) + ((p1 &&& (1048575 : Int32)).toInt64 * p3.toInt64))), .second, .unset, .unset] [(.int p3), (.int p2), (.ref b1)])) _
    refine st3.trans ?_
    show Steps p.tables e below (T3.setTop (mkF m 49 #[.val (.int p0), .val (.int p1), .val (.int p2), .val (.int p3), .val (.int (p0 &&& (1048575 : Int32))), .val (.int (p1 &&& (1048575 : Int32))), .val (.ref b1), .val (.long (((p0 &&& (1048575 : Int32)).toInt64 * p2.toInt64) + ((p1 &&& (1048575 : Int32)).toInt64 * p3.toInt64))), .second, .unset, .unset] [(.double (FP.dadd (FP.dmul (FP.i2d (p0 &&& (1048575 : Int32))) (FP.i2d p2)) (FP.dmul (FP.i2d (p1 &&& (1048575 : Int32))) (FP.i2d p3))))])) _
    refine XS.dstore X3.here hx rfl (hb hby at_49) rfl (l' := #[.val (.int p0), .val (.int p1), .val (.int p2), .val (.int p3), .val (.int (p0 &&& (1048575 : Int32))), .val (.int (p1 &&& (1048575 : Int32))), .val (.ref b1), .val (.long (((p0 &&& (1048575 : Int32)).toInt64 * p2.toInt64) + ((p1 &&& (1048575 : Int32)).toInt64 * p3.toInt64))), .second, .val (.double (FP.dadd (FP.dmul (FP.i2d (p0 &&& (1048575 : Int32))) (FP.i2d p2)) (FP.dmul (FP.i2d (p1 &&& (1048575 : Int32))) (FP.i2d p3)))), .second]) rfl ?_
    show Steps p.tables e below (T3.setTop (mkF m 51 #[.val (.int p0), .val (.int p1), .val (.int p2), .val (.int p3), .val (.int (p0 &&& (1048575 : Int32))), .val (.int (p1 &&& (1048575 : Int32))), .val (.ref b1), .val (.long (((p0 &&& (1048575 : Int32)).toInt64 * p2.toInt64) + ((p1 &&& (1048575 : Int32)).toInt64 * p3.toInt64))), .second, .val (.double (FP.dadd (FP.dmul (FP.i2d (p0 &&& (1048575 : Int32))) (FP.i2d p2)) (FP.dmul (FP.i2d (p1 &&& (1048575 : Int32))) (FP.i2d p3)))), .second] [])) _
    refine XS.dload X3.here hx rfl (hb hby at_51) rfl ?_
    show Steps p.tables e below (T3.setTop (mkF m 53 #[.val (.int p0), .val (.int p1), .val (.int p2), .val (.int p3), .val (.int (p0 &&& (1048575 : Int32))), .val (.int (p1 &&& (1048575 : Int32))), .val (.ref b1), .val (.long (((p0 &&& (1048575 : Int32)).toInt64 * p2.toInt64) + ((p1 &&& (1048575 : Int32)).toInt64 * p3.toInt64))), .second, .val (.double (FP.dadd (FP.dmul (FP.i2d (p0 &&& (1048575 : Int32))) (FP.i2d p2)) (FP.dmul (FP.i2d (p1 &&& (1048575 : Int32))) (FP.i2d p3)))), .second] [(.double (FP.dadd (FP.dmul (FP.i2d (p0 &&& (1048575 : Int32))) (FP.i2d p2)) (FP.dmul (FP.i2d (p1 &&& (1048575 : Int32))) (FP.i2d p3))))])) _
    refine XS.lload X3.here hx rfl (hb hby at_53) rfl ?_
    show Steps p.tables e below (T3.setTop (mkF m 55 #[.val (.int p0), .val (.int p1), .val (.int p2), .val (.int p3), .val (.int (p0 &&& (1048575 : Int32))), .val (.int (p1 &&& (1048575 : Int32))), .val (.ref b1), .val (.long (((p0 &&& (1048575 : Int32)).toInt64 * p2.toInt64) + ((p1 &&& (1048575 : Int32)).toInt64 * p3.toInt64))), .second, .val (.double (FP.dadd (FP.dmul (FP.i2d (p0 &&& (1048575 : Int32))) (FP.i2d p2)) (FP.dmul (FP.i2d (p1 &&& (1048575 : Int32))) (FP.i2d p3)))), .second] [(.long (((p0 &&& (1048575 : Int32)).toInt64 * p2.toInt64) + ((p1 &&& (1048575 : Int32)).toInt64 * p3.toInt64))), (.double (FP.dadd (FP.dmul (FP.i2d (p0 &&& (1048575 : Int32))) (FP.i2d p2)) (FP.dmul (FP.i2d (p1 &&& (1048575 : Int32))) (FP.i2d p3))))])) _
    refine XS.l2dS X3.here hx rfl (hb hby at_55) rfl rfl ?_
    show Steps p.tables e below (T3.setTop (mkF m 56 #[.val (.int p0), .val (.int p1), .val (.int p2), .val (.int p3), .val (.int (p0 &&& (1048575 : Int32))), .val (.int (p1 &&& (1048575 : Int32))), .val (.ref b1), .val (.long (((p0 &&& (1048575 : Int32)).toInt64 * p2.toInt64) + ((p1 &&& (1048575 : Int32)).toInt64 * p3.toInt64))), .second, .val (.double (FP.dadd (FP.dmul (FP.i2d (p0 &&& (1048575 : Int32))) (FP.i2d p2)) (FP.dmul (FP.i2d (p1 &&& (1048575 : Int32))) (FP.i2d p3)))), .second] [(.double (FP.l2d (((p0 &&& (1048575 : Int32)).toInt64 * p2.toInt64) + ((p1 &&& (1048575 : Int32)).toInt64 * p3.toInt64)))), (.double (FP.dadd (FP.dmul (FP.i2d (p0 &&& (1048575 : Int32))) (FP.i2d p2)) (FP.dmul (FP.i2d (p1 &&& (1048575 : Int32))) (FP.i2d p3))))])) _
    refine XS.dcmpS X3.here hx rfl (hb hby at_56) rfl rfl ?_
    show Steps p.tables e below (T3.setTop (mkF m 57 #[.val (.int p0), .val (.int p1), .val (.int p2), .val (.int p3), .val (.int (p0 &&& (1048575 : Int32))), .val (.int (p1 &&& (1048575 : Int32))), .val (.ref b1), .val (.long (((p0 &&& (1048575 : Int32)).toInt64 * p2.toInt64) + ((p1 &&& (1048575 : Int32)).toInt64 * p3.toInt64))), .second, .val (.double (FP.dadd (FP.dmul (FP.i2d (p0 &&& (1048575 : Int32))) (FP.i2d p2)) (FP.dmul (FP.i2d (p1 &&& (1048575 : Int32))) (FP.i2d p3)))), .second] [(.int (cmpValue (FP.dcmp (FP.dadd (FP.dmul (FP.i2d (p0 &&& (1048575 : Int32))) (FP.i2d p2)) (FP.dmul (FP.i2d (p1 &&& (1048575 : Int32))) (FP.i2d p3))) (FP.l2d (((p0 &&& (1048575 : Int32)).toInt64 * p2.toInt64) + ((p1 &&& (1048575 : Int32)).toInt64 * p3.toInt64)))) .l))])) _
    refine XS.ifNo X3.here hx rfl (hb hby at_57) rfl ((if0 _ _).trans (teq (own_eq (own_band p0) (own_band p1))).2) ?_
    show Steps p.tables e below (T3.setTop (mkF m 60 #[.val (.int p0), .val (.int p1), .val (.int p2), .val (.int p3), .val (.int (p0 &&& (1048575 : Int32))), .val (.int (p1 &&& (1048575 : Int32))), .val (.ref b1), .val (.long (((p0 &&& (1048575 : Int32)).toInt64 * p2.toInt64) + ((p1 &&& (1048575 : Int32)).toInt64 * p3.toInt64))), .second, .val (.double (FP.dadd (FP.dmul (FP.i2d (p0 &&& (1048575 : Int32))) (FP.i2d p2)) (FP.dmul (FP.i2d (p1 &&& (1048575 : Int32))) (FP.i2d p3)))), .second] [])) _
    refine XS.iconst X3.here hx rfl (hb hby at_60) ?_
    show Steps p.tables e below (T3.setTop (mkF m 61 #[.val (.int p0), .val (.int p1), .val (.int p2), .val (.int p3), .val (.int (p0 &&& (1048575 : Int32))), .val (.int (p1 &&& (1048575 : Int32))), .val (.ref b1), .val (.long (((p0 &&& (1048575 : Int32)).toInt64 * p2.toInt64) + ((p1 &&& (1048575 : Int32)).toInt64 * p3.toInt64))), .second, .val (.double (FP.dadd (FP.dmul (FP.i2d (p0 &&& (1048575 : Int32))) (FP.i2d p2)) (FP.dmul (FP.i2d (p1 &&& (1048575 : Int32))) (FP.i2d p3)))), .second] [(.int (1 : Int32))])) _
    refine XS.goto X3.here hx rfl (pc0 := 61) (pc' := 65) rfl (hb hby at_61) (by decide) (by decide) ?_
    show Steps p.tables e below (T3.setTop (mkF m 65 #[.val (.int p0), .val (.int p1), .val (.int p2), .val (.int p3), .val (.int (p0 &&& (1048575 : Int32))), .val (.int (p1 &&& (1048575 : Int32))), .val (.ref b1), .val (.long (((p0 &&& (1048575 : Int32)).toInt64 * p2.toInt64) + ((p1 &&& (1048575 : Int32)).toInt64 * p3.toInt64))), .second, .val (.double (FP.dadd (FP.dmul (FP.i2d (p0 &&& (1048575 : Int32))) (FP.i2d p2)) (FP.dmul (FP.i2d (p1 &&& (1048575 : Int32))) (FP.i2d p3)))), .second] [(.int (1 : Int32))])) _
    exact retN X3 hx (t := .boolean) Bd.returns (by simp) (hb hby at_65) hr
  · show Q_rm_law Z p0 p1 p2 p3 h0 n0 _ T3.heap _
    rw [e3]
    exact ⟨rfl, N3, trivial⟩
set_option maxRecDepth 65536 in
set_option maxHeartbeats 40000000 in
theorem comes_1 {Post : Tables → Env → Array Value → State → Outcome → State → Prop} (hpost : ∀ tb e args s v u, (limb_1_1.after args s (.returned v) u = true ∧ limb_1_2.after args s (.returned v) u = true ∧ True) → ReturnedEndW s (.returned v) u (Jvm.fieldLocs frame_1_writes args s ++ Jvm.arrayLocs frame_1_arrays args s ++ Jvm.staticLocs frame_1_statics s) 16 2176 → Post tb e args s (.returned v) u) :
    ArmFor flags0 classFile x code maxLocals ret World_1 tables_1 room_1 Calls_1 rest_1 Pre_1 Post := by
  intro l hfl _ _ p e ha hc hk s m args below hf hA hF happ hP
  obtain ⟨hcalls, hrest, hpre⟩ := hP
  obtain ⟨-, -, -, hnamed, -, -, -, hat⟩ := (Spec.applies_iff hf).mp happ
  obtain ⟨hg, hn⟩ := and_e (Cond.before_iff.mp (show (Jvm.Cond.and given_1 narrow_1).before args s = true from hpre))
  obtain ⟨hcnt, hgv0⟩ := and_e hg
  obtain ⟨hg0, hgv1⟩ := and_e hgv0
  obtain ⟨hg1, hgv2⟩ := and_e hgv1
  obtain ⟨hg2, hgv3⟩ := and_e hgv2
  have hg3 := hgv3
  obtain ⟨w0, w1, w2, w3, rfl⟩ : ∃ w0 w1 w2 w3 : Value, args = #[w0, w1, w2, w3] := by
    have hs : args.size = 4 := by simpa [Cond.value, given_1] using hcnt
    obtain ⟨L⟩ := args
    match L, hs with
    | [w0, w1, w2, w3], _ => exact ⟨w0, w1, w2, w3, rfl⟩
  have hw := fun d (hd : d ∈ tables_1) => atoms_spec (ws := Jvm.Cond.code x code maxLocals ret :: tables_1) hat d (List.mem_cons_of_mem _ hd)
  have hfit : Fit s := fun {y c} hc i hi => by
    obtain ⟨ha, rfl⟩ := Array.getElem?_eq_some_iff.mp hc
    have q := List.all_eq_true.mp ((Array.all_eq_true_iff_forall_mem.mp hF) _ (Array.getElem_mem ha)) i (List.mem_range.mpr hi)
    simpa [Array.getElem?_eq_getElem hi] using q
  obtain ⟨i0, ei0⟩ := is_v hg0
  obtain rfl : w0 = (.int i0) := Option.some.inj ei0
  obtain ⟨i1, ei1⟩ := is_v hg1
  obtain rfl : w1 = (.int i1) := Option.some.inj ei1
  obtain ⟨i2, ei2⟩ := is_v hg2
  obtain rfl : w2 = (.int i2) := Option.some.inj ei2
  obtain ⟨i3, ei3⟩ := is_v hg3
  obtain rfl : w3 = (.int i3) := Option.some.inj ei3
  obtain ⟨n, o, h1, h2, h3, _, L, rfl, hQL, hq⟩ := rm_law l s _ hw tables_1 i0 i1 i2 i3  s.heap s.heap.size (Nat.le_refl _)  p e ha hc hk s m _ below hf ((Spec.applies_iff_loose hf).mp happ).1 ⟨rfl, State.Warmed39.refl s, rfl⟩ trivial
  obtain ⟨rfl, N, -⟩ := hQL
  refine ⟨n, _, h1, h2, h3, hpost _ _ _ _ _ _ ⟨Cond.after_iff.mpr rfl, Cond.after_iff.mpr (eq_i res_at (Term.int_eval (1)) rfl), trivial⟩ ⟨hq.1, hq.2.1, hq.2.2.1, (hq.2.2.2.sift fun y hy => Or.inr (N y hy)).mono (by decide) (by decide)⟩⟩
theorem main_1_1 : Claimed_1_1 := comes_1 fun _ _ _ _ _ _ h hF => ⟨h.1, hF⟩
theorem main_1_2 : Claimed_1_2 := comes_1 fun _ _ _ _ _ _ h hF => ⟨h.2.1, hF⟩
end Jvm.Pilot.@@N@@
namespace Jvm.Pilot.@@N@@
open Jvm Jvm.ClassFile Sem Op Lib Jvm.Free Jvm.Stand Jvm.Pilot.@@N@@.Jvm.D
/-! MADE BY PROGRAM (witnessworld.py) out of the Statement's table words and the real class files: 14 classes; the members and pool entries that the words name. The judged class is class 1, her method 1. -/
namespace start1
open Jvm.ClassFile
def u (s : String) : CpInfo := .utf8 (stringToUtf16 s)
/-- a pool by its gaps: so many unusable entries, then the entry; so many at the end -/
def gap : Nat → List CpInfo → List CpInfo
  | 0, r => r
  | n + 1, r => .unusable :: gap n r
def poolList (es : List (Nat × CpInfo)) (last : Nat) : List CpInfo := es.foldr (fun e r => gap e.1 (e.2 :: r)) (gap last [])
def pool (es : List (Nat × CpInfo)) (last : Nat) : Array CpInfo := ⟨poolList es last⟩
def fileOf (pool : Array CpInfo) (this : Nat) (attrs : Array Attribute := #[]) (ms : Array MethodInfo := #[]) (fl : Nat := 33) (sup : Nat := 0) (ifs : Array Nat := #[]) (fds : Array FieldInfo := #[]) : ClassFile where
  minorVersion := 0
  majorVersion := 65
  constantPool := pool
  accessFlags := fl
  thisClass := this
  superClass := sup
  interfaces := ifs
  fields := fds
  methods := ms
  attributes := attrs
def plain (name : String) (sup : Option ClassId) : Class where
  name := name
  kind := .ordinary
  loader := none
  accessFlags := 33
  super := sup
  interfaces := #[]
  cf := none
  fields := #[]
  methods := #[]
  instanceTypes := #[]
  staticTypes := #[]
  resolved := #[]
  callSites := []
  init := .initialized
  statics := none
  mirror := none

def pool0 : Array CpInfo := pool [(5, u "<init>"), (0, u "()V"), (1, .class_ 10), (1, u "java/lang/Object")] 113

def k0c0 : Code := { maxStack := 0, maxLocals := 1, code := object_method_1_code, exceptionTable := #[], attributes := #[] }
def k0m0 : Method := { name := "<init>", desc := "()V", sig := { parameters := [], returnType := none }, accessFlags := 1, code := some k0c0 }
/-- java/lang/Object -/
def k0 : Class := { plain "java/lang/Object" none with
  accessFlags := 33
  interfaces := #[]
  cf := some (fileOf pool0 8 #[] #[{ accessFlags := 1, nameIndex := 5, descriptorIndex := 6, attributes := #[] }] 33 0 #[] #[])
  fields := #[]
  methods := #[k0m0]
  instanceTypes := #[]
  staticTypes := #[]
  resolved := Array.replicate 124 none
  statics := none }

def pool1 : Array CpInfo := pool [(2, .class_ 4), (1, u "java/lang/Object"), (0, u "<init>"), (0, u "()V"), (0, .integer 1048575), (0, .class_ 9), (0, u "com/example/watchpost/watchpost/detect/Costs"), (0, .methodref 8 11), (0, .nameAndType 5 12), (0, u "(DD)V"), (0, .methodref 8 14), (0, .nameAndType 15 16), (0, u "total"), (0, u "(II)D"), (0, .class_ 18), (0, u "com/example/watchpost/watchpost/detect/CostsTotalPinLaw"), (2, u "law"), (0, u "(IIII)Z")] 3

def k1m0 : Method := { name := "<init>", desc := "()V", sig := { parameters := [], returnType := none }, accessFlags := 1, code := none }
def k1c1 : Code := { maxStack := 6, maxLocals := 11, code := code, exceptionTable := #[], attributes := #[] }
def k1m1 : Method := { name := "law", desc := "(IIII)Z", sig := { parameters := [.int, .int, .int, .int], returnType := some .boolean }, accessFlags := 9, code := some k1c1 }
/-- com/example/watchpost/watchpost/detect/CostsTotalPinLaw -/
def k1 : Class := { plain "com/example/watchpost/watchpost/detect/CostsTotalPinLaw" (some 0) with
  accessFlags := 49
  interfaces := #[]
  cf := some (fileOf pool1 17 #[] #[{ accessFlags := 1, nameIndex := 5, descriptorIndex := 6, attributes := #[] }, { accessFlags := 9, nameIndex := 21, descriptorIndex := 22, attributes := #[] }] 49 2 #[] #[])
  fields := #[]
  methods := #[k1m0, k1m1]
  instanceTypes := #[]
  staticTypes := #[]
  resolved := Array.replicate 26 none
  statics := none }

def pool2 : Array CpInfo := pool [(1, .methodref 2 3), (0, .class_ 4), (0, .nameAndType 5 6), (0, u "java/lang/Object"), (0, u "<init>"), (0, u "()V"), (0, .string 8), (0, u "link"), (0, .methodref 10 11), (0, .class_ 12), (0, .nameAndType 13 14), (0, u "com/example/watchpost/watchpost/detect/Costs"), (0, u "checked"), (0, u "(Ljava/lang/String;D)D"), (0, .fieldref 10 16), (0, .nameAndType 17 18), (0, u "linkCost"), (0, u "D"), (0, .string 20), (0, u "monitor"), (0, .fieldref 10 22), (0, .nameAndType 23 18), (0, u "monitorCost"), (2, .double 9218868437227405312), (10, u "(DD)V"), (4, u "total"), (0, u "(II)D")] 17

def k2c0 : Code := { maxStack := 4, maxLocals := 5, code := prog_11_method_1_code, exceptionTable := #[], attributes := #[] }
def k2m0 : Method := { name := "<init>", desc := "(DD)V", sig := { parameters := [.double, .double], returnType := none }, accessFlags := 1, code := some k2c0 }
def k2c1 : Code := { maxStack := 5, maxLocals := 3, code := prog_11_method_2_code, exceptionTable := #[], attributes := #[] }
def k2m1 : Method := { name := "checked", desc := "(Ljava/lang/String;D)D", sig := { parameters := [(.object "java/lang/String"), .double], returnType := some .double }, accessFlags := 10, code := some k2c1 }
def k2c2 : Code := { maxStack := 6, maxLocals := 3, code := prog_11_method_5_code, exceptionTable := #[], attributes := #[] }
def k2m2 : Method := { name := "total", desc := "(II)D", sig := { parameters := [.int, .int], returnType := some .double }, accessFlags := 1, code := some k2c2 }
/-- com/example/watchpost/watchpost/detect/Costs -/
def k2 : Class := { plain "com/example/watchpost/watchpost/detect/Costs" (some 0) with
  accessFlags := 49
  interfaces := #[]
  cf := some (fileOf pool2 10 #[] #[{ accessFlags := 1, nameIndex := 5, descriptorIndex := 37, attributes := #[] }, { accessFlags := 10, nameIndex := 13, descriptorIndex := 14, attributes := #[] }, { accessFlags := 1, nameIndex := 42, descriptorIndex := 43, attributes := #[] }] 49 2 #[] #[{ accessFlags := 18, nameIndex := 17, descriptorIndex := 18, attributes := #[] }, { accessFlags := 18, nameIndex := 23, descriptorIndex := 18, attributes := #[] }])
  fields := #[{ name := "linkCost", type := .double, accessFlags := 18, slot := 0, constantValue := 0 }, { name := "monitorCost", type := .double, accessFlags := 18, slot := 1, constantValue := 0 }]
  methods := #[k2m0, k2m1, k2m2]
  instanceTypes := #[.double, .double]
  staticTypes := #[]
  resolved := Array.replicate 61 none
  statics := none }

def pool3 : Array CpInfo := pool [(1, .class_ 2), (0, u "java/io/Serializable"), (0, .class_ 4), (0, u "java/lang/Object")] 2

/-- java/io/Serializable -/
def k3 : Class := { plain "java/io/Serializable" (some 0) with
  accessFlags := 1537
  interfaces := #[]
  cf := some (fileOf pool3 1 #[] #[] 1537 3 #[] #[])
  fields := #[]
  methods := #[]
  instanceTypes := #[]
  staticTypes := #[]
  resolved := Array.replicate 7 none
  statics := none }

def pool4 : Array CpInfo := pool [(1, .class_ 2), (0, u "java/lang/Comparable"), (0, .class_ 4), (0, u "java/lang/Object")] 7

/-- java/lang/Comparable -/
def k4 : Class := { plain "java/lang/Comparable" (some 0) with
  accessFlags := 1537
  interfaces := #[]
  cf := some (fileOf pool4 1 #[] #[] 1537 3 #[] #[])
  fields := #[]
  methods := #[]
  instanceTypes := #[]
  staticTypes := #[]
  resolved := Array.replicate 12 none
  statics := none }

def pool5 : Array CpInfo := pool [(2, .class_ 4), (1, u "java/lang/CharSequence"), (42, .class_ 48), (0, u "java/lang/CharSequence$1CodePointIterator"), (10, .class_ 60), (0, u "java/lang/CharSequence$1CharIterator"), (5, .class_ 67), (0, u "java/lang/Object")] 63

/-- java/lang/CharSequence -/
def k5 : Class := { plain "java/lang/CharSequence" (some 0) with
  accessFlags := 1537
  interfaces := #[]
  cf := some (fileOf pool5 2 #[.nestMembers #[47, 59]] #[] 1537 66 #[] #[])
  fields := #[]
  methods := #[]
  instanceTypes := #[]
  staticTypes := #[]
  resolved := Array.replicate 131 none
  statics := none }

def pool6 : Array CpInfo := pool [(1, .class_ 2), (0, u "java/lang/constant/Constable"), (0, .class_ 4), (0, u "java/lang/Object")] 6

/-- java/lang/constant/Constable -/
def k6 : Class := { plain "java/lang/constant/Constable" (some 0) with
  accessFlags := 1537
  interfaces := #[]
  cf := some (fileOf pool6 1 #[] #[] 1537 3 #[] #[])
  fields := #[]
  methods := #[]
  instanceTypes := #[]
  staticTypes := #[]
  resolved := Array.replicate 11 none
  statics := none }

def pool7 : Array CpInfo := pool [(1, .class_ 2), (0, u "java/lang/constant/ConstantDesc"), (0, .class_ 4), (0, u "java/lang/Object")] 32

/-- java/lang/constant/ConstantDesc -/
def k7 : Class := { plain "java/lang/constant/ConstantDesc" (some 0) with
  accessFlags := 1537
  interfaces := #[]
  cf := some (fileOf pool7 1 #[] #[] 1537 3 #[] #[])
  fields := #[]
  methods := #[]
  instanceTypes := #[]
  staticTypes := #[]
  resolved := Array.replicate 37 none
  statics := none }

def pool8 : Array CpInfo := pool [(2, .class_ 4), (1, u "java/lang/Object"), (0, u "<init>"), (0, u "()V"), (3, .class_ 12), (1, u "java/lang/String"), (0, u "value"), (0, u "[B"), (2, u "coder"), (0, u "B"), (2, u "hash"), (0, u "I"), (2, u "hashIsZero"), (0, u "Z"), (13, u "COMPACT_STRINGS"), (534, .class_ 576), (0, u "java/lang/CharSequence"), (22, u "CASE_INSENSITIVE_ORDER"), (0, u "Ljava/util/Comparator;"), (500, u "serialPersistentFields"), (0, u "[Ljava/io/ObjectStreamField;"), (0, .class_ 1104), (0, u "java/lang/String$CaseInsensitiveComparator"), (1, .class_ 1107), (0, u "java/io/Serializable"), (0, .class_ 1109), (0, u "java/lang/Comparable"), (0, .class_ 1111), (0, u "java/lang/constant/Constable"), (0, .class_ 1113), (0, u "java/lang/constant/ConstantDesc"), (2, u "serialVersionUID"), (0, u "J"), (3, u "REPL"), (0, u "C"), (2, u "LATIN1"), (1, u "UTF16")] 323

def k8m0 : Method := { name := "<init>", desc := "()V", sig := { parameters := [], returnType := none }, accessFlags := 1, code := none }
/-- java/lang/String -/
def k8 : Class := { plain "java/lang/String" (some 0) with
  accessFlags := 49
  interfaces := #[3, 4, 5, 6, 7]
  cf := some (fileOf pool8 10 #[.nestMembers #[1103]] #[{ accessFlags := 1, nameIndex := 5, descriptorIndex := 6, attributes := #[] }] 49 2 #[1106, 1108, 575, 1110, 1112] #[{ accessFlags := 18, nameIndex := 13, descriptorIndex := 14, attributes := #[] }, { accessFlags := 18, nameIndex := 17, descriptorIndex := 18, attributes := #[] }, { accessFlags := 2, nameIndex := 21, descriptorIndex := 22, attributes := #[] }, { accessFlags := 2, nameIndex := 25, descriptorIndex := 26, attributes := #[] }, { accessFlags := 26, nameIndex := 1116, descriptorIndex := 1117, attributes := #[] }, { accessFlags := 24, nameIndex := 40, descriptorIndex := 26, attributes := #[] }, { accessFlags := 26, nameIndex := 1101, descriptorIndex := 1102, attributes := #[] }, { accessFlags := 26, nameIndex := 1121, descriptorIndex := 1122, attributes := #[] }, { accessFlags := 25, nameIndex := 599, descriptorIndex := 600, attributes := #[] }, { accessFlags := 24, nameIndex := 1125, descriptorIndex := 18, attributes := #[] }, { accessFlags := 24, nameIndex := 1127, descriptorIndex := 18, attributes := #[] }])
  fields := #[{ name := "value", type := (.array .byte), accessFlags := 18, slot := 0, constantValue := 0 }, { name := "coder", type := .byte, accessFlags := 18, slot := 1, constantValue := 0 }, { name := "hash", type := .int, accessFlags := 2, slot := 2, constantValue := 0 }, { name := "hashIsZero", type := .boolean, accessFlags := 2, slot := 3, constantValue := 0 }, { name := "serialVersionUID", type := .long, accessFlags := 26, slot := 0, constantValue := 0 }, { name := "COMPACT_STRINGS", type := .boolean, accessFlags := 24, slot := 1, constantValue := 0 }, { name := "serialPersistentFields", type := (.array (.object "java/io/ObjectStreamField")), accessFlags := 26, slot := 2, constantValue := 0 }, { name := "REPL", type := .char, accessFlags := 26, slot := 3, constantValue := 0 }, { name := "CASE_INSENSITIVE_ORDER", type := (.object "java/util/Comparator"), accessFlags := 25, slot := 4, constantValue := 0 }, { name := "LATIN1", type := .byte, accessFlags := 24, slot := 5, constantValue := 0 }, { name := "UTF16", type := .byte, accessFlags := 24, slot := 6, constantValue := 0 }]
  methods := #[k8m0]
  instanceTypes := #[(.array .byte), .byte, .int, .boolean]
  staticTypes := #[.long, .boolean, (.array (.object "java/io/ObjectStreamField")), .char, (.object "java/util/Comparator"), .byte, .byte]
  resolved := Array.replicate 1451 none
  statics := none }

def pool9 : Array CpInfo := pool [(1, u "java/lang/Cloneable"), (0, .class_ 1), (0, u "java/lang/Object"), (0, .class_ 3)] 3

/-- java/lang/Cloneable -/
def k9 : Class := { plain "java/lang/Cloneable" (some 0) with
  accessFlags := 1537
  interfaces := #[]
  cf := some (fileOf pool9 2 #[] #[] 1537 4 #[] #[])
  fields := #[]
  methods := #[]
  instanceTypes := #[]
  staticTypes := #[]
  resolved := Array.replicate 8 none
  statics := none }

/-- the primitive byte -/
def k10 : Class := { plain "byte" none with kind := .primitive 'B', accessFlags := 0x411 }
/-- [B -/
def k11 : Class := { plain "[B" (some 0) with kind := .array 10 .byte, interfaces := #[9, 3], accessFlags := 1041 }

/-- the primitive int -/
def k12 : Class := { plain "int" none with kind := .primitive 'I', accessFlags := 0x411 }
/-- [I -/
def k13 : Class := { plain "[I" (some 0) with kind := .array 12 .int, interfaces := #[9, 3], accessFlags := 1041 }

def heap : Heap := #[]
def classes : Array Class := #[k0, k1, k2, k3, k4, k5, k6, k7, k8, k9, k10, k11, k12, k13]
def interned : List (Array UInt16 × Addr) := []
def slotsUsed : Nat := 0
def theMethod : MethodId := ⟨1, 1⟩
def args0 : Array Value := #[.int 5, .int 5, .int 5, .int 5]
def aboutOver (below : List Frame) : State where
  vm := { classes := classes, interned := interned.toArray }
  heap := heap
  slotsUsed := slotsUsed
  threads := #[{ frames := .invoking theMethod args0 :: below }]
def below0 : List Frame := [.native { method := ⟨0, 0⟩, args := #[] }]
def about1 : State := aboutOver below0
def p0 : Program := .bare "" "" ""
def e0 : Env := launch0.env 0 0 0
theorem w_frames : about1.frames = Frame.invoking theMethod args0 :: below0 := rfl
set_option maxRecDepth 65536 in
theorem w_args : argsFit about1.vm theMethod args0 = true := by decide +kernel
set_option maxRecDepth 65536 in
theorem w_heap : heapFits about1 = true := by decide +kernel
set_option maxRecDepth 65536 in
theorem w_runnable : about1.curStatus? = some .runnable := by decide +kernel
set_option maxRecDepth 65536 in
theorem w_alone : about1.alone = true := by decide +kernel
set_option maxRecDepth 65536 in
theorem w_named : about1.methodNamed? x = some theMethod := by decide +kernel
set_option maxRecDepth 65536 in
theorem w_hears : about1.hears theMethod below0 = true := by decide +kernel
set_option maxRecDepth 65536 in
theorem w_ripe : about1.ripe theMethod args0 below0 = true := by decide +kernel
theorem w_running : about1.status = .running := rfl
set_option maxRecDepth 65536 in
theorem w_room : about1.hasRoom e0.platform room_1 = true :=
  launch0.hasRoom_least _ room_1 (by decide +kernel) (by decide +kernel) (by decide +kernel) (by decide +kernel) (by decide +kernel) (by decide +kernel)
theorem allAtoms_all (ts : List Jvm.Cond) (a : Array Jvm.Value) (st : Jvm.State) : (allAtoms ts).before a st = ts.all (fun c => c.before a st) := by
  induction ts with
  | nil => rfl
  | cons c t ih =>
    show (Jvm.Cond.and c (allAtoms t)).before a st = _
    rw [Jvm.Cond.before_and, ih, List.all_cons]
def words1 : List Jvm.Cond := Jvm.Cond.code x code maxLocals ret :: tables_1
/-- a 'code' word, met by the world's own term for the bytes: nothing is compared byte by byte -/
theorem code_word {y : MethodName} {bytes : ByteArray} {mx : Nat} {rt : Option FieldType} {a : Array Value} {s : State} {m : MethodId} {meth : Method} {c : Code} (h1 : s.methodNamed? y = some m) (h2 : s.vm.method? m = some meth) (h3 : meth.code = some c) (h4 : c.code = bytes)
    (h5 : (c.maxLocals == mx && c.exceptionTable.isEmpty && decide (c.maxStack ≤ mostOperands) && decide (meth.sig.returnType = rt) && !meth.locks && decide (parseMethodDescriptor y.desc = some meth.sig)) = true) : (Jvm.Cond.code y bytes mx rt).before a s = true := by
  simp only [Bool.and_eq_true, beq_iff_eq, Bool.not_eq_true', decide_eq_true_eq] at h5
  obtain ⟨⟨⟨⟨⟨g1, g2⟩, g3⟩, g4⟩, g5⟩, g6⟩ := h5
  simp [Cond.before, Cond.holds, Cond.value, h1, h2, h3, h4, g1, g2, g3, g4, g5, g6]
def isCode : Jvm.Cond → Bool
  | .code _ _ _ _ => true
  | _ => false
theorem all_split {L : List Jvm.Cond} {P : Jvm.Cond → Bool} (h1 : L.all (fun c => isCode c || P c) = true) (h2 : ∀ c ∈ L.filter isCode, P c = true) : L.all P = true := by
  refine List.all_eq_true.mpr fun c hc => ?_
  have h := List.all_eq_true.mp h1 c hc
  rcases Bool.eq_false_or_eq_true (isCode c) with hi | hi
  · exact h2 c (List.mem_filter.mpr ⟨hc, hi⟩)
  · simpa [hi] using h
set_option maxRecDepth 65536 in
theorem w_c0 : (Jvm.Cond.code x code maxLocals ret).before args0 about1 = true := code_word (m := ⟨1, 1⟩) (meth := k1m1) (c := k1c1) (by decide +kernel) rfl rfl rfl (by decide +kernel)
set_option maxRecDepth 65536 in
theorem w_c1 : (Jvm.Cond.code ({ cls := "com/example/watchpost/watchpost/detect/Costs", name := "<init>", desc := "(DD)V" } : Jvm.MethodName) prog_11_method_1_code (5 : Nat) (Option.none : Option Jvm.ClassFile.FieldType)).before args0 about1 = true := code_word (m := ⟨2, 0⟩) (meth := k2m0) (c := k2c0) (by decide +kernel) rfl rfl rfl (by decide +kernel)
set_option maxRecDepth 65536 in
theorem w_c2 : (Jvm.Cond.code ({ cls := "java/lang/Object", name := "<init>", desc := "()V" } : Jvm.MethodName) object_method_1_code (1 : Nat) (Option.none : Option Jvm.ClassFile.FieldType)).before args0 about1 = true := code_word (m := ⟨0, 0⟩) (meth := k0m0) (c := k0c0) (by decide +kernel) rfl rfl rfl (by decide +kernel)
set_option maxRecDepth 65536 in
theorem w_c3 : (Jvm.Cond.code ({ cls := "com/example/watchpost/watchpost/detect/Costs", name := "checked", desc := "(Ljava/lang/String;D)D" } : Jvm.MethodName) prog_11_method_2_code (3 : Nat) (Option.some Jvm.ClassFile.FieldType.double)).before args0 about1 = true := code_word (m := ⟨2, 1⟩) (meth := k2m1) (c := k2c1) (by decide +kernel) rfl rfl rfl (by decide +kernel)
set_option maxRecDepth 65536 in
theorem w_c4 : (Jvm.Cond.code ({ cls := "com/example/watchpost/watchpost/detect/Costs", name := "total", desc := "(II)D" } : Jvm.MethodName) prog_11_method_5_code (3 : Nat) (Option.some Jvm.ClassFile.FieldType.double)).before args0 about1 = true := code_word (m := ⟨2, 2⟩) (meth := k2m2) (c := k2c2) (by decide +kernel) rfl rfl rfl (by decide +kernel)
def codes1 : List Jvm.Cond := [Jvm.Cond.code x code maxLocals ret, Jvm.Cond.code ({ cls := "com/example/watchpost/watchpost/detect/Costs", name := "<init>", desc := "(DD)V" } : Jvm.MethodName) prog_11_method_1_code (5 : Nat) (Option.none : Option Jvm.ClassFile.FieldType), Jvm.Cond.code ({ cls := "java/lang/Object", name := "<init>", desc := "()V" } : Jvm.MethodName) object_method_1_code (1 : Nat) (Option.none : Option Jvm.ClassFile.FieldType), Jvm.Cond.code ({ cls := "com/example/watchpost/watchpost/detect/Costs", name := "checked", desc := "(Ljava/lang/String;D)D" } : Jvm.MethodName) prog_11_method_2_code (3 : Nat) (Option.some Jvm.ClassFile.FieldType.double), Jvm.Cond.code ({ cls := "com/example/watchpost/watchpost/detect/Costs", name := "total", desc := "(II)D" } : Jvm.MethodName) prog_11_method_5_code (3 : Nat) (Option.some Jvm.ClassFile.FieldType.double)]
set_option maxRecDepth 65536 in
theorem codes_eq : words1.filter isCode = codes1 := rfl
theorem w_codes : ∀ c ∈ words1.filter isCode, c.before args0 about1 = true := by
  rw [codes_eq]
  intro c hc
  simp only [codes1, List.mem_cons, List.not_mem_nil, or_false] at hc
  rcases hc with rfl | rfl | rfl | rfl | rfl
  · exact w_c0
  · exact w_c1
  · exact w_c2
  · exact w_c3
  · exact w_c4
set_option maxRecDepth 65536 in
theorem w_t1 : (words1.take 24).all (fun c => isCode c || c.before args0 about1) = true := by decide +kernel
set_option maxRecDepth 65536 in
theorem w_t2 : (words1.drop 24).all (fun c => isCode c || c.before args0 about1) = true := by decide +kernel
theorem w_tables : (allAtoms (Jvm.Cond.code x code maxLocals ret :: tables_1)).before args0 about1 = true := by
  rw [allAtoms_all]
  show words1.all (fun c => c.before args0 about1) = true
  refine all_split ?_ w_codes
  rw [← List.take_append_drop 24 words1, List.all_append, w_t1, w_t2]
  rfl
set_option maxRecDepth 65536 in
theorem w_case : (Jvm.Cond.and given_1 narrow_1).before args0 about1 = true := by decide +kernel
theorem w_applies : (headSpec (Jvm.Cond.code x code maxLocals ret :: tables_1) room_1).applies x e0.platform about1 = true :=
  (Spec.applies_iff w_frames).mpr ⟨w_running, w_runnable, w_alone, w_named, w_hears, w_ripe, w_room, w_tables⟩
theorem atStart : AtStart classFile x code maxLocals ret World_1 tables_1 room_1 Calls_1 rest_1 Pre_1 launch0 p0 e0 about1 theMethod args0 below0 :=
  ⟨lists_1, trivial, launch0.admits_env _ _ _, launch0.least_env, fairChoices_fair.cas, fairChoices_fair.clock, w_frames, w_args, w_heap, w_applies, trivial, trivial, w_case⟩
end start1
theorem witness_1 : WitnessClaimed_1 := ⟨start1.p0, start1.e0, start1.about1, start1.theMethod, start1.args0, start1.below0, start1.atStart⟩
end Jvm.Pilot.@@N@@
