import JvmDerived
import JvmDerived.Pilot.@@N@@Statement
import JvmDerived.Pilot.@@N@@Code
set_option linter.unusedVariables false
set_option linter.unusedSimpArgs false

namespace Jvm.RoadKit
open Sem ClassFile Op Lib Jvm.Stand Jvm.Free Jvm.LawKit
section New
variable {p : Program} {l : Launch} {e : Env} {R : Room} {s : State} {m : MethodId} {args : Array Value} {below : List Frame} {meth : Method} {c : Code} {T : State} {locs : List Loc} {cells slots : Nat}
theorem retI (X : Stand p l e R s m args below meth c T locs cells slots) (hx : p.tables.exec = Jvm.exec) {pc : Nat} {Ls : Array Slot} {z : Int32} {rest : List Value} (hret : meth.sig.returnType = some .int) (hd : decode c.code pc = .ok (.ireturn, 1)) {fs : List Frame}
    (hl : ∀ (f : JFrame) (acts : List Action), f.method = m → f.locked = none → f.entered = [] → (doReturn e (T.setTop f) acts (some (.int z))).1 = T.setFrames fs) : Steps p.tables e below (T.setTop (mkF m pc Ls (.int z :: rest))) (T.setFrames fs) := by
  have hm' : T.vm.method? m = some meth := X.method'
  have hn : narrow .int (.int z) = .int z := rfl
  show Steps p.tables e below (T.setTop { method := m, pc := pc, locals := Ls, stack := _ :: rest, locked := none }) _
  jvm_step X.here [X.here.top, hx, hd, hm', hret, hn]
  first | (intro acts; rw [hl _ acts rfl rfl rfl]) | rw [hl _ _ rfl rfl rfl]
  exact Steps.refl _
end New
end Jvm.RoadKit

namespace Jvm.Pilot.@@N@@
open Jvm Jvm.ClassFile Sem Op Lib Jvm.Free Jvm.Stand Jvm.LawKit Jvm.RoadKit Bundle Jvm.Pilot.@@N@@.Jvm.D
theorem d1_0 : decode prog_38_method_5_code 0 = .ok (.aload_n 0, 1) := by decide +kernel
theorem d1_1 : decode prog_38_method_5_code 1 = .ok (.invokespecial 62, 3) := by decide +kernel
theorem d1_4 : decode prog_38_method_5_code 4 = .ok (.aload_n 0, 1) := by decide +kernel
theorem d1_5 : decode prog_38_method_5_code 5 = .ok (.aload_n 1, 1) := by decide +kernel
theorem d1_6 : decode prog_38_method_5_code 6 = .ok (.putfield 68, 3) := by decide +kernel
theorem d1_9 : decode prog_38_method_5_code 9 = .ok (.aload_n 0, 1) := by decide +kernel
theorem d1_10 : decode prog_38_method_5_code 10 = .ok (.aload_n 2, 1) := by decide +kernel
theorem d1_11 : decode prog_38_method_5_code 11 = .ok (.putfield 72, 3) := by decide +kernel
theorem d1_14 : decode prog_38_method_5_code 14 = .ok (.return_, 1) := by decide +kernel
theorem pn_0 : plainName "com/example/watchpost/watchpost/network/Route" = true := by first | (simp [plainName, overriddenIn]; done) | decide +kernel
theorem ef_1 (m : MethodId) (x0 : Addr) (x1 : Addr) (x2 : Addr) : entryFrame m #[(.ref x0), (.ref x1), (.ref x2)] 3 = mkF m 0 #[.val (.ref x0), .val (.ref x1), .val (.ref x2)] [] := by first | (simp [entryFrame, mkF, argsToLocals, Value.category]; done) | rfl
def Q_rm_init (Z : State) (a0x : Addr) (a1x : Addr) (a2x : Addr) (h0 : Heap) (n0 : Nat) (v : Option Value) (h : Heap) (L : List Loc) : Prop := v = none ∧ Fr n0 L ∧ Keep h0 h [a0x] ∧ Fld Z h a0x "com/example/watchpost/watchpost/network/Route" "nodes" "[I" (.ref a1x) ∧ Fld Z h a0x "com/example/watchpost/watchpost/network/Route" "links" "[I" (.ref a2x)
set_option maxRecDepth 65536 in
set_option maxHeartbeats 40000000 in
theorem rm_init (l : Launch) (Z : State) (a0 : Array Value) (hw : ∀ d ∈ tables_1, d.before a0 Z = true) (ws : List Jvm.Cond) (a0x : Addr) (a1x : Addr) (a2x : Addr) (h0 : Heap) (n0 : Nat) (Z0 : n0 ≤ h0.size) (E0x : Exa Z h0 a0x "com/example/watchpost/watchpost/network/Route") (F0x0 : Fld Z h0 a0x "com/example/watchpost/watchpost/network/Route" "nodes" "[I" .null) (F0x1 : Fld Z h0 a0x "com/example/watchpost/watchpost/network/Route" "links" "[I" .null) (g0x : n0 ≤ a0x) :
    MetFree l (⟨"com/example/watchpost/watchpost/network/Route", "<init>", "([I[I)V"⟩ : MethodName) (head1 (Jvm.Cond.code (⟨"com/example/watchpost/watchpost/network/Route", "<init>", "([I[I)V"⟩ : MethodName) prog_38_method_5_code 3 none :: ws) ({ frames := 1, cells := 0, slots := 0, locals := 12 } : Room)) (fun a U => a = #[(.ref a0x), (.ref a1x), (.ref a2x)] ∧ Z.Warmed39 U.vm ∧ U.heap = h0) (fun _ _ _ _ _ => True) (fun _ U o U' => ∃ v L, o = .returned v ∧ Q_rm_init Z a0x a1x a2x h0 n0 v U'.heap L ∧ FrameEnd U o U' L ({ frames := 1, cells := 0, slots := 0, locals := 12 } : Room).cells ({ frames := 1, cells := 0, slots := 0, locals := 12 } : Room).slots) := by
  refine MetFree.of_bodySF (plainFor_of_name pn_0) hisR ?_
  intro p e s m args below meth c s₁ Bd hml0 hP hK
  obtain ⟨rfl, hZ, hh⟩ := hP
  have hx := Bd.exec
  have hby := Bd.bytes
  have hml : c.maxLocals = 3 := hml0
  have hown : s.vm.findClass "com/example/watchpost/watchpost/network/Route" = some m.cls := findClass_of_methodNamed Bd.named
  have hnm := (name_of_methodNamed Bd.named Bd.method).1
  have X0 : Stand p l e ({ frames := 1, cells := 0, slots := 0, locals := 12 } : Room) s m #[(.ref a0x), (.ref a1x), (.ref a2x)] below meth c s₁ [] 0 0 := Stand.of_body Bd
  have e0 : s₁.heap = h0 := by rw [← hh, Bd.state]; rfl
  have N0 := Fr.nil n0
  have K0 : Keep h0 h0 [a0x] := Keep.refl h0 [a0x]
  have pre0 : ∀ t, Steps p.tables e below (s₁.setTop (mkF m 0 #[.val (.ref a0x), .val (.ref a1x), .val (.ref a2x)] [])) t → Steps p.tables e below (s₁.setTop (entryFrame m #[(.ref a0x), (.ref a1x), (.ref a2x)] 3)) t := fun t k => castTop (ef_1 m a0x a1x a2x) k
  obtain ⟨T1, X1, e1, st1⟩ := initO X0 hx hZ hown (hw _ (List.mem_of_getElem? (i := 7) rfl)) (hw _ (List.mem_of_getElem? (i := 8) rfl)) (hw _ (List.mem_of_getElem? (i := 9) rfl)) e0 (g := (mkF m 1 #[.val (.ref a0x), .val (.ref a1x), .val (.ref a2x)] [(.ref a0x)])) rfl (by rw [hml]; rfl) rfl (hb hby d1_1) (by decide) (W := 0) (by show 2 * 0 + _ ≤ _; exact Nat.le_of_eq rfl) (by decide)
  obtain ⟨T2, h2, X2, e2, W2, st2⟩ := putF X1 hx hZ hown (host := "") (Or.inl (hw _ (List.mem_of_getElem? (i := 10) rfl))) Via.refl e1 F0x0 E0x (Or.inr ⟨(hw _ (List.mem_of_getElem? (i := 11) rfl)), rfl, hnm⟩) (hw _ (List.mem_of_getElem? (i := 2) rfl)) (ty := (.array .int)) (by decide) rfl rfl (g := (mkF m 6 #[.val (.ref a0x), .val (.ref a1x), .val (.ref a2x)] [(.ref a1x), (.ref a0x)])) rfl rfl (hb hby d1_6)
  have N2 := Fr.snoc X2 N0 g0x
  have Fw2 : Fld Z h2 a0x "com/example/watchpost/watchpost/network/Route" "nodes" "[I" (.ref a1x) := F0x0.same W2
  have E0x_2 : Exa Z h2 a0x "com/example/watchpost/watchpost/network/Route" := E0x.wr W2
  have F0x1_2 : Fld Z h2 a0x "com/example/watchpost/watchpost/network/Route" "links" "[I" .null := F0x1.other W2 (Or.inr (slot_ne (Or.inr (hw _ (List.mem_of_getElem? (i := 13) rfl))) (Or.inr (hw _ (List.mem_of_getElem? (i := 11) rfl))) (by decide) (t := (.array .int)) (t' := (.array .int)) (by decide) (by decide)))
  have Z2 : n0 ≤ h2.size := Nat.le_trans Z0 (Keep.of_wr W2).1
  have K2 : Keep h0 h2 [a0x] := K0.wr W2 (Or.inl (List.mem_of_getElem? (i := 0) rfl))
  obtain ⟨T3, h3, X3, e3, W3, st3⟩ := putF X2 hx hZ hown (host := "") (Or.inl (hw _ (List.mem_of_getElem? (i := 12) rfl))) Via.refl e2 F0x1_2 E0x_2 (Or.inr ⟨(hw _ (List.mem_of_getElem? (i := 13) rfl)), rfl, hnm⟩) (hw _ (List.mem_of_getElem? (i := 2) rfl)) (ty := (.array .int)) (by decide) rfl rfl (g := (mkF m 11 #[.val (.ref a0x), .val (.ref a1x), .val (.ref a2x)] [(.ref a2x), (.ref a0x)])) rfl rfl (hb hby d1_11)
  have N3 := Fr.snoc X3 N2 g0x
  have Fw3 : Fld Z h3 a0x "com/example/watchpost/watchpost/network/Route" "links" "[I" (.ref a2x) := F0x1_2.same W3
  have E0x_3 : Exa Z h3 a0x "com/example/watchpost/watchpost/network/Route" := E0x_2.wr W3
  have Fw2_3 : Fld Z h3 a0x "com/example/watchpost/watchpost/network/Route" "nodes" "[I" (.ref a1x) := Fw2.other W3 (Or.inr (slot_ne (Or.inr (hw _ (List.mem_of_getElem? (i := 11) rfl))) (Or.inr (hw _ (List.mem_of_getElem? (i := 13) rfl))) (by decide) (t := (.array .int)) (t' := (.array .int)) (by decide) (by decide)))
  have Z3 : n0 ≤ h3.size := Nat.le_trans Z2 (Keep.of_wr W3).1
  have K3 : Keep h0 h3 [a0x] := K2.wr W3 (Or.inl (List.mem_of_getElem? (i := 0) rfl))
  obtain ⟨fs, hr, hrun, hended, hW, hsame⟩ := X3.leave (v := none) (fun _ => rfl)
  refine ⟨_, _, pre0 _ ?_, hrun, hended, _, _, rfl, ?_, ⟨_, rfl⟩, hW, hsame.mono (by decide) (by decide)⟩
  · show Steps p.tables e below (s₁.setTop (mkF m 0 #[.val (.ref a0x), .val (.ref a1x), .val (.ref a2x)] [])) _
    refine XS.aloadN X0.here hx rfl (hb hby d1_0) rfl rfl ?_
    show Steps p.tables e below (s₁.setTop (mkF m 1 #[.val (.ref a0x), .val (.ref a1x), .val (.ref a2x)] [(.ref a0x)])) _
    refine st1 _ ?_
    show Steps p.tables e below (T1.setTop (mkF m 4 #[.val (.ref a0x), .val (.ref a1x), .val (.ref a2x)] [])) _
    refine XS.aloadN X1.here hx rfl (hb hby d1_4) rfl rfl ?_
    show Steps p.tables e below (T1.setTop (mkF m 5 #[.val (.ref a0x), .val (.ref a1x), .val (.ref a2x)] [(.ref a0x)])) _
    refine XS.aloadN X1.here hx rfl (hb hby d1_5) rfl rfl ?_
    show Steps p.tables e below (T1.setTop (mkF m 6 #[.val (.ref a0x), .val (.ref a1x), .val (.ref a2x)] [(.ref a1x), (.ref a0x)])) _
    refine st2 _ ?_
    show Steps p.tables e below (T2.setTop (mkF m 9 #[.val (.ref a0x), .val (.ref a1x), .val (.ref a2x)] [])) _
    refine XS.aloadN X2.here hx rfl (hb hby d1_9) rfl rfl ?_
    show Steps p.tables e below (T2.setTop (mkF m 10 #[.val (.ref a0x), .val (.ref a1x), .val (.ref a2x)] [(.ref a0x)])) _
    refine XS.aloadN X2.here hx rfl (hb hby d1_10) rfl rfl ?_
    show Steps p.tables e below (T2.setTop (mkF m 11 #[.val (.ref a0x), .val (.ref a1x), .val (.ref a2x)] [(.ref a2x), (.ref a0x)])) _
    refine st3 _ ?_
    show Steps p.tables e below (T3.setTop (mkF m 14 #[.val (.ref a0x), .val (.ref a1x), .val (.ref a2x)] [])) _
    exact X3.returnOut hx Bd.returns (hb hby d1_14) hr
  · show Q_rm_init Z a0x a1x a2x h0 n0 _ T3.heap _
    rw [e3]
    exact ⟨rfl, N3, K3, Fw2_3, Fw3⟩
theorem d3_0 : decode prog_38_method_8_code 0 = .ok (.aload_n 0, 1) := by decide +kernel
theorem d3_1 : decode prog_38_method_8_code 1 = .ok (.getfield 68, 3) := by decide +kernel
theorem d3_4 : decode prog_38_method_8_code 4 = .ok (.aload_n 0, 1) := by decide +kernel
theorem d3_5 : decode prog_38_method_8_code 5 = .ok (.getfield 68, 3) := by decide +kernel
theorem d3_8 : decode prog_38_method_8_code 8 = .ok (.arraylength, 1) := by decide +kernel
theorem d3_9 : decode prog_38_method_8_code 9 = .ok (.iconst 1, 1) := by decide +kernel
theorem d3_10 : decode prog_38_method_8_code 10 = .ok (.isub, 1) := by decide +kernel
theorem d3_11 : decode prog_38_method_8_code 11 = .ok (.iaload, 1) := by decide +kernel
theorem d3_12 : decode prog_38_method_8_code 12 = .ok (.ireturn, 1) := by decide +kernel
theorem ef_3 (m : MethodId) (x0 : Addr) : entryFrame m #[(.ref x0)] 1 = mkF m 0 #[.val (.ref x0)] [] := by first | (simp [entryFrame, mkF, argsToLocals, Value.category]; done) | rfl
def Q_rm_target (Z : State) (a0x : Addr) (a1x : Addr) (kx : ClassId) (zx : Int32) (vsx : List Value) (rx : Int32) (h0 : Heap) (n0 : Nat) (v : Option Value) (h : Heap) (L : List Loc) : Prop := v = some (.int rx) ∧ Fr n0 L ∧ h = h0
set_option maxRecDepth 65536 in
set_option maxHeartbeats 40000000 in
theorem rm_target (l : Launch) (Z : State) (a0 : Array Value) (hw : ∀ d ∈ tables_1, d.before a0 Z = true) (ws : List Jvm.Cond) (a0x : Addr) (a1x : Addr) (kx : ClassId) (zx : Int32) (vsx : List Value) (rx : Int32) (h0 : Heap) (n0 : Nat) (Z0 : n0 ≤ h0.size) (F0x : Fld Z h0 a0x "com/example/watchpost/watchpost/network/Route" "nodes" "[I" (.ref a1x)) (V0x : Arv Z h0 a1x kx .int zx vsx (.int (0 : Int32))) (hbx : ¬ (zx - (1 : Int32)) < 0 ∧ (zx - (1 : Int32)) < zx) (hrx : vsx.getD (zx - (1 : Int32)).toNatClampNeg (.int (0 : Int32)) = .int rx) :
    MetFree l (⟨"com/example/watchpost/watchpost/network/Route", "target", "()I"⟩ : MethodName) (head1 (Jvm.Cond.code (⟨"com/example/watchpost/watchpost/network/Route", "target", "()I"⟩ : MethodName) prog_38_method_8_code 1 (some .int) :: ws) ({ frames := 0, cells := 0, slots := 0, locals := 0 } : Room)) (fun a U => a = #[(.ref a0x)] ∧ Z.Warmed39 U.vm ∧ U.heap = h0) (fun _ _ _ _ _ => True) (fun _ U o U' => ∃ v L, o = .returned v ∧ Q_rm_target Z a0x a1x kx zx vsx rx h0 n0 v U'.heap L ∧ FrameEnd U o U' L ({ frames := 0, cells := 0, slots := 0, locals := 0 } : Room).cells ({ frames := 0, cells := 0, slots := 0, locals := 0 } : Room).slots) := by
  refine MetFree.of_bodySF (plainFor_of_name pn_0) hisR ?_
  intro p e s m args below meth c s₁ Bd hml0 hP hK
  obtain ⟨rfl, hZ, hh⟩ := hP
  have hx := Bd.exec
  have hby := Bd.bytes
  have hml : c.maxLocals = 1 := hml0
  have hown : s.vm.findClass "com/example/watchpost/watchpost/network/Route" = some m.cls := findClass_of_methodNamed Bd.named
  have hnm := (name_of_methodNamed Bd.named Bd.method).1
  have X0 : Stand p l e ({ frames := 0, cells := 0, slots := 0, locals := 0 } : Room) s m #[(.ref a0x)] below meth c s₁ [] 0 0 := Stand.of_body Bd
  have e0 : s₁.heap = h0 := by rw [← hh, Bd.state]; rfl
  have N0 := Fr.nil n0
  have pre0 : ∀ t, Steps p.tables e below (s₁.setTop (mkF m 0 #[.val (.ref a0x)] [])) t → Steps p.tables e below (s₁.setTop (entryFrame m #[(.ref a0x)] 1)) t := fun t k => castTop (ef_3 m a0x) k
  obtain ⟨T1, X1, e1, st1⟩ := getF X0 hx hZ hown (host := "") (Or.inl (hw _ (List.mem_of_getElem? (i := 10) rfl))) Via.refl e0 F0x (g := (mkF m 1 #[.val (.ref a0x)] [(.ref a0x)])) rfl rfl (hb hby d3_1)
  obtain ⟨T2, X2, e2, st2⟩ := getF X1 hx hZ hown (host := "") (Or.inl (hw _ (List.mem_of_getElem? (i := 10) rfl))) Via.refl e1 F0x (g := (mkF m 5 #[.val (.ref a0x)] [(.ref a0x), (.ref a1x)])) rfl rfl (hb hby d3_5)
  obtain ⟨cl3, Ar3, q3, S3, N3', H3, G3⟩ := (id V0x)
  obtain ⟨cl4, Ar4, q4, S4, N4', H4, G4⟩ := (id V0x)
  have hin4 : ¬ ((zx - (1 : Int32)) < 0 ∨ cl4.slots.size ≤ ((zx - (1 : Int32))).toNatClampNeg) := inb_of S4 hbx
  have hat4 : cl4.slots[((zx - (1 : Int32))).toNatClampNeg]? = some (.int rx) := Has.at H4 hin4 hrx
  obtain ⟨fs, hr, hrun, hended, hW, hsame⟩ := X2.leave (v := some (.int rx)) (fun h => by rw [Bd.returns] at h; cases h)
  refine ⟨_, _, pre0 _ ?_, hrun, hended, _, _, rfl, ?_, ⟨_, rfl⟩, hW, hsame.mono (by decide) (by decide)⟩
  · show Steps p.tables e below (s₁.setTop (mkF m 0 #[.val (.ref a0x)] [])) _
    refine XS.aloadN X0.here hx rfl (hb hby d3_0) rfl rfl ?_
    show Steps p.tables e below (s₁.setTop (mkF m 1 #[.val (.ref a0x)] [(.ref a0x)])) _
    refine st1 _ ?_
    show Steps p.tables e below (T1.setTop (mkF m 4 #[.val (.ref a0x)] [(.ref a1x)])) _
    refine XS.aloadN X1.here hx rfl (hb hby d3_4) rfl rfl ?_
    show Steps p.tables e below (T1.setTop (mkF m 5 #[.val (.ref a0x)] [(.ref a0x), (.ref a1x)])) _
    refine st2 _ ?_
    show Steps p.tables e below (T2.setTop (mkF m 8 #[.val (.ref a0x)] [(.ref a1x), (.ref a1x)])) _
    refine X2.arraylength hx (by rw [e2]; exact Ar3.1) (State.isArrayOf_alike hZ.alike Ar3.2.1) (g := (mkF m 8 #[.val (.ref a0x)] [(.ref a1x), (.ref a1x)])) rfl rfl (hb hby d3_8) _ ?_
    rw [len_of S3 N3']
    show Steps p.tables e below (T2.setTop (mkF m 9 #[.val (.ref a0x)] [(.int zx), (.ref a1x)])) _
    refine XS.iconst X2.here hx rfl (hb hby d3_9) ?_
    show Steps p.tables e below (T2.setTop (mkF m 10 #[.val (.ref a0x)] [(.int (1 : Int32)), (.int zx), (.ref a1x)])) _
    refine XS.isub X2.here hx rfl (hb hby d3_10) rfl ?_
    show Steps p.tables e below (T2.setTop (mkF m 11 #[.val (.ref a0x)] [(.int (zx - (1 : Int32))), (.ref a1x)])) _
    refine X2.iaload hx (j := (zx - (1 : Int32))) (v := (.int rx)) (by rw [e2]; exact Ar4.1) (State.isArrayOf_alike hZ.alike Ar4.2.1) Ar4.2.2 hin4 hat4 (g := (mkF m 11 #[.val (.ref a0x)] [(.int (zx - (1 : Int32))), (.ref a1x)])) rfl rfl (hb hby d3_11) _ ?_
    show Steps p.tables e below (T2.setTop (mkF m 12 #[.val (.ref a0x)] [(.int rx)])) _
    exact retI X2 hx Bd.returns (hb hby d3_12) hr
  · show Q_rm_target Z a0x a1x kx zx vsx rx h0 n0 _ T2.heap _
    rw [e2]
    exact ⟨rfl, N0, rfl⟩
theorem pd_0 : parseMethodDescriptor "([I[I)V" = some ⟨[(.array .int), (.array .int)], none⟩ := by decide +kernel
theorem pd_1 : parseMethodDescriptor "()I" = some ⟨[], some .int⟩ := by decide +kernel
theorem pn_1 : plainName "com/example/watchpost/watchpost/network/RouteTargetPinLaw" = true := by first | (simp [plainName, overriddenIn]; done) | decide +kernel
theorem ef_0 (m : MethodId) (x0 : Int32) (x1 : Int32) (x2 : Int32) (x3 : Int32) (x4 : Int32) : entryFrame m #[(.int x0), (.int x1), (.int x2), (.int x3), (.int x4)] maxLocals = mkF m 0 #[.val (.int x0), .val (.int x1), .val (.int x2), .val (.int x3), .val (.int x4), .unset, .unset, .unset, .unset, .unset, .unset, .unset, .unset, .unset, .unset, .unset, .unset, .unset] [] := by first | (simp [entryFrame, mkF, argsToLocals, Value.category, maxLocals]; done) | rfl
def Q_rm_law (Z : State) (p0 : Int32) (p1 : Int32) (p2 : Int32) (p3 : Int32) (p4 : Int32) (h0 : Heap) (n0 : Nat) (v : Option Value) (h : Heap) (L : List Loc) : Prop := v = some (.int (1 : Int32)) ∧ Fr n0 L ∧ True
set_option maxRecDepth 65536 in
set_option maxHeartbeats 40000000 in
theorem rm_law (l : Launch) (Z : State) (a0 : Array Value) (hw : ∀ d ∈ tables_1, d.before a0 Z = true) (ws : List Jvm.Cond) (p0 : Int32) (p1 : Int32) (p2 : Int32) (p3 : Int32) (p4 : Int32) (h0 : Heap) (n0 : Nat) (Z0 : n0 ≤ h0.size)  :
    MetFree l x (head1 (Jvm.Cond.code x code maxLocals ret :: ws) room_1) (fun a U => a = #[(.int p0), (.int p1), (.int p2), (.int p3), (.int p4)] ∧ Z.Warmed39 U.vm ∧ U.heap = h0) (fun _ _ _ _ _ => True) (fun _ U o U' => ∃ v L, o = .returned v ∧ Q_rm_law Z p0 p1 p2 p3 p4 h0 n0 v U'.heap L ∧ FrameEnd U o U' L room_1.cells room_1.slots) := by
  refine MetFree.of_bodySF (plainFor_of_name pn_1) hisR ?_
  intro p e s m args below meth c s₁ Bd hml0 hP hK
  obtain ⟨rfl, hZ, hh⟩ := hP
  have hx := Bd.exec
  have hby := Bd.bytes
  have hml : c.maxLocals = 18 := hml0
  have hown : s.vm.findClass "com/example/watchpost/watchpost/network/RouteTargetPinLaw" = some m.cls := findClass_of_methodNamed Bd.named
  have hnm := (name_of_methodNamed Bd.named Bd.method).1
  have X0 : Stand p l e room_1 s m #[(.int p0), (.int p1), (.int p2), (.int p3), (.int p4)] below meth c s₁ [] 0 0 := Stand.of_body Bd
  have e0 : s₁.heap = h0 := by rw [← hh, Bd.state]; rfl
  have N0 := Fr.nil n0
  have pre0 : ∀ t, Steps p.tables e below (s₁.setTop (mkF m 0 #[.val (.int p0), .val (.int p1), .val (.int p2), .val (.int p3), .val (.int p4), .unset, .unset, .unset, .unset, .unset, .unset, .unset, .unset, .unset, .unset, .unset, .unset, .unset] [])) t → Steps p.tables e below (s₁.setTop (entryFrame m #[(.int p0), (.int p1), (.int p2), (.int p3), (.int p4)] maxLocals)) t := fun t k => castTop (ef_0 m p0 p1 p2 p3 p4) k
  obtain ⟨T1, h1, k1, X1, e1, E1, A1, st1⟩ := newP X0 hx hZ (hw _ (List.mem_of_getElem? (i := 0) rfl)) e0 (g := (mkF m 1 #[.val (.int p0), .val (.int p1), .val (.int p2), .val (.int p3), .val (.int p4), .unset, .unset, .unset, .unset, .unset, .unset, .unset, .unset, .unset, .unset, .unset, .unset, .unset] [(.int (1 : Int32))])) rfl (hb hby at_1) rfl (by decide) (cap := 1) (by decide) (by decide) (by decide) (by decide)
  obtain ⟨b1, g1⟩ : ∃ z, z = h0.size := ⟨_, rfl⟩
  rw [← g1] at A1 st1
  have g_b1 : n0 ≤ b1 := Nat.le_trans Z0 (Nat.le_of_eq g1.symm)
  have Z1 : n0 ≤ h1.size := Nat.le_trans Z0 E1.1
  have V_b1 : Arv Z h1 b1 k1 .int (1 : Int32) [(.int (0 : Int32))] (.int (0 : Int32)) := (Arv.new A1 (by decide)).pad (pad_rep [] (.int (0 : Int32)) 1)
  obtain ⟨cl2, Ar2, q2, S2, N2', H2, G2⟩ := (id V_b1)
  have hin2 : ¬ ((0 : Int32) < 0 ∨ cl2.slots.size ≤ ((0 : Int32)).toNatClampNeg) := inb_of S2 ⟨by decide, by decide⟩
  obtain ⟨T3, h3, X3, e3, W3, st3⟩ := stI X1 hx hZ e1 Ar2 (j := (0 : Int32)) hin2 (g := (mkF m 6 #[.val (.int p0), .val (.int p1), .val (.int p2), .val (.int p3), .val (.int p4), .unset, .unset, .unset, .unset, .unset, .unset, .unset, .unset, .unset, .unset, .unset, .unset, .unset] [(.int p1), (.int (0 : Int32)), (.ref b1), (.ref b1)])) rfl rfl (hb hby at_6)
  have V3 : Arv Z h3 b1 k1 .int (1 : Int32) [(.int p1)] (.int (0 : Int32)) := Arv.set Ar2 q2 S2 N2' H2 G2 rfl W3 0 rfl (Nat.le_of_ble_eq_true rfl)
  have N3 := Fr.snoc X3 N0 g_b1
  have Z3 : n0 ≤ h3.size := Nat.le_trans Z1 (Keep.of_wr W3).1
  obtain ⟨T4, h4, k4, X4, e4, E4, A4, st4⟩ := newP X3 hx hZ (hw _ (List.mem_of_getElem? (i := 0) rfl)) e3 (g := (mkF m 10 #[.val (.int p0), .val (.int p1), .val (.int p2), .val (.int p3), .val (.int p4), .val (.ref b1), .unset, .unset, .unset, .unset, .unset, .unset, .unset, .unset, .unset, .unset, .unset, .unset] [(.int (2 : Int32))])) rfl (hb hby at_10) rfl (by decide) (cap := 2) (by decide) (by decide) (by decide) (by decide)
  obtain ⟨b4, g4⟩ : ∃ z, z = h3.size := ⟨_, rfl⟩
  rw [← g4] at A4 st4
  have ne_b1_b4 : b1 ≠ b4 := Nat.ne_of_lt (Nat.lt_of_lt_of_le V3.lt (Nat.le_of_eq g4.symm))
  have g_b4 : n0 ≤ b4 := Nat.le_trans Z3 (Nat.le_of_eq g4.symm)
  have V3_4 : Arv Z h4 b1 k1 .int (1 : Int32) [(.int p1)] (.int (0 : Int32)) := V3.ext E4
  have Z4 : n0 ≤ h4.size := Nat.le_trans Z3 E4.1
  have V_b4 : Arv Z h4 b4 k4 .int (2 : Int32) [(.int (0 : Int32)), (.int (0 : Int32))] (.int (0 : Int32)) := (Arv.new A4 (by decide)).pad (pad_rep [] (.int (0 : Int32)) 2)
  obtain ⟨cl5, Ar5, q5, S5, N5', H5, G5⟩ := (id V_b4)
  have hin5 : ¬ ((0 : Int32) < 0 ∨ cl5.slots.size ≤ ((0 : Int32)).toNatClampNeg) := inb_of S5 ⟨by decide, by decide⟩
  obtain ⟨T6, h6, X6, e6, W6, st6⟩ := stI X4 hx hZ e4 Ar5 (j := (0 : Int32)) hin5 (g := (mkF m 15 #[.val (.int p0), .val (.int p1), .val (.int p2), .val (.int p3), .val (.int p4), .val (.ref b1), .unset, .unset, .unset, .unset, .unset, .unset, .unset, .unset, .unset, .unset, .unset, .unset] [(.int p1), (.int (0 : Int32)), (.ref b4), (.ref b4)])) rfl rfl (hb hby at_15)
  have V6 : Arv Z h6 b4 k4 .int (2 : Int32) [(.int p1), (.int (0 : Int32))] (.int (0 : Int32)) := Arv.set Ar5 q5 S5 N5' H5 G5 rfl W6 0 rfl (Nat.le_of_ble_eq_true rfl)
  have N6 := Fr.snoc X6 N3 g_b4
  have V3_6 : Arv Z h6 b1 k1 .int (1 : Int32) [(.int p1)] (.int (0 : Int32)) := V3_4.other W6 ne_b1_b4
  have Z6 : n0 ≤ h6.size := Nat.le_trans Z4 (Keep.of_wr W6).1
  obtain ⟨cl7, Ar7, q7, S7, N7', H7, G7⟩ := (id V6)
  have hin7 : ¬ ((1 : Int32) < 0 ∨ cl7.slots.size ≤ ((1 : Int32)).toNatClampNeg) := inb_of S7 ⟨by decide, by decide⟩
  obtain ⟨T8, h8, X8, e8, W8, st8⟩ := stI X6 hx hZ e6 Ar7 (j := (1 : Int32)) hin7 (g := (mkF m 19 #[.val (.int p0), .val (.int p1), .val (.int p2), .val (.int p3), .val (.int p4), .val (.ref b1), .unset, .unset, .unset, .unset, .unset, .unset, .unset, .unset, .unset, .unset, .unset, .unset] [(.int p2), (.int (1 : Int32)), (.ref b4), (.ref b4)])) rfl rfl (hb hby at_19)
  have V8 : Arv Z h8 b4 k4 .int (2 : Int32) [(.int p1), (.int p2)] (.int (0 : Int32)) := Arv.set Ar7 q7 S7 N7' H7 G7 rfl W8 1 rfl (Nat.le_of_ble_eq_true rfl)
  have N8 := Fr.snoc X8 N6 g_b4
  have V3_8 : Arv Z h8 b1 k1 .int (1 : Int32) [(.int p1)] (.int (0 : Int32)) := V3_6.other W8 ne_b1_b4
  have Z8 : n0 ≤ h8.size := Nat.le_trans Z6 (Keep.of_wr W8).1
  obtain ⟨T9, h9, k9, X9, e9, E9, A9, st9⟩ := newP X8 hx hZ (hw _ (List.mem_of_getElem? (i := 0) rfl)) e8 (g := (mkF m 23 #[.val (.int p0), .val (.int p1), .val (.int p2), .val (.int p3), .val (.int p4), .val (.ref b1), .val (.ref b4), .unset, .unset, .unset, .unset, .unset, .unset, .unset, .unset, .unset, .unset, .unset] [(.int (3 : Int32))])) rfl (hb hby at_23) rfl (by decide) (cap := 3) (by decide) (by decide) (by decide) (by decide)
  obtain ⟨b9, g9⟩ : ∃ z, z = h8.size := ⟨_, rfl⟩
  rw [← g9] at A9 st9
  have ne_b1_b9 : b1 ≠ b9 := Nat.ne_of_lt (Nat.lt_of_lt_of_le V3_8.lt (Nat.le_of_eq g9.symm))
  have ne_b4_b9 : b4 ≠ b9 := Nat.ne_of_lt (Nat.lt_of_lt_of_le V8.lt (Nat.le_of_eq g9.symm))
  have g_b9 : n0 ≤ b9 := Nat.le_trans Z8 (Nat.le_of_eq g9.symm)
  have V3_9 : Arv Z h9 b1 k1 .int (1 : Int32) [(.int p1)] (.int (0 : Int32)) := V3_8.ext E9
  have V8_9 : Arv Z h9 b4 k4 .int (2 : Int32) [(.int p1), (.int p2)] (.int (0 : Int32)) := V8.ext E9
  have Z9 : n0 ≤ h9.size := Nat.le_trans Z8 E9.1
  have V_b9 : Arv Z h9 b9 k9 .int (3 : Int32) [(.int (0 : Int32)), (.int (0 : Int32)), (.int (0 : Int32))] (.int (0 : Int32)) := (Arv.new A9 (by decide)).pad (pad_rep [] (.int (0 : Int32)) 3)
  obtain ⟨cl10, Ar10, q10, S10, N10', H10, G10⟩ := (id V_b9)
  have hin10 : ¬ ((0 : Int32) < 0 ∨ cl10.slots.size ≤ ((0 : Int32)).toNatClampNeg) := inb_of S10 ⟨by decide, by decide⟩
  obtain ⟨T11, h11, X11, e11, W11, st11⟩ := stI X9 hx hZ e9 Ar10 (j := (0 : Int32)) hin10 (g := (mkF m 28 #[.val (.int p0), .val (.int p1), .val (.int p2), .val (.int p3), .val (.int p4), .val (.ref b1), .val (.ref b4), .unset, .unset, .unset, .unset, .unset, .unset, .unset, .unset, .unset, .unset, .unset] [(.int p1), (.int (0 : Int32)), (.ref b9), (.ref b9)])) rfl rfl (hb hby at_28)
  have V11 : Arv Z h11 b9 k9 .int (3 : Int32) [(.int p1), (.int (0 : Int32)), (.int (0 : Int32))] (.int (0 : Int32)) := Arv.set Ar10 q10 S10 N10' H10 G10 rfl W11 0 rfl (Nat.le_of_ble_eq_true rfl)
  have N11 := Fr.snoc X11 N8 g_b9
  have V3_11 : Arv Z h11 b1 k1 .int (1 : Int32) [(.int p1)] (.int (0 : Int32)) := V3_9.other W11 ne_b1_b9
  have V8_11 : Arv Z h11 b4 k4 .int (2 : Int32) [(.int p1), (.int p2)] (.int (0 : Int32)) := V8_9.other W11 ne_b4_b9
  have Z11 : n0 ≤ h11.size := Nat.le_trans Z9 (Keep.of_wr W11).1
  obtain ⟨cl12, Ar12, q12, S12, N12', H12, G12⟩ := (id V11)
  have hin12 : ¬ ((1 : Int32) < 0 ∨ cl12.slots.size ≤ ((1 : Int32)).toNatClampNeg) := inb_of S12 ⟨by decide, by decide⟩
  obtain ⟨T13, h13, X13, e13, W13, st13⟩ := stI X11 hx hZ e11 Ar12 (j := (1 : Int32)) hin12 (g := (mkF m 32 #[.val (.int p0), .val (.int p1), .val (.int p2), .val (.int p3), .val (.int p4), .val (.ref b1), .val (.ref b4), .unset, .unset, .unset, .unset, .unset, .unset, .unset, .unset, .unset, .unset, .unset] [(.int p2), (.int (1 : Int32)), (.ref b9), (.ref b9)])) rfl rfl (hb hby at_32)
  have V13 : Arv Z h13 b9 k9 .int (3 : Int32) [(.int p1), (.int p2), (.int (0 : Int32))] (.int (0 : Int32)) := Arv.set Ar12 q12 S12 N12' H12 G12 rfl W13 1 rfl (Nat.le_of_ble_eq_true rfl)
  have N13 := Fr.snoc X13 N11 g_b9
  have V3_13 : Arv Z h13 b1 k1 .int (1 : Int32) [(.int p1)] (.int (0 : Int32)) := V3_11.other W13 ne_b1_b9
  have V8_13 : Arv Z h13 b4 k4 .int (2 : Int32) [(.int p1), (.int p2)] (.int (0 : Int32)) := V8_11.other W13 ne_b4_b9
  have Z13 : n0 ≤ h13.size := Nat.le_trans Z11 (Keep.of_wr W13).1
  obtain ⟨cl14, Ar14, q14, S14, N14', H14, G14⟩ := (id V13)
  have hin14 : ¬ ((2 : Int32) < 0 ∨ cl14.slots.size ≤ ((2 : Int32)).toNatClampNeg) := inb_of S14 ⟨by decide, by decide⟩
  obtain ⟨T15, h15, X15, e15, W15, st15⟩ := stI X13 hx hZ e13 Ar14 (j := (2 : Int32)) hin14 (g := (mkF m 36 #[.val (.int p0), .val (.int p1), .val (.int p2), .val (.int p3), .val (.int p4), .val (.ref b1), .val (.ref b4), .unset, .unset, .unset, .unset, .unset, .unset, .unset, .unset, .unset, .unset, .unset] [(.int p3), (.int (2 : Int32)), (.ref b9), (.ref b9)])) rfl rfl (hb hby at_36)
  have V15 : Arv Z h15 b9 k9 .int (3 : Int32) [(.int p1), (.int p2), (.int p3)] (.int (0 : Int32)) := Arv.set Ar14 q14 S14 N14' H14 G14 rfl W15 2 rfl (Nat.le_of_ble_eq_true rfl)
  have N15 := Fr.snoc X15 N13 g_b9
  have V3_15 : Arv Z h15 b1 k1 .int (1 : Int32) [(.int p1)] (.int (0 : Int32)) := V3_13.other W15 ne_b1_b9
  have V8_15 : Arv Z h15 b4 k4 .int (2 : Int32) [(.int p1), (.int p2)] (.int (0 : Int32)) := V8_13.other W15 ne_b4_b9
  have Z15 : n0 ≤ h15.size := Nat.le_trans Z13 (Keep.of_wr W15).1
  obtain ⟨T16, h16, k16, X16, e16, E16, A16, st16⟩ := newP X15 hx hZ (hw _ (List.mem_of_getElem? (i := 0) rfl)) e15 (g := (mkF m 40 #[.val (.int p0), .val (.int p1), .val (.int p2), .val (.int p3), .val (.int p4), .val (.ref b1), .val (.ref b4), .val (.ref b9), .unset, .unset, .unset, .unset, .unset, .unset, .unset, .unset, .unset, .unset] [(.int (4 : Int32))])) rfl (hb hby at_40) rfl (by decide) (cap := 4) (by decide) (by decide) (by decide) (by decide)
  obtain ⟨b16, g16⟩ : ∃ z, z = h15.size := ⟨_, rfl⟩
  rw [← g16] at A16 st16
  have ne_b1_b16 : b1 ≠ b16 := Nat.ne_of_lt (Nat.lt_of_lt_of_le V3_15.lt (Nat.le_of_eq g16.symm))
  have ne_b4_b16 : b4 ≠ b16 := Nat.ne_of_lt (Nat.lt_of_lt_of_le V8_15.lt (Nat.le_of_eq g16.symm))
  have ne_b9_b16 : b9 ≠ b16 := Nat.ne_of_lt (Nat.lt_of_lt_of_le V15.lt (Nat.le_of_eq g16.symm))
  have g_b16 : n0 ≤ b16 := Nat.le_trans Z15 (Nat.le_of_eq g16.symm)
  have V3_16 : Arv Z h16 b1 k1 .int (1 : Int32) [(.int p1)] (.int (0 : Int32)) := V3_15.ext E16
  have V8_16 : Arv Z h16 b4 k4 .int (2 : Int32) [(.int p1), (.int p2)] (.int (0 : Int32)) := V8_15.ext E16
  have V15_16 : Arv Z h16 b9 k9 .int (3 : Int32) [(.int p1), (.int p2), (.int p3)] (.int (0 : Int32)) := V15.ext E16
  have Z16 : n0 ≤ h16.size := Nat.le_trans Z15 E16.1
  have V_b16 : Arv Z h16 b16 k16 .int (4 : Int32) [(.int (0 : Int32)), (.int (0 : Int32)), (.int (0 : Int32)), (.int (0 : Int32))] (.int (0 : Int32)) := (Arv.new A16 (by decide)).pad (pad_rep [] (.int (0 : Int32)) 4)
  obtain ⟨cl17, Ar17, q17, S17, N17', H17, G17⟩ := (id V_b16)
  have hin17 : ¬ ((0 : Int32) < 0 ∨ cl17.slots.size ≤ ((0 : Int32)).toNatClampNeg) := inb_of S17 ⟨by decide, by decide⟩
  obtain ⟨T18, h18, X18, e18, W18, st18⟩ := stI X16 hx hZ e16 Ar17 (j := (0 : Int32)) hin17 (g := (mkF m 45 #[.val (.int p0), .val (.int p1), .val (.int p2), .val (.int p3), .val (.int p4), .val (.ref b1), .val (.ref b4), .val (.ref b9), .unset, .unset, .unset, .unset, .unset, .unset, .unset, .unset, .unset, .unset] [(.int p1), (.int (0 : Int32)), (.ref b16), (.ref b16)])) rfl rfl (hb hby at_45)
  have V18 : Arv Z h18 b16 k16 .int (4 : Int32) [(.int p1), (.int (0 : Int32)), (.int (0 : Int32)), (.int (0 : Int32))] (.int (0 : Int32)) := Arv.set Ar17 q17 S17 N17' H17 G17 rfl W18 0 rfl (Nat.le_of_ble_eq_true rfl)
  have N18 := Fr.snoc X18 N15 g_b16
  have V3_18 : Arv Z h18 b1 k1 .int (1 : Int32) [(.int p1)] (.int (0 : Int32)) := V3_16.other W18 ne_b1_b16
  have V8_18 : Arv Z h18 b4 k4 .int (2 : Int32) [(.int p1), (.int p2)] (.int (0 : Int32)) := V8_16.other W18 ne_b4_b16
  have V15_18 : Arv Z h18 b9 k9 .int (3 : Int32) [(.int p1), (.int p2), (.int p3)] (.int (0 : Int32)) := V15_16.other W18 ne_b9_b16
  have Z18 : n0 ≤ h18.size := Nat.le_trans Z16 (Keep.of_wr W18).1
  obtain ⟨cl19, Ar19, q19, S19, N19', H19, G19⟩ := (id V18)
  have hin19 : ¬ ((1 : Int32) < 0 ∨ cl19.slots.size ≤ ((1 : Int32)).toNatClampNeg) := inb_of S19 ⟨by decide, by decide⟩
  obtain ⟨T20, h20, X20, e20, W20, st20⟩ := stI X18 hx hZ e18 Ar19 (j := (1 : Int32)) hin19 (g := (mkF m 49 #[.val (.int p0), .val (.int p1), .val (.int p2), .val (.int p3), .val (.int p4), .val (.ref b1), .val (.ref b4), .val (.ref b9), .unset, .unset, .unset, .unset, .unset, .unset, .unset, .unset, .unset, .unset] [(.int p2), (.int (1 : Int32)), (.ref b16), (.ref b16)])) rfl rfl (hb hby at_49)
  have V20 : Arv Z h20 b16 k16 .int (4 : Int32) [(.int p1), (.int p2), (.int (0 : Int32)), (.int (0 : Int32))] (.int (0 : Int32)) := Arv.set Ar19 q19 S19 N19' H19 G19 rfl W20 1 rfl (Nat.le_of_ble_eq_true rfl)
  have N20 := Fr.snoc X20 N18 g_b16
  have V3_20 : Arv Z h20 b1 k1 .int (1 : Int32) [(.int p1)] (.int (0 : Int32)) := V3_18.other W20 ne_b1_b16
  have V8_20 : Arv Z h20 b4 k4 .int (2 : Int32) [(.int p1), (.int p2)] (.int (0 : Int32)) := V8_18.other W20 ne_b4_b16
  have V15_20 : Arv Z h20 b9 k9 .int (3 : Int32) [(.int p1), (.int p2), (.int p3)] (.int (0 : Int32)) := V15_18.other W20 ne_b9_b16
  have Z20 : n0 ≤ h20.size := Nat.le_trans Z18 (Keep.of_wr W20).1
  obtain ⟨cl21, Ar21, q21, S21, N21', H21, G21⟩ := (id V20)
  have hin21 : ¬ ((2 : Int32) < 0 ∨ cl21.slots.size ≤ ((2 : Int32)).toNatClampNeg) := inb_of S21 ⟨by decide, by decide⟩
  obtain ⟨T22, h22, X22, e22, W22, st22⟩ := stI X20 hx hZ e20 Ar21 (j := (2 : Int32)) hin21 (g := (mkF m 53 #[.val (.int p0), .val (.int p1), .val (.int p2), .val (.int p3), .val (.int p4), .val (.ref b1), .val (.ref b4), .val (.ref b9), .unset, .unset, .unset, .unset, .unset, .unset, .unset, .unset, .unset, .unset] [(.int p3), (.int (2 : Int32)), (.ref b16), (.ref b16)])) rfl rfl (hb hby at_53)
  have V22 : Arv Z h22 b16 k16 .int (4 : Int32) [(.int p1), (.int p2), (.int p3), (.int (0 : Int32))] (.int (0 : Int32)) := Arv.set Ar21 q21 S21 N21' H21 G21 rfl W22 2 rfl (Nat.le_of_ble_eq_true rfl)
  have N22 := Fr.snoc X22 N20 g_b16
  have V3_22 : Arv Z h22 b1 k1 .int (1 : Int32) [(.int p1)] (.int (0 : Int32)) := V3_20.other W22 ne_b1_b16
  have V8_22 : Arv Z h22 b4 k4 .int (2 : Int32) [(.int p1), (.int p2)] (.int (0 : Int32)) := V8_20.other W22 ne_b4_b16
  have V15_22 : Arv Z h22 b9 k9 .int (3 : Int32) [(.int p1), (.int p2), (.int p3)] (.int (0 : Int32)) := V15_20.other W22 ne_b9_b16
  have Z22 : n0 ≤ h22.size := Nat.le_trans Z20 (Keep.of_wr W22).1
  obtain ⟨cl23, Ar23, q23, S23, N23', H23, G23⟩ := (id V22)
  have hin23 : ¬ ((3 : Int32) < 0 ∨ cl23.slots.size ≤ ((3 : Int32)).toNatClampNeg) := inb_of S23 ⟨by decide, by decide⟩
  obtain ⟨T24, h24, X24, e24, W24, st24⟩ := stI X22 hx hZ e22 Ar23 (j := (3 : Int32)) hin23 (g := (mkF m 58 #[.val (.int p0), .val (.int p1), .val (.int p2), .val (.int p3), .val (.int p4), .val (.ref b1), .val (.ref b4), .val (.ref b9), .unset, .unset, .unset, .unset, .unset, .unset, .unset, .unset, .unset, .unset] [(.int p4), (.int (3 : Int32)), (.ref b16), (.ref b16)])) rfl rfl (hb hby at_58)
  have V24 : Arv Z h24 b16 k16 .int (4 : Int32) [(.int p1), (.int p2), (.int p3), (.int p4)] (.int (0 : Int32)) := Arv.set Ar23 q23 S23 N23' H23 G23 rfl W24 3 rfl (Nat.le_of_ble_eq_true rfl)
  have N24 := Fr.snoc X24 N22 g_b16
  have V3_24 : Arv Z h24 b1 k1 .int (1 : Int32) [(.int p1)] (.int (0 : Int32)) := V3_22.other W24 ne_b1_b16
  have V8_24 : Arv Z h24 b4 k4 .int (2 : Int32) [(.int p1), (.int p2)] (.int (0 : Int32)) := V8_22.other W24 ne_b4_b16
  have V15_24 : Arv Z h24 b9 k9 .int (3 : Int32) [(.int p1), (.int p2), (.int p3)] (.int (0 : Int32)) := V15_22.other W24 ne_b9_b16
  have Z24 : n0 ≤ h24.size := Nat.le_trans Z22 (Keep.of_wr W24).1
  obtain ⟨T25, h25, k25, X25, e25, E25, A25, st25⟩ := newP X24 hx hZ (hw _ (List.mem_of_getElem? (i := 0) rfl)) e24 (g := (mkF m 62 #[.val (.int p0), .val (.int p1), .val (.int p2), .val (.int p3), .val (.int p4), .val (.ref b1), .val (.ref b4), .val (.ref b9), .val (.ref b16), .unset, .unset, .unset, .unset, .unset, .unset, .unset, .unset, .unset] [(.int (0 : Int32))])) rfl (hb hby at_62) rfl (by decide) (cap := 0) (by decide) (by decide) (by decide) (by decide)
  obtain ⟨b25, g25⟩ : ∃ z, z = h24.size := ⟨_, rfl⟩
  rw [← g25] at A25 st25
  have ne_b1_b25 : b1 ≠ b25 := Nat.ne_of_lt (Nat.lt_of_lt_of_le V3_24.lt (Nat.le_of_eq g25.symm))
  have ne_b4_b25 : b4 ≠ b25 := Nat.ne_of_lt (Nat.lt_of_lt_of_le V8_24.lt (Nat.le_of_eq g25.symm))
  have ne_b9_b25 : b9 ≠ b25 := Nat.ne_of_lt (Nat.lt_of_lt_of_le V15_24.lt (Nat.le_of_eq g25.symm))
  have ne_b16_b25 : b16 ≠ b25 := Nat.ne_of_lt (Nat.lt_of_lt_of_le V24.lt (Nat.le_of_eq g25.symm))
  have g_b25 : n0 ≤ b25 := Nat.le_trans Z24 (Nat.le_of_eq g25.symm)
  have V3_25 : Arv Z h25 b1 k1 .int (1 : Int32) [(.int p1)] (.int (0 : Int32)) := V3_24.ext E25
  have V8_25 : Arv Z h25 b4 k4 .int (2 : Int32) [(.int p1), (.int p2)] (.int (0 : Int32)) := V8_24.ext E25
  have V15_25 : Arv Z h25 b9 k9 .int (3 : Int32) [(.int p1), (.int p2), (.int p3)] (.int (0 : Int32)) := V15_24.ext E25
  have V24_25 : Arv Z h25 b16 k16 .int (4 : Int32) [(.int p1), (.int p2), (.int p3), (.int p4)] (.int (0 : Int32)) := V24.ext E25
  have Z25 : n0 ≤ h25.size := Nat.le_trans Z24 E25.1
  have V_b25 : Arv Z h25 b25 k25 .int (0 : Int32) [] (.int (0 : Int32)) := (Arv.new A25 (by decide)).pad (pad_rep [] (.int (0 : Int32)) 0)
  obtain ⟨T26, h26, k26, X26, e26, E26, A26, st26⟩ := newP X25 hx hZ (hw _ (List.mem_of_getElem? (i := 0) rfl)) e25 (g := (mkF m 67 #[.val (.int p0), .val (.int p1), .val (.int p2), .val (.int p3), .val (.int p4), .val (.ref b1), .val (.ref b4), .val (.ref b9), .val (.ref b16), .val (.ref b25), .unset, .unset, .unset, .unset, .unset, .unset, .unset, .unset] [(.int (1 : Int32))])) rfl (hb hby at_67) rfl (by decide) (cap := 1) (by decide) (by decide) (by decide) (by decide)
  obtain ⟨b26, g26⟩ : ∃ z, z = h25.size := ⟨_, rfl⟩
  rw [← g26] at A26 st26
  have ne_b1_b26 : b1 ≠ b26 := Nat.ne_of_lt (Nat.lt_of_lt_of_le V3_25.lt (Nat.le_of_eq g26.symm))
  have ne_b4_b26 : b4 ≠ b26 := Nat.ne_of_lt (Nat.lt_of_lt_of_le V8_25.lt (Nat.le_of_eq g26.symm))
  have ne_b9_b26 : b9 ≠ b26 := Nat.ne_of_lt (Nat.lt_of_lt_of_le V15_25.lt (Nat.le_of_eq g26.symm))
  have ne_b16_b26 : b16 ≠ b26 := Nat.ne_of_lt (Nat.lt_of_lt_of_le V24_25.lt (Nat.le_of_eq g26.symm))
  have ne_b25_b26 : b25 ≠ b26 := Nat.ne_of_lt (Nat.lt_of_lt_of_le V_b25.lt (Nat.le_of_eq g26.symm))
  have g_b26 : n0 ≤ b26 := Nat.le_trans Z25 (Nat.le_of_eq g26.symm)
  have V3_26 : Arv Z h26 b1 k1 .int (1 : Int32) [(.int p1)] (.int (0 : Int32)) := V3_25.ext E26
  have V8_26 : Arv Z h26 b4 k4 .int (2 : Int32) [(.int p1), (.int p2)] (.int (0 : Int32)) := V8_25.ext E26
  have V15_26 : Arv Z h26 b9 k9 .int (3 : Int32) [(.int p1), (.int p2), (.int p3)] (.int (0 : Int32)) := V15_25.ext E26
  have V24_26 : Arv Z h26 b16 k16 .int (4 : Int32) [(.int p1), (.int p2), (.int p3), (.int p4)] (.int (0 : Int32)) := V24_25.ext E26
  have V_b25_26 : Arv Z h26 b25 k25 .int (0 : Int32) [] (.int (0 : Int32)) := V_b25.ext E26
  have Z26 : n0 ≤ h26.size := Nat.le_trans Z25 E26.1
  have V_b26 : Arv Z h26 b26 k26 .int (1 : Int32) [(.int (0 : Int32))] (.int (0 : Int32)) := (Arv.new A26 (by decide)).pad (pad_rep [] (.int (0 : Int32)) 1)
  obtain ⟨T27, h27, k27, X27, e27, E27, A27, st27⟩ := newP X26 hx hZ (hw _ (List.mem_of_getElem? (i := 0) rfl)) e26 (g := (mkF m 72 #[.val (.int p0), .val (.int p1), .val (.int p2), .val (.int p3), .val (.int p4), .val (.ref b1), .val (.ref b4), .val (.ref b9), .val (.ref b16), .val (.ref b25), .val (.ref b26), .unset, .unset, .unset, .unset, .unset, .unset, .unset] [(.int (2 : Int32))])) rfl (hb hby at_72) rfl (by decide) (cap := 2) (by decide) (by decide) (by decide) (by decide)
  obtain ⟨b27, g27⟩ : ∃ z, z = h26.size := ⟨_, rfl⟩
  rw [← g27] at A27 st27
  have ne_b1_b27 : b1 ≠ b27 := Nat.ne_of_lt (Nat.lt_of_lt_of_le V3_26.lt (Nat.le_of_eq g27.symm))
  have ne_b4_b27 : b4 ≠ b27 := Nat.ne_of_lt (Nat.lt_of_lt_of_le V8_26.lt (Nat.le_of_eq g27.symm))
  have ne_b9_b27 : b9 ≠ b27 := Nat.ne_of_lt (Nat.lt_of_lt_of_le V15_26.lt (Nat.le_of_eq g27.symm))
  have ne_b16_b27 : b16 ≠ b27 := Nat.ne_of_lt (Nat.lt_of_lt_of_le V24_26.lt (Nat.le_of_eq g27.symm))
  have ne_b25_b27 : b25 ≠ b27 := Nat.ne_of_lt (Nat.lt_of_lt_of_le V_b25_26.lt (Nat.le_of_eq g27.symm))
  have ne_b26_b27 : b26 ≠ b27 := Nat.ne_of_lt (Nat.lt_of_lt_of_le V_b26.lt (Nat.le_of_eq g27.symm))
  have g_b27 : n0 ≤ b27 := Nat.le_trans Z26 (Nat.le_of_eq g27.symm)
  have V3_27 : Arv Z h27 b1 k1 .int (1 : Int32) [(.int p1)] (.int (0 : Int32)) := V3_26.ext E27
  have V8_27 : Arv Z h27 b4 k4 .int (2 : Int32) [(.int p1), (.int p2)] (.int (0 : Int32)) := V8_26.ext E27
  have V15_27 : Arv Z h27 b9 k9 .int (3 : Int32) [(.int p1), (.int p2), (.int p3)] (.int (0 : Int32)) := V15_26.ext E27
  have V24_27 : Arv Z h27 b16 k16 .int (4 : Int32) [(.int p1), (.int p2), (.int p3), (.int p4)] (.int (0 : Int32)) := V24_26.ext E27
  have V_b25_27 : Arv Z h27 b25 k25 .int (0 : Int32) [] (.int (0 : Int32)) := V_b25_26.ext E27
  have V_b26_27 : Arv Z h27 b26 k26 .int (1 : Int32) [(.int (0 : Int32))] (.int (0 : Int32)) := V_b26.ext E27
  have Z27 : n0 ≤ h27.size := Nat.le_trans Z26 E27.1
  have V_b27 : Arv Z h27 b27 k27 .int (2 : Int32) [(.int (0 : Int32)), (.int (0 : Int32))] (.int (0 : Int32)) := (Arv.new A27 (by decide)).pad (pad_rep [] (.int (0 : Int32)) 2)
  obtain ⟨T28, h28, k28, X28, e28, E28, A28, st28⟩ := newP X27 hx hZ (hw _ (List.mem_of_getElem? (i := 0) rfl)) e27 (g := (mkF m 77 #[.val (.int p0), .val (.int p1), .val (.int p2), .val (.int p3), .val (.int p4), .val (.ref b1), .val (.ref b4), .val (.ref b9), .val (.ref b16), .val (.ref b25), .val (.ref b26), .val (.ref b27), .unset, .unset, .unset, .unset, .unset, .unset] [(.int (3 : Int32))])) rfl (hb hby at_77) rfl (by decide) (cap := 3) (by decide) (by decide) (by decide) (by decide)
  obtain ⟨b28, g28⟩ : ∃ z, z = h27.size := ⟨_, rfl⟩
  rw [← g28] at A28 st28
  have ne_b1_b28 : b1 ≠ b28 := Nat.ne_of_lt (Nat.lt_of_lt_of_le V3_27.lt (Nat.le_of_eq g28.symm))
  have ne_b4_b28 : b4 ≠ b28 := Nat.ne_of_lt (Nat.lt_of_lt_of_le V8_27.lt (Nat.le_of_eq g28.symm))
  have ne_b9_b28 : b9 ≠ b28 := Nat.ne_of_lt (Nat.lt_of_lt_of_le V15_27.lt (Nat.le_of_eq g28.symm))
  have ne_b16_b28 : b16 ≠ b28 := Nat.ne_of_lt (Nat.lt_of_lt_of_le V24_27.lt (Nat.le_of_eq g28.symm))
  have ne_b25_b28 : b25 ≠ b28 := Nat.ne_of_lt (Nat.lt_of_lt_of_le V_b25_27.lt (Nat.le_of_eq g28.symm))
  have ne_b26_b28 : b26 ≠ b28 := Nat.ne_of_lt (Nat.lt_of_lt_of_le V_b26_27.lt (Nat.le_of_eq g28.symm))
  have ne_b27_b28 : b27 ≠ b28 := Nat.ne_of_lt (Nat.lt_of_lt_of_le V_b27.lt (Nat.le_of_eq g28.symm))
  have g_b28 : n0 ≤ b28 := Nat.le_trans Z27 (Nat.le_of_eq g28.symm)
  have V3_28 : Arv Z h28 b1 k1 .int (1 : Int32) [(.int p1)] (.int (0 : Int32)) := V3_27.ext E28
  have V8_28 : Arv Z h28 b4 k4 .int (2 : Int32) [(.int p1), (.int p2)] (.int (0 : Int32)) := V8_27.ext E28
  have V15_28 : Arv Z h28 b9 k9 .int (3 : Int32) [(.int p1), (.int p2), (.int p3)] (.int (0 : Int32)) := V15_27.ext E28
  have V24_28 : Arv Z h28 b16 k16 .int (4 : Int32) [(.int p1), (.int p2), (.int p3), (.int p4)] (.int (0 : Int32)) := V24_27.ext E28
  have V_b25_28 : Arv Z h28 b25 k25 .int (0 : Int32) [] (.int (0 : Int32)) := V_b25_27.ext E28
  have V_b26_28 : Arv Z h28 b26 k26 .int (1 : Int32) [(.int (0 : Int32))] (.int (0 : Int32)) := V_b26_27.ext E28
  have V_b27_28 : Arv Z h28 b27 k27 .int (2 : Int32) [(.int (0 : Int32)), (.int (0 : Int32))] (.int (0 : Int32)) := V_b27.ext E28
  have Z28 : n0 ≤ h28.size := Nat.le_trans Z27 E28.1
  have V_b28 : Arv Z h28 b28 k28 .int (3 : Int32) [(.int (0 : Int32)), (.int (0 : Int32)), (.int (0 : Int32))] (.int (0 : Int32)) := (Arv.new A28 (by decide)).pad (pad_rep [] (.int (0 : Int32)) 3)
  have k29 : ∀ target, Steps p.tables e below (T28.setTop (mkF m 88 #[.val (.int p0), .val (.int p1), .val (.int p2), .val (.int p3), .val (.int p4), .val (.ref b1), .val (.ref b4), .val (.ref b9), .val (.ref b16), .val (.ref b25), .val (.ref b26), .val (.ref b27), .val (.ref b28), .val (.int (p0 &&& (3 : Int32))), .unset, .unset, .unset, .unset] [(.int (p0 &&& (3 : Int32)))])) target → Steps p.tables e below (s₁.setTop (mkF m 0 #[.val (.int p0), .val (.int p1), .val (.int p2), .val (.int p3), .val (.int p4), .unset, .unset, .unset, .unset, .unset, .unset, .unset, .unset, .unset, .unset, .unset, .unset, .unset] [])) target := by
    intro target kt
    show Steps p.tables e below (s₁.setTop (mkF m 0 #[.val (.int p0), .val (.int p1), .val (.int p2), .val (.int p3), .val (.int p4), .unset, .unset, .unset, .unset, .unset, .unset, .unset, .unset, .unset, .unset, .unset, .unset, .unset] [])) _
    refine XS.iconst X0.here hx rfl (hb hby at_0) ?_
    show Steps p.tables e below (s₁.setTop (mkF m 1 #[.val (.int p0), .val (.int p1), .val (.int p2), .val (.int p3), .val (.int p4), .unset, .unset, .unset, .unset, .unset, .unset, .unset, .unset, .unset, .unset, .unset, .unset, .unset] [(.int (1 : Int32))])) _
    refine st1 _ ?_
    show Steps p.tables e below (T1.setTop (mkF m 3 #[.val (.int p0), .val (.int p1), .val (.int p2), .val (.int p3), .val (.int p4), .unset, .unset, .unset, .unset, .unset, .unset, .unset, .unset, .unset, .unset, .unset, .unset, .unset] [(.ref b1)])) _
    refine XS.dup X1.here hx rfl (hb hby at_3) rfl rfl ?_
    show Steps p.tables e below (T1.setTop (mkF m 4 #[.val (.int p0), .val (.int p1), .val (.int p2), .val (.int p3), .val (.int p4), .unset, .unset, .unset, .unset, .unset, .unset, .unset, .unset, .unset, .unset, .unset, .unset, .unset] [(.ref b1), (.ref b1)])) _
    refine XS.iconst X1.here hx rfl (hb hby at_4) ?_
    show Steps p.tables e below (T1.setTop (mkF m 5 #[.val (.int p0), .val (.int p1), .val (.int p2), .val (.int p3), .val (.int p4), .unset, .unset, .unset, .unset, .unset, .unset, .unset, .unset, .unset, .unset, .unset, .unset, .unset] [(.int (0 : Int32)), (.ref b1), (.ref b1)])) _
    refine XS.iloadN X1.here hx rfl (hb hby at_5) rfl ?_
    show Steps p.tables e below (T1.setTop (mkF m 6 #[.val (.int p0), .val (.int p1), .val (.int p2), .val (.int p3), .val (.int p4), .unset, .unset, .unset, .unset, .unset, .unset, .unset, .unset, .unset, .unset, .unset, .unset, .unset] [(.int p1), (.int (0 : Int32)), (.ref b1), (.ref b1)])) _
    refine st3 _ ?_
    show Steps p.tables e below (T3.setTop (mkF m 7 #[.val (.int p0), .val (.int p1), .val (.int p2), .val (.int p3), .val (.int p4), .unset, .unset, .unset, .unset, .unset, .unset, .unset, .unset, .unset, .unset, .unset, .unset, .unset] [(.ref b1)])) _
    refine XS.astore X3.here hx rfl (hb hby at_7) rfl rfl (l' := #[.val (.int p0), .val (.int p1), .val (.int p2), .val (.int p3), .val (.int p4), .val (.ref b1), .unset, .unset, .unset, .unset, .unset, .unset, .unset, .unset, .unset, .unset, .unset, .unset]) rfl ?_
    show Steps p.tables e below (T3.setTop (mkF m 9 #[.val (.int p0), .val (.int p1), .val (.int p2), .val (.int p3), .val (.int p4), .val (.ref b1), .unset, .unset, .unset, .unset, .unset, .unset, .unset, .unset, .unset, .unset, .unset, .unset] [])) _
    refine XS.iconst X3.here hx rfl (hb hby at_9) ?_
    show Steps p.tables e below (T3.setTop (mkF m 10 #[.val (.int p0), .val (.int p1), .val (.int p2), .val (.int p3), .val (.int p4), .val (.ref b1), .unset, .unset, .unset, .unset, .unset, .unset, .unset, .unset, .unset, .unset, .unset, .unset] [(.int (2 : Int32))])) _
    refine st4 _ ?_
    show Steps p.tables e below (T4.setTop (mkF m 12 #[.val (.int p0), .val (.int p1), .val (.int p2), .val (.int p3), .val (.int p4), .val (.ref b1), .unset, .unset, .unset, .unset, .unset, .unset, .unset, .unset, .unset, .unset, .unset, .unset] [(.ref b4)])) _
    refine XS.dup X4.here hx rfl (hb hby at_12) rfl rfl ?_
    show Steps p.tables e below (T4.setTop (mkF m 13 #[.val (.int p0), .val (.int p1), .val (.int p2), .val (.int p3), .val (.int p4), .val (.ref b1), .unset, .unset, .unset, .unset, .unset, .unset, .unset, .unset, .unset, .unset, .unset, .unset] [(.ref b4), (.ref b4)])) _
    refine XS.iconst X4.here hx rfl (hb hby at_13) ?_
    show Steps p.tables e below (T4.setTop (mkF m 14 #[.val (.int p0), .val (.int p1), .val (.int p2), .val (.int p3), .val (.int p4), .val (.ref b1), .unset, .unset, .unset, .unset, .unset, .unset, .unset, .unset, .unset, .unset, .unset, .unset] [(.int (0 : Int32)), (.ref b4), (.ref b4)])) _
    refine XS.iloadN X4.here hx rfl (hb hby at_14) rfl ?_
    show Steps p.tables e below (T4.setTop (mkF m 15 #[.val (.int p0), .val (.int p1), .val (.int p2), .val (.int p3), .val (.int p4), .val (.ref b1), .unset, .unset, .unset, .unset, .unset, .unset, .unset, .unset, .unset, .unset, .unset, .unset] [(.int p1), (.int (0 : Int32)), (.ref b4), (.ref b4)])) _
    refine st6 _ ?_
    show Steps p.tables e below (T6.setTop (mkF m 16 #[.val (.int p0), .val (.int p1), .val (.int p2), .val (.int p3), .val (.int p4), .val (.ref b1), .unset, .unset, .unset, .unset, .unset, .unset, .unset, .unset, .unset, .unset, .unset, .unset] [(.ref b4)])) _
    refine XS.dup X6.here hx rfl (hb hby at_16) rfl rfl ?_
    show Steps p.tables e below (T6.setTop (mkF m 17 #[.val (.int p0), .val (.int p1), .val (.int p2), .val (.int p3), .val (.int p4), .val (.ref b1), .unset, .unset, .unset, .unset, .unset, .unset, .unset, .unset, .unset, .unset, .unset, .unset] [(.ref b4), (.ref b4)])) _
    refine XS.iconst X6.here hx rfl (hb hby at_17) ?_
    show Steps p.tables e below (T6.setTop (mkF m 18 #[.val (.int p0), .val (.int p1), .val (.int p2), .val (.int p3), .val (.int p4), .val (.ref b1), .unset, .unset, .unset, .unset, .unset, .unset, .unset, .unset, .unset, .unset, .unset, .unset] [(.int (1 : Int32)), (.ref b4), (.ref b4)])) _
    refine XS.iloadN X6.here hx rfl (hb hby at_18) rfl ?_
    show Steps p.tables e below (T6.setTop (mkF m 19 #[.val (.int p0), .val (.int p1), .val (.int p2), .val (.int p3), .val (.int p4), .val (.ref b1), .unset, .unset, .unset, .unset, .unset, .unset, .unset, .unset, .unset, .unset, .unset, .unset] [(.int p2), (.int (1 : Int32)), (.ref b4), (.ref b4)])) _
    refine st8 _ ?_
    show Steps p.tables e below (T8.setTop (mkF m 20 #[.val (.int p0), .val (.int p1), .val (.int p2), .val (.int p3), .val (.int p4), .val (.ref b1), .unset, .unset, .unset, .unset, .unset, .unset, .unset, .unset, .unset, .unset, .unset, .unset] [(.ref b4)])) _
    refine XS.astore X8.here hx rfl (hb hby at_20) rfl rfl (l' := #[.val (.int p0), .val (.int p1), .val (.int p2), .val (.int p3), .val (.int p4), .val (.ref b1), .val (.ref b4), .unset, .unset, .unset, .unset, .unset, .unset, .unset, .unset, .unset, .unset, .unset]) rfl ?_
    show Steps p.tables e below (T8.setTop (mkF m 22 #[.val (.int p0), .val (.int p1), .val (.int p2), .val (.int p3), .val (.int p4), .val (.ref b1), .val (.ref b4), .unset, .unset, .unset, .unset, .unset, .unset, .unset, .unset, .unset, .unset, .unset] [])) _
    refine XS.iconst X8.here hx rfl (hb hby at_22) ?_
    show Steps p.tables e below (T8.setTop (mkF m 23 #[.val (.int p0), .val (.int p1), .val (.int p2), .val (.int p3), .val (.int p4), .val (.ref b1), .val (.ref b4), .unset, .unset, .unset, .unset, .unset, .unset, .unset, .unset, .unset, .unset, .unset] [(.int (3 : Int32))])) _
    refine st9 _ ?_
    show Steps p.tables e below (T9.setTop (mkF m 25 #[.val (.int p0), .val (.int p1), .val (.int p2), .val (.int p3), .val (.int p4), .val (.ref b1), .val (.ref b4), .unset, .unset, .unset, .unset, .unset, .unset, .unset, .unset, .unset, .unset, .unset] [(.ref b9)])) _
    refine XS.dup X9.here hx rfl (hb hby at_25) rfl rfl ?_
    show Steps p.tables e below (T9.setTop (mkF m 26 #[.val (.int p0), .val (.int p1), .val (.int p2), .val (.int p3), .val (.int p4), .val (.ref b1), .val (.ref b4), .unset, .unset, .unset, .unset, .unset, .unset, .unset, .unset, .unset, .unset, .unset] [(.ref b9), (.ref b9)])) _
    refine XS.iconst X9.here hx rfl (hb hby at_26) ?_
    show Steps p.tables e below (T9.setTop (mkF m 27 #[.val (.int p0), .val (.int p1), .val (.int p2), .val (.int p3), .val (.int p4), .val (.ref b1), .val (.ref b4), .unset, .unset, .unset, .unset, .unset, .unset, .unset, .unset, .unset, .unset, .unset] [(.int (0 : Int32)), (.ref b9), (.ref b9)])) _
    refine XS.iloadN X9.here hx rfl (hb hby at_27) rfl ?_
    show Steps p.tables e below (T9.setTop (mkF m 28 #[.val (.int p0), .val (.int p1), .val (.int p2), .val (.int p3), .val (.int p4), .val (.ref b1), .val (.ref b4), .unset, .unset, .unset, .unset, .unset, .unset, .unset, .unset, .unset, .unset, .unset] [(.int p1), (.int (0 : Int32)), (.ref b9), (.ref b9)])) _
    refine st11 _ ?_
    show Steps p.tables e below (T11.setTop (mkF m 29 #[.val (.int p0), .val (.int p1), .val (.int p2), .val (.int p3), .val (.int p4), .val (.ref b1), .val (.ref b4), .unset, .unset, .unset, .unset, .unset, .unset, .unset, .unset, .unset, .unset, .unset] [(.ref b9)])) _
    refine XS.dup X11.here hx rfl (hb hby at_29) rfl rfl ?_
    show Steps p.tables e below (T11.setTop (mkF m 30 #[.val (.int p0), .val (.int p1), .val (.int p2), .val (.int p3), .val (.int p4), .val (.ref b1), .val (.ref b4), .unset, .unset, .unset, .unset, .unset, .unset, .unset, .unset, .unset, .unset, .unset] [(.ref b9), (.ref b9)])) _
    refine XS.iconst X11.here hx rfl (hb hby at_30) ?_
    show Steps p.tables e below (T11.setTop (mkF m 31 #[.val (.int p0), .val (.int p1), .val (.int p2), .val (.int p3), .val (.int p4), .val (.ref b1), .val (.ref b4), .unset, .unset, .unset, .unset, .unset, .unset, .unset, .unset, .unset, .unset, .unset] [(.int (1 : Int32)), (.ref b9), (.ref b9)])) _
    refine XS.iloadN X11.here hx rfl (hb hby at_31) rfl ?_
    show Steps p.tables e below (T11.setTop (mkF m 32 #[.val (.int p0), .val (.int p1), .val (.int p2), .val (.int p3), .val (.int p4), .val (.ref b1), .val (.ref b4), .unset, .unset, .unset, .unset, .unset, .unset, .unset, .unset, .unset, .unset, .unset] [(.int p2), (.int (1 : Int32)), (.ref b9), (.ref b9)])) _
    refine st13 _ ?_
    show Steps p.tables e below (T13.setTop (mkF m 33 #[.val (.int p0), .val (.int p1), .val (.int p2), .val (.int p3), .val (.int p4), .val (.ref b1), .val (.ref b4), .unset, .unset, .unset, .unset, .unset, .unset, .unset, .unset, .unset, .unset, .unset] [(.ref b9)])) _
    refine XS.dup X13.here hx rfl (hb hby at_33) rfl rfl ?_
    show Steps p.tables e below (T13.setTop (mkF m 34 #[.val (.int p0), .val (.int p1), .val (.int p2), .val (.int p3), .val (.int p4), .val (.ref b1), .val (.ref b4), .unset, .unset, .unset, .unset, .unset, .unset, .unset, .unset, .unset, .unset, .unset] [(.ref b9), (.ref b9)])) _
    refine XS.iconst X13.here hx rfl (hb hby at_34) ?_
    show Steps p.tables e below (T13.setTop (mkF m 35 #[.val (.int p0), .val (.int p1), .val (.int p2), .val (.int p3), .val (.int p4), .val (.ref b1), .val (.ref b4), .unset, .unset, .unset, .unset, .unset, .unset, .unset, .unset, .unset, .unset, .unset] [(.int (2 : Int32)), (.ref b9), (.ref b9)])) _
    refine XS.iloadN X13.here hx rfl (hb hby at_35) rfl ?_
    show Steps p.tables e below (T13.setTop (mkF m 36 #[.val (.int p0), .val (.int p1), .val (.int p2), .val (.int p3), .val (.int p4), .val (.ref b1), .val (.ref b4), .unset, .unset, .unset, .unset, .unset, .unset, .unset, .unset, .unset, .unset, .unset] [(.int p3), (.int (2 : Int32)), (.ref b9), (.ref b9)])) _
    refine st15 _ ?_
    show Steps p.tables e below (T15.setTop (mkF m 37 #[.val (.int p0), .val (.int p1), .val (.int p2), .val (.int p3), .val (.int p4), .val (.ref b1), .val (.ref b4), .unset, .unset, .unset, .unset, .unset, .unset, .unset, .unset, .unset, .unset, .unset] [(.ref b9)])) _
    refine XS.astore X15.here hx rfl (hb hby at_37) rfl rfl (l' := #[.val (.int p0), .val (.int p1), .val (.int p2), .val (.int p3), .val (.int p4), .val (.ref b1), .val (.ref b4), .val (.ref b9), .unset, .unset, .unset, .unset, .unset, .unset, .unset, .unset, .unset, .unset]) rfl ?_
    show Steps p.tables e below (T15.setTop (mkF m 39 #[.val (.int p0), .val (.int p1), .val (.int p2), .val (.int p3), .val (.int p4), .val (.ref b1), .val (.ref b4), .val (.ref b9), .unset, .unset, .unset, .unset, .unset, .unset, .unset, .unset, .unset, .unset] [])) _
    refine XS.iconst X15.here hx rfl (hb hby at_39) ?_
    show Steps p.tables e below (T15.setTop (mkF m 40 #[.val (.int p0), .val (.int p1), .val (.int p2), .val (.int p3), .val (.int p4), .val (.ref b1), .val (.ref b4), .val (.ref b9), .unset, .unset, .unset, .unset, .unset, .unset, .unset, .unset, .unset, .unset] [(.int (4 : Int32))])) _
    refine st16 _ ?_
    show Steps p.tables e below (T16.setTop (mkF m 42 #[.val (.int p0), .val (.int p1), .val (.int p2), .val (.int p3), .val (.int p4), .val (.ref b1), .val (.ref b4), .val (.ref b9), .unset, .unset, .unset, .unset, .unset, .unset, .unset, .unset, .unset, .unset] [(.ref b16)])) _
    refine XS.dup X16.here hx rfl (hb hby at_42) rfl rfl ?_
    show Steps p.tables e below (T16.setTop (mkF m 43 #[.val (.int p0), .val (.int p1), .val (.int p2), .val (.int p3), .val (.int p4), .val (.ref b1), .val (.ref b4), .val (.ref b9), .unset, .unset, .unset, .unset, .unset, .unset, .unset, .unset, .unset, .unset] [(.ref b16), (.ref b16)])) _
    refine XS.iconst X16.here hx rfl (hb hby at_43) ?_
    show Steps p.tables e below (T16.setTop (mkF m 44 #[.val (.int p0), .val (.int p1), .val (.int p2), .val (.int p3), .val (.int p4), .val (.ref b1), .val (.ref b4), .val (.ref b9), .unset, .unset, .unset, .unset, .unset, .unset, .unset, .unset, .unset, .unset] [(.int (0 : Int32)), (.ref b16), (.ref b16)])) _
    refine XS.iloadN X16.here hx rfl (hb hby at_44) rfl ?_
    show Steps p.tables e below (T16.setTop (mkF m 45 #[.val (.int p0), .val (.int p1), .val (.int p2), .val (.int p3), .val (.int p4), .val (.ref b1), .val (.ref b4), .val (.ref b9), .unset, .unset, .unset, .unset, .unset, .unset, .unset, .unset, .unset, .unset] [(.int p1), (.int (0 : Int32)), (.ref b16), (.ref b16)])) _
    refine st18 _ ?_
    show Steps p.tables e below (T18.setTop (mkF m 46 #[.val (.int p0), .val (.int p1), .val (.int p2), .val (.int p3), .val (.int p4), .val (.ref b1), .val (.ref b4), .val (.ref b9), .unset, .unset, .unset, .unset, .unset, .unset, .unset, .unset, .unset, .unset] [(.ref b16)])) _
    refine XS.dup X18.here hx rfl (hb hby at_46) rfl rfl ?_
    show Steps p.tables e below (T18.setTop (mkF m 47 #[.val (.int p0), .val (.int p1), .val (.int p2), .val (.int p3), .val (.int p4), .val (.ref b1), .val (.ref b4), .val (.ref b9), .unset, .unset, .unset, .unset, .unset, .unset, .unset, .unset, .unset, .unset] [(.ref b16), (.ref b16)])) _
    refine XS.iconst X18.here hx rfl (hb hby at_47) ?_
    show Steps p.tables e below (T18.setTop (mkF m 48 #[.val (.int p0), .val (.int p1), .val (.int p2), .val (.int p3), .val (.int p4), .val (.ref b1), .val (.ref b4), .val (.ref b9), .unset, .unset, .unset, .unset, .unset, .unset, .unset, .unset, .unset, .unset] [(.int (1 : Int32)), (.ref b16), (.ref b16)])) _
    refine XS.iloadN X18.here hx rfl (hb hby at_48) rfl ?_
    show Steps p.tables e below (T18.setTop (mkF m 49 #[.val (.int p0), .val (.int p1), .val (.int p2), .val (.int p3), .val (.int p4), .val (.ref b1), .val (.ref b4), .val (.ref b9), .unset, .unset, .unset, .unset, .unset, .unset, .unset, .unset, .unset, .unset] [(.int p2), (.int (1 : Int32)), (.ref b16), (.ref b16)])) _
    refine st20 _ ?_
    show Steps p.tables e below (T20.setTop (mkF m 50 #[.val (.int p0), .val (.int p1), .val (.int p2), .val (.int p3), .val (.int p4), .val (.ref b1), .val (.ref b4), .val (.ref b9), .unset, .unset, .unset, .unset, .unset, .unset, .unset, .unset, .unset, .unset] [(.ref b16)])) _
    refine XS.dup X20.here hx rfl (hb hby at_50) rfl rfl ?_
    show Steps p.tables e below (T20.setTop (mkF m 51 #[.val (.int p0), .val (.int p1), .val (.int p2), .val (.int p3), .val (.int p4), .val (.ref b1), .val (.ref b4), .val (.ref b9), .unset, .unset, .unset, .unset, .unset, .unset, .unset, .unset, .unset, .unset] [(.ref b16), (.ref b16)])) _
    refine XS.iconst X20.here hx rfl (hb hby at_51) ?_
    show Steps p.tables e below (T20.setTop (mkF m 52 #[.val (.int p0), .val (.int p1), .val (.int p2), .val (.int p3), .val (.int p4), .val (.ref b1), .val (.ref b4), .val (.ref b9), .unset, .unset, .unset, .unset, .unset, .unset, .unset, .unset, .unset, .unset] [(.int (2 : Int32)), (.ref b16), (.ref b16)])) _
    refine XS.iloadN X20.here hx rfl (hb hby at_52) rfl ?_
    show Steps p.tables e below (T20.setTop (mkF m 53 #[.val (.int p0), .val (.int p1), .val (.int p2), .val (.int p3), .val (.int p4), .val (.ref b1), .val (.ref b4), .val (.ref b9), .unset, .unset, .unset, .unset, .unset, .unset, .unset, .unset, .unset, .unset] [(.int p3), (.int (2 : Int32)), (.ref b16), (.ref b16)])) _
    refine st22 _ ?_
    show Steps p.tables e below (T22.setTop (mkF m 54 #[.val (.int p0), .val (.int p1), .val (.int p2), .val (.int p3), .val (.int p4), .val (.ref b1), .val (.ref b4), .val (.ref b9), .unset, .unset, .unset, .unset, .unset, .unset, .unset, .unset, .unset, .unset] [(.ref b16)])) _
    refine XS.dup X22.here hx rfl (hb hby at_54) rfl rfl ?_
    show Steps p.tables e below (T22.setTop (mkF m 55 #[.val (.int p0), .val (.int p1), .val (.int p2), .val (.int p3), .val (.int p4), .val (.ref b1), .val (.ref b4), .val (.ref b9), .unset, .unset, .unset, .unset, .unset, .unset, .unset, .unset, .unset, .unset] [(.ref b16), (.ref b16)])) _
    refine XS.iconst X22.here hx rfl (hb hby at_55) ?_
    show Steps p.tables e below (T22.setTop (mkF m 56 #[.val (.int p0), .val (.int p1), .val (.int p2), .val (.int p3), .val (.int p4), .val (.ref b1), .val (.ref b4), .val (.ref b9), .unset, .unset, .unset, .unset, .unset, .unset, .unset, .unset, .unset, .unset] [(.int (3 : Int32)), (.ref b16), (.ref b16)])) _
    refine XS.iload X22.here hx rfl (hb hby at_56) rfl ?_
    show Steps p.tables e below (T22.setTop (mkF m 58 #[.val (.int p0), .val (.int p1), .val (.int p2), .val (.int p3), .val (.int p4), .val (.ref b1), .val (.ref b4), .val (.ref b9), .unset, .unset, .unset, .unset, .unset, .unset, .unset, .unset, .unset, .unset] [(.int p4), (.int (3 : Int32)), (.ref b16), (.ref b16)])) _
    refine st24 _ ?_
    show Steps p.tables e below (T24.setTop (mkF m 59 #[.val (.int p0), .val (.int p1), .val (.int p2), .val (.int p3), .val (.int p4), .val (.ref b1), .val (.ref b4), .val (.ref b9), .unset, .unset, .unset, .unset, .unset, .unset, .unset, .unset, .unset, .unset] [(.ref b16)])) _
    refine XS.astore X24.here hx rfl (hb hby at_59) rfl rfl (l' := #[.val (.int p0), .val (.int p1), .val (.int p2), .val (.int p3), .val (.int p4), .val (.ref b1), .val (.ref b4), .val (.ref b9), .val (.ref b16), .unset, .unset, .unset, .unset, .unset, .unset, .unset, .unset, .unset]) rfl ?_
    show Steps p.tables e below (T24.setTop (mkF m 61 #[.val (.int p0), .val (.int p1), .val (.int p2), .val (.int p3), .val (.int p4), .val (.ref b1), .val (.ref b4), .val (.ref b9), .val (.ref b16), .unset, .unset, .unset, .unset, .unset, .unset, .unset, .unset, .unset] [])) _
    refine XS.iconst X24.here hx rfl (hb hby at_61) ?_
    show Steps p.tables e below (T24.setTop (mkF m 62 #[.val (.int p0), .val (.int p1), .val (.int p2), .val (.int p3), .val (.int p4), .val (.ref b1), .val (.ref b4), .val (.ref b9), .val (.ref b16), .unset, .unset, .unset, .unset, .unset, .unset, .unset, .unset, .unset] [(.int (0 : Int32))])) _
    refine st25 _ ?_
    show Steps p.tables e below (T25.setTop (mkF m 64 #[.val (.int p0), .val (.int p1), .val (.int p2), .val (.int p3), .val (.int p4), .val (.ref b1), .val (.ref b4), .val (.ref b9), .val (.ref b16), .unset, .unset, .unset, .unset, .unset, .unset, .unset, .unset, .unset] [(.ref b25)])) _
    refine XS.astore X25.here hx rfl (hb hby at_64) rfl rfl (l' := #[.val (.int p0), .val (.int p1), .val (.int p2), .val (.int p3), .val (.int p4), .val (.ref b1), .val (.ref b4), .val (.ref b9), .val (.ref b16), .val (.ref b25), .unset, .unset, .unset, .unset, .unset, .unset, .unset, .unset]) rfl ?_
    show Steps p.tables e below (T25.setTop (mkF m 66 #[.val (.int p0), .val (.int p1), .val (.int p2), .val (.int p3), .val (.int p4), .val (.ref b1), .val (.ref b4), .val (.ref b9), .val (.ref b16), .val (.ref b25), .unset, .unset, .unset, .unset, .unset, .unset, .unset, .unset] [])) _
    refine XS.iconst X25.here hx rfl (hb hby at_66) ?_
    show Steps p.tables e below (T25.setTop (mkF m 67 #[.val (.int p0), .val (.int p1), .val (.int p2), .val (.int p3), .val (.int p4), .val (.ref b1), .val (.ref b4), .val (.ref b9), .val (.ref b16), .val (.ref b25), .unset, .unset, .unset, .unset, .unset, .unset, .unset, .unset] [(.int (1 : Int32))])) _
    refine st26 _ ?_
    show Steps p.tables e below (T26.setTop (mkF m 69 #[.val (.int p0), .val (.int p1), .val (.int p2), .val (.int p3), .val (.int p4), .val (.ref b1), .val (.ref b4), .val (.ref b9), .val (.ref b16), .val (.ref b25), .unset, .unset, .unset, .unset, .unset, .unset, .unset, .unset] [(.ref b26)])) _
    refine XS.astore X26.here hx rfl (hb hby at_69) rfl rfl (l' := #[.val (.int p0), .val (.int p1), .val (.int p2), .val (.int p3), .val (.int p4), .val (.ref b1), .val (.ref b4), .val (.ref b9), .val (.ref b16), .val (.ref b25), .val (.ref b26), .unset, .unset, .unset, .unset, .unset, .unset, .unset]) rfl ?_
    show Steps p.tables e below (T26.setTop (mkF m 71 #[.val (.int p0), .val (.int p1), .val (.int p2), .val (.int p3), .val (.int p4), .val (.ref b1), .val (.ref b4), .val (.ref b9), .val (.ref b16), .val (.ref b25), .val (.ref b26), .unset, .unset, .unset, .unset, .unset, .unset, .unset] [])) _
    refine XS.iconst X26.here hx rfl (hb hby at_71) ?_
    show Steps p.tables e below (T26.setTop (mkF m 72 #[.val (.int p0), .val (.int p1), .val (.int p2), .val (.int p3), .val (.int p4), .val (.ref b1), .val (.ref b4), .val (.ref b9), .val (.ref b16), .val (.ref b25), .val (.ref b26), .unset, .unset, .unset, .unset, .unset, .unset, .unset] [(.int (2 : Int32))])) _
    refine st27 _ ?_
    show Steps p.tables e below (T27.setTop (mkF m 74 #[.val (.int p0), .val (.int p1), .val (.int p2), .val (.int p3), .val (.int p4), .val (.ref b1), .val (.ref b4), .val (.ref b9), .val (.ref b16), .val (.ref b25), .val (.ref b26), .unset, .unset, .unset, .unset, .unset, .unset, .unset] [(.ref b27)])) _
    refine XS.astore X27.here hx rfl (hb hby at_74) rfl rfl (l' := #[.val (.int p0), .val (.int p1), .val (.int p2), .val (.int p3), .val (.int p4), .val (.ref b1), .val (.ref b4), .val (.ref b9), .val (.ref b16), .val (.ref b25), .val (.ref b26), .val (.ref b27), .unset, .unset, .unset, .unset, .unset, .unset]) rfl ?_
    show Steps p.tables e below (T27.setTop (mkF m 76 #[.val (.int p0), .val (.int p1), .val (.int p2), .val (.int p3), .val (.int p4), .val (.ref b1), .val (.ref b4), .val (.ref b9), .val (.ref b16), .val (.ref b25), .val (.ref b26), .val (.ref b27), .unset, .unset, .unset, .unset, .unset, .unset] [])) _
    refine XS.iconst X27.here hx rfl (hb hby at_76) ?_
    show Steps p.tables e below (T27.setTop (mkF m 77 #[.val (.int p0), .val (.int p1), .val (.int p2), .val (.int p3), .val (.int p4), .val (.ref b1), .val (.ref b4), .val (.ref b9), .val (.ref b16), .val (.ref b25), .val (.ref b26), .val (.ref b27), .unset, .unset, .unset, .unset, .unset, .unset] [(.int (3 : Int32))])) _
    refine st28 _ ?_
    show Steps p.tables e below (T28.setTop (mkF m 79 #[.val (.int p0), .val (.int p1), .val (.int p2), .val (.int p3), .val (.int p4), .val (.ref b1), .val (.ref b4), .val (.ref b9), .val (.ref b16), .val (.ref b25), .val (.ref b26), .val (.ref b27), .unset, .unset, .unset, .unset, .unset, .unset] [(.ref b28)])) _
    refine XS.astore X28.here hx rfl (hb hby at_79) rfl rfl (l' := #[.val (.int p0), .val (.int p1), .val (.int p2), .val (.int p3), .val (.int p4), .val (.ref b1), .val (.ref b4), .val (.ref b9), .val (.ref b16), .val (.ref b25), .val (.ref b26), .val (.ref b27), .val (.ref b28), .unset, .unset, .unset, .unset, .unset]) rfl ?_
    show Steps p.tables e below (T28.setTop (mkF m 81 #[.val (.int p0), .val (.int p1), .val (.int p2), .val (.int p3), .val (.int p4), .val (.ref b1), .val (.ref b4), .val (.ref b9), .val (.ref b16), .val (.ref b25), .val (.ref b26), .val (.ref b27), .val (.ref b28), .unset, .unset, .unset, .unset, .unset] [])) _
    refine XS.iloadN X28.here hx rfl (hb hby at_81) rfl ?_
    show Steps p.tables e below (T28.setTop (mkF m 82 #[.val (.int p0), .val (.int p1), .val (.int p2), .val (.int p3), .val (.int p4), .val (.ref b1), .val (.ref b4), .val (.ref b9), .val (.ref b16), .val (.ref b25), .val (.ref b26), .val (.ref b27), .val (.ref b28), .unset, .unset, .unset, .unset, .unset] [(.int p0)])) _
    refine XS.iconst X28.here hx rfl (hb hby at_82) ?_
    show Steps p.tables e below (T28.setTop (mkF m 83 #[.val (.int p0), .val (.int p1), .val (.int p2), .val (.int p3), .val (.int p4), .val (.ref b1), .val (.ref b4), .val (.ref b9), .val (.ref b16), .val (.ref b25), .val (.ref b26), .val (.ref b27), .val (.ref b28), .unset, .unset, .unset, .unset, .unset] [(.int (3 : Int32)), (.int p0)])) _
    refine XS.iand X28.here hx rfl (hb hby at_83) rfl ?_
    show Steps p.tables e below (T28.setTop (mkF m 84 #[.val (.int p0), .val (.int p1), .val (.int p2), .val (.int p3), .val (.int p4), .val (.ref b1), .val (.ref b4), .val (.ref b9), .val (.ref b16), .val (.ref b25), .val (.ref b26), .val (.ref b27), .val (.ref b28), .unset, .unset, .unset, .unset, .unset] [(.int (p0 &&& (3 : Int32)))])) _
    refine XS.istore X28.here hx rfl (hb hby at_84) rfl (l' := #[.val (.int p0), .val (.int p1), .val (.int p2), .val (.int p3), .val (.int p4), .val (.ref b1), .val (.ref b4), .val (.ref b9), .val (.ref b16), .val (.ref b25), .val (.ref b26), .val (.ref b27), .val (.ref b28), .val (.int (p0 &&& (3 : Int32))), .unset, .unset, .unset, .unset]) rfl ?_
    show Steps p.tables e below (T28.setTop (mkF m 86 #[.val (.int p0), .val (.int p1), .val (.int p2), .val (.int p3), .val (.int p4), .val (.ref b1), .val (.ref b4), .val (.ref b9), .val (.ref b16), .val (.ref b25), .val (.ref b26), .val (.ref b27), .val (.ref b28), .val (.int (p0 &&& (3 : Int32))), .unset, .unset, .unset, .unset] [])) _
    refine XS.iload X28.here hx rfl (hb hby at_86) rfl ?_
    exact kt
  by_cases hc88 : (p0 &&& (3 : Int32)) = (0 : Int32)
  · obtain ⟨T30, h30, X30, e30, E30, A30, D30, -, st30⟩ := newO X28 hx hZ hown (hw _ (List.mem_of_getElem? (i := 1) rfl)) (hw _ (List.mem_of_getElem? (i := 2) rfl)) (hw _ (List.mem_of_getElem? (i := 3) rfl)) e28 (g := (mkF m 157 #[.val (.int p0), .val (.int p1), .val (.int p2), .val (.int p3), .val (.int p4), .val (.ref b1), .val (.ref b4), .val (.ref b9), .val (.ref b16), .val (.ref b25), .val (.ref b26), .val (.ref b27), .val (.ref b28), .val (.int (p0 &&& (3 : Int32))), .val (.ref b1), .val (.ref b25), .val (.int p1), .unset] [])) rfl (hb hby at_157) (by decide) (by decide)
    obtain ⟨b30, g30⟩ : ∃ z, z = h28.size := ⟨_, rfl⟩
    rw [← g30] at A30 D30 st30
    have ne_b1_b30 : b1 ≠ b30 := Nat.ne_of_lt (Nat.lt_of_lt_of_le V3_28.lt (Nat.le_of_eq g30.symm))
    have ne_b4_b30 : b4 ≠ b30 := Nat.ne_of_lt (Nat.lt_of_lt_of_le V8_28.lt (Nat.le_of_eq g30.symm))
    have ne_b9_b30 : b9 ≠ b30 := Nat.ne_of_lt (Nat.lt_of_lt_of_le V15_28.lt (Nat.le_of_eq g30.symm))
    have ne_b16_b30 : b16 ≠ b30 := Nat.ne_of_lt (Nat.lt_of_lt_of_le V24_28.lt (Nat.le_of_eq g30.symm))
    have ne_b25_b30 : b25 ≠ b30 := Nat.ne_of_lt (Nat.lt_of_lt_of_le V_b25_28.lt (Nat.le_of_eq g30.symm))
    have ne_b26_b30 : b26 ≠ b30 := Nat.ne_of_lt (Nat.lt_of_lt_of_le V_b26_28.lt (Nat.le_of_eq g30.symm))
    have ne_b27_b30 : b27 ≠ b30 := Nat.ne_of_lt (Nat.lt_of_lt_of_le V_b27_28.lt (Nat.le_of_eq g30.symm))
    have ne_b28_b30 : b28 ≠ b30 := Nat.ne_of_lt (Nat.lt_of_lt_of_le V_b28.lt (Nat.le_of_eq g30.symm))
    have g_b30 : n0 ≤ b30 := Nat.le_trans Z28 (Nat.le_of_eq g30.symm)
    have V3_30 : Arv Z h30 b1 k1 .int (1 : Int32) [(.int p1)] (.int (0 : Int32)) := V3_28.ext E30
    have V8_30 : Arv Z h30 b4 k4 .int (2 : Int32) [(.int p1), (.int p2)] (.int (0 : Int32)) := V8_28.ext E30
    have V15_30 : Arv Z h30 b9 k9 .int (3 : Int32) [(.int p1), (.int p2), (.int p3)] (.int (0 : Int32)) := V15_28.ext E30
    have V24_30 : Arv Z h30 b16 k16 .int (4 : Int32) [(.int p1), (.int p2), (.int p3), (.int p4)] (.int (0 : Int32)) := V24_28.ext E30
    have V_b25_30 : Arv Z h30 b25 k25 .int (0 : Int32) [] (.int (0 : Int32)) := V_b25_28.ext E30
    have V_b26_30 : Arv Z h30 b26 k26 .int (1 : Int32) [(.int (0 : Int32))] (.int (0 : Int32)) := V_b26_28.ext E30
    have V_b27_30 : Arv Z h30 b27 k27 .int (2 : Int32) [(.int (0 : Int32)), (.int (0 : Int32))] (.int (0 : Int32)) := V_b27_28.ext E30
    have V_b28_30 : Arv Z h30 b28 k28 .int (3 : Int32) [(.int (0 : Int32)), (.int (0 : Int32)), (.int (0 : Int32))] (.int (0 : Int32)) := V_b28.ext E30
    have Z30 : n0 ≤ h30.size := Nat.le_trans Z28 E30.1
    have F_nodes_b30 : Fld Z h30 b30 "com/example/watchpost/watchpost/network/Route" "nodes" "[I" .null := D30 (Or.inr (hw _ (List.mem_of_getElem? (i := 11) rfl))) (ty := (.array .int)) (by decide)
    have F_links_b30 : Fld Z h30 b30 "com/example/watchpost/watchpost/network/Route" "links" "[I" .null := D30 (Or.inr (hw _ (List.mem_of_getElem? (i := 13) rfl))) (ty := (.array .int)) (by decide)
    obtain ⟨_, _, ⟨T31, L31, k31, n31⟩, -, X31, ⟨Lc31, hQ31, l31, y31, z31⟩, st31⟩ := X30.specialBack hx (y := (⟨"com/example/watchpost/watchpost/network/Route", "<init>", "([I[I)V"⟩ : MethodName)) rfl hown (mvT hZ (hw _ (List.mem_of_getElem? (i := 4) rfl))) (mvT hZ (hw _ (List.mem_of_getElem? (i := 5) rfl))) (mvT hZ (hw _ (List.mem_of_getElem? (i := 6) rfl))) (by decide) (backOf (W := 1) (rm_init l Z a0 hw [] b30 b1 b25 h30 n0 Z30 A30 F_nodes_b30 F_links_b30 g_b30) hZ (hw _ (List.mem_of_getElem? (i := 6) rfl)) (hw _ (List.mem_of_getElem? (i := 3) rfl)) (by decide) (by decide)) (g := (mkF m 165 #[.val (.int p0), .val (.int p1), .val (.int p2), .val (.int p3), .val (.int p4), .val (.ref b1), .val (.ref b4), .val (.ref b9), .val (.ref b16), .val (.ref b25), .val (.ref b26), .val (.ref b27), .val (.ref b28), .val (.int (p0 &&& (3 : Int32))), .val (.ref b1), .val (.ref b25), .val (.int p1), .unset] [(.ref b25), (.ref b1), (.ref b30), (.ref b30)])) rfl (by rw [hml]; rfl) (Steps.refl _) (a := b30) (argsL := [(.ref b1), (.ref b25)]) (rest := [(.ref b30)]) (lenOf pd_0 rfl) rfl (by show 2 * 0 + _ ≤ _; exact Nat.le_of_eq rfl) (hb hby at_165) (fun _ _ => ⟨rfl, e30, (by decide : 9 + 0 ≤ _), (by decide : 18 + 0 ≤ _)⟩)
    dsimp only [Pt.U, Pt.locs, Pt.cells, Pt.slots] at X31 l31 y31 z31 st31 hQ31
    subst l31 y31 z31
    obtain ⟨rfl, N31q, x31_0, x31_1, x31_2⟩ := hQ31
    have N31 := Fr.app N24 N31q
    have V3_31 : Arv Z T31.heap b1 k1 .int (1 : Int32) [(.int p1)] (.int (0 : Int32)) := V3_30.keep x31_0 (ninS ne_b1_b30 nin0)
    have V8_31 : Arv Z T31.heap b4 k4 .int (2 : Int32) [(.int p1), (.int p2)] (.int (0 : Int32)) := V8_30.keep x31_0 (ninS ne_b4_b30 nin0)
    have V15_31 : Arv Z T31.heap b9 k9 .int (3 : Int32) [(.int p1), (.int p2), (.int p3)] (.int (0 : Int32)) := V15_30.keep x31_0 (ninS ne_b9_b30 nin0)
    have V24_31 : Arv Z T31.heap b16 k16 .int (4 : Int32) [(.int p1), (.int p2), (.int p3), (.int p4)] (.int (0 : Int32)) := V24_30.keep x31_0 (ninS ne_b16_b30 nin0)
    have V_b25_31 : Arv Z T31.heap b25 k25 .int (0 : Int32) [] (.int (0 : Int32)) := V_b25_30.keep x31_0 (ninS ne_b25_b30 nin0)
    have V_b26_31 : Arv Z T31.heap b26 k26 .int (1 : Int32) [(.int (0 : Int32))] (.int (0 : Int32)) := V_b26_30.keep x31_0 (ninS ne_b26_b30 nin0)
    have V_b27_31 : Arv Z T31.heap b27 k27 .int (2 : Int32) [(.int (0 : Int32)), (.int (0 : Int32))] (.int (0 : Int32)) := V_b27_30.keep x31_0 (ninS ne_b27_b30 nin0)
    have V_b28_31 : Arv Z T31.heap b28 k28 .int (3 : Int32) [(.int (0 : Int32)), (.int (0 : Int32)), (.int (0 : Int32))] (.int (0 : Int32)) := V_b28_30.keep x31_0 (ninS ne_b28_b30 nin0)
    have A30_31 : Exa Z T31.heap b30 "com/example/watchpost/watchpost/network/Route" := A30.keep x31_0
    have Z31 : n0 ≤ T31.heap.size := Nat.le_trans Z30 x31_0.1
    obtain ⟨cq32, kq32, q32a, q32b, q32c⟩ := isOf hZ rfl A30_31
    obtain ⟨_, _, ⟨T32, L32, k32, n32⟩, -, X32, ⟨Lc32, hQ32, l32, y32, z32⟩, st32⟩ := X31.virtualBack hx (y := (⟨"com/example/watchpost/watchpost/network/Route", "target", "()I"⟩ : MethodName)) (z := (⟨"com/example/watchpost/watchpost/network/Route", "target", "()I"⟩ : MethodName)) hown (mvT hZ (hw _ (List.mem_of_getElem? (i := 14) rfl))) (mvT hZ (hw _ (List.mem_of_getElem? (i := 15) rfl))) (notFace_of_selects (args := #[]) (mvT hZ (hw _ (List.mem_of_getElem? (i := 17) rfl)))) (mvT hZ (hw _ (List.mem_of_getElem? (i := 17) rfl))) (mvT hZ (hw _ (List.mem_of_getElem? (i := 16) rfl))) (by decide) (backOf (W := 0) (rm_target l Z a0 hw [] b30 b1 k1 (1 : Int32) [(.int p1)] p1 T31.heap n0 Z31 x31_1 V3_31 ⟨by decide, by decide⟩ rfl) hZ (hw _ (List.mem_of_getElem? (i := 18) rfl)) (hw _ (List.mem_of_getElem? (i := 3) rfl)) (by decide) (by decide)) q32a q32c (g := (mkF m 172 #[.val (.int p0), .val (.int p1), .val (.int p2), .val (.int p3), .val (.int p4), .val (.ref b1), .val (.ref b4), .val (.ref b9), .val (.ref b16), .val (.ref b25), .val (.ref b26), .val (.ref b27), .val (.ref b28), .val (.int (p0 &&& (3 : Int32))), .val (.ref b1), .val (.ref b25), .val (.int p1), .val (.ref b30)] [(.ref b30)])) rfl (by rw [hml]; rfl) (Steps.refl _) (argsL := []) (rest := []) (lenOf pd_1 rfl) rfl (by show 2 * 0 + _ ≤ _; exact Nat.le_of_eq rfl) (hb hby at_172) (fun _ _ => ⟨rfl, rfl, (by decide : 9 + 0 ≤ _), (by decide : 18 + 0 ≤ _)⟩)
    dsimp only [Pt.U, Pt.locs, Pt.cells, Pt.slots] at X32 l32 y32 z32 st32 hQ32
    subst l32 y32 z32
    obtain ⟨rfl, N32q, e32⟩ := hQ32
    have N32 := Fr.app N31 N32q
    obtain ⟨fs, hr, hrun, hended, hW, hsame⟩ := X32.leave (v := some (.int (1 : Int32))) (fun h => by rw [Bd.returns] at h; cases h)
    refine ⟨_, _, pre0 _ ?_, hrun, hended, _, _, rfl, ?_, ⟨_, rfl⟩, hW, hsame.mono (by decide) (by decide)⟩
    · refine k29 _ ?_
      show Steps p.tables e below (T28.setTop (mkF m 88 #[.val (.int p0), .val (.int p1), .val (.int p2), .val (.int p3), .val (.int p4), .val (.ref b1), .val (.ref b4), .val (.ref b9), .val (.ref b16), .val (.ref b25), .val (.ref b26), .val (.ref b27), .val (.ref b28), .val (.int (p0 &&& (3 : Int32))), .unset, .unset, .unset, .unset] [(.int (p0 &&& (3 : Int32)))])) _
      refine XS.ifNo X28.here hx rfl (hb hby at_88) rfl ((if0 _ _).trans (teq hc88).2) ?_
      show Steps p.tables e below (T28.setTop (mkF m 91 #[.val (.int p0), .val (.int p1), .val (.int p2), .val (.int p3), .val (.int p4), .val (.ref b1), .val (.ref b4), .val (.ref b9), .val (.ref b16), .val (.ref b25), .val (.ref b26), .val (.ref b27), .val (.ref b28), .val (.int (p0 &&& (3 : Int32))), .unset, .unset, .unset, .unset] [])) _
      refine XS.aload X28.here hx rfl (hb hby at_91) rfl rfl ?_
      show Steps p.tables e below (T28.setTop (mkF m 93 #[.val (.int p0), .val (.int p1), .val (.int p2), .val (.int p3), .val (.int p4), .val (.ref b1), .val (.ref b4), .val (.ref b9), .val (.ref b16), .val (.ref b25), .val (.ref b26), .val (.ref b27), .val (.ref b28), .val (.int (p0 &&& (3 : Int32))), .unset, .unset, .unset, .unset] [(.ref b1)])) _
      refine XS.astore X28.here hx rfl (hb hby at_93) rfl rfl (l' := #[.val (.int p0), .val (.int p1), .val (.int p2), .val (.int p3), .val (.int p4), .val (.ref b1), .val (.ref b4), .val (.ref b9), .val (.ref b16), .val (.ref b25), .val (.ref b26), .val (.ref b27), .val (.ref b28), .val (.int (p0 &&& (3 : Int32))), .val (.ref b1), .unset, .unset, .unset]) rfl ?_
      show Steps p.tables e below (T28.setTop (mkF m 95 #[.val (.int p0), .val (.int p1), .val (.int p2), .val (.int p3), .val (.int p4), .val (.ref b1), .val (.ref b4), .val (.ref b9), .val (.ref b16), .val (.ref b25), .val (.ref b26), .val (.ref b27), .val (.ref b28), .val (.int (p0 &&& (3 : Int32))), .val (.ref b1), .unset, .unset, .unset] [])) _
      refine XS.aload X28.here hx rfl (hb hby at_95) rfl rfl ?_
      show Steps p.tables e below (T28.setTop (mkF m 97 #[.val (.int p0), .val (.int p1), .val (.int p2), .val (.int p3), .val (.int p4), .val (.ref b1), .val (.ref b4), .val (.ref b9), .val (.ref b16), .val (.ref b25), .val (.ref b26), .val (.ref b27), .val (.ref b28), .val (.int (p0 &&& (3 : Int32))), .val (.ref b1), .unset, .unset, .unset] [(.ref b25)])) _
      refine XS.astore X28.here hx rfl (hb hby at_97) rfl rfl (l' := #[.val (.int p0), .val (.int p1), .val (.int p2), .val (.int p3), .val (.int p4), .val (.ref b1), .val (.ref b4), .val (.ref b9), .val (.ref b16), .val (.ref b25), .val (.ref b26), .val (.ref b27), .val (.ref b28), .val (.int (p0 &&& (3 : Int32))), .val (.ref b1), .val (.ref b25), .unset, .unset]) rfl ?_
      show Steps p.tables e below (T28.setTop (mkF m 99 #[.val (.int p0), .val (.int p1), .val (.int p2), .val (.int p3), .val (.int p4), .val (.ref b1), .val (.ref b4), .val (.ref b9), .val (.ref b16), .val (.ref b25), .val (.ref b26), .val (.ref b27), .val (.ref b28), .val (.int (p0 &&& (3 : Int32))), .val (.ref b1), .val (.ref b25), .unset, .unset] [])) _
      refine XS.iloadN X28.here hx rfl (hb hby at_99) rfl ?_
      show Steps p.tables e below (T28.setTop (mkF m 100 #[.val (.int p0), .val (.int p1), .val (.int p2), .val (.int p3), .val (.int p4), .val (.ref b1), .val (.ref b4), .val (.ref b9), .val (.ref b16), .val (.ref b25), .val (.ref b26), .val (.ref b27), .val (.ref b28), .val (.int (p0 &&& (3 : Int32))), .val (.ref b1), .val (.ref b25), .unset, .unset] [(.int p1)])) _
      refine XS.istore X28.here hx rfl (hb hby at_100) rfl (l' := #[.val (.int p0), .val (.int p1), .val (.int p2), .val (.int p3), .val (.int p4), .val (.ref b1), .val (.ref b4), .val (.ref b9), .val (.ref b16), .val (.ref b25), .val (.ref b26), .val (.ref b27), .val (.ref b28), .val (.int (p0 &&& (3 : Int32))), .val (.ref b1), .val (.ref b25), .val (.int p1), .unset]) rfl ?_
      show Steps p.tables e below (T28.setTop (mkF m 102 #[.val (.int p0), .val (.int p1), .val (.int p2), .val (.int p3), .val (.int p4), .val (.ref b1), .val (.ref b4), .val (.ref b9), .val (.ref b16), .val (.ref b25), .val (.ref b26), .val (.ref b27), .val (.ref b28), .val (.int (p0 &&& (3 : Int32))), .val (.ref b1), .val (.ref b25), .val (.int p1), .unset] [])) _
      refine XS.goto X28.here hx rfl (pc0 := 102) (pc' := 157) rfl (hb hby at_102) (by decide) (by decide) ?_
      show Steps p.tables e below (T28.setTop (mkF m 157 #[.val (.int p0), .val (.int p1), .val (.int p2), .val (.int p3), .val (.int p4), .val (.ref b1), .val (.ref b4), .val (.ref b9), .val (.ref b16), .val (.ref b25), .val (.ref b26), .val (.ref b27), .val (.ref b28), .val (.int (p0 &&& (3 : Int32))), .val (.ref b1), .val (.ref b25), .val (.int p1), .unset] [])) _
      refine st30 _ ?_
      show Steps p.tables e below (T30.setTop (mkF m 160 #[.val (.int p0), .val (.int p1), .val (.int p2), .val (.int p3), .val (.int p4), .val (.ref b1), .val (.ref b4), .val (.ref b9), .val (.ref b16), .val (.ref b25), .val (.ref b26), .val (.ref b27), .val (.ref b28), .val (.int (p0 &&& (3 : Int32))), .val (.ref b1), .val (.ref b25), .val (.int p1), .unset] [(.ref b30)])) _
      refine XS.dup X30.here hx rfl (hb hby at_160) rfl rfl ?_
      show Steps p.tables e below (T30.setTop (mkF m 161 #[.val (.int p0), .val (.int p1), .val (.int p2), .val (.int p3), .val (.int p4), .val (.ref b1), .val (.ref b4), .val (.ref b9), .val (.ref b16), .val (.ref b25), .val (.ref b26), .val (.ref b27), .val (.ref b28), .val (.int (p0 &&& (3 : Int32))), .val (.ref b1), .val (.ref b25), .val (.int p1), .unset] [(.ref b30), (.ref b30)])) _
      refine XS.aload X30.here hx rfl (hb hby at_161) rfl rfl ?_
      show Steps p.tables e below (T30.setTop (mkF m 163 #[.val (.int p0), .val (.int p1), .val (.int p2), .val (.int p3), .val (.int p4), .val (.ref b1), .val (.ref b4), .val (.ref b9), .val (.ref b16), .val (.ref b25), .val (.ref b26), .val (.ref b27), .val (.ref b28), .val (.int (p0 &&& (3 : Int32))), .val (.ref b1), .val (.ref b25), .val (.int p1), .unset] [(.ref b1), (.ref b30), (.ref b30)])) _
      refine XS.aload X30.here hx rfl (hb hby at_163) rfl rfl ?_
      show Steps p.tables e below (T30.setTop (mkF m 165 #[.val (.int p0), .val (.int p1), .val (.int p2), .val (.int p3), .val (.int p4), .val (.ref b1), .val (.ref b4), .val (.ref b9), .val (.ref b16), .val (.ref b25), .val (.ref b26), .val (.ref b27), .val (.ref b28), .val (.int (p0 &&& (3 : Int32))), .val (.ref b1), .val (.ref b25), .val (.int p1), .unset] [(.ref b25), (.ref b1), (.ref b30), (.ref b30)])) _
      refine st31.trans ?_
      show Steps p.tables e below (T31.setTop (mkF m 168 #[.val (.int p0), .val (.int p1), .val (.int p2), .val (.int p3), .val (.int p4), .val (.ref b1), .val (.ref b4), .val (.ref b9), .val (.ref b16), .val (.ref b25), .val (.ref b26), .val (.ref b27), .val (.ref b28), .val (.int (p0 &&& (3 : Int32))), .val (.ref b1), .val (.ref b25), .val (.int p1), .unset] [(.ref b30)])) _
      refine XS.astore X31.here hx rfl (hb hby at_168) rfl rfl (l' := #[.val (.int p0), .val (.int p1), .val (.int p2), .val (.int p3), .val (.int p4), .val (.ref b1), .val (.ref b4), .val (.ref b9), .val (.ref b16), .val (.ref b25), .val (.ref b26), .val (.ref b27), .val (.ref b28), .val (.int (p0 &&& (3 : Int32))), .val (.ref b1), .val (.ref b25), .val (.int p1), .val (.ref b30)]) rfl ?_
      show Steps p.tables e below (T31.setTop (mkF m 170 #[.val (.int p0), .val (.int p1), .val (.int p2), .val (.int p3), .val (.int p4), .val (.ref b1), .val (.ref b4), .val (.ref b9), .val (.ref b16), .val (.ref b25), .val (.ref b26), .val (.ref b27), .val (.ref b28), .val (.int (p0 &&& (3 : Int32))), .val (.ref b1), .val (.ref b25), .val (.int p1), .val (.ref b30)] [])) _
      refine XS.aload X31.here hx rfl (hb hby at_170) rfl rfl ?_
      show Steps p.tables e below (T31.setTop (mkF m 172 #[.val (.int p0), .val (.int p1), .val (.int p2), .val (.int p3), .val (.int p4), .val (.ref b1), .val (.ref b4), .val (.ref b9), .val (.ref b16), .val (.ref b25), .val (.ref b26), .val (.ref b27), .val (.ref b28), .val (.int (p0 &&& (3 : Int32))), .val (.ref b1), .val (.ref b25), .val (.int p1), .val (.ref b30)] [(.ref b30)])) _
      refine st32.trans ?_
      show Steps p.tables e below (T32.setTop (mkF m 175 #[.val (.int p0), .val (.int p1), .val (.int p2), .val (.int p3), .val (.int p4), .val (.ref b1), .val (.ref b4), .val (.ref b9), .val (.ref b16), .val (.ref b25), .val (.ref b26), .val (.ref b27), .val (.ref b28), .val (.int (p0 &&& (3 : Int32))), .val (.ref b1), .val (.ref b25), .val (.int p1), .val (.ref b30)] [(.int p1)])) _
      refine XS.iload X32.here hx rfl (hb hby at_175) rfl ?_
      show Steps p.tables e below (T32.setTop (mkF m 177 #[.val (.int p0), .val (.int p1), .val (.int p2), .val (.int p3), .val (.int p4), .val (.ref b1), .val (.ref b4), .val (.ref b9), .val (.ref b16), .val (.ref b25), .val (.ref b26), .val (.ref b27), .val (.ref b28), .val (.int (p0 &&& (3 : Int32))), .val (.ref b1), .val (.ref b25), .val (.int p1), .val (.ref b30)] [(.int p1), (.int p1)])) _
      refine XS.icmpNo X32.here hx rfl (hb hby at_177) rfl (teq (rfl : p1 = p1)).2 ?_
      show Steps p.tables e below (T32.setTop (mkF m 180 #[.val (.int p0), .val (.int p1), .val (.int p2), .val (.int p3), .val (.int p4), .val (.ref b1), .val (.ref b4), .val (.ref b9), .val (.ref b16), .val (.ref b25), .val (.ref b26), .val (.ref b27), .val (.ref b28), .val (.int (p0 &&& (3 : Int32))), .val (.ref b1), .val (.ref b25), .val (.int p1), .val (.ref b30)] [])) _
      refine XS.iconst X32.here hx rfl (hb hby at_180) ?_
      show Steps p.tables e below (T32.setTop (mkF m 181 #[.val (.int p0), .val (.int p1), .val (.int p2), .val (.int p3), .val (.int p4), .val (.ref b1), .val (.ref b4), .val (.ref b9), .val (.ref b16), .val (.ref b25), .val (.ref b26), .val (.ref b27), .val (.ref b28), .val (.int (p0 &&& (3 : Int32))), .val (.ref b1), .val (.ref b25), .val (.int p1), .val (.ref b30)] [(.int (1 : Int32))])) _
      refine XS.goto X32.here hx rfl (pc0 := 181) (pc' := 185) rfl (hb hby at_181) (by decide) (by decide) ?_
      show Steps p.tables e below (T32.setTop (mkF m 185 #[.val (.int p0), .val (.int p1), .val (.int p2), .val (.int p3), .val (.int p4), .val (.ref b1), .val (.ref b4), .val (.ref b9), .val (.ref b16), .val (.ref b25), .val (.ref b26), .val (.ref b27), .val (.ref b28), .val (.int (p0 &&& (3 : Int32))), .val (.ref b1), .val (.ref b25), .val (.int p1), .val (.ref b30)] [(.int (1 : Int32))])) _
      exact retN X32 hx (t := .boolean) Bd.returns (by simp) (hb hby at_185) hr
    · show Q_rm_law Z p0 p1 p2 p3 p4 h0 n0 _ T32.heap _
      rw [e32]
      exact ⟨rfl, N32, trivial⟩
  · have k33 : ∀ target, Steps p.tables e below (T28.setTop (mkF m 108 #[.val (.int p0), .val (.int p1), .val (.int p2), .val (.int p3), .val (.int p4), .val (.ref b1), .val (.ref b4), .val (.ref b9), .val (.ref b16), .val (.ref b25), .val (.ref b26), .val (.ref b27), .val (.ref b28), .val (.int (p0 &&& (3 : Int32))), .unset, .unset, .unset, .unset] [(.int (1 : Int32)), (.int (p0 &&& (3 : Int32)))])) target → Steps p.tables e below (s₁.setTop (mkF m 0 #[.val (.int p0), .val (.int p1), .val (.int p2), .val (.int p3), .val (.int p4), .unset, .unset, .unset, .unset, .unset, .unset, .unset, .unset, .unset, .unset, .unset, .unset, .unset] [])) target := by
      intro target kt
      refine k29 _ ?_
      show Steps p.tables e below (T28.setTop (mkF m 88 #[.val (.int p0), .val (.int p1), .val (.int p2), .val (.int p3), .val (.int p4), .val (.ref b1), .val (.ref b4), .val (.ref b9), .val (.ref b16), .val (.ref b25), .val (.ref b26), .val (.ref b27), .val (.ref b28), .val (.int (p0 &&& (3 : Int32))), .unset, .unset, .unset, .unset] [(.int (p0 &&& (3 : Int32)))])) _
      refine XS.ifYes X28.here hx rfl (pc0 := 88) (pc' := 105) rfl (hb hby at_88) rfl ((if0 _ _).trans (feq hc88).2) (by decide) (by decide) ?_
      show Steps p.tables e below (T28.setTop (mkF m 105 #[.val (.int p0), .val (.int p1), .val (.int p2), .val (.int p3), .val (.int p4), .val (.ref b1), .val (.ref b4), .val (.ref b9), .val (.ref b16), .val (.ref b25), .val (.ref b26), .val (.ref b27), .val (.ref b28), .val (.int (p0 &&& (3 : Int32))), .unset, .unset, .unset, .unset] [])) _
      refine XS.iload X28.here hx rfl (hb hby at_105) rfl ?_
      show Steps p.tables e below (T28.setTop (mkF m 107 #[.val (.int p0), .val (.int p1), .val (.int p2), .val (.int p3), .val (.int p4), .val (.ref b1), .val (.ref b4), .val (.ref b9), .val (.ref b16), .val (.ref b25), .val (.ref b26), .val (.ref b27), .val (.ref b28), .val (.int (p0 &&& (3 : Int32))), .unset, .unset, .unset, .unset] [(.int (p0 &&& (3 : Int32)))])) _
      refine XS.iconst X28.here hx rfl (hb hby at_107) ?_
      exact kt
    by_cases hc108 : (p0 &&& (3 : Int32)) = (1 : Int32)
    · obtain ⟨T34, h34, X34, e34, E34, A34, D34, -, st34⟩ := newO X28 hx hZ hown (hw _ (List.mem_of_getElem? (i := 1) rfl)) (hw _ (List.mem_of_getElem? (i := 2) rfl)) (hw _ (List.mem_of_getElem? (i := 3) rfl)) e28 (g := (mkF m 157 #[.val (.int p0), .val (.int p1), .val (.int p2), .val (.int p3), .val (.int p4), .val (.ref b1), .val (.ref b4), .val (.ref b9), .val (.ref b16), .val (.ref b25), .val (.ref b26), .val (.ref b27), .val (.ref b28), .val (.int (p0 &&& (3 : Int32))), .val (.ref b4), .val (.ref b26), .val (.int p2), .unset] [])) rfl (hb hby at_157) (by decide) (by decide)
      obtain ⟨b34, g34⟩ : ∃ z, z = h28.size := ⟨_, rfl⟩
      rw [← g34] at A34 D34 st34
      have ne_b1_b34 : b1 ≠ b34 := Nat.ne_of_lt (Nat.lt_of_lt_of_le V3_28.lt (Nat.le_of_eq g34.symm))
      have ne_b4_b34 : b4 ≠ b34 := Nat.ne_of_lt (Nat.lt_of_lt_of_le V8_28.lt (Nat.le_of_eq g34.symm))
      have ne_b9_b34 : b9 ≠ b34 := Nat.ne_of_lt (Nat.lt_of_lt_of_le V15_28.lt (Nat.le_of_eq g34.symm))
      have ne_b16_b34 : b16 ≠ b34 := Nat.ne_of_lt (Nat.lt_of_lt_of_le V24_28.lt (Nat.le_of_eq g34.symm))
      have ne_b25_b34 : b25 ≠ b34 := Nat.ne_of_lt (Nat.lt_of_lt_of_le V_b25_28.lt (Nat.le_of_eq g34.symm))
      have ne_b26_b34 : b26 ≠ b34 := Nat.ne_of_lt (Nat.lt_of_lt_of_le V_b26_28.lt (Nat.le_of_eq g34.symm))
      have ne_b27_b34 : b27 ≠ b34 := Nat.ne_of_lt (Nat.lt_of_lt_of_le V_b27_28.lt (Nat.le_of_eq g34.symm))
      have ne_b28_b34 : b28 ≠ b34 := Nat.ne_of_lt (Nat.lt_of_lt_of_le V_b28.lt (Nat.le_of_eq g34.symm))
      have g_b34 : n0 ≤ b34 := Nat.le_trans Z28 (Nat.le_of_eq g34.symm)
      have V3_34 : Arv Z h34 b1 k1 .int (1 : Int32) [(.int p1)] (.int (0 : Int32)) := V3_28.ext E34
      have V8_34 : Arv Z h34 b4 k4 .int (2 : Int32) [(.int p1), (.int p2)] (.int (0 : Int32)) := V8_28.ext E34
      have V15_34 : Arv Z h34 b9 k9 .int (3 : Int32) [(.int p1), (.int p2), (.int p3)] (.int (0 : Int32)) := V15_28.ext E34
      have V24_34 : Arv Z h34 b16 k16 .int (4 : Int32) [(.int p1), (.int p2), (.int p3), (.int p4)] (.int (0 : Int32)) := V24_28.ext E34
      have V_b25_34 : Arv Z h34 b25 k25 .int (0 : Int32) [] (.int (0 : Int32)) := V_b25_28.ext E34
      have V_b26_34 : Arv Z h34 b26 k26 .int (1 : Int32) [(.int (0 : Int32))] (.int (0 : Int32)) := V_b26_28.ext E34
      have V_b27_34 : Arv Z h34 b27 k27 .int (2 : Int32) [(.int (0 : Int32)), (.int (0 : Int32))] (.int (0 : Int32)) := V_b27_28.ext E34
      have V_b28_34 : Arv Z h34 b28 k28 .int (3 : Int32) [(.int (0 : Int32)), (.int (0 : Int32)), (.int (0 : Int32))] (.int (0 : Int32)) := V_b28.ext E34
      have Z34 : n0 ≤ h34.size := Nat.le_trans Z28 E34.1
      have F_nodes_b34 : Fld Z h34 b34 "com/example/watchpost/watchpost/network/Route" "nodes" "[I" .null := D34 (Or.inr (hw _ (List.mem_of_getElem? (i := 11) rfl))) (ty := (.array .int)) (by decide)
      have F_links_b34 : Fld Z h34 b34 "com/example/watchpost/watchpost/network/Route" "links" "[I" .null := D34 (Or.inr (hw _ (List.mem_of_getElem? (i := 13) rfl))) (ty := (.array .int)) (by decide)
      obtain ⟨_, _, ⟨T35, L35, k35, n35⟩, -, X35, ⟨Lc35, hQ35, l35, y35, z35⟩, st35⟩ := X34.specialBack hx (y := (⟨"com/example/watchpost/watchpost/network/Route", "<init>", "([I[I)V"⟩ : MethodName)) rfl hown (mvT hZ (hw _ (List.mem_of_getElem? (i := 4) rfl))) (mvT hZ (hw _ (List.mem_of_getElem? (i := 5) rfl))) (mvT hZ (hw _ (List.mem_of_getElem? (i := 6) rfl))) (by decide) (backOf (W := 1) (rm_init l Z a0 hw [] b34 b4 b26 h34 n0 Z34 A34 F_nodes_b34 F_links_b34 g_b34) hZ (hw _ (List.mem_of_getElem? (i := 6) rfl)) (hw _ (List.mem_of_getElem? (i := 3) rfl)) (by decide) (by decide)) (g := (mkF m 165 #[.val (.int p0), .val (.int p1), .val (.int p2), .val (.int p3), .val (.int p4), .val (.ref b1), .val (.ref b4), .val (.ref b9), .val (.ref b16), .val (.ref b25), .val (.ref b26), .val (.ref b27), .val (.ref b28), .val (.int (p0 &&& (3 : Int32))), .val (.ref b4), .val (.ref b26), .val (.int p2), .unset] [(.ref b26), (.ref b4), (.ref b34), (.ref b34)])) rfl (by rw [hml]; rfl) (Steps.refl _) (a := b34) (argsL := [(.ref b4), (.ref b26)]) (rest := [(.ref b34)]) (lenOf pd_0 rfl) rfl (by show 2 * 0 + _ ≤ _; exact Nat.le_of_eq rfl) (hb hby at_165) (fun _ _ => ⟨rfl, e34, (by decide : 9 + 0 ≤ _), (by decide : 18 + 0 ≤ _)⟩)
      dsimp only [Pt.U, Pt.locs, Pt.cells, Pt.slots] at X35 l35 y35 z35 st35 hQ35
      subst l35 y35 z35
      obtain ⟨rfl, N35q, x35_0, x35_1, x35_2⟩ := hQ35
      have N35 := Fr.app N24 N35q
      have V3_35 : Arv Z T35.heap b1 k1 .int (1 : Int32) [(.int p1)] (.int (0 : Int32)) := V3_34.keep x35_0 (ninS ne_b1_b34 nin0)
      have V8_35 : Arv Z T35.heap b4 k4 .int (2 : Int32) [(.int p1), (.int p2)] (.int (0 : Int32)) := V8_34.keep x35_0 (ninS ne_b4_b34 nin0)
      have V15_35 : Arv Z T35.heap b9 k9 .int (3 : Int32) [(.int p1), (.int p2), (.int p3)] (.int (0 : Int32)) := V15_34.keep x35_0 (ninS ne_b9_b34 nin0)
      have V24_35 : Arv Z T35.heap b16 k16 .int (4 : Int32) [(.int p1), (.int p2), (.int p3), (.int p4)] (.int (0 : Int32)) := V24_34.keep x35_0 (ninS ne_b16_b34 nin0)
      have V_b25_35 : Arv Z T35.heap b25 k25 .int (0 : Int32) [] (.int (0 : Int32)) := V_b25_34.keep x35_0 (ninS ne_b25_b34 nin0)
      have V_b26_35 : Arv Z T35.heap b26 k26 .int (1 : Int32) [(.int (0 : Int32))] (.int (0 : Int32)) := V_b26_34.keep x35_0 (ninS ne_b26_b34 nin0)
      have V_b27_35 : Arv Z T35.heap b27 k27 .int (2 : Int32) [(.int (0 : Int32)), (.int (0 : Int32))] (.int (0 : Int32)) := V_b27_34.keep x35_0 (ninS ne_b27_b34 nin0)
      have V_b28_35 : Arv Z T35.heap b28 k28 .int (3 : Int32) [(.int (0 : Int32)), (.int (0 : Int32)), (.int (0 : Int32))] (.int (0 : Int32)) := V_b28_34.keep x35_0 (ninS ne_b28_b34 nin0)
      have A34_35 : Exa Z T35.heap b34 "com/example/watchpost/watchpost/network/Route" := A34.keep x35_0
      have Z35 : n0 ≤ T35.heap.size := Nat.le_trans Z34 x35_0.1
      obtain ⟨cq36, kq36, q36a, q36b, q36c⟩ := isOf hZ rfl A34_35
      obtain ⟨_, _, ⟨T36, L36, k36, n36⟩, -, X36, ⟨Lc36, hQ36, l36, y36, z36⟩, st36⟩ := X35.virtualBack hx (y := (⟨"com/example/watchpost/watchpost/network/Route", "target", "()I"⟩ : MethodName)) (z := (⟨"com/example/watchpost/watchpost/network/Route", "target", "()I"⟩ : MethodName)) hown (mvT hZ (hw _ (List.mem_of_getElem? (i := 14) rfl))) (mvT hZ (hw _ (List.mem_of_getElem? (i := 15) rfl))) (notFace_of_selects (args := #[]) (mvT hZ (hw _ (List.mem_of_getElem? (i := 17) rfl)))) (mvT hZ (hw _ (List.mem_of_getElem? (i := 17) rfl))) (mvT hZ (hw _ (List.mem_of_getElem? (i := 16) rfl))) (by decide) (backOf (W := 0) (rm_target l Z a0 hw [] b34 b4 k4 (2 : Int32) [(.int p1), (.int p2)] p2 T35.heap n0 Z35 x35_1 V8_35 ⟨by decide, by decide⟩ rfl) hZ (hw _ (List.mem_of_getElem? (i := 18) rfl)) (hw _ (List.mem_of_getElem? (i := 3) rfl)) (by decide) (by decide)) q36a q36c (g := (mkF m 172 #[.val (.int p0), .val (.int p1), .val (.int p2), .val (.int p3), .val (.int p4), .val (.ref b1), .val (.ref b4), .val (.ref b9), .val (.ref b16), .val (.ref b25), .val (.ref b26), .val (.ref b27), .val (.ref b28), .val (.int (p0 &&& (3 : Int32))), .val (.ref b4), .val (.ref b26), .val (.int p2), .val (.ref b34)] [(.ref b34)])) rfl (by rw [hml]; rfl) (Steps.refl _) (argsL := []) (rest := []) (lenOf pd_1 rfl) rfl (by show 2 * 0 + _ ≤ _; exact Nat.le_of_eq rfl) (hb hby at_172) (fun _ _ => ⟨rfl, rfl, (by decide : 9 + 0 ≤ _), (by decide : 18 + 0 ≤ _)⟩)
      dsimp only [Pt.U, Pt.locs, Pt.cells, Pt.slots] at X36 l36 y36 z36 st36 hQ36
      subst l36 y36 z36
      obtain ⟨rfl, N36q, e36⟩ := hQ36
      have N36 := Fr.app N35 N36q
      obtain ⟨fs, hr, hrun, hended, hW, hsame⟩ := X36.leave (v := some (.int (1 : Int32))) (fun h => by rw [Bd.returns] at h; cases h)
      refine ⟨_, _, pre0 _ ?_, hrun, hended, _, _, rfl, ?_, ⟨_, rfl⟩, hW, hsame.mono (by decide) (by decide)⟩
      · refine k33 _ ?_
        show Steps p.tables e below (T28.setTop (mkF m 108 #[.val (.int p0), .val (.int p1), .val (.int p2), .val (.int p3), .val (.int p4), .val (.ref b1), .val (.ref b4), .val (.ref b9), .val (.ref b16), .val (.ref b25), .val (.ref b26), .val (.ref b27), .val (.ref b28), .val (.int (p0 &&& (3 : Int32))), .unset, .unset, .unset, .unset] [(.int (1 : Int32)), (.int (p0 &&& (3 : Int32)))])) _
        refine XS.icmpNo X28.here hx rfl (hb hby at_108) rfl (teq hc108).2 ?_
        show Steps p.tables e below (T28.setTop (mkF m 111 #[.val (.int p0), .val (.int p1), .val (.int p2), .val (.int p3), .val (.int p4), .val (.ref b1), .val (.ref b4), .val (.ref b9), .val (.ref b16), .val (.ref b25), .val (.ref b26), .val (.ref b27), .val (.ref b28), .val (.int (p0 &&& (3 : Int32))), .unset, .unset, .unset, .unset] [])) _
        refine XS.aload X28.here hx rfl (hb hby at_111) rfl rfl ?_
        show Steps p.tables e below (T28.setTop (mkF m 113 #[.val (.int p0), .val (.int p1), .val (.int p2), .val (.int p3), .val (.int p4), .val (.ref b1), .val (.ref b4), .val (.ref b9), .val (.ref b16), .val (.ref b25), .val (.ref b26), .val (.ref b27), .val (.ref b28), .val (.int (p0 &&& (3 : Int32))), .unset, .unset, .unset, .unset] [(.ref b4)])) _
        refine XS.astore X28.here hx rfl (hb hby at_113) rfl rfl (l' := #[.val (.int p0), .val (.int p1), .val (.int p2), .val (.int p3), .val (.int p4), .val (.ref b1), .val (.ref b4), .val (.ref b9), .val (.ref b16), .val (.ref b25), .val (.ref b26), .val (.ref b27), .val (.ref b28), .val (.int (p0 &&& (3 : Int32))), .val (.ref b4), .unset, .unset, .unset]) rfl ?_
        show Steps p.tables e below (T28.setTop (mkF m 115 #[.val (.int p0), .val (.int p1), .val (.int p2), .val (.int p3), .val (.int p4), .val (.ref b1), .val (.ref b4), .val (.ref b9), .val (.ref b16), .val (.ref b25), .val (.ref b26), .val (.ref b27), .val (.ref b28), .val (.int (p0 &&& (3 : Int32))), .val (.ref b4), .unset, .unset, .unset] [])) _
        refine XS.aload X28.here hx rfl (hb hby at_115) rfl rfl ?_
        show Steps p.tables e below (T28.setTop (mkF m 117 #[.val (.int p0), .val (.int p1), .val (.int p2), .val (.int p3), .val (.int p4), .val (.ref b1), .val (.ref b4), .val (.ref b9), .val (.ref b16), .val (.ref b25), .val (.ref b26), .val (.ref b27), .val (.ref b28), .val (.int (p0 &&& (3 : Int32))), .val (.ref b4), .unset, .unset, .unset] [(.ref b26)])) _
        refine XS.astore X28.here hx rfl (hb hby at_117) rfl rfl (l' := #[.val (.int p0), .val (.int p1), .val (.int p2), .val (.int p3), .val (.int p4), .val (.ref b1), .val (.ref b4), .val (.ref b9), .val (.ref b16), .val (.ref b25), .val (.ref b26), .val (.ref b27), .val (.ref b28), .val (.int (p0 &&& (3 : Int32))), .val (.ref b4), .val (.ref b26), .unset, .unset]) rfl ?_
        show Steps p.tables e below (T28.setTop (mkF m 119 #[.val (.int p0), .val (.int p1), .val (.int p2), .val (.int p3), .val (.int p4), .val (.ref b1), .val (.ref b4), .val (.ref b9), .val (.ref b16), .val (.ref b25), .val (.ref b26), .val (.ref b27), .val (.ref b28), .val (.int (p0 &&& (3 : Int32))), .val (.ref b4), .val (.ref b26), .unset, .unset] [])) _
        refine XS.iloadN X28.here hx rfl (hb hby at_119) rfl ?_
        show Steps p.tables e below (T28.setTop (mkF m 120 #[.val (.int p0), .val (.int p1), .val (.int p2), .val (.int p3), .val (.int p4), .val (.ref b1), .val (.ref b4), .val (.ref b9), .val (.ref b16), .val (.ref b25), .val (.ref b26), .val (.ref b27), .val (.ref b28), .val (.int (p0 &&& (3 : Int32))), .val (.ref b4), .val (.ref b26), .unset, .unset] [(.int p2)])) _
        refine XS.istore X28.here hx rfl (hb hby at_120) rfl (l' := #[.val (.int p0), .val (.int p1), .val (.int p2), .val (.int p3), .val (.int p4), .val (.ref b1), .val (.ref b4), .val (.ref b9), .val (.ref b16), .val (.ref b25), .val (.ref b26), .val (.ref b27), .val (.ref b28), .val (.int (p0 &&& (3 : Int32))), .val (.ref b4), .val (.ref b26), .val (.int p2), .unset]) rfl ?_
        show Steps p.tables e below (T28.setTop (mkF m 122 #[.val (.int p0), .val (.int p1), .val (.int p2), .val (.int p3), .val (.int p4), .val (.ref b1), .val (.ref b4), .val (.ref b9), .val (.ref b16), .val (.ref b25), .val (.ref b26), .val (.ref b27), .val (.ref b28), .val (.int (p0 &&& (3 : Int32))), .val (.ref b4), .val (.ref b26), .val (.int p2), .unset] [])) _
        refine XS.goto X28.here hx rfl (pc0 := 122) (pc' := 157) rfl (hb hby at_122) (by decide) (by decide) ?_
        show Steps p.tables e below (T28.setTop (mkF m 157 #[.val (.int p0), .val (.int p1), .val (.int p2), .val (.int p3), .val (.int p4), .val (.ref b1), .val (.ref b4), .val (.ref b9), .val (.ref b16), .val (.ref b25), .val (.ref b26), .val (.ref b27), .val (.ref b28), .val (.int (p0 &&& (3 : Int32))), .val (.ref b4), .val (.ref b26), .val (.int p2), .unset] [])) _
        refine st34 _ ?_
        show Steps p.tables e below (T34.setTop (mkF m 160 #[.val (.int p0), .val (.int p1), .val (.int p2), .val (.int p3), .val (.int p4), .val (.ref b1), .val (.ref b4), .val (.ref b9), .val (.ref b16), .val (.ref b25), .val (.ref b26), .val (.ref b27), .val (.ref b28), .val (.int (p0 &&& (3 : Int32))), .val (.ref b4), .val (.ref b26), .val (.int p2), .unset] [(.ref b34)])) _
        refine XS.dup X34.here hx rfl (hb hby at_160) rfl rfl ?_
        show Steps p.tables e below (T34.setTop (mkF m 161 #[.val (.int p0), .val (.int p1), .val (.int p2), .val (.int p3), .val (.int p4), .val (.ref b1), .val (.ref b4), .val (.ref b9), .val (.ref b16), .val (.ref b25), .val (.ref b26), .val (.ref b27), .val (.ref b28), .val (.int (p0 &&& (3 : Int32))), .val (.ref b4), .val (.ref b26), .val (.int p2), .unset] [(.ref b34), (.ref b34)])) _
        refine XS.aload X34.here hx rfl (hb hby at_161) rfl rfl ?_
        show Steps p.tables e below (T34.setTop (mkF m 163 #[.val (.int p0), .val (.int p1), .val (.int p2), .val (.int p3), .val (.int p4), .val (.ref b1), .val (.ref b4), .val (.ref b9), .val (.ref b16), .val (.ref b25), .val (.ref b26), .val (.ref b27), .val (.ref b28), .val (.int (p0 &&& (3 : Int32))), .val (.ref b4), .val (.ref b26), .val (.int p2), .unset] [(.ref b4), (.ref b34), (.ref b34)])) _
        refine XS.aload X34.here hx rfl (hb hby at_163) rfl rfl ?_
        show Steps p.tables e below (T34.setTop (mkF m 165 #[.val (.int p0), .val (.int p1), .val (.int p2), .val (.int p3), .val (.int p4), .val (.ref b1), .val (.ref b4), .val (.ref b9), .val (.ref b16), .val (.ref b25), .val (.ref b26), .val (.ref b27), .val (.ref b28), .val (.int (p0 &&& (3 : Int32))), .val (.ref b4), .val (.ref b26), .val (.int p2), .unset] [(.ref b26), (.ref b4), (.ref b34), (.ref b34)])) _
        refine st35.trans ?_
        show Steps p.tables e below (T35.setTop (mkF m 168 #[.val (.int p0), .val (.int p1), .val (.int p2), .val (.int p3), .val (.int p4), .val (.ref b1), .val (.ref b4), .val (.ref b9), .val (.ref b16), .val (.ref b25), .val (.ref b26), .val (.ref b27), .val (.ref b28), .val (.int (p0 &&& (3 : Int32))), .val (.ref b4), .val (.ref b26), .val (.int p2), .unset] [(.ref b34)])) _
        refine XS.astore X35.here hx rfl (hb hby at_168) rfl rfl (l' := #[.val (.int p0), .val (.int p1), .val (.int p2), .val (.int p3), .val (.int p4), .val (.ref b1), .val (.ref b4), .val (.ref b9), .val (.ref b16), .val (.ref b25), .val (.ref b26), .val (.ref b27), .val (.ref b28), .val (.int (p0 &&& (3 : Int32))), .val (.ref b4), .val (.ref b26), .val (.int p2), .val (.ref b34)]) rfl ?_
        show Steps p.tables e below (T35.setTop (mkF m 170 #[.val (.int p0), .val (.int p1), .val (.int p2), .val (.int p3), .val (.int p4), .val (.ref b1), .val (.ref b4), .val (.ref b9), .val (.ref b16), .val (.ref b25), .val (.ref b26), .val (.ref b27), .val (.ref b28), .val (.int (p0 &&& (3 : Int32))), .val (.ref b4), .val (.ref b26), .val (.int p2), .val (.ref b34)] [])) _
        refine XS.aload X35.here hx rfl (hb hby at_170) rfl rfl ?_
        show Steps p.tables e below (T35.setTop (mkF m 172 #[.val (.int p0), .val (.int p1), .val (.int p2), .val (.int p3), .val (.int p4), .val (.ref b1), .val (.ref b4), .val (.ref b9), .val (.ref b16), .val (.ref b25), .val (.ref b26), .val (.ref b27), .val (.ref b28), .val (.int (p0 &&& (3 : Int32))), .val (.ref b4), .val (.ref b26), .val (.int p2), .val (.ref b34)] [(.ref b34)])) _
        refine st36.trans ?_
        show Steps p.tables e below (T36.setTop (mkF m 175 #[.val (.int p0), .val (.int p1), .val (.int p2), .val (.int p3), .val (.int p4), .val (.ref b1), .val (.ref b4), .val (.ref b9), .val (.ref b16), .val (.ref b25), .val (.ref b26), .val (.ref b27), .val (.ref b28), .val (.int (p0 &&& (3 : Int32))), .val (.ref b4), .val (.ref b26), .val (.int p2), .val (.ref b34)] [(.int p2)])) _
        refine XS.iload X36.here hx rfl (hb hby at_175) rfl ?_
        show Steps p.tables e below (T36.setTop (mkF m 177 #[.val (.int p0), .val (.int p1), .val (.int p2), .val (.int p3), .val (.int p4), .val (.ref b1), .val (.ref b4), .val (.ref b9), .val (.ref b16), .val (.ref b25), .val (.ref b26), .val (.ref b27), .val (.ref b28), .val (.int (p0 &&& (3 : Int32))), .val (.ref b4), .val (.ref b26), .val (.int p2), .val (.ref b34)] [(.int p2), (.int p2)])) _
        refine XS.icmpNo X36.here hx rfl (hb hby at_177) rfl (teq (rfl : p2 = p2)).2 ?_
        show Steps p.tables e below (T36.setTop (mkF m 180 #[.val (.int p0), .val (.int p1), .val (.int p2), .val (.int p3), .val (.int p4), .val (.ref b1), .val (.ref b4), .val (.ref b9), .val (.ref b16), .val (.ref b25), .val (.ref b26), .val (.ref b27), .val (.ref b28), .val (.int (p0 &&& (3 : Int32))), .val (.ref b4), .val (.ref b26), .val (.int p2), .val (.ref b34)] [])) _
        refine XS.iconst X36.here hx rfl (hb hby at_180) ?_
        show Steps p.tables e below (T36.setTop (mkF m 181 #[.val (.int p0), .val (.int p1), .val (.int p2), .val (.int p3), .val (.int p4), .val (.ref b1), .val (.ref b4), .val (.ref b9), .val (.ref b16), .val (.ref b25), .val (.ref b26), .val (.ref b27), .val (.ref b28), .val (.int (p0 &&& (3 : Int32))), .val (.ref b4), .val (.ref b26), .val (.int p2), .val (.ref b34)] [(.int (1 : Int32))])) _
        refine XS.goto X36.here hx rfl (pc0 := 181) (pc' := 185) rfl (hb hby at_181) (by decide) (by decide) ?_
        show Steps p.tables e below (T36.setTop (mkF m 185 #[.val (.int p0), .val (.int p1), .val (.int p2), .val (.int p3), .val (.int p4), .val (.ref b1), .val (.ref b4), .val (.ref b9), .val (.ref b16), .val (.ref b25), .val (.ref b26), .val (.ref b27), .val (.ref b28), .val (.int (p0 &&& (3 : Int32))), .val (.ref b4), .val (.ref b26), .val (.int p2), .val (.ref b34)] [(.int (1 : Int32))])) _
        exact retN X36 hx (t := .boolean) Bd.returns (by simp) (hb hby at_185) hr
      · show Q_rm_law Z p0 p1 p2 p3 p4 h0 n0 _ T36.heap _
        rw [e36]
        exact ⟨rfl, N36, trivial⟩
    · have k37 : ∀ target, Steps p.tables e below (T28.setTop (mkF m 128 #[.val (.int p0), .val (.int p1), .val (.int p2), .val (.int p3), .val (.int p4), .val (.ref b1), .val (.ref b4), .val (.ref b9), .val (.ref b16), .val (.ref b25), .val (.ref b26), .val (.ref b27), .val (.ref b28), .val (.int (p0 &&& (3 : Int32))), .unset, .unset, .unset, .unset] [(.int (2 : Int32)), (.int (p0 &&& (3 : Int32)))])) target → Steps p.tables e below (s₁.setTop (mkF m 0 #[.val (.int p0), .val (.int p1), .val (.int p2), .val (.int p3), .val (.int p4), .unset, .unset, .unset, .unset, .unset, .unset, .unset, .unset, .unset, .unset, .unset, .unset, .unset] [])) target := by
        intro target kt
        refine k33 _ ?_
        show Steps p.tables e below (T28.setTop (mkF m 108 #[.val (.int p0), .val (.int p1), .val (.int p2), .val (.int p3), .val (.int p4), .val (.ref b1), .val (.ref b4), .val (.ref b9), .val (.ref b16), .val (.ref b25), .val (.ref b26), .val (.ref b27), .val (.ref b28), .val (.int (p0 &&& (3 : Int32))), .unset, .unset, .unset, .unset] [(.int (1 : Int32)), (.int (p0 &&& (3 : Int32)))])) _
        refine XS.icmpYes X28.here hx rfl (pc0 := 108) (pc' := 125) rfl (hb hby at_108) rfl (feq hc108).2 (by decide) (by decide) ?_
        show Steps p.tables e below (T28.setTop (mkF m 125 #[.val (.int p0), .val (.int p1), .val (.int p2), .val (.int p3), .val (.int p4), .val (.ref b1), .val (.ref b4), .val (.ref b9), .val (.ref b16), .val (.ref b25), .val (.ref b26), .val (.ref b27), .val (.ref b28), .val (.int (p0 &&& (3 : Int32))), .unset, .unset, .unset, .unset] [])) _
        refine XS.iload X28.here hx rfl (hb hby at_125) rfl ?_
        show Steps p.tables e below (T28.setTop (mkF m 127 #[.val (.int p0), .val (.int p1), .val (.int p2), .val (.int p3), .val (.int p4), .val (.ref b1), .val (.ref b4), .val (.ref b9), .val (.ref b16), .val (.ref b25), .val (.ref b26), .val (.ref b27), .val (.ref b28), .val (.int (p0 &&& (3 : Int32))), .unset, .unset, .unset, .unset] [(.int (p0 &&& (3 : Int32)))])) _
        refine XS.iconst X28.here hx rfl (hb hby at_127) ?_
        exact kt
      by_cases hc128 : (p0 &&& (3 : Int32)) = (2 : Int32)
      · obtain ⟨T38, h38, X38, e38, E38, A38, D38, -, st38⟩ := newO X28 hx hZ hown (hw _ (List.mem_of_getElem? (i := 1) rfl)) (hw _ (List.mem_of_getElem? (i := 2) rfl)) (hw _ (List.mem_of_getElem? (i := 3) rfl)) e28 (g := (mkF m 157 #[.val (.int p0), .val (.int p1), .val (.int p2), .val (.int p3), .val (.int p4), .val (.ref b1), .val (.ref b4), .val (.ref b9), .val (.ref b16), .val (.ref b25), .val (.ref b26), .val (.ref b27), .val (.ref b28), .val (.int (p0 &&& (3 : Int32))), .val (.ref b9), .val (.ref b27), .val (.int p3), .unset] [])) rfl (hb hby at_157) (by decide) (by decide)
        obtain ⟨b38, g38⟩ : ∃ z, z = h28.size := ⟨_, rfl⟩
        rw [← g38] at A38 D38 st38
        have ne_b1_b38 : b1 ≠ b38 := Nat.ne_of_lt (Nat.lt_of_lt_of_le V3_28.lt (Nat.le_of_eq g38.symm))
        have ne_b4_b38 : b4 ≠ b38 := Nat.ne_of_lt (Nat.lt_of_lt_of_le V8_28.lt (Nat.le_of_eq g38.symm))
        have ne_b9_b38 : b9 ≠ b38 := Nat.ne_of_lt (Nat.lt_of_lt_of_le V15_28.lt (Nat.le_of_eq g38.symm))
        have ne_b16_b38 : b16 ≠ b38 := Nat.ne_of_lt (Nat.lt_of_lt_of_le V24_28.lt (Nat.le_of_eq g38.symm))
        have ne_b25_b38 : b25 ≠ b38 := Nat.ne_of_lt (Nat.lt_of_lt_of_le V_b25_28.lt (Nat.le_of_eq g38.symm))
        have ne_b26_b38 : b26 ≠ b38 := Nat.ne_of_lt (Nat.lt_of_lt_of_le V_b26_28.lt (Nat.le_of_eq g38.symm))
        have ne_b27_b38 : b27 ≠ b38 := Nat.ne_of_lt (Nat.lt_of_lt_of_le V_b27_28.lt (Nat.le_of_eq g38.symm))
        have ne_b28_b38 : b28 ≠ b38 := Nat.ne_of_lt (Nat.lt_of_lt_of_le V_b28.lt (Nat.le_of_eq g38.symm))
        have g_b38 : n0 ≤ b38 := Nat.le_trans Z28 (Nat.le_of_eq g38.symm)
        have V3_38 : Arv Z h38 b1 k1 .int (1 : Int32) [(.int p1)] (.int (0 : Int32)) := V3_28.ext E38
        have V8_38 : Arv Z h38 b4 k4 .int (2 : Int32) [(.int p1), (.int p2)] (.int (0 : Int32)) := V8_28.ext E38
        have V15_38 : Arv Z h38 b9 k9 .int (3 : Int32) [(.int p1), (.int p2), (.int p3)] (.int (0 : Int32)) := V15_28.ext E38
        have V24_38 : Arv Z h38 b16 k16 .int (4 : Int32) [(.int p1), (.int p2), (.int p3), (.int p4)] (.int (0 : Int32)) := V24_28.ext E38
        have V_b25_38 : Arv Z h38 b25 k25 .int (0 : Int32) [] (.int (0 : Int32)) := V_b25_28.ext E38
        have V_b26_38 : Arv Z h38 b26 k26 .int (1 : Int32) [(.int (0 : Int32))] (.int (0 : Int32)) := V_b26_28.ext E38
        have V_b27_38 : Arv Z h38 b27 k27 .int (2 : Int32) [(.int (0 : Int32)), (.int (0 : Int32))] (.int (0 : Int32)) := V_b27_28.ext E38
        have V_b28_38 : Arv Z h38 b28 k28 .int (3 : Int32) [(.int (0 : Int32)), (.int (0 : Int32)), (.int (0 : Int32))] (.int (0 : Int32)) := V_b28.ext E38
        have Z38 : n0 ≤ h38.size := Nat.le_trans Z28 E38.1
        have F_nodes_b38 : Fld Z h38 b38 "com/example/watchpost/watchpost/network/Route" "nodes" "[I" .null := D38 (Or.inr (hw _ (List.mem_of_getElem? (i := 11) rfl))) (ty := (.array .int)) (by decide)
        have F_links_b38 : Fld Z h38 b38 "com/example/watchpost/watchpost/network/Route" "links" "[I" .null := D38 (Or.inr (hw _ (List.mem_of_getElem? (i := 13) rfl))) (ty := (.array .int)) (by decide)
        obtain ⟨_, _, ⟨T39, L39, k39, n39⟩, -, X39, ⟨Lc39, hQ39, l39, y39, z39⟩, st39⟩ := X38.specialBack hx (y := (⟨"com/example/watchpost/watchpost/network/Route", "<init>", "([I[I)V"⟩ : MethodName)) rfl hown (mvT hZ (hw _ (List.mem_of_getElem? (i := 4) rfl))) (mvT hZ (hw _ (List.mem_of_getElem? (i := 5) rfl))) (mvT hZ (hw _ (List.mem_of_getElem? (i := 6) rfl))) (by decide) (backOf (W := 1) (rm_init l Z a0 hw [] b38 b9 b27 h38 n0 Z38 A38 F_nodes_b38 F_links_b38 g_b38) hZ (hw _ (List.mem_of_getElem? (i := 6) rfl)) (hw _ (List.mem_of_getElem? (i := 3) rfl)) (by decide) (by decide)) (g := (mkF m 165 #[.val (.int p0), .val (.int p1), .val (.int p2), .val (.int p3), .val (.int p4), .val (.ref b1), .val (.ref b4), .val (.ref b9), .val (.ref b16), .val (.ref b25), .val (.ref b26), .val (.ref b27), .val (.ref b28), .val (.int (p0 &&& (3 : Int32))), .val (.ref b9), .val (.ref b27), .val (.int p3), .unset] [(.ref b27), (.ref b9), (.ref b38), (.ref b38)])) rfl (by rw [hml]; rfl) (Steps.refl _) (a := b38) (argsL := [(.ref b9), (.ref b27)]) (rest := [(.ref b38)]) (lenOf pd_0 rfl) rfl (by show 2 * 0 + _ ≤ _; exact Nat.le_of_eq rfl) (hb hby at_165) (fun _ _ => ⟨rfl, e38, (by decide : 9 + 0 ≤ _), (by decide : 18 + 0 ≤ _)⟩)
        dsimp only [Pt.U, Pt.locs, Pt.cells, Pt.slots] at X39 l39 y39 z39 st39 hQ39
        subst l39 y39 z39
        obtain ⟨rfl, N39q, x39_0, x39_1, x39_2⟩ := hQ39
        have N39 := Fr.app N24 N39q
        have V3_39 : Arv Z T39.heap b1 k1 .int (1 : Int32) [(.int p1)] (.int (0 : Int32)) := V3_38.keep x39_0 (ninS ne_b1_b38 nin0)
        have V8_39 : Arv Z T39.heap b4 k4 .int (2 : Int32) [(.int p1), (.int p2)] (.int (0 : Int32)) := V8_38.keep x39_0 (ninS ne_b4_b38 nin0)
        have V15_39 : Arv Z T39.heap b9 k9 .int (3 : Int32) [(.int p1), (.int p2), (.int p3)] (.int (0 : Int32)) := V15_38.keep x39_0 (ninS ne_b9_b38 nin0)
        have V24_39 : Arv Z T39.heap b16 k16 .int (4 : Int32) [(.int p1), (.int p2), (.int p3), (.int p4)] (.int (0 : Int32)) := V24_38.keep x39_0 (ninS ne_b16_b38 nin0)
        have V_b25_39 : Arv Z T39.heap b25 k25 .int (0 : Int32) [] (.int (0 : Int32)) := V_b25_38.keep x39_0 (ninS ne_b25_b38 nin0)
        have V_b26_39 : Arv Z T39.heap b26 k26 .int (1 : Int32) [(.int (0 : Int32))] (.int (0 : Int32)) := V_b26_38.keep x39_0 (ninS ne_b26_b38 nin0)
        have V_b27_39 : Arv Z T39.heap b27 k27 .int (2 : Int32) [(.int (0 : Int32)), (.int (0 : Int32))] (.int (0 : Int32)) := V_b27_38.keep x39_0 (ninS ne_b27_b38 nin0)
        have V_b28_39 : Arv Z T39.heap b28 k28 .int (3 : Int32) [(.int (0 : Int32)), (.int (0 : Int32)), (.int (0 : Int32))] (.int (0 : Int32)) := V_b28_38.keep x39_0 (ninS ne_b28_b38 nin0)
        have A38_39 : Exa Z T39.heap b38 "com/example/watchpost/watchpost/network/Route" := A38.keep x39_0
        have Z39 : n0 ≤ T39.heap.size := Nat.le_trans Z38 x39_0.1
        obtain ⟨cq40, kq40, q40a, q40b, q40c⟩ := isOf hZ rfl A38_39
        obtain ⟨_, _, ⟨T40, L40, k40, n40⟩, -, X40, ⟨Lc40, hQ40, l40, y40, z40⟩, st40⟩ := X39.virtualBack hx (y := (⟨"com/example/watchpost/watchpost/network/Route", "target", "()I"⟩ : MethodName)) (z := (⟨"com/example/watchpost/watchpost/network/Route", "target", "()I"⟩ : MethodName)) hown (mvT hZ (hw _ (List.mem_of_getElem? (i := 14) rfl))) (mvT hZ (hw _ (List.mem_of_getElem? (i := 15) rfl))) (notFace_of_selects (args := #[]) (mvT hZ (hw _ (List.mem_of_getElem? (i := 17) rfl)))) (mvT hZ (hw _ (List.mem_of_getElem? (i := 17) rfl))) (mvT hZ (hw _ (List.mem_of_getElem? (i := 16) rfl))) (by decide) (backOf (W := 0) (rm_target l Z a0 hw [] b38 b9 k9 (3 : Int32) [(.int p1), (.int p2), (.int p3)] p3 T39.heap n0 Z39 x39_1 V15_39 ⟨by decide, by decide⟩ rfl) hZ (hw _ (List.mem_of_getElem? (i := 18) rfl)) (hw _ (List.mem_of_getElem? (i := 3) rfl)) (by decide) (by decide)) q40a q40c (g := (mkF m 172 #[.val (.int p0), .val (.int p1), .val (.int p2), .val (.int p3), .val (.int p4), .val (.ref b1), .val (.ref b4), .val (.ref b9), .val (.ref b16), .val (.ref b25), .val (.ref b26), .val (.ref b27), .val (.ref b28), .val (.int (p0 &&& (3 : Int32))), .val (.ref b9), .val (.ref b27), .val (.int p3), .val (.ref b38)] [(.ref b38)])) rfl (by rw [hml]; rfl) (Steps.refl _) (argsL := []) (rest := []) (lenOf pd_1 rfl) rfl (by show 2 * 0 + _ ≤ _; exact Nat.le_of_eq rfl) (hb hby at_172) (fun _ _ => ⟨rfl, rfl, (by decide : 9 + 0 ≤ _), (by decide : 18 + 0 ≤ _)⟩)
        dsimp only [Pt.U, Pt.locs, Pt.cells, Pt.slots] at X40 l40 y40 z40 st40 hQ40
        subst l40 y40 z40
        obtain ⟨rfl, N40q, e40⟩ := hQ40
        have N40 := Fr.app N39 N40q
        obtain ⟨fs, hr, hrun, hended, hW, hsame⟩ := X40.leave (v := some (.int (1 : Int32))) (fun h => by rw [Bd.returns] at h; cases h)
        refine ⟨_, _, pre0 _ ?_, hrun, hended, _, _, rfl, ?_, ⟨_, rfl⟩, hW, hsame.mono (by decide) (by decide)⟩
        · refine k37 _ ?_
          show Steps p.tables e below (T28.setTop (mkF m 128 #[.val (.int p0), .val (.int p1), .val (.int p2), .val (.int p3), .val (.int p4), .val (.ref b1), .val (.ref b4), .val (.ref b9), .val (.ref b16), .val (.ref b25), .val (.ref b26), .val (.ref b27), .val (.ref b28), .val (.int (p0 &&& (3 : Int32))), .unset, .unset, .unset, .unset] [(.int (2 : Int32)), (.int (p0 &&& (3 : Int32)))])) _
          refine XS.icmpNo X28.here hx rfl (hb hby at_128) rfl (teq hc128).2 ?_
          show Steps p.tables e below (T28.setTop (mkF m 131 #[.val (.int p0), .val (.int p1), .val (.int p2), .val (.int p3), .val (.int p4), .val (.ref b1), .val (.ref b4), .val (.ref b9), .val (.ref b16), .val (.ref b25), .val (.ref b26), .val (.ref b27), .val (.ref b28), .val (.int (p0 &&& (3 : Int32))), .unset, .unset, .unset, .unset] [])) _
          refine XS.aload X28.here hx rfl (hb hby at_131) rfl rfl ?_
          show Steps p.tables e below (T28.setTop (mkF m 133 #[.val (.int p0), .val (.int p1), .val (.int p2), .val (.int p3), .val (.int p4), .val (.ref b1), .val (.ref b4), .val (.ref b9), .val (.ref b16), .val (.ref b25), .val (.ref b26), .val (.ref b27), .val (.ref b28), .val (.int (p0 &&& (3 : Int32))), .unset, .unset, .unset, .unset] [(.ref b9)])) _
          refine XS.astore X28.here hx rfl (hb hby at_133) rfl rfl (l' := #[.val (.int p0), .val (.int p1), .val (.int p2), .val (.int p3), .val (.int p4), .val (.ref b1), .val (.ref b4), .val (.ref b9), .val (.ref b16), .val (.ref b25), .val (.ref b26), .val (.ref b27), .val (.ref b28), .val (.int (p0 &&& (3 : Int32))), .val (.ref b9), .unset, .unset, .unset]) rfl ?_
          show Steps p.tables e below (T28.setTop (mkF m 135 #[.val (.int p0), .val (.int p1), .val (.int p2), .val (.int p3), .val (.int p4), .val (.ref b1), .val (.ref b4), .val (.ref b9), .val (.ref b16), .val (.ref b25), .val (.ref b26), .val (.ref b27), .val (.ref b28), .val (.int (p0 &&& (3 : Int32))), .val (.ref b9), .unset, .unset, .unset] [])) _
          refine XS.aload X28.here hx rfl (hb hby at_135) rfl rfl ?_
          show Steps p.tables e below (T28.setTop (mkF m 137 #[.val (.int p0), .val (.int p1), .val (.int p2), .val (.int p3), .val (.int p4), .val (.ref b1), .val (.ref b4), .val (.ref b9), .val (.ref b16), .val (.ref b25), .val (.ref b26), .val (.ref b27), .val (.ref b28), .val (.int (p0 &&& (3 : Int32))), .val (.ref b9), .unset, .unset, .unset] [(.ref b27)])) _
          refine XS.astore X28.here hx rfl (hb hby at_137) rfl rfl (l' := #[.val (.int p0), .val (.int p1), .val (.int p2), .val (.int p3), .val (.int p4), .val (.ref b1), .val (.ref b4), .val (.ref b9), .val (.ref b16), .val (.ref b25), .val (.ref b26), .val (.ref b27), .val (.ref b28), .val (.int (p0 &&& (3 : Int32))), .val (.ref b9), .val (.ref b27), .unset, .unset]) rfl ?_
          show Steps p.tables e below (T28.setTop (mkF m 139 #[.val (.int p0), .val (.int p1), .val (.int p2), .val (.int p3), .val (.int p4), .val (.ref b1), .val (.ref b4), .val (.ref b9), .val (.ref b16), .val (.ref b25), .val (.ref b26), .val (.ref b27), .val (.ref b28), .val (.int (p0 &&& (3 : Int32))), .val (.ref b9), .val (.ref b27), .unset, .unset] [])) _
          refine XS.iloadN X28.here hx rfl (hb hby at_139) rfl ?_
          show Steps p.tables e below (T28.setTop (mkF m 140 #[.val (.int p0), .val (.int p1), .val (.int p2), .val (.int p3), .val (.int p4), .val (.ref b1), .val (.ref b4), .val (.ref b9), .val (.ref b16), .val (.ref b25), .val (.ref b26), .val (.ref b27), .val (.ref b28), .val (.int (p0 &&& (3 : Int32))), .val (.ref b9), .val (.ref b27), .unset, .unset] [(.int p3)])) _
          refine XS.istore X28.here hx rfl (hb hby at_140) rfl (l' := #[.val (.int p0), .val (.int p1), .val (.int p2), .val (.int p3), .val (.int p4), .val (.ref b1), .val (.ref b4), .val (.ref b9), .val (.ref b16), .val (.ref b25), .val (.ref b26), .val (.ref b27), .val (.ref b28), .val (.int (p0 &&& (3 : Int32))), .val (.ref b9), .val (.ref b27), .val (.int p3), .unset]) rfl ?_
          show Steps p.tables e below (T28.setTop (mkF m 142 #[.val (.int p0), .val (.int p1), .val (.int p2), .val (.int p3), .val (.int p4), .val (.ref b1), .val (.ref b4), .val (.ref b9), .val (.ref b16), .val (.ref b25), .val (.ref b26), .val (.ref b27), .val (.ref b28), .val (.int (p0 &&& (3 : Int32))), .val (.ref b9), .val (.ref b27), .val (.int p3), .unset] [])) _
          refine XS.goto X28.here hx rfl (pc0 := 142) (pc' := 157) rfl (hb hby at_142) (by decide) (by decide) ?_
          show Steps p.tables e below (T28.setTop (mkF m 157 #[.val (.int p0), .val (.int p1), .val (.int p2), .val (.int p3), .val (.int p4), .val (.ref b1), .val (.ref b4), .val (.ref b9), .val (.ref b16), .val (.ref b25), .val (.ref b26), .val (.ref b27), .val (.ref b28), .val (.int (p0 &&& (3 : Int32))), .val (.ref b9), .val (.ref b27), .val (.int p3), .unset] [])) _
          refine st38 _ ?_
          show Steps p.tables e below (T38.setTop (mkF m 160 #[.val (.int p0), .val (.int p1), .val (.int p2), .val (.int p3), .val (.int p4), .val (.ref b1), .val (.ref b4), .val (.ref b9), .val (.ref b16), .val (.ref b25), .val (.ref b26), .val (.ref b27), .val (.ref b28), .val (.int (p0 &&& (3 : Int32))), .val (.ref b9), .val (.ref b27), .val (.int p3), .unset] [(.ref b38)])) _
          refine XS.dup X38.here hx rfl (hb hby at_160) rfl rfl ?_
          show Steps p.tables e below (T38.setTop (mkF m 161 #[.val (.int p0), .val (.int p1), .val (.int p2), .val (.int p3), .val (.int p4), .val (.ref b1), .val (.ref b4), .val (.ref b9), .val (.ref b16), .val (.ref b25), .val (.ref b26), .val (.ref b27), .val (.ref b28), .val (.int (p0 &&& (3 : Int32))), .val (.ref b9), .val (.ref b27), .val (.int p3), .unset] [(.ref b38), (.ref b38)])) _
          refine XS.aload X38.here hx rfl (hb hby at_161) rfl rfl ?_
          show Steps p.tables e below (T38.setTop (mkF m 163 #[.val (.int p0), .val (.int p1), .val (.int p2), .val (.int p3), .val (.int p4), .val (.ref b1), .val (.ref b4), .val (.ref b9), .val (.ref b16), .val (.ref b25), .val (.ref b26), .val (.ref b27), .val (.ref b28), .val (.int (p0 &&& (3 : Int32))), .val (.ref b9), .val (.ref b27), .val (.int p3), .unset] [(.ref b9), (.ref b38), (.ref b38)])) _
          refine XS.aload X38.here hx rfl (hb hby at_163) rfl rfl ?_
          show Steps p.tables e below (T38.setTop (mkF m 165 #[.val (.int p0), .val (.int p1), .val (.int p2), .val (.int p3), .val (.int p4), .val (.ref b1), .val (.ref b4), .val (.ref b9), .val (.ref b16), .val (.ref b25), .val (.ref b26), .val (.ref b27), .val (.ref b28), .val (.int (p0 &&& (3 : Int32))), .val (.ref b9), .val (.ref b27), .val (.int p3), .unset] [(.ref b27), (.ref b9), (.ref b38), (.ref b38)])) _
          refine st39.trans ?_
          show Steps p.tables e below (T39.setTop (mkF m 168 #[.val (.int p0), .val (.int p1), .val (.int p2), .val (.int p3), .val (.int p4), .val (.ref b1), .val (.ref b4), .val (.ref b9), .val (.ref b16), .val (.ref b25), .val (.ref b26), .val (.ref b27), .val (.ref b28), .val (.int (p0 &&& (3 : Int32))), .val (.ref b9), .val (.ref b27), .val (.int p3), .unset] [(.ref b38)])) _
          refine XS.astore X39.here hx rfl (hb hby at_168) rfl rfl (l' := #[.val (.int p0), .val (.int p1), .val (.int p2), .val (.int p3), .val (.int p4), .val (.ref b1), .val (.ref b4), .val (.ref b9), .val (.ref b16), .val (.ref b25), .val (.ref b26), .val (.ref b27), .val (.ref b28), .val (.int (p0 &&& (3 : Int32))), .val (.ref b9), .val (.ref b27), .val (.int p3), .val (.ref b38)]) rfl ?_
          show Steps p.tables e below (T39.setTop (mkF m 170 #[.val (.int p0), .val (.int p1), .val (.int p2), .val (.int p3), .val (.int p4), .val (.ref b1), .val (.ref b4), .val (.ref b9), .val (.ref b16), .val (.ref b25), .val (.ref b26), .val (.ref b27), .val (.ref b28), .val (.int (p0 &&& (3 : Int32))), .val (.ref b9), .val (.ref b27), .val (.int p3), .val (.ref b38)] [])) _
          refine XS.aload X39.here hx rfl (hb hby at_170) rfl rfl ?_
          show Steps p.tables e below (T39.setTop (mkF m 172 #[.val (.int p0), .val (.int p1), .val (.int p2), .val (.int p3), .val (.int p4), .val (.ref b1), .val (.ref b4), .val (.ref b9), .val (.ref b16), .val (.ref b25), .val (.ref b26), .val (.ref b27), .val (.ref b28), .val (.int (p0 &&& (3 : Int32))), .val (.ref b9), .val (.ref b27), .val (.int p3), .val (.ref b38)] [(.ref b38)])) _
          refine st40.trans ?_
          show Steps p.tables e below (T40.setTop (mkF m 175 #[.val (.int p0), .val (.int p1), .val (.int p2), .val (.int p3), .val (.int p4), .val (.ref b1), .val (.ref b4), .val (.ref b9), .val (.ref b16), .val (.ref b25), .val (.ref b26), .val (.ref b27), .val (.ref b28), .val (.int (p0 &&& (3 : Int32))), .val (.ref b9), .val (.ref b27), .val (.int p3), .val (.ref b38)] [(.int p3)])) _
          refine XS.iload X40.here hx rfl (hb hby at_175) rfl ?_
          show Steps p.tables e below (T40.setTop (mkF m 177 #[.val (.int p0), .val (.int p1), .val (.int p2), .val (.int p3), .val (.int p4), .val (.ref b1), .val (.ref b4), .val (.ref b9), .val (.ref b16), .val (.ref b25), .val (.ref b26), .val (.ref b27), .val (.ref b28), .val (.int (p0 &&& (3 : Int32))), .val (.ref b9), .val (.ref b27), .val (.int p3), .val (.ref b38)] [(.int p3), (.int p3)])) _
          refine XS.icmpNo X40.here hx rfl (hb hby at_177) rfl (teq (rfl : p3 = p3)).2 ?_
          show Steps p.tables e below (T40.setTop (mkF m 180 #[.val (.int p0), .val (.int p1), .val (.int p2), .val (.int p3), .val (.int p4), .val (.ref b1), .val (.ref b4), .val (.ref b9), .val (.ref b16), .val (.ref b25), .val (.ref b26), .val (.ref b27), .val (.ref b28), .val (.int (p0 &&& (3 : Int32))), .val (.ref b9), .val (.ref b27), .val (.int p3), .val (.ref b38)] [])) _
          refine XS.iconst X40.here hx rfl (hb hby at_180) ?_
          show Steps p.tables e below (T40.setTop (mkF m 181 #[.val (.int p0), .val (.int p1), .val (.int p2), .val (.int p3), .val (.int p4), .val (.ref b1), .val (.ref b4), .val (.ref b9), .val (.ref b16), .val (.ref b25), .val (.ref b26), .val (.ref b27), .val (.ref b28), .val (.int (p0 &&& (3 : Int32))), .val (.ref b9), .val (.ref b27), .val (.int p3), .val (.ref b38)] [(.int (1 : Int32))])) _
          refine XS.goto X40.here hx rfl (pc0 := 181) (pc' := 185) rfl (hb hby at_181) (by decide) (by decide) ?_
          show Steps p.tables e below (T40.setTop (mkF m 185 #[.val (.int p0), .val (.int p1), .val (.int p2), .val (.int p3), .val (.int p4), .val (.ref b1), .val (.ref b4), .val (.ref b9), .val (.ref b16), .val (.ref b25), .val (.ref b26), .val (.ref b27), .val (.ref b28), .val (.int (p0 &&& (3 : Int32))), .val (.ref b9), .val (.ref b27), .val (.int p3), .val (.ref b38)] [(.int (1 : Int32))])) _
          exact retN X40 hx (t := .boolean) Bd.returns (by simp) (hb hby at_185) hr
        · show Q_rm_law Z p0 p1 p2 p3 p4 h0 n0 _ T40.heap _
          rw [e40]
          exact ⟨rfl, N40, trivial⟩
      · obtain ⟨T41, h41, X41, e41, E41, A41, D41, -, st41⟩ := newO X28 hx hZ hown (hw _ (List.mem_of_getElem? (i := 1) rfl)) (hw _ (List.mem_of_getElem? (i := 2) rfl)) (hw _ (List.mem_of_getElem? (i := 3) rfl)) e28 (g := (mkF m 157 #[.val (.int p0), .val (.int p1), .val (.int p2), .val (.int p3), .val (.int p4), .val (.ref b1), .val (.ref b4), .val (.ref b9), .val (.ref b16), .val (.ref b25), .val (.ref b26), .val (.ref b27), .val (.ref b28), .val (.int (p0 &&& (3 : Int32))), .val (.ref b16), .val (.ref b28), .val (.int p4), .unset] [])) rfl (hb hby at_157) (by decide) (by decide)
        obtain ⟨b41, g41⟩ : ∃ z, z = h28.size := ⟨_, rfl⟩
        rw [← g41] at A41 D41 st41
        have ne_b1_b41 : b1 ≠ b41 := Nat.ne_of_lt (Nat.lt_of_lt_of_le V3_28.lt (Nat.le_of_eq g41.symm))
        have ne_b4_b41 : b4 ≠ b41 := Nat.ne_of_lt (Nat.lt_of_lt_of_le V8_28.lt (Nat.le_of_eq g41.symm))
        have ne_b9_b41 : b9 ≠ b41 := Nat.ne_of_lt (Nat.lt_of_lt_of_le V15_28.lt (Nat.le_of_eq g41.symm))
        have ne_b16_b41 : b16 ≠ b41 := Nat.ne_of_lt (Nat.lt_of_lt_of_le V24_28.lt (Nat.le_of_eq g41.symm))
        have ne_b25_b41 : b25 ≠ b41 := Nat.ne_of_lt (Nat.lt_of_lt_of_le V_b25_28.lt (Nat.le_of_eq g41.symm))
        have ne_b26_b41 : b26 ≠ b41 := Nat.ne_of_lt (Nat.lt_of_lt_of_le V_b26_28.lt (Nat.le_of_eq g41.symm))
        have ne_b27_b41 : b27 ≠ b41 := Nat.ne_of_lt (Nat.lt_of_lt_of_le V_b27_28.lt (Nat.le_of_eq g41.symm))
        have ne_b28_b41 : b28 ≠ b41 := Nat.ne_of_lt (Nat.lt_of_lt_of_le V_b28.lt (Nat.le_of_eq g41.symm))
        have g_b41 : n0 ≤ b41 := Nat.le_trans Z28 (Nat.le_of_eq g41.symm)
        have V3_41 : Arv Z h41 b1 k1 .int (1 : Int32) [(.int p1)] (.int (0 : Int32)) := V3_28.ext E41
        have V8_41 : Arv Z h41 b4 k4 .int (2 : Int32) [(.int p1), (.int p2)] (.int (0 : Int32)) := V8_28.ext E41
        have V15_41 : Arv Z h41 b9 k9 .int (3 : Int32) [(.int p1), (.int p2), (.int p3)] (.int (0 : Int32)) := V15_28.ext E41
        have V24_41 : Arv Z h41 b16 k16 .int (4 : Int32) [(.int p1), (.int p2), (.int p3), (.int p4)] (.int (0 : Int32)) := V24_28.ext E41
        have V_b25_41 : Arv Z h41 b25 k25 .int (0 : Int32) [] (.int (0 : Int32)) := V_b25_28.ext E41
        have V_b26_41 : Arv Z h41 b26 k26 .int (1 : Int32) [(.int (0 : Int32))] (.int (0 : Int32)) := V_b26_28.ext E41
        have V_b27_41 : Arv Z h41 b27 k27 .int (2 : Int32) [(.int (0 : Int32)), (.int (0 : Int32))] (.int (0 : Int32)) := V_b27_28.ext E41
        have V_b28_41 : Arv Z h41 b28 k28 .int (3 : Int32) [(.int (0 : Int32)), (.int (0 : Int32)), (.int (0 : Int32))] (.int (0 : Int32)) := V_b28.ext E41
        have Z41 : n0 ≤ h41.size := Nat.le_trans Z28 E41.1
        have F_nodes_b41 : Fld Z h41 b41 "com/example/watchpost/watchpost/network/Route" "nodes" "[I" .null := D41 (Or.inr (hw _ (List.mem_of_getElem? (i := 11) rfl))) (ty := (.array .int)) (by decide)
        have F_links_b41 : Fld Z h41 b41 "com/example/watchpost/watchpost/network/Route" "links" "[I" .null := D41 (Or.inr (hw _ (List.mem_of_getElem? (i := 13) rfl))) (ty := (.array .int)) (by decide)
        obtain ⟨_, _, ⟨T42, L42, k42, n42⟩, -, X42, ⟨Lc42, hQ42, l42, y42, z42⟩, st42⟩ := X41.specialBack hx (y := (⟨"com/example/watchpost/watchpost/network/Route", "<init>", "([I[I)V"⟩ : MethodName)) rfl hown (mvT hZ (hw _ (List.mem_of_getElem? (i := 4) rfl))) (mvT hZ (hw _ (List.mem_of_getElem? (i := 5) rfl))) (mvT hZ (hw _ (List.mem_of_getElem? (i := 6) rfl))) (by decide) (backOf (W := 1) (rm_init l Z a0 hw [] b41 b16 b28 h41 n0 Z41 A41 F_nodes_b41 F_links_b41 g_b41) hZ (hw _ (List.mem_of_getElem? (i := 6) rfl)) (hw _ (List.mem_of_getElem? (i := 3) rfl)) (by decide) (by decide)) (g := (mkF m 165 #[.val (.int p0), .val (.int p1), .val (.int p2), .val (.int p3), .val (.int p4), .val (.ref b1), .val (.ref b4), .val (.ref b9), .val (.ref b16), .val (.ref b25), .val (.ref b26), .val (.ref b27), .val (.ref b28), .val (.int (p0 &&& (3 : Int32))), .val (.ref b16), .val (.ref b28), .val (.int p4), .unset] [(.ref b28), (.ref b16), (.ref b41), (.ref b41)])) rfl (by rw [hml]; rfl) (Steps.refl _) (a := b41) (argsL := [(.ref b16), (.ref b28)]) (rest := [(.ref b41)]) (lenOf pd_0 rfl) rfl (by show 2 * 0 + _ ≤ _; exact Nat.le_of_eq rfl) (hb hby at_165) (fun _ _ => ⟨rfl, e41, (by decide : 9 + 0 ≤ _), (by decide : 18 + 0 ≤ _)⟩)
        dsimp only [Pt.U, Pt.locs, Pt.cells, Pt.slots] at X42 l42 y42 z42 st42 hQ42
        subst l42 y42 z42
        obtain ⟨rfl, N42q, x42_0, x42_1, x42_2⟩ := hQ42
        have N42 := Fr.app N24 N42q
        have V3_42 : Arv Z T42.heap b1 k1 .int (1 : Int32) [(.int p1)] (.int (0 : Int32)) := V3_41.keep x42_0 (ninS ne_b1_b41 nin0)
        have V8_42 : Arv Z T42.heap b4 k4 .int (2 : Int32) [(.int p1), (.int p2)] (.int (0 : Int32)) := V8_41.keep x42_0 (ninS ne_b4_b41 nin0)
        have V15_42 : Arv Z T42.heap b9 k9 .int (3 : Int32) [(.int p1), (.int p2), (.int p3)] (.int (0 : Int32)) := V15_41.keep x42_0 (ninS ne_b9_b41 nin0)
        have V24_42 : Arv Z T42.heap b16 k16 .int (4 : Int32) [(.int p1), (.int p2), (.int p3), (.int p4)] (.int (0 : Int32)) := V24_41.keep x42_0 (ninS ne_b16_b41 nin0)
        have V_b25_42 : Arv Z T42.heap b25 k25 .int (0 : Int32) [] (.int (0 : Int32)) := V_b25_41.keep x42_0 (ninS ne_b25_b41 nin0)
        have V_b26_42 : Arv Z T42.heap b26 k26 .int (1 : Int32) [(.int (0 : Int32))] (.int (0 : Int32)) := V_b26_41.keep x42_0 (ninS ne_b26_b41 nin0)
        have V_b27_42 : Arv Z T42.heap b27 k27 .int (2 : Int32) [(.int (0 : Int32)), (.int (0 : Int32))] (.int (0 : Int32)) := V_b27_41.keep x42_0 (ninS ne_b27_b41 nin0)
        have V_b28_42 : Arv Z T42.heap b28 k28 .int (3 : Int32) [(.int (0 : Int32)), (.int (0 : Int32)), (.int (0 : Int32))] (.int (0 : Int32)) := V_b28_41.keep x42_0 (ninS ne_b28_b41 nin0)
        have A41_42 : Exa Z T42.heap b41 "com/example/watchpost/watchpost/network/Route" := A41.keep x42_0
        have Z42 : n0 ≤ T42.heap.size := Nat.le_trans Z41 x42_0.1
        obtain ⟨cq43, kq43, q43a, q43b, q43c⟩ := isOf hZ rfl A41_42
        obtain ⟨_, _, ⟨T43, L43, k43, n43⟩, -, X43, ⟨Lc43, hQ43, l43, y43, z43⟩, st43⟩ := X42.virtualBack hx (y := (⟨"com/example/watchpost/watchpost/network/Route", "target", "()I"⟩ : MethodName)) (z := (⟨"com/example/watchpost/watchpost/network/Route", "target", "()I"⟩ : MethodName)) hown (mvT hZ (hw _ (List.mem_of_getElem? (i := 14) rfl))) (mvT hZ (hw _ (List.mem_of_getElem? (i := 15) rfl))) (notFace_of_selects (args := #[]) (mvT hZ (hw _ (List.mem_of_getElem? (i := 17) rfl)))) (mvT hZ (hw _ (List.mem_of_getElem? (i := 17) rfl))) (mvT hZ (hw _ (List.mem_of_getElem? (i := 16) rfl))) (by decide) (backOf (W := 0) (rm_target l Z a0 hw [] b41 b16 k16 (4 : Int32) [(.int p1), (.int p2), (.int p3), (.int p4)] p4 T42.heap n0 Z42 x42_1 V24_42 ⟨by decide, by decide⟩ rfl) hZ (hw _ (List.mem_of_getElem? (i := 18) rfl)) (hw _ (List.mem_of_getElem? (i := 3) rfl)) (by decide) (by decide)) q43a q43c (g := (mkF m 172 #[.val (.int p0), .val (.int p1), .val (.int p2), .val (.int p3), .val (.int p4), .val (.ref b1), .val (.ref b4), .val (.ref b9), .val (.ref b16), .val (.ref b25), .val (.ref b26), .val (.ref b27), .val (.ref b28), .val (.int (p0 &&& (3 : Int32))), .val (.ref b16), .val (.ref b28), .val (.int p4), .val (.ref b41)] [(.ref b41)])) rfl (by rw [hml]; rfl) (Steps.refl _) (argsL := []) (rest := []) (lenOf pd_1 rfl) rfl (by show 2 * 0 + _ ≤ _; exact Nat.le_of_eq rfl) (hb hby at_172) (fun _ _ => ⟨rfl, rfl, (by decide : 9 + 0 ≤ _), (by decide : 18 + 0 ≤ _)⟩)
        dsimp only [Pt.U, Pt.locs, Pt.cells, Pt.slots] at X43 l43 y43 z43 st43 hQ43
        subst l43 y43 z43
        obtain ⟨rfl, N43q, e43⟩ := hQ43
        have N43 := Fr.app N42 N43q
        obtain ⟨fs, hr, hrun, hended, hW, hsame⟩ := X43.leave (v := some (.int (1 : Int32))) (fun h => by rw [Bd.returns] at h; cases h)
        refine ⟨_, _, pre0 _ ?_, hrun, hended, _, _, rfl, ?_, ⟨_, rfl⟩, hW, hsame.mono (by decide) (by decide)⟩
        · refine k37 _ ?_
          show Steps p.tables e below (T28.setTop (mkF m 128 #[.val (.int p0), .val (.int p1), .val (.int p2), .val (.int p3), .val (.int p4), .val (.ref b1), .val (.ref b4), .val (.ref b9), .val (.ref b16), .val (.ref b25), .val (.ref b26), .val (.ref b27), .val (.ref b28), .val (.int (p0 &&& (3 : Int32))), .unset, .unset, .unset, .unset] [(.int (2 : Int32)), (.int (p0 &&& (3 : Int32)))])) _
          refine XS.icmpYes X28.here hx rfl (pc0 := 128) (pc' := 145) rfl (hb hby at_128) rfl (feq hc128).2 (by decide) (by decide) ?_
          show Steps p.tables e below (T28.setTop (mkF m 145 #[.val (.int p0), .val (.int p1), .val (.int p2), .val (.int p3), .val (.int p4), .val (.ref b1), .val (.ref b4), .val (.ref b9), .val (.ref b16), .val (.ref b25), .val (.ref b26), .val (.ref b27), .val (.ref b28), .val (.int (p0 &&& (3 : Int32))), .unset, .unset, .unset, .unset] [])) _
          refine XS.aload X28.here hx rfl (hb hby at_145) rfl rfl ?_
          show Steps p.tables e below (T28.setTop (mkF m 147 #[.val (.int p0), .val (.int p1), .val (.int p2), .val (.int p3), .val (.int p4), .val (.ref b1), .val (.ref b4), .val (.ref b9), .val (.ref b16), .val (.ref b25), .val (.ref b26), .val (.ref b27), .val (.ref b28), .val (.int (p0 &&& (3 : Int32))), .unset, .unset, .unset, .unset] [(.ref b16)])) _
          refine XS.astore X28.here hx rfl (hb hby at_147) rfl rfl (l' := #[.val (.int p0), .val (.int p1), .val (.int p2), .val (.int p3), .val (.int p4), .val (.ref b1), .val (.ref b4), .val (.ref b9), .val (.ref b16), .val (.ref b25), .val (.ref b26), .val (.ref b27), .val (.ref b28), .val (.int (p0 &&& (3 : Int32))), .val (.ref b16), .unset, .unset, .unset]) rfl ?_
          show Steps p.tables e below (T28.setTop (mkF m 149 #[.val (.int p0), .val (.int p1), .val (.int p2), .val (.int p3), .val (.int p4), .val (.ref b1), .val (.ref b4), .val (.ref b9), .val (.ref b16), .val (.ref b25), .val (.ref b26), .val (.ref b27), .val (.ref b28), .val (.int (p0 &&& (3 : Int32))), .val (.ref b16), .unset, .unset, .unset] [])) _
          refine XS.aload X28.here hx rfl (hb hby at_149) rfl rfl ?_
          show Steps p.tables e below (T28.setTop (mkF m 151 #[.val (.int p0), .val (.int p1), .val (.int p2), .val (.int p3), .val (.int p4), .val (.ref b1), .val (.ref b4), .val (.ref b9), .val (.ref b16), .val (.ref b25), .val (.ref b26), .val (.ref b27), .val (.ref b28), .val (.int (p0 &&& (3 : Int32))), .val (.ref b16), .unset, .unset, .unset] [(.ref b28)])) _
          refine XS.astore X28.here hx rfl (hb hby at_151) rfl rfl (l' := #[.val (.int p0), .val (.int p1), .val (.int p2), .val (.int p3), .val (.int p4), .val (.ref b1), .val (.ref b4), .val (.ref b9), .val (.ref b16), .val (.ref b25), .val (.ref b26), .val (.ref b27), .val (.ref b28), .val (.int (p0 &&& (3 : Int32))), .val (.ref b16), .val (.ref b28), .unset, .unset]) rfl ?_
          show Steps p.tables e below (T28.setTop (mkF m 153 #[.val (.int p0), .val (.int p1), .val (.int p2), .val (.int p3), .val (.int p4), .val (.ref b1), .val (.ref b4), .val (.ref b9), .val (.ref b16), .val (.ref b25), .val (.ref b26), .val (.ref b27), .val (.ref b28), .val (.int (p0 &&& (3 : Int32))), .val (.ref b16), .val (.ref b28), .unset, .unset] [])) _
          refine XS.iload X28.here hx rfl (hb hby at_153) rfl ?_
          show Steps p.tables e below (T28.setTop (mkF m 155 #[.val (.int p0), .val (.int p1), .val (.int p2), .val (.int p3), .val (.int p4), .val (.ref b1), .val (.ref b4), .val (.ref b9), .val (.ref b16), .val (.ref b25), .val (.ref b26), .val (.ref b27), .val (.ref b28), .val (.int (p0 &&& (3 : Int32))), .val (.ref b16), .val (.ref b28), .unset, .unset] [(.int p4)])) _
          refine XS.istore X28.here hx rfl (hb hby at_155) rfl (l' := #[.val (.int p0), .val (.int p1), .val (.int p2), .val (.int p3), .val (.int p4), .val (.ref b1), .val (.ref b4), .val (.ref b9), .val (.ref b16), .val (.ref b25), .val (.ref b26), .val (.ref b27), .val (.ref b28), .val (.int (p0 &&& (3 : Int32))), .val (.ref b16), .val (.ref b28), .val (.int p4), .unset]) rfl ?_
          show Steps p.tables e below (T28.setTop (mkF m 157 #[.val (.int p0), .val (.int p1), .val (.int p2), .val (.int p3), .val (.int p4), .val (.ref b1), .val (.ref b4), .val (.ref b9), .val (.ref b16), .val (.ref b25), .val (.ref b26), .val (.ref b27), .val (.ref b28), .val (.int (p0 &&& (3 : Int32))), .val (.ref b16), .val (.ref b28), .val (.int p4), .unset] [])) _
          refine st41 _ ?_
          show Steps p.tables e below (T41.setTop (mkF m 160 #[.val (.int p0), .val (.int p1), .val (.int p2), .val (.int p3), .val (.int p4), .val (.ref b1), .val (.ref b4), .val (.ref b9), .val (.ref b16), .val (.ref b25), .val (.ref b26), .val (.ref b27), .val (.ref b28), .val (.int (p0 &&& (3 : Int32))), .val (.ref b16), .val (.ref b28), .val (.int p4), .unset] [(.ref b41)])) _
          refine XS.dup X41.here hx rfl (hb hby at_160) rfl rfl ?_
          show Steps p.tables e below (T41.setTop (mkF m 161 #[.val (.int p0), .val (.int p1), .val (.int p2), .val (.int p3), .val (.int p4), .val (.ref b1), .val (.ref b4), .val (.ref b9), .val (.ref b16), .val (.ref b25), .val (.ref b26), .val (.ref b27), .val (.ref b28), .val (.int (p0 &&& (3 : Int32))), .val (.ref b16), .val (.ref b28), .val (.int p4), .unset] [(.ref b41), (.ref b41)])) _
          refine XS.aload X41.here hx rfl (hb hby at_161) rfl rfl ?_
          show Steps p.tables e below (T41.setTop (mkF m 163 #[.val (.int p0), .val (.int p1), .val (.int p2), .val (.int p3), .val (.int p4), .val (.ref b1), .val (.ref b4), .val (.ref b9), .val (.ref b16), .val (.ref b25), .val (.ref b26), .val (.ref b27), .val (.ref b28), .val (.int (p0 &&& (3 : Int32))), .val (.ref b16), .val (.ref b28), .val (.int p4), .unset] [(.ref b16), (.ref b41), (.ref b41)])) _
          refine XS.aload X41.here hx rfl (hb hby at_163) rfl rfl ?_
          show Steps p.tables e below (T41.setTop (mkF m 165 #[.val (.int p0), .val (.int p1), .val (.int p2), .val (.int p3), .val (.int p4), .val (.ref b1), .val (.ref b4), .val (.ref b9), .val (.ref b16), .val (.ref b25), .val (.ref b26), .val (.ref b27), .val (.ref b28), .val (.int (p0 &&& (3 : Int32))), .val (.ref b16), .val (.ref b28), .val (.int p4), .unset] [(.ref b28), (.ref b16), (.ref b41), (.ref b41)])) _
          refine st42.trans ?_
          show Steps p.tables e below (T42.setTop (mkF m 168 #[.val (.int p0), .val (.int p1), .val (.int p2), .val (.int p3), .val (.int p4), .val (.ref b1), .val (.ref b4), .val (.ref b9), .val (.ref b16), .val (.ref b25), .val (.ref b26), .val (.ref b27), .val (.ref b28), .val (.int (p0 &&& (3 : Int32))), .val (.ref b16), .val (.ref b28), .val (.int p4), .unset] [(.ref b41)])) _
          refine XS.astore X42.here hx rfl (hb hby at_168) rfl rfl (l' := #[.val (.int p0), .val (.int p1), .val (.int p2), .val (.int p3), .val (.int p4), .val (.ref b1), .val (.ref b4), .val (.ref b9), .val (.ref b16), .val (.ref b25), .val (.ref b26), .val (.ref b27), .val (.ref b28), .val (.int (p0 &&& (3 : Int32))), .val (.ref b16), .val (.ref b28), .val (.int p4), .val (.ref b41)]) rfl ?_
          show Steps p.tables e below (T42.setTop (mkF m 170 #[.val (.int p0), .val (.int p1), .val (.int p2), .val (.int p3), .val (.int p4), .val (.ref b1), .val (.ref b4), .val (.ref b9), .val (.ref b16), .val (.ref b25), .val (.ref b26), .val (.ref b27), .val (.ref b28), .val (.int (p0 &&& (3 : Int32))), .val (.ref b16), .val (.ref b28), .val (.int p4), .val (.ref b41)] [])) _
          refine XS.aload X42.here hx rfl (hb hby at_170) rfl rfl ?_
          show Steps p.tables e below (T42.setTop (mkF m 172 #[.val (.int p0), .val (.int p1), .val (.int p2), .val (.int p3), .val (.int p4), .val (.ref b1), .val (.ref b4), .val (.ref b9), .val (.ref b16), .val (.ref b25), .val (.ref b26), .val (.ref b27), .val (.ref b28), .val (.int (p0 &&& (3 : Int32))), .val (.ref b16), .val (.ref b28), .val (.int p4), .val (.ref b41)] [(.ref b41)])) _
          refine st43.trans ?_
          show Steps p.tables e below (T43.setTop (mkF m 175 #[.val (.int p0), .val (.int p1), .val (.int p2), .val (.int p3), .val (.int p4), .val (.ref b1), .val (.ref b4), .val (.ref b9), .val (.ref b16), .val (.ref b25), .val (.ref b26), .val (.ref b27), .val (.ref b28), .val (.int (p0 &&& (3 : Int32))), .val (.ref b16), .val (.ref b28), .val (.int p4), .val (.ref b41)] [(.int p4)])) _
          refine XS.iload X43.here hx rfl (hb hby at_175) rfl ?_
          show Steps p.tables e below (T43.setTop (mkF m 177 #[.val (.int p0), .val (.int p1), .val (.int p2), .val (.int p3), .val (.int p4), .val (.ref b1), .val (.ref b4), .val (.ref b9), .val (.ref b16), .val (.ref b25), .val (.ref b26), .val (.ref b27), .val (.ref b28), .val (.int (p0 &&& (3 : Int32))), .val (.ref b16), .val (.ref b28), .val (.int p4), .val (.ref b41)] [(.int p4), (.int p4)])) _
          refine XS.icmpNo X43.here hx rfl (hb hby at_177) rfl (teq (rfl : p4 = p4)).2 ?_
          show Steps p.tables e below (T43.setTop (mkF m 180 #[.val (.int p0), .val (.int p1), .val (.int p2), .val (.int p3), .val (.int p4), .val (.ref b1), .val (.ref b4), .val (.ref b9), .val (.ref b16), .val (.ref b25), .val (.ref b26), .val (.ref b27), .val (.ref b28), .val (.int (p0 &&& (3 : Int32))), .val (.ref b16), .val (.ref b28), .val (.int p4), .val (.ref b41)] [])) _
          refine XS.iconst X43.here hx rfl (hb hby at_180) ?_
          show Steps p.tables e below (T43.setTop (mkF m 181 #[.val (.int p0), .val (.int p1), .val (.int p2), .val (.int p3), .val (.int p4), .val (.ref b1), .val (.ref b4), .val (.ref b9), .val (.ref b16), .val (.ref b25), .val (.ref b26), .val (.ref b27), .val (.ref b28), .val (.int (p0 &&& (3 : Int32))), .val (.ref b16), .val (.ref b28), .val (.int p4), .val (.ref b41)] [(.int (1 : Int32))])) _
          refine XS.goto X43.here hx rfl (pc0 := 181) (pc' := 185) rfl (hb hby at_181) (by decide) (by decide) ?_
          show Steps p.tables e below (T43.setTop (mkF m 185 #[.val (.int p0), .val (.int p1), .val (.int p2), .val (.int p3), .val (.int p4), .val (.ref b1), .val (.ref b4), .val (.ref b9), .val (.ref b16), .val (.ref b25), .val (.ref b26), .val (.ref b27), .val (.ref b28), .val (.int (p0 &&& (3 : Int32))), .val (.ref b16), .val (.ref b28), .val (.int p4), .val (.ref b41)] [(.int (1 : Int32))])) _
          exact retN X43 hx (t := .boolean) Bd.returns (by simp) (hb hby at_185) hr
        · show Q_rm_law Z p0 p1 p2 p3 p4 h0 n0 _ T43.heap _
          rw [e43]
          exact ⟨rfl, N43, trivial⟩
set_option maxRecDepth 65536 in
set_option maxHeartbeats 40000000 in
theorem comes_1 {Post : Tables → Env → Array Value → State → Outcome → State → Prop} (hpost : ∀ tb e args s v u, (limb_1_1.after args s (.returned v) u = true ∧ limb_1_2.after args s (.returned v) u = true ∧ True) → FrameEnd s (.returned v) u (Jvm.fieldLocs frame_1_writes args s ++ Jvm.arrayLocs frame_1_arrays args s ++ Jvm.staticLocs frame_1_statics s) 32 128 → Post tb e args s (.returned v) u) :
    ArmFor flags0 classFile x code maxLocals ret World_1 tables_1 room_1 Calls_1 rest_1 Pre_1 Post := by
  intro l hfl _ _ p e ha hc hk s m args below hf hA hF happ hP
  obtain ⟨hcalls, hrest, hpre⟩ := hP
  obtain ⟨-, -, -, hnamed, -, -, -, hat⟩ := (Spec.applies_iff hf).mp happ
  obtain ⟨hg, hn⟩ := and_e (Cond.before_iff.mp (show (Jvm.Cond.and given_1 narrow_1).before args s = true from hpre))
  obtain ⟨hcnt, hgv0⟩ := and_e hg
  obtain ⟨hg0, hgv1⟩ := and_e hgv0
  obtain ⟨hg1, hgv2⟩ := and_e hgv1
  obtain ⟨hg2, hgv3⟩ := and_e hgv2
  obtain ⟨hg3, hgv4⟩ := and_e hgv3
  have hg4 := hgv4
  obtain ⟨w0, w1, w2, w3, w4, rfl⟩ : ∃ w0 w1 w2 w3 w4 : Value, args = #[w0, w1, w2, w3, w4] := by
    have hs : args.size = 5 := by simpa [Cond.value, given_1] using hcnt
    obtain ⟨L⟩ := args
    match L, hs with
    | [w0, w1, w2, w3, w4], _ => exact ⟨w0, w1, w2, w3, w4, rfl⟩
  have hw := fun d (hd : d ∈ tables_1) => atoms_spec (ws := Jvm.Cond.code x code maxLocals ret :: tables_1) hat d (List.mem_cons_of_mem _ hd)
  have hfit : Fit s := fun {y c} hc i hi => by
    obtain ⟨ha, rfl⟩ := Array.getElem?_eq_some_iff.mp hc
    have q := List.all_eq_true.mp ((Array.all_eq_true_iff_forall_mem.mp hF) _ (Array.getElem_mem ha)) i (List.mem_range.mpr hi)
    simpa [Array.getElem?_eq_getElem hi] using q
  obtain ⟨i0, ei0⟩ := is_v hg0
  obtain rfl : w0 = (.int i0) := Option.some.inj ei0
  obtain ⟨i1, ei1⟩ := is_v hg1
  obtain rfl : w1 = (.int i1) := Option.some.inj ei1
  obtain ⟨i2, ei2⟩ := is_v hg2
  obtain rfl : w2 = (.int i2) := Option.some.inj ei2
  obtain ⟨i3, ei3⟩ := is_v hg3
  obtain rfl : w3 = (.int i3) := Option.some.inj ei3
  obtain ⟨i4, ei4⟩ := is_v hg4
  obtain rfl : w4 = (.int i4) := Option.some.inj ei4
  obtain ⟨n, o, h1, h2, h3, _, L, rfl, hQL, hq⟩ := rm_law l s _ hw tables_1 i0 i1 i2 i3 i4  s.heap s.heap.size (Nat.le_refl _)  p e ha hc hk s m _ below hf ((Spec.applies_iff_loose hf).mp happ).1 ⟨rfl, State.Warmed39.refl s, rfl⟩ trivial
  obtain ⟨rfl, N, -⟩ := hQL
  refine ⟨n, _, h1, h2, h3, hpost _ _ _ _ _ _ ⟨Cond.after_iff.mpr rfl, Cond.after_iff.mpr (eq_i res_at (Term.int_eval (1)) rfl), trivial⟩ ⟨hq.1, hq.2.1, (hq.2.2.sift fun y hy => Or.inr (N y hy)).mono (by decide) (by decide)⟩⟩
theorem main_1_1 : Claimed_1_1 := comes_1 fun _ _ _ _ _ _ h hF => ⟨h.1, hF⟩
theorem main_1_2 : Claimed_1_2 := comes_1 fun _ _ _ _ _ _ h hF => ⟨h.2.1, hF⟩
end Jvm.Pilot.@@N@@
namespace Jvm.Pilot.@@N@@
open Jvm Jvm.ClassFile Sem Op Lib Jvm.Free Jvm.Stand Jvm.Pilot.@@N@@.Jvm.D
/-! MADE BY PROGRAM (witnessworld.py) out of the Statement's table words and the real class files: 9 classes; the members and pool entries that the words name. The judged class is class 1, her method 1. -/
namespace start1
open Jvm.ClassFile
def u (s : String) : CpInfo := .utf8 (stringToUtf16 s)
/-- a pool by its gaps: so many unusable entries, then the entry; so many at the end -/
def gap : Nat → List CpInfo → List CpInfo
  | 0, r => r
  | n + 1, r => .unusable :: gap n r
def poolList (es : List (Nat × CpInfo)) (last : Nat) : List CpInfo := es.foldr (fun e r => gap e.1 (e.2 :: r)) (gap last [])
def pool (es : List (Nat × CpInfo)) (last : Nat) : Array CpInfo := ⟨poolList es last⟩
def fileOf (pool : Array CpInfo) (this : Nat) (attrs : Array Attribute := #[]) (ms : Array MethodInfo := #[]) (fl : Nat := 33) (sup : Nat := 0) (ifs : Array Nat := #[]) (fds : Array FieldInfo := #[]) : ClassFile where
  minorVersion := 0
  majorVersion := 65
  constantPool := pool
  accessFlags := fl
  thisClass := this
  superClass := sup
  interfaces := ifs
  fields := fds
  methods := ms
  attributes := attrs
def plain (name : String) (sup : Option ClassId) : Class where
  name := name
  kind := .ordinary
  loader := none
  accessFlags := 33
  super := sup
  interfaces := #[]
  cf := none
  fields := #[]
  methods := #[]
  instanceTypes := #[]
  staticTypes := #[]
  resolved := #[]
  callSites := []
  init := .initialized
  statics := none
  mirror := none

def pool0 : Array CpInfo := pool [(5, u "<init>"), (0, u "()V"), (1, .class_ 10), (1, u "java/lang/Object")] 113

def k0c0 : Code := { maxStack := 0, maxLocals := 1, code := object_method_1_code, exceptionTable := #[], attributes := #[] }
def k0m0 : Method := { name := "<init>", desc := "()V", sig := { parameters := [], returnType := none }, accessFlags := 1, code := some k0c0 }
/-- java/lang/Object -/
def k0 : Class := { plain "java/lang/Object" none with
  accessFlags := 33
  interfaces := #[]
  cf := some (fileOf pool0 8 #[] #[{ accessFlags := 1, nameIndex := 5, descriptorIndex := 6, attributes := #[] }] 33 0 #[] #[])
  fields := #[]
  methods := #[k0m0]
  instanceTypes := #[]
  staticTypes := #[]
  resolved := Array.replicate 124 none
  statics := none }

def pool1 : Array CpInfo := pool [(2, .class_ 4), (1, u "java/lang/Object"), (0, u "<init>"), (0, u "()V"), (0, .class_ 8), (0, u "com/example/watchpost/watchpost/network/Route"), (0, .methodref 7 10), (0, .nameAndType 5 11), (0, u "([I[I)V"), (0, .methodref 7 13), (0, .nameAndType 14 15), (0, u "target"), (0, u "()I"), (0, .class_ 17), (0, u "com/example/watchpost/watchpost/network/RouteTargetPinLaw"), (2, u "law"), (0, u "(IIIII)Z")] 5

def k1m0 : Method := { name := "<init>", desc := "()V", sig := { parameters := [], returnType := none }, accessFlags := 1, code := none }
def k1c1 : Code := { maxStack := 4, maxLocals := 18, code := code, exceptionTable := #[], attributes := #[] }
def k1m1 : Method := { name := "law", desc := "(IIIII)Z", sig := { parameters := [.int, .int, .int, .int, .int], returnType := some .boolean }, accessFlags := 9, code := some k1c1 }
/-- com/example/watchpost/watchpost/network/RouteTargetPinLaw -/
def k1 : Class := { plain "com/example/watchpost/watchpost/network/RouteTargetPinLaw" (some 0) with
  accessFlags := 49
  interfaces := #[]
  cf := some (fileOf pool1 16 #[] #[{ accessFlags := 1, nameIndex := 5, descriptorIndex := 6, attributes := #[] }, { accessFlags := 9, nameIndex := 20, descriptorIndex := 21, attributes := #[] }] 49 2 #[] #[])
  fields := #[]
  methods := #[k1m0, k1m1]
  instanceTypes := #[]
  staticTypes := #[]
  resolved := Array.replicate 27 none
  statics := none }

def pool2 : Array CpInfo := pool [(39, .class_ 41), (1, u "com/example/watchpost/watchpost/network/Route"), (0, u "BY_NODES"), (0, u "Ljava/util/Comparator;"), (18, .methodref 63 64), (0, .class_ 65), (0, .nameAndType 66 67), (0, u "java/lang/Object"), (0, u "<init>"), (0, u "()V"), (0, .fieldref 39 69), (0, .nameAndType 70 71), (0, u "nodes"), (0, u "[I"), (0, .fieldref 39 73), (0, .nameAndType 74 71), (0, u "links"), (2, u "([I[I)V"), (8, u "()I"), (22, u "target")] 103

def k2c0 : Code := { maxStack := 2, maxLocals := 3, code := prog_38_method_5_code, exceptionTable := #[], attributes := #[] }
def k2m0 : Method := { name := "<init>", desc := "([I[I)V", sig := { parameters := [(.array .int), (.array .int)], returnType := none }, accessFlags := 0, code := some k2c0 }
def k2c1 : Code := { maxStack := 3, maxLocals := 1, code := prog_38_method_8_code, exceptionTable := #[], attributes := #[] }
def k2m1 : Method := { name := "target", desc := "()I", sig := { parameters := [], returnType := some .int }, accessFlags := 1, code := some k2c1 }
/-- com/example/watchpost/watchpost/network/Route -/
def k2 : Class := { plain "com/example/watchpost/watchpost/network/Route" (some 0) with
  accessFlags := 49
  interfaces := #[]
  cf := some (fileOf pool2 39 #[] #[{ accessFlags := 0, nameIndex := 66, descriptorIndex := 77, attributes := #[] }, { accessFlags := 1, nameIndex := 109, descriptorIndex := 86, attributes := #[] }] 49 63 #[] #[{ accessFlags := 25, nameIndex := 42, descriptorIndex := 43, attributes := #[] }, { accessFlags := 18, nameIndex := 70, descriptorIndex := 71, attributes := #[] }, { accessFlags := 18, nameIndex := 74, descriptorIndex := 71, attributes := #[] }])
  fields := #[{ name := "BY_NODES", type := (.object "java/util/Comparator"), accessFlags := 25, slot := 0, constantValue := 0 }, { name := "nodes", type := (.array .int), accessFlags := 18, slot := 0, constantValue := 0 }, { name := "links", type := (.array .int), accessFlags := 18, slot := 1, constantValue := 0 }]
  methods := #[k2m0, k2m1]
  instanceTypes := #[(.array .int), (.array .int)]
  staticTypes := #[(.object "java/util/Comparator")]
  resolved := Array.replicate 213 none
  statics := none }

def pool3 : Array CpInfo := pool [(1, u "java/lang/Cloneable"), (0, .class_ 1), (0, u "java/lang/Object"), (0, .class_ 3)] 3

/-- java/lang/Cloneable -/
def k3 : Class := { plain "java/lang/Cloneable" (some 0) with
  accessFlags := 1537
  interfaces := #[]
  cf := some (fileOf pool3 2 #[] #[] 1537 4 #[] #[])
  fields := #[]
  methods := #[]
  instanceTypes := #[]
  staticTypes := #[]
  resolved := Array.replicate 8 none
  statics := none }

def pool4 : Array CpInfo := pool [(1, u "java/io/Serializable"), (0, .class_ 1), (0, u "java/lang/Object"), (0, .class_ 3)] 3

/-- java/io/Serializable -/
def k4 : Class := { plain "java/io/Serializable" (some 0) with
  accessFlags := 1537
  interfaces := #[]
  cf := some (fileOf pool4 2 #[] #[] 1537 4 #[] #[])
  fields := #[]
  methods := #[]
  instanceTypes := #[]
  staticTypes := #[]
  resolved := Array.replicate 8 none
  statics := none }

/-- the primitive byte -/
def k5 : Class := { plain "byte" none with kind := .primitive 'B', accessFlags := 0x411 }
/-- [B -/
def k6 : Class := { plain "[B" (some 0) with kind := .array 5 .byte, interfaces := #[3, 4], accessFlags := 1041 }

/-- the primitive int -/
def k7 : Class := { plain "int" none with kind := .primitive 'I', accessFlags := 0x411 }
/-- [I -/
def k8 : Class := { plain "[I" (some 0) with kind := .array 7 .int, interfaces := #[3, 4], accessFlags := 1041 }

def heap : Heap := #[]
def classes : Array Class := #[k0, k1, k2, k3, k4, k5, k6, k7, k8]
def interned : List (Array UInt16 × Addr) := []
def slotsUsed : Nat := 0
def theMethod : MethodId := ⟨1, 1⟩
def args0 : Array Value := #[.int 5, .int 5, .int 5, .int 5, .int 5]
def aboutOver (below : List Frame) : State where
  vm := { classes := classes, interned := interned.toArray }
  heap := heap
  slotsUsed := slotsUsed
  threads := #[{ frames := .invoking theMethod args0 :: below }]
def below0 : List Frame := [.native { method := ⟨0, 0⟩, args := #[] }]
def about1 : State := aboutOver below0
def p0 : Program := .bare "" "" ""
def e0 : Env := launch0.env 0 0 0
theorem w_frames : about1.frames = Frame.invoking theMethod args0 :: below0 := rfl
set_option maxRecDepth 65536 in
theorem w_args : argsFit about1.vm theMethod args0 = true := by decide +kernel
set_option maxRecDepth 65536 in
theorem w_heap : heapFits about1 = true := by decide +kernel
set_option maxRecDepth 65536 in
theorem w_runnable : about1.curStatus? = some .runnable := by decide +kernel
set_option maxRecDepth 65536 in
theorem w_alone : about1.alone = true := by decide +kernel
set_option maxRecDepth 65536 in
theorem w_named : about1.methodNamed? x = some theMethod := by decide +kernel
set_option maxRecDepth 65536 in
theorem w_hears : about1.hears theMethod below0 = true := by decide +kernel
set_option maxRecDepth 65536 in
theorem w_ripe : about1.ripe theMethod args0 below0 = true := by decide +kernel
theorem w_running : about1.status = .running := rfl
set_option maxRecDepth 65536 in
theorem w_room : about1.hasRoom e0.platform room_1 = true :=
  launch0.hasRoom_least _ room_1 (by decide +kernel) (by decide +kernel) (by decide +kernel) (by decide +kernel) (by decide +kernel) (by decide +kernel)
theorem allAtoms_all (ts : List Jvm.Cond) (a : Array Jvm.Value) (st : Jvm.State) : (allAtoms ts).before a st = ts.all (fun c => c.before a st) := by
  induction ts with
  | nil => rfl
  | cons c t ih =>
    show (Jvm.Cond.and c (allAtoms t)).before a st = _
    rw [Jvm.Cond.before_and, ih, List.all_cons]
def words1 : List Jvm.Cond := Jvm.Cond.code x code maxLocals ret :: tables_1
/-- a 'code' word, met by the world's own term for the bytes: nothing is compared byte by byte -/
theorem code_word {y : MethodName} {bytes : ByteArray} {mx : Nat} {rt : Option FieldType} {a : Array Value} {s : State} {m : MethodId} {meth : Method} {c : Code} (h1 : s.methodNamed? y = some m) (h2 : s.vm.method? m = some meth) (h3 : meth.code = some c) (h4 : c.code = bytes)
    (h5 : (c.maxLocals == mx && c.exceptionTable.isEmpty && decide (c.maxStack ≤ mostOperands) && decide (meth.sig.returnType = rt) && !meth.locks && decide (parseMethodDescriptor y.desc = some meth.sig)) = true) : (Jvm.Cond.code y bytes mx rt).before a s = true := by
  simp only [Bool.and_eq_true, beq_iff_eq, Bool.not_eq_true', decide_eq_true_eq] at h5
  obtain ⟨⟨⟨⟨⟨g1, g2⟩, g3⟩, g4⟩, g5⟩, g6⟩ := h5
  simp [Cond.before, Cond.holds, Cond.value, h1, h2, h3, h4, g1, g2, g3, g4, g5, g6]
def isCode : Jvm.Cond → Bool
  | .code _ _ _ _ => true
  | _ => false
theorem all_split {L : List Jvm.Cond} {P : Jvm.Cond → Bool} (h1 : L.all (fun c => isCode c || P c) = true) (h2 : ∀ c ∈ L.filter isCode, P c = true) : L.all P = true := by
  refine List.all_eq_true.mpr fun c hc => ?_
  have h := List.all_eq_true.mp h1 c hc
  rcases Bool.eq_false_or_eq_true (isCode c) with hi | hi
  · exact h2 c (List.mem_filter.mpr ⟨hc, hi⟩)
  · simpa [hi] using h
set_option maxRecDepth 65536 in
theorem w_c0 : (Jvm.Cond.code x code maxLocals ret).before args0 about1 = true := code_word (m := ⟨1, 1⟩) (meth := k1m1) (c := k1c1) (by decide +kernel) rfl rfl rfl (by decide +kernel)
set_option maxRecDepth 65536 in
theorem w_c1 : (Jvm.Cond.code ({ cls := "com/example/watchpost/watchpost/network/Route", name := "<init>", desc := "([I[I)V" } : Jvm.MethodName) prog_38_method_5_code (3 : Nat) (Option.none : Option Jvm.ClassFile.FieldType)).before args0 about1 = true := code_word (m := ⟨2, 0⟩) (meth := k2m0) (c := k2c0) (by decide +kernel) rfl rfl rfl (by decide +kernel)
set_option maxRecDepth 65536 in
theorem w_c2 : (Jvm.Cond.code ({ cls := "java/lang/Object", name := "<init>", desc := "()V" } : Jvm.MethodName) object_method_1_code (1 : Nat) (Option.none : Option Jvm.ClassFile.FieldType)).before args0 about1 = true := code_word (m := ⟨0, 0⟩) (meth := k0m0) (c := k0c0) (by decide +kernel) rfl rfl rfl (by decide +kernel)
set_option maxRecDepth 65536 in
theorem w_c3 : (Jvm.Cond.code ({ cls := "com/example/watchpost/watchpost/network/Route", name := "target", desc := "()I" } : Jvm.MethodName) prog_38_method_8_code (1 : Nat) (Option.some Jvm.ClassFile.FieldType.int)).before args0 about1 = true := code_word (m := ⟨2, 1⟩) (meth := k2m1) (c := k2c1) (by decide +kernel) rfl rfl rfl (by decide +kernel)
def codes1 : List Jvm.Cond := [Jvm.Cond.code x code maxLocals ret, Jvm.Cond.code ({ cls := "com/example/watchpost/watchpost/network/Route", name := "<init>", desc := "([I[I)V" } : Jvm.MethodName) prog_38_method_5_code (3 : Nat) (Option.none : Option Jvm.ClassFile.FieldType), Jvm.Cond.code ({ cls := "java/lang/Object", name := "<init>", desc := "()V" } : Jvm.MethodName) object_method_1_code (1 : Nat) (Option.none : Option Jvm.ClassFile.FieldType), Jvm.Cond.code ({ cls := "com/example/watchpost/watchpost/network/Route", name := "target", desc := "()I" } : Jvm.MethodName) prog_38_method_8_code (1 : Nat) (Option.some Jvm.ClassFile.FieldType.int)]
set_option maxRecDepth 65536 in
theorem codes_eq : words1.filter isCode = codes1 := rfl
theorem w_codes : ∀ c ∈ words1.filter isCode, c.before args0 about1 = true := by
  rw [codes_eq]
  intro c hc
  simp only [codes1, List.mem_cons, List.not_mem_nil, or_false] at hc
  rcases hc with rfl | rfl | rfl | rfl
  · exact w_c0
  · exact w_c1
  · exact w_c2
  · exact w_c3
set_option maxRecDepth 65536 in
theorem w_t1 : words1.all (fun c => isCode c || c.before args0 about1) = true := by decide +kernel
theorem w_tables : (allAtoms (Jvm.Cond.code x code maxLocals ret :: tables_1)).before args0 about1 = true := by
  rw [allAtoms_all]
  show words1.all (fun c => c.before args0 about1) = true
  refine all_split ?_ w_codes
  rw [w_t1]
set_option maxRecDepth 65536 in
theorem w_case : (Jvm.Cond.and given_1 narrow_1).before args0 about1 = true := by decide +kernel
theorem w_applies : (headSpec (Jvm.Cond.code x code maxLocals ret :: tables_1) room_1).applies x e0.platform about1 = true :=
  (Spec.applies_iff w_frames).mpr ⟨w_running, w_runnable, w_alone, w_named, w_hears, w_ripe, w_room, w_tables⟩
theorem atStart : AtStart classFile x code maxLocals ret World_1 tables_1 room_1 Calls_1 rest_1 Pre_1 launch0 p0 e0 about1 theMethod args0 below0 :=
  ⟨lists_1, trivial, launch0.admits_env _ _ _, launch0.least_env, fairChoices_fair.cas, fairChoices_fair.clock, w_frames, w_args, w_heap, w_applies, trivial, trivial, w_case⟩
end start1
theorem witness_1 : WitnessClaimed_1 := ⟨start1.p0, start1.e0, start1.about1, start1.theMethod, start1.args0, start1.below0, start1.atStart⟩
end Jvm.Pilot.@@N@@
