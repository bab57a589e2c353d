import JvmDerived
import JvmDerived.Pilot.@@N@@Statement
import JvmDerived.Pilot.@@N@@Code
set_option linter.unusedVariables false
set_option linter.unusedSimpArgs false

namespace Jvm.RoadKit
open Sem ClassFile Op Lib Jvm.Stand Jvm.Free Jvm.LawKit
section New
variable {p : Program} {l : Launch} {e : Env} {R : Room} {s : State} {m : MethodId} {args : Array Value} {below : List Frame} {meth : Method} {c : Code} {T : State} {locs : List Loc} {cells slots : Nat}
theorem retI (X : Stand p l e R s m args below meth c T locs cells slots) (hx : p.tables.exec = Jvm.exec) {pc : Nat} {Ls : Array Slot} {z : Int32} {rest : List Value} (hret : meth.sig.returnType = some .int) (hd : decode c.code pc = .ok (.ireturn, 1)) {fs : List Frame}
    (hl : ∀ (f : JFrame) (acts : List Action), f.method = m → f.locked = none → f.entered = [] → (doReturn e (T.setTop f) acts (some (.int z))).1 = T.setFrames fs) : Steps p.tables e below (T.setTop (mkF m pc Ls (.int z :: rest))) (T.setFrames fs) := by
  have hm' : T.vm.method? m = some meth := X.method'
  have hn : narrow .int (.int z) = .int z := rfl
  show Steps p.tables e below (T.setTop { method := m, pc := pc, locals := Ls, stack := _ :: rest, locked := none }) _
  jvm_step X.here [X.here.top, hx, hd, hm', hret, hn]
  first | (intro acts; rw [hl _ acts rfl rfl rfl]) | rw [hl _ _ rfl rfl rfl]
  exact Steps.refl _
end New
end Jvm.RoadKit

namespace Jvm.Pilot.@@N@@
open Jvm Jvm.ClassFile Sem Op Lib Jvm.Free Jvm.Stand Jvm.LawKit Jvm.RoadKit Bundle Jvm.Pilot.@@N@@.Jvm.D
theorem own_fld {args : Array Value} {Z : State} {t : Term} {C n d : String} {k : Int32} {a : Addr} (ht : t.eval args Z none [] Z = some (.ref a)) (h : (Jvm.Cond.eq (.field t C n d) (.int k)).value args Z none Z [] = some true) : Fld Z Z.heap a C n d (.int k) := by
  refine Fld.start ?_
  rw [← fld_at (args := args) (first := Z) (o := none) (idx := []) ht]
  cases hx : (Term.field t C n d).eval args Z none [] Z with
  | none => simp [Cond.value, hx] at h
  | some x => cases x <;> simp_all [Cond.value, Term.eval]
theorem d1_0 : decode method_2_code 0 = .ok (.iload_n 0, 1) := by decide +kernel
theorem d1_1 : decode method_2_code 1 = .ok (.ldc 7, 2) := by decide +kernel
theorem d1_3 : decode method_2_code 3 = .ok (.iand, 1) := by decide +kernel
theorem d1_4 : decode method_2_code 4 = .ok (.iconst 3, 1) := by decide +kernel
theorem d1_5 : decode method_2_code 5 = .ok (.irem, 1) := by decide +kernel
theorem d1_6 : decode method_2_code 6 = .ok (.istore_n 1, 1) := by decide +kernel
theorem d1_7 : decode method_2_code 7 = .ok (.iload_n 1, 1) := by decide +kernel
theorem d1_8 : decode method_2_code 8 = .ok (.ifCond .ne 7, 3) := by decide +kernel
theorem d1_11 : decode method_2_code 11 = .ok (.getstatic 8, 3) := by decide +kernel
theorem d1_14 : decode method_2_code 14 = .ok (.areturn, 1) := by decide +kernel
theorem pn_0 : plainName "com/example/ambit/ambit/ReachNextPinLaw" = true := by first | (simp [plainName, overriddenIn]; done) | decide +kernel
theorem ef_1 (m : MethodId) (x0 : Int32) : entryFrame m #[(.int x0)] 2 = mkF m 0 #[.val (.int x0), .unset] [] := by first | (simp [entryFrame, mkF, argsToLocals, Value.category]; done) | rfl
def Q_rm_pick0 (Z : State) (p0 : Int32) (w_REACHABLE : Addr) (h0 : Heap) (n0 : Nat) (v : Option Value) (h : Heap) (L : List Loc) : Prop := v = some (.ref w_REACHABLE) ∧ Fr n0 L ∧ h = h0
set_option maxRecDepth 65536 in
set_option maxHeartbeats 40000000 in
theorem rm_pick0 (l : Launch) (Z : State) (a0 : Array Value) (hw : ∀ d ∈ tables_1, d.before a0 Z = true) (ws : List Jvm.Cond) (p0 : Int32) (w_REACHABLE : Addr) (h0 : Heap) (n0 : Nat) (Z0 : n0 ≤ h0.size) (S_REACHABLE : Sta Z h0 "com/example/ambit/ambit/StatementRules$Reach" "REACHABLE" "Lcom/example/ambit/ambit/StatementRules$Reach;" (.ref w_REACHABLE)) (hk0 : ((p0 &&& (2147483647 : Int32)) % (3 : Int32)) = (0 : Int32)) :
    MetFree l (⟨"com/example/ambit/ambit/ReachNextPinLaw", "pick", "(I)Lcom/example/ambit/ambit/StatementRules$Reach;"⟩ : MethodName) (head1 (Jvm.Cond.code (⟨"com/example/ambit/ambit/ReachNextPinLaw", "pick", "(I)Lcom/example/ambit/ambit/StatementRules$Reach;"⟩ : MethodName) method_2_code 2 (some (.object "com/example/ambit/ambit/StatementRules$Reach")) :: ws) ({ frames := 0, cells := 0, slots := 0, locals := 0 } : Room)) (fun a U => a = #[(.int p0)] ∧ Z.Warmed39 U.vm ∧ U.heap = h0) (fun _ _ _ _ _ => True) (fun _ U o U' => ∃ v L, o = .returned v ∧ Q_rm_pick0 Z p0 w_REACHABLE h0 n0 v U'.heap L ∧ FrameEnd U o U' L ({ frames := 0, cells := 0, slots := 0, locals := 0 } : Room).cells ({ frames := 0, cells := 0, slots := 0, locals := 0 } : Room).slots) := by
  refine MetFree.of_bodySF (plainFor_of_name pn_0) hisR ?_
  intro p e s m args below meth c s₁ Bd hml0 hP hK
  obtain ⟨rfl, hZ, hh⟩ := hP
  have hx := Bd.exec
  have hby := Bd.bytes
  have hml : c.maxLocals = 2 := hml0
  have hown : s.vm.findClass "com/example/ambit/ambit/ReachNextPinLaw" = some m.cls := findClass_of_methodNamed Bd.named
  have hnm := (name_of_methodNamed Bd.named Bd.method).1
  have X0 : Stand p l e ({ frames := 0, cells := 0, slots := 0, locals := 0 } : Room) s m #[(.int p0)] below meth c s₁ [] 0 0 := Stand.of_body Bd
  have e0 : s₁.heap = h0 := by rw [← hh, Bd.state]; rfl
  have N0 := Fr.nil n0
  have pre0 : ∀ t, Steps p.tables e below (s₁.setTop (mkF m 0 #[.val (.int p0), .unset] [])) t → Steps p.tables e below (s₁.setTop (entryFrame m #[(.int p0)] 2)) t := fun t k => castTop (ef_1 m p0) k
  obtain ⟨T1, X1, e1, st1⟩ := getS2 X0 hx hZ hown (host := "") (Or.inl (hw _ (List.mem_of_getElem? (i := 5) rfl))) Via.refl e0 S_REACHABLE (g := (mkF m 11 #[.val (.int p0), .val (.int ((p0 &&& (2147483647 : Int32)) % (3 : Int32)))] [])) rfl (hb hby d1_11)
  obtain ⟨fs, hr, hrun, hended, hW, hsame⟩ := X1.leave (v := some (.ref w_REACHABLE)) (fun h => by rw [Bd.returns] at h; cases h)
  refine ⟨_, _, pre0 _ ?_, hrun, hended, _, _, rfl, ?_, ⟨_, rfl⟩, hW, hsame.mono (by decide) (by decide)⟩
  · show Steps p.tables e below (s₁.setTop (mkF m 0 #[.val (.int p0), .unset] [])) _
    refine XS.iloadN X0.here hx rfl (hb hby d1_0) rfl ?_
    show Steps p.tables e below (s₁.setTop (mkF m 1 #[.val (.int p0), .unset] [(.int p0)])) _
    refine X0.ldcInt hx hown (mvT hZ (hw _ (List.mem_of_getElem? (i := 4) rfl))) (g := (mkF m 1 #[.val (.int p0), .unset] [(.int p0)])) rfl (hb hby d1_1) _ ?_
    show Steps p.tables e below (s₁.setTop (mkF m 3 #[.val (.int p0), .unset] [(.int (2147483647 : Int32)), (.int p0)])) _
    refine XS.iand X0.here hx rfl (hb hby d1_3) rfl ?_
    show Steps p.tables e below (s₁.setTop (mkF m 4 #[.val (.int p0), .unset] [(.int (p0 &&& (2147483647 : Int32)))])) _
    refine XS.iconst X0.here hx rfl (hb hby d1_4) ?_
    show Steps p.tables e below (s₁.setTop (mkF m 5 #[.val (.int p0), .unset] [(.int (3 : Int32)), (.int (p0 &&& (2147483647 : Int32)))])) _
    refine iremM X0 hx rfl (hb hby d1_5) rfl (by decide) ?_
    show Steps p.tables e below (s₁.setTop (mkF m 6 #[.val (.int p0), .unset] [(.int ((p0 &&& (2147483647 : Int32)) % (3 : Int32)))])) _
    refine XS.istoreN X0.here hx rfl (hb hby d1_6) rfl (l' := #[.val (.int p0), .val (.int ((p0 &&& (2147483647 : Int32)) % (3 : Int32)))]) rfl ?_
    show Steps p.tables e below (s₁.setTop (mkF m 7 #[.val (.int p0), .val (.int ((p0 &&& (2147483647 : Int32)) % (3 : Int32)))] [])) _
    refine XS.iloadN X0.here hx rfl (hb hby d1_7) rfl ?_
    show Steps p.tables e below (s₁.setTop (mkF m 8 #[.val (.int p0), .val (.int ((p0 &&& (2147483647 : Int32)) % (3 : Int32)))] [(.int ((p0 &&& (2147483647 : Int32)) % (3 : Int32)))])) _
    refine XS.ifNo X0.here hx rfl (hb hby d1_8) rfl ((if0 _ _).trans (teq hk0).2) ?_
    show Steps p.tables e below (s₁.setTop (mkF m 11 #[.val (.int p0), .val (.int ((p0 &&& (2147483647 : Int32)) % (3 : Int32)))] [])) _
    refine st1 _ ?_
    show Steps p.tables e below (T1.setTop (mkF m 14 #[.val (.int p0), .val (.int ((p0 &&& (2147483647 : Int32)) % (3 : Int32)))] [(.ref w_REACHABLE)])) _
    exact retOut X1 hx Bd.returns (by rfl) (Or.inr (Or.inr (Or.inr (Or.inr ⟨rfl, rfl, rfl⟩)))) (hb hby d1_14) hr
  · show Q_rm_pick0 Z p0 w_REACHABLE h0 n0 _ T1.heap _
    rw [e1]
    exact ⟨rfl, N0, rfl⟩
theorem d1_15 : decode method_2_code 15 = .ok (.iload_n 1, 1) := by decide +kernel
theorem d1_16 : decode method_2_code 16 = .ok (.iconst 1, 1) := by decide +kernel
theorem d1_17 : decode method_2_code 17 = .ok (.if_icmp .ne 7, 3) := by decide +kernel
theorem d1_20 : decode method_2_code 20 = .ok (.getstatic 14, 3) := by decide +kernel
theorem d1_23 : decode method_2_code 23 = .ok (.areturn, 1) := by decide +kernel
def Q_rm_pick1 (Z : State) (p0 : Int32) (w_UNREACHABLE : Addr) (h0 : Heap) (n0 : Nat) (v : Option Value) (h : Heap) (L : List Loc) : Prop := v = some (.ref w_UNREACHABLE) ∧ Fr n0 L ∧ h = h0
set_option maxRecDepth 65536 in
set_option maxHeartbeats 40000000 in
theorem rm_pick1 (l : Launch) (Z : State) (a0 : Array Value) (hw : ∀ d ∈ tables_1, d.before a0 Z = true) (ws : List Jvm.Cond) (p0 : Int32) (w_UNREACHABLE : Addr) (h0 : Heap) (n0 : Nat) (Z0 : n0 ≤ h0.size) (S_UNREACHABLE : Sta Z h0 "com/example/ambit/ambit/StatementRules$Reach" "UNREACHABLE" "Lcom/example/ambit/ambit/StatementRules$Reach;" (.ref w_UNREACHABLE)) (hk0 : ¬ (((p0 &&& (2147483647 : Int32)) % (3 : Int32)) = (0 : Int32))) (hk1 : ((p0 &&& (2147483647 : Int32)) % (3 : Int32)) = (1 : Int32)) :
    MetFree l (⟨"com/example/ambit/ambit/ReachNextPinLaw", "pick", "(I)Lcom/example/ambit/ambit/StatementRules$Reach;"⟩ : MethodName) (head1 (Jvm.Cond.code (⟨"com/example/ambit/ambit/ReachNextPinLaw", "pick", "(I)Lcom/example/ambit/ambit/StatementRules$Reach;"⟩ : MethodName) method_2_code 2 (some (.object "com/example/ambit/ambit/StatementRules$Reach")) :: ws) ({ frames := 0, cells := 0, slots := 0, locals := 0 } : Room)) (fun a U => a = #[(.int p0)] ∧ Z.Warmed39 U.vm ∧ U.heap = h0) (fun _ _ _ _ _ => True) (fun _ U o U' => ∃ v L, o = .returned v ∧ Q_rm_pick1 Z p0 w_UNREACHABLE h0 n0 v U'.heap L ∧ FrameEnd U o U' L ({ frames := 0, cells := 0, slots := 0, locals := 0 } : Room).cells ({ frames := 0, cells := 0, slots := 0, locals := 0 } : Room).slots) := by
  refine MetFree.of_bodySF (plainFor_of_name pn_0) hisR ?_
  intro p e s m args below meth c s₁ Bd hml0 hP hK
  obtain ⟨rfl, hZ, hh⟩ := hP
  have hx := Bd.exec
  have hby := Bd.bytes
  have hml : c.maxLocals = 2 := hml0
  have hown : s.vm.findClass "com/example/ambit/ambit/ReachNextPinLaw" = some m.cls := findClass_of_methodNamed Bd.named
  have hnm := (name_of_methodNamed Bd.named Bd.method).1
  have X0 : Stand p l e ({ frames := 0, cells := 0, slots := 0, locals := 0 } : Room) s m #[(.int p0)] below meth c s₁ [] 0 0 := Stand.of_body Bd
  have e0 : s₁.heap = h0 := by rw [← hh, Bd.state]; rfl
  have N0 := Fr.nil n0
  have pre0 : ∀ t, Steps p.tables e below (s₁.setTop (mkF m 0 #[.val (.int p0), .unset] [])) t → Steps p.tables e below (s₁.setTop (entryFrame m #[(.int p0)] 2)) t := fun t k => castTop (ef_1 m p0) k
  obtain ⟨T1, X1, e1, st1⟩ := getS2 X0 hx hZ hown (host := "") (Or.inl (hw _ (List.mem_of_getElem? (i := 14) rfl))) Via.refl e0 S_UNREACHABLE (g := (mkF m 20 #[.val (.int p0), .val (.int ((p0 &&& (2147483647 : Int32)) % (3 : Int32)))] [])) rfl (hb hby d1_20)
  obtain ⟨fs, hr, hrun, hended, hW, hsame⟩ := X1.leave (v := some (.ref w_UNREACHABLE)) (fun h => by rw [Bd.returns] at h; cases h)
  refine ⟨_, _, pre0 _ ?_, hrun, hended, _, _, rfl, ?_, ⟨_, rfl⟩, hW, hsame.mono (by decide) (by decide)⟩
  · show Steps p.tables e below (s₁.setTop (mkF m 0 #[.val (.int p0), .unset] [])) _
    refine XS.iloadN X0.here hx rfl (hb hby d1_0) rfl ?_
    show Steps p.tables e below (s₁.setTop (mkF m 1 #[.val (.int p0), .unset] [(.int p0)])) _
    refine X0.ldcInt hx hown (mvT hZ (hw _ (List.mem_of_getElem? (i := 4) rfl))) (g := (mkF m 1 #[.val (.int p0), .unset] [(.int p0)])) rfl (hb hby d1_1) _ ?_
    show Steps p.tables e below (s₁.setTop (mkF m 3 #[.val (.int p0), .unset] [(.int (2147483647 : Int32)), (.int p0)])) _
    refine XS.iand X0.here hx rfl (hb hby d1_3) rfl ?_
    show Steps p.tables e below (s₁.setTop (mkF m 4 #[.val (.int p0), .unset] [(.int (p0 &&& (2147483647 : Int32)))])) _
    refine XS.iconst X0.here hx rfl (hb hby d1_4) ?_
    show Steps p.tables e below (s₁.setTop (mkF m 5 #[.val (.int p0), .unset] [(.int (3 : Int32)), (.int (p0 &&& (2147483647 : Int32)))])) _
    refine iremM X0 hx rfl (hb hby d1_5) rfl (by decide) ?_
    show Steps p.tables e below (s₁.setTop (mkF m 6 #[.val (.int p0), .unset] [(.int ((p0 &&& (2147483647 : Int32)) % (3 : Int32)))])) _
    refine XS.istoreN X0.here hx rfl (hb hby d1_6) rfl (l' := #[.val (.int p0), .val (.int ((p0 &&& (2147483647 : Int32)) % (3 : Int32)))]) rfl ?_
    show Steps p.tables e below (s₁.setTop (mkF m 7 #[.val (.int p0), .val (.int ((p0 &&& (2147483647 : Int32)) % (3 : Int32)))] [])) _
    refine XS.iloadN X0.here hx rfl (hb hby d1_7) rfl ?_
    show Steps p.tables e below (s₁.setTop (mkF m 8 #[.val (.int p0), .val (.int ((p0 &&& (2147483647 : Int32)) % (3 : Int32)))] [(.int ((p0 &&& (2147483647 : Int32)) % (3 : Int32)))])) _
    refine XS.ifYes X0.here hx rfl (pc0 := 8) (pc' := 15) rfl (hb hby d1_8) rfl ((if0 _ _).trans (feq hk0).2) (by decide) (by decide) ?_
    show Steps p.tables e below (s₁.setTop (mkF m 15 #[.val (.int p0), .val (.int ((p0 &&& (2147483647 : Int32)) % (3 : Int32)))] [])) _
    refine XS.iloadN X0.here hx rfl (hb hby d1_15) rfl ?_
    show Steps p.tables e below (s₁.setTop (mkF m 16 #[.val (.int p0), .val (.int ((p0 &&& (2147483647 : Int32)) % (3 : Int32)))] [(.int ((p0 &&& (2147483647 : Int32)) % (3 : Int32)))])) _
    refine XS.iconst X0.here hx rfl (hb hby d1_16) ?_
    show Steps p.tables e below (s₁.setTop (mkF m 17 #[.val (.int p0), .val (.int ((p0 &&& (2147483647 : Int32)) % (3 : Int32)))] [(.int (1 : Int32)), (.int ((p0 &&& (2147483647 : Int32)) % (3 : Int32)))])) _
    refine XS.icmpNo X0.here hx rfl (hb hby d1_17) rfl (teq hk1).2 ?_
    show Steps p.tables e below (s₁.setTop (mkF m 20 #[.val (.int p0), .val (.int ((p0 &&& (2147483647 : Int32)) % (3 : Int32)))] [])) _
    refine st1 _ ?_
    show Steps p.tables e below (T1.setTop (mkF m 23 #[.val (.int p0), .val (.int ((p0 &&& (2147483647 : Int32)) % (3 : Int32)))] [(.ref w_UNREACHABLE)])) _
    exact retOut X1 hx Bd.returns (by rfl) (Or.inr (Or.inr (Or.inr (Or.inr ⟨rfl, rfl, rfl⟩)))) (hb hby d1_23) hr
  · show Q_rm_pick1 Z p0 w_UNREACHABLE h0 n0 _ T1.heap _
    rw [e1]
    exact ⟨rfl, N0, rfl⟩
theorem d1_24 : decode method_2_code 24 = .ok (.getstatic 17, 3) := by decide +kernel
theorem d1_27 : decode method_2_code 27 = .ok (.areturn, 1) := by decide +kernel
def Q_rm_pick2 (Z : State) (p0 : Int32) (w_AFTER_UNREACHABLE : Addr) (h0 : Heap) (n0 : Nat) (v : Option Value) (h : Heap) (L : List Loc) : Prop := v = some (.ref w_AFTER_UNREACHABLE) ∧ Fr n0 L ∧ h = h0
set_option maxRecDepth 65536 in
set_option maxHeartbeats 40000000 in
theorem rm_pick2 (l : Launch) (Z : State) (a0 : Array Value) (hw : ∀ d ∈ tables_1, d.before a0 Z = true) (ws : List Jvm.Cond) (p0 : Int32) (w_AFTER_UNREACHABLE : Addr) (h0 : Heap) (n0 : Nat) (Z0 : n0 ≤ h0.size) (S_AFTER_UNREACHABLE : Sta Z h0 "com/example/ambit/ambit/StatementRules$Reach" "AFTER_UNREACHABLE" "Lcom/example/ambit/ambit/StatementRules$Reach;" (.ref w_AFTER_UNREACHABLE)) (hk0 : ¬ (((p0 &&& (2147483647 : Int32)) % (3 : Int32)) = (0 : Int32))) (hk1 : ¬ (((p0 &&& (2147483647 : Int32)) % (3 : Int32)) = (1 : Int32))) :
    MetFree l (⟨"com/example/ambit/ambit/ReachNextPinLaw", "pick", "(I)Lcom/example/ambit/ambit/StatementRules$Reach;"⟩ : MethodName) (head1 (Jvm.Cond.code (⟨"com/example/ambit/ambit/ReachNextPinLaw", "pick", "(I)Lcom/example/ambit/ambit/StatementRules$Reach;"⟩ : MethodName) method_2_code 2 (some (.object "com/example/ambit/ambit/StatementRules$Reach")) :: ws) ({ frames := 0, cells := 0, slots := 0, locals := 0 } : Room)) (fun a U => a = #[(.int p0)] ∧ Z.Warmed39 U.vm ∧ U.heap = h0) (fun _ _ _ _ _ => True) (fun _ U o U' => ∃ v L, o = .returned v ∧ Q_rm_pick2 Z p0 w_AFTER_UNREACHABLE h0 n0 v U'.heap L ∧ FrameEnd U o U' L ({ frames := 0, cells := 0, slots := 0, locals := 0 } : Room).cells ({ frames := 0, cells := 0, slots := 0, locals := 0 } : Room).slots) := by
  refine MetFree.of_bodySF (plainFor_of_name pn_0) hisR ?_
  intro p e s m args below meth c s₁ Bd hml0 hP hK
  obtain ⟨rfl, hZ, hh⟩ := hP
  have hx := Bd.exec
  have hby := Bd.bytes
  have hml : c.maxLocals = 2 := hml0
  have hown : s.vm.findClass "com/example/ambit/ambit/ReachNextPinLaw" = some m.cls := findClass_of_methodNamed Bd.named
  have hnm := (name_of_methodNamed Bd.named Bd.method).1
  have X0 : Stand p l e ({ frames := 0, cells := 0, slots := 0, locals := 0 } : Room) s m #[(.int p0)] below meth c s₁ [] 0 0 := Stand.of_body Bd
  have e0 : s₁.heap = h0 := by rw [← hh, Bd.state]; rfl
  have N0 := Fr.nil n0
  have pre0 : ∀ t, Steps p.tables e below (s₁.setTop (mkF m 0 #[.val (.int p0), .unset] [])) t → Steps p.tables e below (s₁.setTop (entryFrame m #[(.int p0)] 2)) t := fun t k => castTop (ef_1 m p0) k
  obtain ⟨T1, X1, e1, st1⟩ := getS2 X0 hx hZ hown (host := "") (Or.inl (hw _ (List.mem_of_getElem? (i := 16) rfl))) Via.refl e0 S_AFTER_UNREACHABLE (g := (mkF m 24 #[.val (.int p0), .val (.int ((p0 &&& (2147483647 : Int32)) % (3 : Int32)))] [])) rfl (hb hby d1_24)
  obtain ⟨fs, hr, hrun, hended, hW, hsame⟩ := X1.leave (v := some (.ref w_AFTER_UNREACHABLE)) (fun h => by rw [Bd.returns] at h; cases h)
  refine ⟨_, _, pre0 _ ?_, hrun, hended, _, _, rfl, ?_, ⟨_, rfl⟩, hW, hsame.mono (by decide) (by decide)⟩
  · show Steps p.tables e below (s₁.setTop (mkF m 0 #[.val (.int p0), .unset] [])) _
    refine XS.iloadN X0.here hx rfl (hb hby d1_0) rfl ?_
    show Steps p.tables e below (s₁.setTop (mkF m 1 #[.val (.int p0), .unset] [(.int p0)])) _
    refine X0.ldcInt hx hown (mvT hZ (hw _ (List.mem_of_getElem? (i := 4) rfl))) (g := (mkF m 1 #[.val (.int p0), .unset] [(.int p0)])) rfl (hb hby d1_1) _ ?_
    show Steps p.tables e below (s₁.setTop (mkF m 3 #[.val (.int p0), .unset] [(.int (2147483647 : Int32)), (.int p0)])) _
    refine XS.iand X0.here hx rfl (hb hby d1_3) rfl ?_
    show Steps p.tables e below (s₁.setTop (mkF m 4 #[.val (.int p0), .unset] [(.int (p0 &&& (2147483647 : Int32)))])) _
    refine XS.iconst X0.here hx rfl (hb hby d1_4) ?_
    show Steps p.tables e below (s₁.setTop (mkF m 5 #[.val (.int p0), .unset] [(.int (3 : Int32)), (.int (p0 &&& (2147483647 : Int32)))])) _
    refine iremM X0 hx rfl (hb hby d1_5) rfl (by decide) ?_
    show Steps p.tables e below (s₁.setTop (mkF m 6 #[.val (.int p0), .unset] [(.int ((p0 &&& (2147483647 : Int32)) % (3 : Int32)))])) _
    refine XS.istoreN X0.here hx rfl (hb hby d1_6) rfl (l' := #[.val (.int p0), .val (.int ((p0 &&& (2147483647 : Int32)) % (3 : Int32)))]) rfl ?_
    show Steps p.tables e below (s₁.setTop (mkF m 7 #[.val (.int p0), .val (.int ((p0 &&& (2147483647 : Int32)) % (3 : Int32)))] [])) _
    refine XS.iloadN X0.here hx rfl (hb hby d1_7) rfl ?_
    show Steps p.tables e below (s₁.setTop (mkF m 8 #[.val (.int p0), .val (.int ((p0 &&& (2147483647 : Int32)) % (3 : Int32)))] [(.int ((p0 &&& (2147483647 : Int32)) % (3 : Int32)))])) _
    refine XS.ifYes X0.here hx rfl (pc0 := 8) (pc' := 15) rfl (hb hby d1_8) rfl ((if0 _ _).trans (feq hk0).2) (by decide) (by decide) ?_
    show Steps p.tables e below (s₁.setTop (mkF m 15 #[.val (.int p0), .val (.int ((p0 &&& (2147483647 : Int32)) % (3 : Int32)))] [])) _
    refine XS.iloadN X0.here hx rfl (hb hby d1_15) rfl ?_
    show Steps p.tables e below (s₁.setTop (mkF m 16 #[.val (.int p0), .val (.int ((p0 &&& (2147483647 : Int32)) % (3 : Int32)))] [(.int ((p0 &&& (2147483647 : Int32)) % (3 : Int32)))])) _
    refine XS.iconst X0.here hx rfl (hb hby d1_16) ?_
    show Steps p.tables e below (s₁.setTop (mkF m 17 #[.val (.int p0), .val (.int ((p0 &&& (2147483647 : Int32)) % (3 : Int32)))] [(.int (1 : Int32)), (.int ((p0 &&& (2147483647 : Int32)) % (3 : Int32)))])) _
    refine XS.icmpYes X0.here hx rfl (pc0 := 17) (pc' := 24) rfl (hb hby d1_17) rfl (feq hk1).2 (by decide) (by decide) ?_
    show Steps p.tables e below (s₁.setTop (mkF m 24 #[.val (.int p0), .val (.int ((p0 &&& (2147483647 : Int32)) % (3 : Int32)))] [])) _
    refine st1 _ ?_
    show Steps p.tables e below (T1.setTop (mkF m 27 #[.val (.int p0), .val (.int ((p0 &&& (2147483647 : Int32)) % (3 : Int32)))] [(.ref w_AFTER_UNREACHABLE)])) _
    exact retOut X1 hx Bd.returns (by rfl) (Or.inr (Or.inr (Or.inr (Or.inr ⟨rfl, rfl, rfl⟩)))) (hb hby d1_27) hr
  · show Q_rm_pick2 Z p0 w_AFTER_UNREACHABLE h0 n0 _ T1.heap _
    rw [e1]
    exact ⟨rfl, N0, rfl⟩
theorem d2_0 : decode prog_57_method_4_code 0 = .ok (.aload_n 0, 1) := by decide +kernel
theorem d2_1 : decode prog_57_method_4_code 1 = .ok (.getstatic 3, 3) := by decide +kernel
theorem d2_4 : decode prog_57_method_4_code 4 = .ok (.if_acmp .eq 10, 3) := by decide +kernel
theorem d2_14 : decode prog_57_method_4_code 14 = .ok (.iload_n 1, 1) := by decide +kernel
theorem d2_15 : decode prog_57_method_4_code 15 = .ok (.ifCond .eq 10, 3) := by decide +kernel
theorem d2_18 : decode prog_57_method_4_code 18 = .ok (.getstatic 3, 3) := by decide +kernel
theorem d2_21 : decode prog_57_method_4_code 21 = .ok (.astore_n 2, 1) := by decide +kernel
theorem d2_22 : decode prog_57_method_4_code 22 = .ok (.goto 7, 3) := by decide +kernel
theorem d2_29 : decode prog_57_method_4_code 29 = .ok (.aload_n 2, 1) := by decide +kernel
theorem d2_30 : decode prog_57_method_4_code 30 = .ok (.areturn, 1) := by decide +kernel
theorem pn_1 : plainName "com/example/ambit/ambit/StatementRules$Reach" = true := by first | (simp [plainName, overriddenIn]; done) | decide +kernel
theorem ef_2 (m : MethodId) (x0 : Addr) (x1 : Int32) : entryFrame m #[(.ref x0), (.int x1)] 3 = mkF m 0 #[.val (.ref x0), .val (.int x1), .unset] [] := by first | (simp [entryFrame, mkF, argsToLocals, Value.category]; done) | rfl
def Q_rm_next1 (Z : State) (w_REACHABLE : Addr) (pz : Int32) (h0 : Heap) (n0 : Nat) (v : Option Value) (h : Heap) (L : List Loc) : Prop := v = some (.ref w_REACHABLE) ∧ Fr n0 L ∧ h = h0
set_option maxRecDepth 65536 in
set_option maxHeartbeats 40000000 in
theorem rm_next1 (l : Launch) (Z : State) (a0 : Array Value) (hw : ∀ d ∈ tables_1, d.before a0 Z = true) (ws : List Jvm.Cond) (w_REACHABLE : Addr) (pz : Int32) (h0 : Heap) (n0 : Nat) (Z0 : n0 ≤ h0.size) (S_REACHABLE : Sta Z h0 "com/example/ambit/ambit/StatementRules$Reach" "REACHABLE" "Lcom/example/ambit/ambit/StatementRules$Reach;" (.ref w_REACHABLE)) (hz : ¬ (pz = (0 : Int32))) :
    MetFree l (⟨"com/example/ambit/ambit/StatementRules$Reach", "next", "(Z)Lcom/example/ambit/ambit/StatementRules$Reach;"⟩ : MethodName) (head1 (Jvm.Cond.code (⟨"com/example/ambit/ambit/StatementRules$Reach", "next", "(Z)Lcom/example/ambit/ambit/StatementRules$Reach;"⟩ : MethodName) prog_57_method_4_code 3 (some (.object "com/example/ambit/ambit/StatementRules$Reach")) :: ws) ({ frames := 0, cells := 0, slots := 0, locals := 0 } : Room)) (fun a U => a = #[(.ref w_REACHABLE), (.int pz)] ∧ Z.Warmed39 U.vm ∧ U.heap = h0) (fun _ _ _ _ _ => True) (fun _ U o U' => ∃ v L, o = .returned v ∧ Q_rm_next1 Z w_REACHABLE pz h0 n0 v U'.heap L ∧ FrameEnd U o U' L ({ frames := 0, cells := 0, slots := 0, locals := 0 } : Room).cells ({ frames := 0, cells := 0, slots := 0, locals := 0 } : Room).slots) := by
  refine MetFree.of_bodySF (plainFor_of_name pn_1) hisR ?_
  intro p e s m args below meth c s₁ Bd hml0 hP hK
  obtain ⟨rfl, hZ, hh⟩ := hP
  have hx := Bd.exec
  have hby := Bd.bytes
  have hml : c.maxLocals = 3 := hml0
  have hown : s.vm.findClass "com/example/ambit/ambit/StatementRules$Reach" = some m.cls := findClass_of_methodNamed Bd.named
  have hnm := (name_of_methodNamed Bd.named Bd.method).1
  have X0 : Stand p l e ({ frames := 0, cells := 0, slots := 0, locals := 0 } : Room) s m #[(.ref w_REACHABLE), (.int pz)] below meth c s₁ [] 0 0 := Stand.of_body Bd
  have e0 : s₁.heap = h0 := by rw [← hh, Bd.state]; rfl
  have N0 := Fr.nil n0
  have pre0 : ∀ t, Steps p.tables e below (s₁.setTop (mkF m 0 #[.val (.ref w_REACHABLE), .val (.int pz), .unset] [])) t → Steps p.tables e below (s₁.setTop (entryFrame m #[(.ref w_REACHABLE), (.int pz)] 3)) t := fun t k => castTop (ef_2 m w_REACHABLE pz) k
  obtain ⟨T1, X1, e1, st1⟩ := getS2 X0 hx hZ hown (host := "") (Or.inl (hw _ (List.mem_of_getElem? (i := 13) rfl))) Via.refl e0 S_REACHABLE (g := (mkF m 1 #[.val (.ref w_REACHABLE), .val (.int pz), .unset] [(.ref w_REACHABLE)])) rfl (hb hby d2_1)
  obtain ⟨T2, X2, e2, st2⟩ := getS2 X1 hx hZ hown (host := "") (Or.inl (hw _ (List.mem_of_getElem? (i := 13) rfl))) Via.refl e1 S_REACHABLE (g := (mkF m 18 #[.val (.ref w_REACHABLE), .val (.int pz), .unset] [])) rfl (hb hby d2_18)
  obtain ⟨fs, hr, hrun, hended, hW, hsame⟩ := X2.leave (v := some (.ref w_REACHABLE)) (fun h => by rw [Bd.returns] at h; cases h)
  refine ⟨_, _, pre0 _ ?_, hrun, hended, _, _, rfl, ?_, ⟨_, rfl⟩, hW, hsame.mono (by decide) (by decide)⟩
  · show Steps p.tables e below (s₁.setTop (mkF m 0 #[.val (.ref w_REACHABLE), .val (.int pz), .unset] [])) _
    refine XS.aloadN X0.here hx rfl (hb hby d2_0) rfl rfl ?_
    show Steps p.tables e below (s₁.setTop (mkF m 1 #[.val (.ref w_REACHABLE), .val (.int pz), .unset] [(.ref w_REACHABLE)])) _
    refine st1 _ ?_
    show Steps p.tables e below (T1.setTop (mkF m 4 #[.val (.ref w_REACHABLE), .val (.int pz), .unset] [(.ref w_REACHABLE), (.ref w_REACHABLE)])) _
    refine Jvm.RoadKit.acmp (g := (mkF m 4 #[.val (.ref w_REACHABLE), .val (.int pz), .unset] [(.ref w_REACHABLE), (.ref w_REACHABLE)])) X1 hx rfl rfl rfl (pc0 := 4) (pc' := 14) (same := true) rfl (hb hby d2_4) rfl (decide_eq_true rfl) (by decide) (by decide) ?_
    show Steps p.tables e below (T1.setTop (mkF m 14 #[.val (.ref w_REACHABLE), .val (.int pz), .unset] [])) _
    refine XS.iloadN X1.here hx rfl (hb hby d2_14) rfl ?_
    show Steps p.tables e below (T1.setTop (mkF m 15 #[.val (.ref w_REACHABLE), .val (.int pz), .unset] [(.int pz)])) _
    refine XS.ifNo X1.here hx rfl (hb hby d2_15) rfl ((if0 _ _).trans (feq hz).1) ?_
    show Steps p.tables e below (T1.setTop (mkF m 18 #[.val (.ref w_REACHABLE), .val (.int pz), .unset] [])) _
    refine st2 _ ?_
    show Steps p.tables e below (T2.setTop (mkF m 21 #[.val (.ref w_REACHABLE), .val (.int pz), .unset] [(.ref w_REACHABLE)])) _
    refine XS.astoreN X2.here hx rfl (hb hby d2_21) rfl rfl (l' := #[.val (.ref w_REACHABLE), .val (.int pz), .val (.ref w_REACHABLE)]) rfl ?_
    show Steps p.tables e below (T2.setTop (mkF m 22 #[.val (.ref w_REACHABLE), .val (.int pz), .val (.ref w_REACHABLE)] [])) _
    refine XS.goto X2.here hx rfl (pc0 := 22) (pc' := 29) rfl (hb hby d2_22) (by decide) (by decide) ?_
    show Steps p.tables e below (T2.setTop (mkF m 29 #[.val (.ref w_REACHABLE), .val (.int pz), .val (.ref w_REACHABLE)] [])) _
    refine XS.aloadN X2.here hx rfl (hb hby d2_29) rfl rfl ?_
    show Steps p.tables e below (T2.setTop (mkF m 30 #[.val (.ref w_REACHABLE), .val (.int pz), .val (.ref w_REACHABLE)] [(.ref w_REACHABLE)])) _
    exact retOut X2 hx Bd.returns (by rfl) (Or.inr (Or.inr (Or.inr (Or.inr ⟨rfl, rfl, rfl⟩)))) (hb hby d2_30) hr
  · show Q_rm_next1 Z w_REACHABLE pz h0 n0 _ T2.heap _
    rw [e2]
    exact ⟨rfl, N0, rfl⟩
theorem d2_25 : decode prog_57_method_4_code 25 = .ok (.getstatic 7, 3) := by decide +kernel
theorem d2_28 : decode prog_57_method_4_code 28 = .ok (.astore_n 2, 1) := by decide +kernel
def Q_rm_next0 (Z : State) (w_REACHABLE : Addr) (pz : Int32) (w_UNREACHABLE : Addr) (h0 : Heap) (n0 : Nat) (v : Option Value) (h : Heap) (L : List Loc) : Prop := v = some (.ref w_UNREACHABLE) ∧ Fr n0 L ∧ h = h0
set_option maxRecDepth 65536 in
set_option maxHeartbeats 40000000 in
theorem rm_next0 (l : Launch) (Z : State) (a0 : Array Value) (hw : ∀ d ∈ tables_1, d.before a0 Z = true) (ws : List Jvm.Cond) (w_REACHABLE : Addr) (pz : Int32) (w_UNREACHABLE : Addr) (h0 : Heap) (n0 : Nat) (Z0 : n0 ≤ h0.size) (S_REACHABLE : Sta Z h0 "com/example/ambit/ambit/StatementRules$Reach" "REACHABLE" "Lcom/example/ambit/ambit/StatementRules$Reach;" (.ref w_REACHABLE)) (S_UNREACHABLE : Sta Z h0 "com/example/ambit/ambit/StatementRules$Reach" "UNREACHABLE" "Lcom/example/ambit/ambit/StatementRules$Reach;" (.ref w_UNREACHABLE)) (hz : pz = (0 : Int32)) :
    MetFree l (⟨"com/example/ambit/ambit/StatementRules$Reach", "next", "(Z)Lcom/example/ambit/ambit/StatementRules$Reach;"⟩ : MethodName) (head1 (Jvm.Cond.code (⟨"com/example/ambit/ambit/StatementRules$Reach", "next", "(Z)Lcom/example/ambit/ambit/StatementRules$Reach;"⟩ : MethodName) prog_57_method_4_code 3 (some (.object "com/example/ambit/ambit/StatementRules$Reach")) :: ws) ({ frames := 0, cells := 0, slots := 0, locals := 0 } : Room)) (fun a U => a = #[(.ref w_REACHABLE), (.int pz)] ∧ Z.Warmed39 U.vm ∧ U.heap = h0) (fun _ _ _ _ _ => True) (fun _ U o U' => ∃ v L, o = .returned v ∧ Q_rm_next0 Z w_REACHABLE pz w_UNREACHABLE h0 n0 v U'.heap L ∧ FrameEnd U o U' L ({ frames := 0, cells := 0, slots := 0, locals := 0 } : Room).cells ({ frames := 0, cells := 0, slots := 0, locals := 0 } : Room).slots) := by
  refine MetFree.of_bodySF (plainFor_of_name pn_1) hisR ?_
  intro p e s m args below meth c s₁ Bd hml0 hP hK
  obtain ⟨rfl, hZ, hh⟩ := hP
  have hx := Bd.exec
  have hby := Bd.bytes
  have hml : c.maxLocals = 3 := hml0
  have hown : s.vm.findClass "com/example/ambit/ambit/StatementRules$Reach" = some m.cls := findClass_of_methodNamed Bd.named
  have hnm := (name_of_methodNamed Bd.named Bd.method).1
  have X0 : Stand p l e ({ frames := 0, cells := 0, slots := 0, locals := 0 } : Room) s m #[(.ref w_REACHABLE), (.int pz)] below meth c s₁ [] 0 0 := Stand.of_body Bd
  have e0 : s₁.heap = h0 := by rw [← hh, Bd.state]; rfl
  have N0 := Fr.nil n0
  have pre0 : ∀ t, Steps p.tables e below (s₁.setTop (mkF m 0 #[.val (.ref w_REACHABLE), .val (.int pz), .unset] [])) t → Steps p.tables e below (s₁.setTop (entryFrame m #[(.ref w_REACHABLE), (.int pz)] 3)) t := fun t k => castTop (ef_2 m w_REACHABLE pz) k
  obtain ⟨T1, X1, e1, st1⟩ := getS2 X0 hx hZ hown (host := "") (Or.inl (hw _ (List.mem_of_getElem? (i := 13) rfl))) Via.refl e0 S_REACHABLE (g := (mkF m 1 #[.val (.ref w_REACHABLE), .val (.int pz), .unset] [(.ref w_REACHABLE)])) rfl (hb hby d2_1)
  obtain ⟨T2, X2, e2, st2⟩ := getS2 X1 hx hZ hown (host := "") (Or.inl (hw _ (List.mem_of_getElem? (i := 19) rfl))) Via.refl e1 S_UNREACHABLE (g := (mkF m 25 #[.val (.ref w_REACHABLE), .val (.int pz), .unset] [])) rfl (hb hby d2_25)
  obtain ⟨fs, hr, hrun, hended, hW, hsame⟩ := X2.leave (v := some (.ref w_UNREACHABLE)) (fun h => by rw [Bd.returns] at h; cases h)
  refine ⟨_, _, pre0 _ ?_, hrun, hended, _, _, rfl, ?_, ⟨_, rfl⟩, hW, hsame.mono (by decide) (by decide)⟩
  · show Steps p.tables e below (s₁.setTop (mkF m 0 #[.val (.ref w_REACHABLE), .val (.int pz), .unset] [])) _
    refine XS.aloadN X0.here hx rfl (hb hby d2_0) rfl rfl ?_
    show Steps p.tables e below (s₁.setTop (mkF m 1 #[.val (.ref w_REACHABLE), .val (.int pz), .unset] [(.ref w_REACHABLE)])) _
    refine st1 _ ?_
    show Steps p.tables e below (T1.setTop (mkF m 4 #[.val (.ref w_REACHABLE), .val (.int pz), .unset] [(.ref w_REACHABLE), (.ref w_REACHABLE)])) _
    refine Jvm.RoadKit.acmp (g := (mkF m 4 #[.val (.ref w_REACHABLE), .val (.int pz), .unset] [(.ref w_REACHABLE), (.ref w_REACHABLE)])) X1 hx rfl rfl rfl (pc0 := 4) (pc' := 14) (same := true) rfl (hb hby d2_4) rfl (decide_eq_true rfl) (by decide) (by decide) ?_
    show Steps p.tables e below (T1.setTop (mkF m 14 #[.val (.ref w_REACHABLE), .val (.int pz), .unset] [])) _
    refine XS.iloadN X1.here hx rfl (hb hby d2_14) rfl ?_
    show Steps p.tables e below (T1.setTop (mkF m 15 #[.val (.ref w_REACHABLE), .val (.int pz), .unset] [(.int pz)])) _
    refine XS.ifYes X1.here hx rfl (pc0 := 15) (pc' := 25) rfl (hb hby d2_15) rfl ((if0 _ _).trans (teq hz).1) (by decide) (by decide) ?_
    show Steps p.tables e below (T1.setTop (mkF m 25 #[.val (.ref w_REACHABLE), .val (.int pz), .unset] [])) _
    refine st2 _ ?_
    show Steps p.tables e below (T2.setTop (mkF m 28 #[.val (.ref w_REACHABLE), .val (.int pz), .unset] [(.ref w_UNREACHABLE)])) _
    refine XS.astoreN X2.here hx rfl (hb hby d2_28) rfl rfl (l' := #[.val (.ref w_REACHABLE), .val (.int pz), .val (.ref w_UNREACHABLE)]) rfl ?_
    show Steps p.tables e below (T2.setTop (mkF m 29 #[.val (.ref w_REACHABLE), .val (.int pz), .val (.ref w_UNREACHABLE)] [])) _
    refine XS.aloadN X2.here hx rfl (hb hby d2_29) rfl rfl ?_
    show Steps p.tables e below (T2.setTop (mkF m 30 #[.val (.ref w_REACHABLE), .val (.int pz), .val (.ref w_UNREACHABLE)] [(.ref w_UNREACHABLE)])) _
    exact retOut X2 hx Bd.returns (by rfl) (Or.inr (Or.inr (Or.inr (Or.inr ⟨rfl, rfl, rfl⟩)))) (hb hby d2_30) hr
  · show Q_rm_next0 Z w_REACHABLE pz w_UNREACHABLE h0 n0 _ T2.heap _
    rw [e2]
    exact ⟨rfl, N0, rfl⟩
theorem d2_7 : decode prog_57_method_4_code 7 = .ok (.getstatic 10, 3) := by decide +kernel
theorem d2_10 : decode prog_57_method_4_code 10 = .ok (.astore_n 2, 1) := by decide +kernel
theorem d2_11 : decode prog_57_method_4_code 11 = .ok (.goto 18, 3) := by decide +kernel
def Q_rm_nextA (Z : State) (a1 : Addr) (pz : Int32) (w_REACHABLE : Addr) (w_AFTER_UNREACHABLE : Addr) (h0 : Heap) (n0 : Nat) (v : Option Value) (h : Heap) (L : List Loc) : Prop := v = some (.ref w_AFTER_UNREACHABLE) ∧ Fr n0 L ∧ h = h0
set_option maxRecDepth 65536 in
set_option maxHeartbeats 40000000 in
theorem rm_nextA (l : Launch) (Z : State) (a0 : Array Value) (hw : ∀ d ∈ tables_1, d.before a0 Z = true) (ws : List Jvm.Cond) (a1 : Addr) (pz : Int32) (w_REACHABLE : Addr) (w_AFTER_UNREACHABLE : Addr) (h0 : Heap) (n0 : Nat) (Z0 : n0 ≤ h0.size) (S_REACHABLE : Sta Z h0 "com/example/ambit/ambit/StatementRules$Reach" "REACHABLE" "Lcom/example/ambit/ambit/StatementRules$Reach;" (.ref w_REACHABLE)) (S_AFTER_UNREACHABLE : Sta Z h0 "com/example/ambit/ambit/StatementRules$Reach" "AFTER_UNREACHABLE" "Lcom/example/ambit/ambit/StatementRules$Reach;" (.ref w_AFTER_UNREACHABLE)) (ne1 : a1 ≠ w_REACHABLE) :
    MetFree l (⟨"com/example/ambit/ambit/StatementRules$Reach", "next", "(Z)Lcom/example/ambit/ambit/StatementRules$Reach;"⟩ : MethodName) (head1 (Jvm.Cond.code (⟨"com/example/ambit/ambit/StatementRules$Reach", "next", "(Z)Lcom/example/ambit/ambit/StatementRules$Reach;"⟩ : MethodName) prog_57_method_4_code 3 (some (.object "com/example/ambit/ambit/StatementRules$Reach")) :: ws) ({ frames := 0, cells := 0, slots := 0, locals := 0 } : Room)) (fun a U => a = #[(.ref a1), (.int pz)] ∧ Z.Warmed39 U.vm ∧ U.heap = h0) (fun _ _ _ _ _ => True) (fun _ U o U' => ∃ v L, o = .returned v ∧ Q_rm_nextA Z a1 pz w_REACHABLE w_AFTER_UNREACHABLE h0 n0 v U'.heap L ∧ FrameEnd U o U' L ({ frames := 0, cells := 0, slots := 0, locals := 0 } : Room).cells ({ frames := 0, cells := 0, slots := 0, locals := 0 } : Room).slots) := by
  refine MetFree.of_bodySF (plainFor_of_name pn_1) hisR ?_
  intro p e s m args below meth c s₁ Bd hml0 hP hK
  obtain ⟨rfl, hZ, hh⟩ := hP
  have hx := Bd.exec
  have hby := Bd.bytes
  have hml : c.maxLocals = 3 := hml0
  have hown : s.vm.findClass "com/example/ambit/ambit/StatementRules$Reach" = some m.cls := findClass_of_methodNamed Bd.named
  have hnm := (name_of_methodNamed Bd.named Bd.method).1
  have X0 : Stand p l e ({ frames := 0, cells := 0, slots := 0, locals := 0 } : Room) s m #[(.ref a1), (.int pz)] below meth c s₁ [] 0 0 := Stand.of_body Bd
  have e0 : s₁.heap = h0 := by rw [← hh, Bd.state]; rfl
  have N0 := Fr.nil n0
  have pre0 : ∀ t, Steps p.tables e below (s₁.setTop (mkF m 0 #[.val (.ref a1), .val (.int pz), .unset] [])) t → Steps p.tables e below (s₁.setTop (entryFrame m #[(.ref a1), (.int pz)] 3)) t := fun t k => castTop (ef_2 m a1 pz) k
  obtain ⟨T1, X1, e1, st1⟩ := getS2 X0 hx hZ hown (host := "") (Or.inl (hw _ (List.mem_of_getElem? (i := 13) rfl))) Via.refl e0 S_REACHABLE (g := (mkF m 1 #[.val (.ref a1), .val (.int pz), .unset] [(.ref a1)])) rfl (hb hby d2_1)
  obtain ⟨T2, X2, e2, st2⟩ := getS2 X1 hx hZ hown (host := "") (Or.inl (hw _ (List.mem_of_getElem? (i := 18) rfl))) Via.refl e1 S_AFTER_UNREACHABLE (g := (mkF m 7 #[.val (.ref a1), .val (.int pz), .unset] [])) rfl (hb hby d2_7)
  obtain ⟨fs, hr, hrun, hended, hW, hsame⟩ := X2.leave (v := some (.ref w_AFTER_UNREACHABLE)) (fun h => by rw [Bd.returns] at h; cases h)
  refine ⟨_, _, pre0 _ ?_, hrun, hended, _, _, rfl, ?_, ⟨_, rfl⟩, hW, hsame.mono (by decide) (by decide)⟩
  · show Steps p.tables e below (s₁.setTop (mkF m 0 #[.val (.ref a1), .val (.int pz), .unset] [])) _
    refine XS.aloadN X0.here hx rfl (hb hby d2_0) rfl rfl ?_
    show Steps p.tables e below (s₁.setTop (mkF m 1 #[.val (.ref a1), .val (.int pz), .unset] [(.ref a1)])) _
    refine st1 _ ?_
    show Steps p.tables e below (T1.setTop (mkF m 4 #[.val (.ref a1), .val (.int pz), .unset] [(.ref w_REACHABLE), (.ref a1)])) _
    refine Jvm.RoadKit.acmp (g := (mkF m 4 #[.val (.ref a1), .val (.int pz), .unset] [(.ref w_REACHABLE), (.ref a1)])) X1 hx rfl rfl rfl (pc0 := 4) (pc' := 7) (same := false) rfl (hb hby d2_4) rfl (decide_eq_false fun q => ne1 (Value.ref.inj q)) (by decide) (by decide) ?_
    show Steps p.tables e below (T1.setTop (mkF m 7 #[.val (.ref a1), .val (.int pz), .unset] [])) _
    refine st2 _ ?_
    show Steps p.tables e below (T2.setTop (mkF m 10 #[.val (.ref a1), .val (.int pz), .unset] [(.ref w_AFTER_UNREACHABLE)])) _
    refine XS.astoreN X2.here hx rfl (hb hby d2_10) rfl rfl (l' := #[.val (.ref a1), .val (.int pz), .val (.ref w_AFTER_UNREACHABLE)]) rfl ?_
    show Steps p.tables e below (T2.setTop (mkF m 11 #[.val (.ref a1), .val (.int pz), .val (.ref w_AFTER_UNREACHABLE)] [])) _
    refine XS.goto X2.here hx rfl (pc0 := 11) (pc' := 29) rfl (hb hby d2_11) (by decide) (by decide) ?_
    show Steps p.tables e below (T2.setTop (mkF m 29 #[.val (.ref a1), .val (.int pz), .val (.ref w_AFTER_UNREACHABLE)] [])) _
    refine XS.aloadN X2.here hx rfl (hb hby d2_29) rfl rfl ?_
    show Steps p.tables e below (T2.setTop (mkF m 30 #[.val (.ref a1), .val (.int pz), .val (.ref w_AFTER_UNREACHABLE)] [(.ref w_AFTER_UNREACHABLE)])) _
    exact retOut X2 hx Bd.returns (by rfl) (Or.inr (Or.inr (Or.inr (Or.inr ⟨rfl, rfl, rfl⟩)))) (hb hby d2_30) hr
  · show Q_rm_nextA Z a1 pz w_REACHABLE w_AFTER_UNREACHABLE h0 n0 _ T2.heap _
    rw [e2]
    exact ⟨rfl, N0, rfl⟩
theorem pd_0 : parseMethodDescriptor "(I)Lcom/example/ambit/ambit/StatementRules$Reach;" = some ⟨[.int], some (.object "com/example/ambit/ambit/StatementRules$Reach")⟩ := by decide +kernel
theorem pd_1 : parseMethodDescriptor "(Z)Lcom/example/ambit/ambit/StatementRules$Reach;" = some ⟨[.boolean], some (.object "com/example/ambit/ambit/StatementRules$Reach")⟩ := by decide +kernel
theorem ef_0 (m : MethodId) (x0 : Int32) (x1 : Int32) : entryFrame m #[(.int x0), (.int x1)] maxLocals = mkF m 0 #[.val (.int x0), .val (.int x1), .unset, .unset, .unset, .unset, .unset, .unset, .unset] [] := by first | (simp [entryFrame, mkF, argsToLocals, Value.category, maxLocals]; done) | rfl
def Q_rm_law (Z : State) (p0 : Int32) (p1 : Int32) (w_REACHABLE : Addr) (w_UNREACHABLE : Addr) (w_AFTER_UNREACHABLE : Addr) (h0 : Heap) (n0 : Nat) (v : Option Value) (h : Heap) (L : List Loc) : Prop := v = some (.int (1 : Int32)) ∧ Fr n0 L ∧ h = h0
set_option maxRecDepth 65536 in
set_option maxHeartbeats 40000000 in
theorem rm_law (l : Launch) (Z : State) (a0 : Array Value) (hw : ∀ d ∈ tables_1, d.before a0 Z = true) (ws : List Jvm.Cond) (p0 : Int32) (p1 : Int32) (w_REACHABLE : Addr) (w_UNREACHABLE : Addr) (w_AFTER_UNREACHABLE : Addr) (h0 : Heap) (n0 : Nat) (Z0 : n0 ≤ h0.size) (S_REACHABLE : Sta Z h0 "com/example/ambit/ambit/StatementRules$Reach" "REACHABLE" "Lcom/example/ambit/ambit/StatementRules$Reach;" (.ref w_REACHABLE)) (S_UNREACHABLE : Sta Z h0 "com/example/ambit/ambit/StatementRules$Reach" "UNREACHABLE" "Lcom/example/ambit/ambit/StatementRules$Reach;" (.ref w_UNREACHABLE)) (S_AFTER_UNREACHABLE : Sta Z h0 "com/example/ambit/ambit/StatementRules$Reach" "AFTER_UNREACHABLE" "Lcom/example/ambit/ambit/StatementRules$Reach;" (.ref w_AFTER_UNREACHABLE)) (E_REACHABLE : Exa Z h0 w_REACHABLE "com/example/ambit/ambit/StatementRules$Reach") (E_UNREACHABLE : Exa Z h0 w_UNREACHABLE "com/example/ambit/ambit/StatementRules$Reach") (E_AFTER_UNREACHABLE : Exa Z h0 w_AFTER_UNREACHABLE "com/example/ambit/ambit/StatementRules$Reach") (F_REACHABLE_ordinal : Fld Z h0 w_REACHABLE "java/lang/Enum" "ordinal" "I" (.int (0 : Int32))) (F_UNREACHABLE_ordinal : Fld Z h0 w_UNREACHABLE "java/lang/Enum" "ordinal" "I" (.int (1 : Int32))) (F_AFTER_UNREACHABLE_ordinal : Fld Z h0 w_AFTER_UNREACHABLE "java/lang/Enum" "ordinal" "I" (.int (2 : Int32))) :
    MetFree l x (head1 (Jvm.Cond.code x code maxLocals ret :: ws) room_1) (fun a U => a = #[(.int p0), (.int p1)] ∧ Z.Warmed39 U.vm ∧ U.heap = h0) (fun _ _ _ _ _ => True) (fun _ U o U' => ∃ v L, o = .returned v ∧ Q_rm_law Z p0 p1 w_REACHABLE w_UNREACHABLE w_AFTER_UNREACHABLE h0 n0 v U'.heap L ∧ FrameEnd U o U' L room_1.cells room_1.slots) := by
  refine MetFree.of_bodySF (plainFor_of_name pn_0) hisR ?_
  intro p e s m args below meth c s₁ Bd hml0 hP hK
  obtain ⟨rfl, hZ, hh⟩ := hP
  have hx := Bd.exec
  have hby := Bd.bytes
  have hml : c.maxLocals = 9 := hml0
  have hown : s.vm.findClass "com/example/ambit/ambit/ReachNextPinLaw" = some m.cls := findClass_of_methodNamed Bd.named
  have hnm := (name_of_methodNamed Bd.named Bd.method).1
  have X0 : Stand p l e room_1 s m #[(.int p0), (.int p1)] below meth c s₁ [] 0 0 := Stand.of_body Bd
  have e0 : s₁.heap = h0 := by rw [← hh, Bd.state]; rfl
  have N0 := Fr.nil n0
  have pre0 : ∀ t, Steps p.tables e below (s₁.setTop (mkF m 0 #[.val (.int p0), .val (.int p1), .unset, .unset, .unset, .unset, .unset, .unset, .unset] [])) t → Steps p.tables e below (s₁.setTop (entryFrame m #[(.int p0), (.int p1)] maxLocals)) t := fun t k => castTop (ef_0 m p0 p1) k
  have ne_REACHABLE_UNREACHABLE : w_REACHABLE ≠ w_UNREACHABLE := Fld.ne F_REACHABLE_ordinal F_UNREACHABLE_ordinal (by intro q; injection q with q; exact absurd q (by decide))
  have ne_REACHABLE_AFTER_UNREACHABLE : w_REACHABLE ≠ w_AFTER_UNREACHABLE := Fld.ne F_REACHABLE_ordinal F_AFTER_UNREACHABLE_ordinal (by intro q; injection q with q; exact absurd q (by decide))
  have ne_UNREACHABLE_AFTER_UNREACHABLE : w_UNREACHABLE ≠ w_AFTER_UNREACHABLE := Fld.ne F_UNREACHABLE_ordinal F_AFTER_UNREACHABLE_ordinal (by intro q; injection q with q; exact absurd q (by decide))
  have k1 : ∀ target, Steps p.tables e below (s₁.setTop (mkF m 1 #[.val (.int p0), .val (.int p1), .unset, .unset, .unset, .unset, .unset, .unset, .unset] [(.int p0)])) target → Steps p.tables e below (s₁.setTop (mkF m 0 #[.val (.int p0), .val (.int p1), .unset, .unset, .unset, .unset, .unset, .unset, .unset] [])) target := by
    intro target kt
    show Steps p.tables e below (s₁.setTop (mkF m 0 #[.val (.int p0), .val (.int p1), .unset, .unset, .unset, .unset, .unset, .unset, .unset] [])) _
    refine XS.iloadN X0.here hx rfl (hb hby at_0) rfl ?_
    exact kt
  by_cases hk0 : ((p0 &&& (2147483647 : Int32)) % (3 : Int32)) = (0 : Int32)
  · obtain ⟨_, _, ⟨T2, L2, k2, n2⟩, -, X2, ⟨Lc2, hQ2, l2, y2, z2⟩, st2⟩ := Jvm.LawKit.callS X0 hx (y := (⟨"com/example/ambit/ambit/ReachNextPinLaw", "pick", "(I)Lcom/example/ambit/ambit/StatementRules$Reach;"⟩ : MethodName)) hown (mvT hZ (hw _ (List.mem_of_getElem? (i := 0) rfl))) (mvT hZ (hw _ (List.mem_of_getElem? (i := 1) rfl))) (mvT hZ (hw _ (List.mem_of_getElem? (i := 2) rfl))) (mvT hZ (hw _ (List.mem_of_getElem? (i := 3) rfl))) (by decide) (backOf (W := 0) (rm_pick0 l Z a0 hw [] p0 w_REACHABLE h0 n0 Z0 S_REACHABLE hk0) hZ (hw _ (List.mem_of_getElem? (i := 3) rfl)) (hw _ (List.mem_of_getElem? (i := 2) rfl)) (by decide) (by decide)) (g := (mkF m 1 #[.val (.int p0), .val (.int p1), .unset, .unset, .unset, .unset, .unset, .unset, .unset] [(.int p0)])) rfl (by rw [hml]; rfl) (argsL := [(.int p0)]) (rest := []) (lenOf pd_0 rfl) rfl (by show 2 * 0 + _ ≤ _; exact Nat.le_of_eq rfl) (hb hby at_1) (fun _ _ => ⟨rfl, e0, (by decide : 0 + 0 ≤ _), (by decide : 0 + 0 ≤ _)⟩)
    dsimp only [Pt.U, Pt.locs, Pt.cells, Pt.slots] at X2 l2 y2 z2 st2 hQ2
    subst l2 y2 z2
    obtain ⟨rfl, N2q, e2⟩ := hQ2
    have N2 := Fr.app N0 N2q
    have k3 : ∀ target, Steps p.tables e below (T2.setTop (mkF m 8 #[.val (.int p0), .val (.int p1), .val (.ref w_REACHABLE), .unset, .unset, .unset, .unset, .unset, .unset] [(.int (p1 &&& (1 : Int32)))])) target → Steps p.tables e below (s₁.setTop (mkF m 0 #[.val (.int p0), .val (.int p1), .unset, .unset, .unset, .unset, .unset, .unset, .unset] [])) target := by
      intro target kt
      refine k1 _ ?_
      show Steps p.tables e below (s₁.setTop (mkF m 1 #[.val (.int p0), .val (.int p1), .unset, .unset, .unset, .unset, .unset, .unset, .unset] [(.int p0)])) _
      refine st2 _ ?_
      show Steps p.tables e below (T2.setTop (mkF m 4 #[.val (.int p0), .val (.int p1), .unset, .unset, .unset, .unset, .unset, .unset, .unset] [(.ref w_REACHABLE)])) _
      refine XS.astoreN X2.here hx rfl (hb hby at_4) rfl rfl (l' := #[.val (.int p0), .val (.int p1), .val (.ref w_REACHABLE), .unset, .unset, .unset, .unset, .unset, .unset]) rfl ?_
      show Steps p.tables e below (T2.setTop (mkF m 5 #[.val (.int p0), .val (.int p1), .val (.ref w_REACHABLE), .unset, .unset, .unset, .unset, .unset, .unset] [])) _
      refine XS.iloadN X2.here hx rfl (hb hby at_5) rfl ?_
      show Steps p.tables e below (T2.setTop (mkF m 6 #[.val (.int p0), .val (.int p1), .val (.ref w_REACHABLE), .unset, .unset, .unset, .unset, .unset, .unset] [(.int p1)])) _
      refine XS.iconst X2.here hx rfl (hb hby at_6) ?_
      show Steps p.tables e below (T2.setTop (mkF m 7 #[.val (.int p0), .val (.int p1), .val (.ref w_REACHABLE), .unset, .unset, .unset, .unset, .unset, .unset] [(.int (1 : Int32)), (.int p1)])) _
      refine XS.iand X2.here hx rfl (hb hby at_7) rfl ?_
      exact kt
    by_cases hc8 : (p1 &&& (1 : Int32)) = (0 : Int32)
    · obtain ⟨cq4, kq4, q4a, q4b, q4c⟩ := isOf hZ e2 E_REACHABLE
      obtain ⟨_, _, ⟨T4, L4, k4, n4⟩, -, X4, ⟨Lc4, hQ4, l4, y4, z4⟩, st4⟩ := X2.virtualBack hx (y := (⟨"com/example/ambit/ambit/StatementRules$Reach", "next", "(Z)Lcom/example/ambit/ambit/StatementRules$Reach;"⟩ : MethodName)) (z := (⟨"com/example/ambit/ambit/StatementRules$Reach", "next", "(Z)Lcom/example/ambit/ambit/StatementRules$Reach;"⟩ : MethodName)) hown (mvT hZ (hw _ (List.mem_of_getElem? (i := 8) rfl))) (mvT hZ (hw _ (List.mem_of_getElem? (i := 9) rfl))) (notFace_of_selects (args := #[]) (mvT hZ (hw _ (List.mem_of_getElem? (i := 11) rfl)))) (mvT hZ (hw _ (List.mem_of_getElem? (i := 11) rfl))) (mvT hZ (hw _ (List.mem_of_getElem? (i := 10) rfl))) (by decide) (backOf (W := 0) (rm_next0 l Z a0 hw [] w_REACHABLE (0 : Int32) w_UNREACHABLE h0 n0 Z0 S_REACHABLE S_UNREACHABLE (by decide)) hZ (hw _ (List.mem_of_getElem? (i := 12) rfl)) (hw _ (List.mem_of_getElem? (i := 6) rfl)) (by decide) (by decide)) q4a q4c (g := (mkF m 19 #[.val (.int p0), .val (.int p1), .val (.ref w_REACHABLE), .val (.int (0 : Int32)), .unset, .unset, .unset, .unset, .unset] [(.int (0 : Int32)), (.ref w_REACHABLE)])) rfl (by rw [hml]; rfl) (Steps.refl _) (argsL := [(.int (0 : Int32))]) (rest := []) (lenOf pd_1 rfl) rfl (by show 2 * 0 + _ ≤ _; exact Nat.le_of_eq rfl) (hb hby at_19) (fun _ _ => ⟨rfl, e2, (by decide : 0 + 0 ≤ _), (by decide : 0 + 0 ≤ _)⟩)
      dsimp only [Pt.U, Pt.locs, Pt.cells, Pt.slots] at X4 l4 y4 z4 st4 hQ4
      subst l4 y4 z4
      obtain ⟨rfl, N4q, e4⟩ := hQ4
      have N4 := Fr.app N2 N4q
      obtain ⟨T5, X5, e5, st5⟩ := getS2 X4 hx hZ hown (host := "") (Or.inl (hw _ (List.mem_of_getElem? (i := 5) rfl))) Via.refl e4 S_REACHABLE (g := (mkF m 25 #[.val (.int p0), .val (.int p1), .val (.ref w_REACHABLE), .val (.int (0 : Int32)), .val (.ref w_UNREACHABLE), .unset, .unset, .unset, .unset] [(.ref w_REACHABLE)])) rfl (hb hby at_25)
      obtain ⟨T6, X6, e6, st6⟩ := getS2 X5 hx hZ hown (host := "") (Or.inl (hw _ (List.mem_of_getElem? (i := 5) rfl))) Via.refl e5 S_REACHABLE (g := (mkF m 89 #[.val (.int p0), .val (.int p1), .val (.ref w_REACHABLE), .val (.int (0 : Int32)), .val (.ref w_UNREACHABLE), .val (.int (1 : Int32)), .val (.int (0 : Int32)), .val (.int (1 : Int32)), .val (.int (0 : Int32))] [(.ref w_UNREACHABLE)])) rfl (hb hby at_89)
      obtain ⟨T7, X7, e7, st7⟩ := getS2 X6 hx hZ hown (host := "") (Or.inl (hw _ (List.mem_of_getElem? (i := 14) rfl))) Via.refl e6 S_UNREACHABLE (g := (mkF m 107 #[.val (.int p0), .val (.int p1), .val (.ref w_REACHABLE), .val (.int (0 : Int32)), .val (.ref w_UNREACHABLE), .val (.int (1 : Int32)), .val (.int (0 : Int32)), .val (.int (1 : Int32)), .val (.int (0 : Int32))] [(.ref w_UNREACHABLE)])) rfl (hb hby at_107)
      obtain ⟨T8, X8, e8, st8⟩ := getS2 X7 hx hZ hown (host := "") (Or.inl (hw _ (List.mem_of_getElem? (i := 16) rfl))) Via.refl e7 S_AFTER_UNREACHABLE (g := (mkF m 125 #[.val (.int p0), .val (.int p1), .val (.ref w_REACHABLE), .val (.int (0 : Int32)), .val (.ref w_UNREACHABLE), .val (.int (1 : Int32)), .val (.int (0 : Int32)), .val (.int (1 : Int32)), .val (.int (0 : Int32))] [(.ref w_UNREACHABLE)])) rfl (hb hby at_125)
      obtain ⟨fs, hr, hrun, hended, hW, hsame⟩ := X8.leave (v := some (.int (1 : Int32))) (fun h => by rw [Bd.returns] at h; cases h)
      refine ⟨_, _, pre0 _ ?_, hrun, hended, _, _, rfl, ?_, ⟨_, rfl⟩, hW, hsame.mono (by decide) (by decide)⟩
      · refine k3 _ ?_
        show Steps p.tables e below (T2.setTop (mkF m 8 #[.val (.int p0), .val (.int p1), .val (.ref w_REACHABLE), .unset, .unset, .unset, .unset, .unset, .unset] [(.int (p1 &&& (1 : Int32)))])) _
        refine XS.ifYes X2.here hx rfl (pc0 := 8) (pc' := 15) rfl (hb hby at_8) rfl ((if0 _ _).trans (teq hc8).1) (by decide) (by decide) ?_
        show Steps p.tables e below (T2.setTop (mkF m 15 #[.val (.int p0), .val (.int p1), .val (.ref w_REACHABLE), .unset, .unset, .unset, .unset, .unset, .unset] [])) _
        refine XS.iconst X2.here hx rfl (hb hby at_15) ?_
        show Steps p.tables e below (T2.setTop (mkF m 16 #[.val (.int p0), .val (.int p1), .val (.ref w_REACHABLE), .unset, .unset, .unset, .unset, .unset, .unset] [(.int (0 : Int32))])) _
        refine XS.istoreN X2.here hx rfl (hb hby at_16) rfl (l' := #[.val (.int p0), .val (.int p1), .val (.ref w_REACHABLE), .val (.int (0 : Int32)), .unset, .unset, .unset, .unset, .unset]) rfl ?_
        show Steps p.tables e below (T2.setTop (mkF m 17 #[.val (.int p0), .val (.int p1), .val (.ref w_REACHABLE), .val (.int (0 : Int32)), .unset, .unset, .unset, .unset, .unset] [])) _
        refine XS.aloadN X2.here hx rfl (hb hby at_17) rfl rfl ?_
        show Steps p.tables e below (T2.setTop (mkF m 18 #[.val (.int p0), .val (.int p1), .val (.ref w_REACHABLE), .val (.int (0 : Int32)), .unset, .unset, .unset, .unset, .unset] [(.ref w_REACHABLE)])) _
        refine XS.iloadN X2.here hx rfl (hb hby at_18) rfl ?_
        show Steps p.tables e below (T2.setTop (mkF m 19 #[.val (.int p0), .val (.int p1), .val (.ref w_REACHABLE), .val (.int (0 : Int32)), .unset, .unset, .unset, .unset, .unset] [(.int (0 : Int32)), (.ref w_REACHABLE)])) _
        refine st4.trans ?_
        show Steps p.tables e below (T4.setTop (mkF m 22 #[.val (.int p0), .val (.int p1), .val (.ref w_REACHABLE), .val (.int (0 : Int32)), .unset, .unset, .unset, .unset, .unset] [(.ref w_UNREACHABLE)])) _
        refine XS.astore X4.here hx rfl (hb hby at_22) rfl rfl (l' := #[.val (.int p0), .val (.int p1), .val (.ref w_REACHABLE), .val (.int (0 : Int32)), .val (.ref w_UNREACHABLE), .unset, .unset, .unset, .unset]) rfl ?_
        show Steps p.tables e below (T4.setTop (mkF m 24 #[.val (.int p0), .val (.int p1), .val (.ref w_REACHABLE), .val (.int (0 : Int32)), .val (.ref w_UNREACHABLE), .unset, .unset, .unset, .unset] [])) _
        refine XS.aloadN X4.here hx rfl (hb hby at_24) rfl rfl ?_
        show Steps p.tables e below (T4.setTop (mkF m 25 #[.val (.int p0), .val (.int p1), .val (.ref w_REACHABLE), .val (.int (0 : Int32)), .val (.ref w_UNREACHABLE), .unset, .unset, .unset, .unset] [(.ref w_REACHABLE)])) _
        refine st5 _ ?_
        show Steps p.tables e below (T5.setTop (mkF m 28 #[.val (.int p0), .val (.int p1), .val (.ref w_REACHABLE), .val (.int (0 : Int32)), .val (.ref w_UNREACHABLE), .unset, .unset, .unset, .unset] [(.ref w_REACHABLE), (.ref w_REACHABLE)])) _
        refine Jvm.RoadKit.acmp (g := (mkF m 28 #[.val (.int p0), .val (.int p1), .val (.ref w_REACHABLE), .val (.int (0 : Int32)), .val (.ref w_UNREACHABLE), .unset, .unset, .unset, .unset] [(.ref w_REACHABLE), (.ref w_REACHABLE)])) X5 hx rfl rfl rfl (pc0 := 28) (pc' := 31) (same := true) rfl (hb hby at_28) rfl (decide_eq_true rfl) (by decide) (by decide) ?_
        show Steps p.tables e below (T5.setTop (mkF m 31 #[.val (.int p0), .val (.int p1), .val (.ref w_REACHABLE), .val (.int (0 : Int32)), .val (.ref w_UNREACHABLE), .unset, .unset, .unset, .unset] [])) _
        refine XS.iconst X5.here hx rfl (hb hby at_31) ?_
        show Steps p.tables e below (T5.setTop (mkF m 32 #[.val (.int p0), .val (.int p1), .val (.ref w_REACHABLE), .val (.int (0 : Int32)), .val (.ref w_UNREACHABLE), .unset, .unset, .unset, .unset] [(.int (1 : Int32))])) _
        refine XS.goto X5.here hx rfl (pc0 := 32) (pc' := 36) rfl (hb hby at_32) (by decide) (by decide) ?_
        show Steps p.tables e below (T5.setTop (mkF m 36 #[.val (.int p0), .val (.int p1), .val (.ref w_REACHABLE), .val (.int (0 : Int32)), .val (.ref w_UNREACHABLE), .unset, .unset, .unset, .unset] [(.int (1 : Int32))])) _
        refine XS.istore X5.here hx rfl (hb hby at_36) rfl (l' := #[.val (.int p0), .val (.int p1), .val (.ref w_REACHABLE), .val (.int (0 : Int32)), .val (.ref w_UNREACHABLE), .val (.int (1 : Int32)), .unset, .unset, .unset]) rfl ?_
        show Steps p.tables e below (T5.setTop (mkF m 38 #[.val (.int p0), .val (.int p1), .val (.ref w_REACHABLE), .val (.int (0 : Int32)), .val (.ref w_UNREACHABLE), .val (.int (1 : Int32)), .unset, .unset, .unset] [])) _
        refine XS.iload X5.here hx rfl (hb hby at_38) rfl ?_
        show Steps p.tables e below (T5.setTop (mkF m 40 #[.val (.int p0), .val (.int p1), .val (.ref w_REACHABLE), .val (.int (0 : Int32)), .val (.ref w_UNREACHABLE), .val (.int (1 : Int32)), .unset, .unset, .unset] [(.int (1 : Int32))])) _
        refine XS.ifNo X5.here hx rfl (hb hby at_40) rfl ((if0 _ _).trans (feq (by decide : ¬ ((1 : Int32) = (0 : Int32)))).1) ?_
        show Steps p.tables e below (T5.setTop (mkF m 43 #[.val (.int p0), .val (.int p1), .val (.ref w_REACHABLE), .val (.int (0 : Int32)), .val (.ref w_UNREACHABLE), .val (.int (1 : Int32)), .unset, .unset, .unset] [])) _
        refine XS.iloadN X5.here hx rfl (hb hby at_43) rfl ?_
        show Steps p.tables e below (T5.setTop (mkF m 44 #[.val (.int p0), .val (.int p1), .val (.ref w_REACHABLE), .val (.int (0 : Int32)), .val (.ref w_UNREACHABLE), .val (.int (1 : Int32)), .unset, .unset, .unset] [(.int (0 : Int32))])) _
        refine XS.ifYes X5.here hx rfl (pc0 := 44) (pc' := 51) rfl (hb hby at_44) rfl ((if0 _ _).trans (teq (by decide : (0 : Int32) = (0 : Int32))).1) (by decide) (by decide) ?_
        show Steps p.tables e below (T5.setTop (mkF m 51 #[.val (.int p0), .val (.int p1), .val (.ref w_REACHABLE), .val (.int (0 : Int32)), .val (.ref w_UNREACHABLE), .val (.int (1 : Int32)), .unset, .unset, .unset] [])) _
        refine XS.iconst X5.here hx rfl (hb hby at_51) ?_
        show Steps p.tables e below (T5.setTop (mkF m 52 #[.val (.int p0), .val (.int p1), .val (.ref w_REACHABLE), .val (.int (0 : Int32)), .val (.ref w_UNREACHABLE), .val (.int (1 : Int32)), .unset, .unset, .unset] [(.int (0 : Int32))])) _
        refine XS.istore X5.here hx rfl (hb hby at_52) rfl (l' := #[.val (.int p0), .val (.int p1), .val (.ref w_REACHABLE), .val (.int (0 : Int32)), .val (.ref w_UNREACHABLE), .val (.int (1 : Int32)), .val (.int (0 : Int32)), .unset, .unset]) rfl ?_
        show Steps p.tables e below (T5.setTop (mkF m 54 #[.val (.int p0), .val (.int p1), .val (.ref w_REACHABLE), .val (.int (0 : Int32)), .val (.ref w_UNREACHABLE), .val (.int (1 : Int32)), .val (.int (0 : Int32)), .unset, .unset] [])) _
        refine XS.iload X5.here hx rfl (hb hby at_54) rfl ?_
        show Steps p.tables e below (T5.setTop (mkF m 56 #[.val (.int p0), .val (.int p1), .val (.ref w_REACHABLE), .val (.int (0 : Int32)), .val (.ref w_UNREACHABLE), .val (.int (1 : Int32)), .val (.int (0 : Int32)), .unset, .unset] [(.int (1 : Int32))])) _
        refine XS.ifNo X5.here hx rfl (hb hby at_56) rfl ((if0 _ _).trans (feq (by decide : ¬ ((1 : Int32) = (0 : Int32)))).1) ?_
        show Steps p.tables e below (T5.setTop (mkF m 59 #[.val (.int p0), .val (.int p1), .val (.ref w_REACHABLE), .val (.int (0 : Int32)), .val (.ref w_UNREACHABLE), .val (.int (1 : Int32)), .val (.int (0 : Int32)), .unset, .unset] [])) _
        refine XS.iloadN X5.here hx rfl (hb hby at_59) rfl ?_
        show Steps p.tables e below (T5.setTop (mkF m 60 #[.val (.int p0), .val (.int p1), .val (.ref w_REACHABLE), .val (.int (0 : Int32)), .val (.ref w_UNREACHABLE), .val (.int (1 : Int32)), .val (.int (0 : Int32)), .unset, .unset] [(.int (0 : Int32))])) _
        refine XS.ifNo X5.here hx rfl (hb hby at_60) rfl ((if0 _ _).trans (teq (by decide : (0 : Int32) = (0 : Int32))).2) ?_
        show Steps p.tables e below (T5.setTop (mkF m 63 #[.val (.int p0), .val (.int p1), .val (.ref w_REACHABLE), .val (.int (0 : Int32)), .val (.ref w_UNREACHABLE), .val (.int (1 : Int32)), .val (.int (0 : Int32)), .unset, .unset] [])) _
        refine XS.iconst X5.here hx rfl (hb hby at_63) ?_
        show Steps p.tables e below (T5.setTop (mkF m 64 #[.val (.int p0), .val (.int p1), .val (.ref w_REACHABLE), .val (.int (0 : Int32)), .val (.ref w_UNREACHABLE), .val (.int (1 : Int32)), .val (.int (0 : Int32)), .unset, .unset] [(.int (1 : Int32))])) _
        refine XS.goto X5.here hx rfl (pc0 := 64) (pc' := 68) rfl (hb hby at_64) (by decide) (by decide) ?_
        show Steps p.tables e below (T5.setTop (mkF m 68 #[.val (.int p0), .val (.int p1), .val (.ref w_REACHABLE), .val (.int (0 : Int32)), .val (.ref w_UNREACHABLE), .val (.int (1 : Int32)), .val (.int (0 : Int32)), .unset, .unset] [(.int (1 : Int32))])) _
        refine XS.istore X5.here hx rfl (hb hby at_68) rfl (l' := #[.val (.int p0), .val (.int p1), .val (.ref w_REACHABLE), .val (.int (0 : Int32)), .val (.ref w_UNREACHABLE), .val (.int (1 : Int32)), .val (.int (0 : Int32)), .val (.int (1 : Int32)), .unset]) rfl ?_
        show Steps p.tables e below (T5.setTop (mkF m 70 #[.val (.int p0), .val (.int p1), .val (.ref w_REACHABLE), .val (.int (0 : Int32)), .val (.ref w_UNREACHABLE), .val (.int (1 : Int32)), .val (.int (0 : Int32)), .val (.int (1 : Int32)), .unset] [])) _
        refine XS.iload X5.here hx rfl (hb hby at_70) rfl ?_
        show Steps p.tables e below (T5.setTop (mkF m 72 #[.val (.int p0), .val (.int p1), .val (.ref w_REACHABLE), .val (.int (0 : Int32)), .val (.ref w_UNREACHABLE), .val (.int (1 : Int32)), .val (.int (0 : Int32)), .val (.int (1 : Int32)), .unset] [(.int (1 : Int32))])) _
        refine XS.ifYes X5.here hx rfl (pc0 := 72) (pc' := 79) rfl (hb hby at_72) rfl ((if0 _ _).trans (feq (by decide : ¬ ((1 : Int32) = (0 : Int32)))).2) (by decide) (by decide) ?_
        show Steps p.tables e below (T5.setTop (mkF m 79 #[.val (.int p0), .val (.int p1), .val (.ref w_REACHABLE), .val (.int (0 : Int32)), .val (.ref w_UNREACHABLE), .val (.int (1 : Int32)), .val (.int (0 : Int32)), .val (.int (1 : Int32)), .unset] [])) _
        refine XS.iconst X5.here hx rfl (hb hby at_79) ?_
        show Steps p.tables e below (T5.setTop (mkF m 80 #[.val (.int p0), .val (.int p1), .val (.ref w_REACHABLE), .val (.int (0 : Int32)), .val (.ref w_UNREACHABLE), .val (.int (1 : Int32)), .val (.int (0 : Int32)), .val (.int (1 : Int32)), .unset] [(.int (0 : Int32))])) _
        refine XS.istore X5.here hx rfl (hb hby at_80) rfl (l' := #[.val (.int p0), .val (.int p1), .val (.ref w_REACHABLE), .val (.int (0 : Int32)), .val (.ref w_UNREACHABLE), .val (.int (1 : Int32)), .val (.int (0 : Int32)), .val (.int (1 : Int32)), .val (.int (0 : Int32))]) rfl ?_
        show Steps p.tables e below (T5.setTop (mkF m 82 #[.val (.int p0), .val (.int p1), .val (.ref w_REACHABLE), .val (.int (0 : Int32)), .val (.ref w_UNREACHABLE), .val (.int (1 : Int32)), .val (.int (0 : Int32)), .val (.int (1 : Int32)), .val (.int (0 : Int32))] [])) _
        refine XS.aload X5.here hx rfl (hb hby at_82) rfl rfl ?_
        show Steps p.tables e below (T5.setTop (mkF m 84 #[.val (.int p0), .val (.int p1), .val (.ref w_REACHABLE), .val (.int (0 : Int32)), .val (.ref w_UNREACHABLE), .val (.int (1 : Int32)), .val (.int (0 : Int32)), .val (.int (1 : Int32)), .val (.int (0 : Int32))] [(.ref w_UNREACHABLE)])) _
        refine XS.ifnullNo X5.here hx rfl (hb hby at_84) rfl ?_
        show Steps p.tables e below (T5.setTop (mkF m 87 #[.val (.int p0), .val (.int p1), .val (.ref w_REACHABLE), .val (.int (0 : Int32)), .val (.ref w_UNREACHABLE), .val (.int (1 : Int32)), .val (.int (0 : Int32)), .val (.int (1 : Int32)), .val (.int (0 : Int32))] [])) _
        refine XS.aload X5.here hx rfl (hb hby at_87) rfl rfl ?_
        show Steps p.tables e below (T5.setTop (mkF m 89 #[.val (.int p0), .val (.int p1), .val (.ref w_REACHABLE), .val (.int (0 : Int32)), .val (.ref w_UNREACHABLE), .val (.int (1 : Int32)), .val (.int (0 : Int32)), .val (.int (1 : Int32)), .val (.int (0 : Int32))] [(.ref w_UNREACHABLE)])) _
        refine st6 _ ?_
        show Steps p.tables e below (T6.setTop (mkF m 92 #[.val (.int p0), .val (.int p1), .val (.ref w_REACHABLE), .val (.int (0 : Int32)), .val (.ref w_UNREACHABLE), .val (.int (1 : Int32)), .val (.int (0 : Int32)), .val (.int (1 : Int32)), .val (.int (0 : Int32))] [(.ref w_REACHABLE), (.ref w_UNREACHABLE)])) _
        refine Jvm.RoadKit.acmp (g := (mkF m 92 #[.val (.int p0), .val (.int p1), .val (.ref w_REACHABLE), .val (.int (0 : Int32)), .val (.ref w_UNREACHABLE), .val (.int (1 : Int32)), .val (.int (0 : Int32)), .val (.int (1 : Int32)), .val (.int (0 : Int32))] [(.ref w_REACHABLE), (.ref w_UNREACHABLE)])) X6 hx rfl rfl rfl (pc0 := 92) (pc' := 99) (same := false) rfl (hb hby at_92) rfl (decide_eq_false fun q => (Ne.symm ne_REACHABLE_UNREACHABLE) (Value.ref.inj q)) (by decide) (by decide) ?_
        show Steps p.tables e below (T6.setTop (mkF m 99 #[.val (.int p0), .val (.int p1), .val (.ref w_REACHABLE), .val (.int (0 : Int32)), .val (.ref w_UNREACHABLE), .val (.int (1 : Int32)), .val (.int (0 : Int32)), .val (.int (1 : Int32)), .val (.int (0 : Int32))] [])) _
        refine XS.iconst X6.here hx rfl (hb hby at_99) ?_
        show Steps p.tables e below (T6.setTop (mkF m 100 #[.val (.int p0), .val (.int p1), .val (.ref w_REACHABLE), .val (.int (0 : Int32)), .val (.ref w_UNREACHABLE), .val (.int (1 : Int32)), .val (.int (0 : Int32)), .val (.int (1 : Int32)), .val (.int (0 : Int32))] [(.int (0 : Int32))])) _
        refine XS.iload X6.here hx rfl (hb hby at_100) rfl ?_
        show Steps p.tables e below (T6.setTop (mkF m 102 #[.val (.int p0), .val (.int p1), .val (.ref w_REACHABLE), .val (.int (0 : Int32)), .val (.ref w_UNREACHABLE), .val (.int (1 : Int32)), .val (.int (0 : Int32)), .val (.int (1 : Int32)), .val (.int (0 : Int32))] [(.int (0 : Int32)), (.int (0 : Int32))])) _
        refine XS.icmpNo X6.here hx rfl (hb hby at_102) rfl (teq (by decide : (0 : Int32) = (0 : Int32))).2 ?_
        show Steps p.tables e below (T6.setTop (mkF m 105 #[.val (.int p0), .val (.int p1), .val (.ref w_REACHABLE), .val (.int (0 : Int32)), .val (.ref w_UNREACHABLE), .val (.int (1 : Int32)), .val (.int (0 : Int32)), .val (.int (1 : Int32)), .val (.int (0 : Int32))] [])) _
        refine XS.aload X6.here hx rfl (hb hby at_105) rfl rfl ?_
        show Steps p.tables e below (T6.setTop (mkF m 107 #[.val (.int p0), .val (.int p1), .val (.ref w_REACHABLE), .val (.int (0 : Int32)), .val (.ref w_UNREACHABLE), .val (.int (1 : Int32)), .val (.int (0 : Int32)), .val (.int (1 : Int32)), .val (.int (0 : Int32))] [(.ref w_UNREACHABLE)])) _
        refine st7 _ ?_
        show Steps p.tables e below (T7.setTop (mkF m 110 #[.val (.int p0), .val (.int p1), .val (.ref w_REACHABLE), .val (.int (0 : Int32)), .val (.ref w_UNREACHABLE), .val (.int (1 : Int32)), .val (.int (0 : Int32)), .val (.int (1 : Int32)), .val (.int (0 : Int32))] [(.ref w_UNREACHABLE), (.ref w_UNREACHABLE)])) _
        refine Jvm.RoadKit.acmp (g := (mkF m 110 #[.val (.int p0), .val (.int p1), .val (.ref w_REACHABLE), .val (.int (0 : Int32)), .val (.ref w_UNREACHABLE), .val (.int (1 : Int32)), .val (.int (0 : Int32)), .val (.int (1 : Int32)), .val (.int (0 : Int32))] [(.ref w_UNREACHABLE), (.ref w_UNREACHABLE)])) X7 hx rfl rfl rfl (pc0 := 110) (pc' := 113) (same := true) rfl (hb hby at_110) rfl (decide_eq_true rfl) (by decide) (by decide) ?_
        show Steps p.tables e below (T7.setTop (mkF m 113 #[.val (.int p0), .val (.int p1), .val (.ref w_REACHABLE), .val (.int (0 : Int32)), .val (.ref w_UNREACHABLE), .val (.int (1 : Int32)), .val (.int (0 : Int32)), .val (.int (1 : Int32)), .val (.int (0 : Int32))] [])) _
        refine XS.iconst X7.here hx rfl (hb hby at_113) ?_
        show Steps p.tables e below (T7.setTop (mkF m 114 #[.val (.int p0), .val (.int p1), .val (.ref w_REACHABLE), .val (.int (0 : Int32)), .val (.ref w_UNREACHABLE), .val (.int (1 : Int32)), .val (.int (0 : Int32)), .val (.int (1 : Int32)), .val (.int (0 : Int32))] [(.int (1 : Int32))])) _
        refine XS.goto X7.here hx rfl (pc0 := 114) (pc' := 118) rfl (hb hby at_114) (by decide) (by decide) ?_
        show Steps p.tables e below (T7.setTop (mkF m 118 #[.val (.int p0), .val (.int p1), .val (.ref w_REACHABLE), .val (.int (0 : Int32)), .val (.ref w_UNREACHABLE), .val (.int (1 : Int32)), .val (.int (0 : Int32)), .val (.int (1 : Int32)), .val (.int (0 : Int32))] [(.int (1 : Int32))])) _
        refine XS.iload X7.here hx rfl (hb hby at_118) rfl ?_
        show Steps p.tables e below (T7.setTop (mkF m 120 #[.val (.int p0), .val (.int p1), .val (.ref w_REACHABLE), .val (.int (0 : Int32)), .val (.ref w_UNREACHABLE), .val (.int (1 : Int32)), .val (.int (0 : Int32)), .val (.int (1 : Int32)), .val (.int (0 : Int32))] [(.int (1 : Int32)), (.int (1 : Int32))])) _
        refine XS.icmpNo X7.here hx rfl (hb hby at_120) rfl (teq (by decide : (1 : Int32) = (1 : Int32))).2 ?_
        show Steps p.tables e below (T7.setTop (mkF m 123 #[.val (.int p0), .val (.int p1), .val (.ref w_REACHABLE), .val (.int (0 : Int32)), .val (.ref w_UNREACHABLE), .val (.int (1 : Int32)), .val (.int (0 : Int32)), .val (.int (1 : Int32)), .val (.int (0 : Int32))] [])) _
        refine XS.aload X7.here hx rfl (hb hby at_123) rfl rfl ?_
        show Steps p.tables e below (T7.setTop (mkF m 125 #[.val (.int p0), .val (.int p1), .val (.ref w_REACHABLE), .val (.int (0 : Int32)), .val (.ref w_UNREACHABLE), .val (.int (1 : Int32)), .val (.int (0 : Int32)), .val (.int (1 : Int32)), .val (.int (0 : Int32))] [(.ref w_UNREACHABLE)])) _
        refine st8 _ ?_
        show Steps p.tables e below (T8.setTop (mkF m 128 #[.val (.int p0), .val (.int p1), .val (.ref w_REACHABLE), .val (.int (0 : Int32)), .val (.ref w_UNREACHABLE), .val (.int (1 : Int32)), .val (.int (0 : Int32)), .val (.int (1 : Int32)), .val (.int (0 : Int32))] [(.ref w_AFTER_UNREACHABLE), (.ref w_UNREACHABLE)])) _
        refine Jvm.RoadKit.acmp (g := (mkF m 128 #[.val (.int p0), .val (.int p1), .val (.ref w_REACHABLE), .val (.int (0 : Int32)), .val (.ref w_UNREACHABLE), .val (.int (1 : Int32)), .val (.int (0 : Int32)), .val (.int (1 : Int32)), .val (.int (0 : Int32))] [(.ref w_AFTER_UNREACHABLE), (.ref w_UNREACHABLE)])) X8 hx rfl rfl rfl (pc0 := 128) (pc' := 135) (same := false) rfl (hb hby at_128) rfl (decide_eq_false fun q => ne_UNREACHABLE_AFTER_UNREACHABLE (Value.ref.inj q)) (by decide) (by decide) ?_
        show Steps p.tables e below (T8.setTop (mkF m 135 #[.val (.int p0), .val (.int p1), .val (.ref w_REACHABLE), .val (.int (0 : Int32)), .val (.ref w_UNREACHABLE), .val (.int (1 : Int32)), .val (.int (0 : Int32)), .val (.int (1 : Int32)), .val (.int (0 : Int32))] [])) _
        refine XS.iconst X8.here hx rfl (hb hby at_135) ?_
        show Steps p.tables e below (T8.setTop (mkF m 136 #[.val (.int p0), .val (.int p1), .val (.ref w_REACHABLE), .val (.int (0 : Int32)), .val (.ref w_UNREACHABLE), .val (.int (1 : Int32)), .val (.int (0 : Int32)), .val (.int (1 : Int32)), .val (.int (0 : Int32))] [(.int (0 : Int32))])) _
        refine XS.iload X8.here hx rfl (hb hby at_136) rfl ?_
        show Steps p.tables e below (T8.setTop (mkF m 138 #[.val (.int p0), .val (.int p1), .val (.ref w_REACHABLE), .val (.int (0 : Int32)), .val (.ref w_UNREACHABLE), .val (.int (1 : Int32)), .val (.int (0 : Int32)), .val (.int (1 : Int32)), .val (.int (0 : Int32))] [(.int (0 : Int32)), (.int (0 : Int32))])) _
        refine XS.icmpNo X8.here hx rfl (hb hby at_138) rfl (teq (by decide : (0 : Int32) = (0 : Int32))).2 ?_
        show Steps p.tables e below (T8.setTop (mkF m 141 #[.val (.int p0), .val (.int p1), .val (.ref w_REACHABLE), .val (.int (0 : Int32)), .val (.ref w_UNREACHABLE), .val (.int (1 : Int32)), .val (.int (0 : Int32)), .val (.int (1 : Int32)), .val (.int (0 : Int32))] [])) _
        refine XS.iconst X8.here hx rfl (hb hby at_141) ?_
        show Steps p.tables e below (T8.setTop (mkF m 142 #[.val (.int p0), .val (.int p1), .val (.ref w_REACHABLE), .val (.int (0 : Int32)), .val (.ref w_UNREACHABLE), .val (.int (1 : Int32)), .val (.int (0 : Int32)), .val (.int (1 : Int32)), .val (.int (0 : Int32))] [(.int (1 : Int32))])) _
        refine XS.goto X8.here hx rfl (pc0 := 142) (pc' := 146) rfl (hb hby at_142) (by decide) (by decide) ?_
        show Steps p.tables e below (T8.setTop (mkF m 146 #[.val (.int p0), .val (.int p1), .val (.ref w_REACHABLE), .val (.int (0 : Int32)), .val (.ref w_UNREACHABLE), .val (.int (1 : Int32)), .val (.int (0 : Int32)), .val (.int (1 : Int32)), .val (.int (0 : Int32))] [(.int (1 : Int32))])) _
        exact retN X8 hx (t := .boolean) Bd.returns (by simp) (hb hby at_146) hr
      · show Q_rm_law Z p0 p1 w_REACHABLE w_UNREACHABLE w_AFTER_UNREACHABLE h0 n0 _ T8.heap _
        rw [e8]
        exact ⟨rfl, N4, rfl⟩
    · obtain ⟨cq9, kq9, q9a, q9b, q9c⟩ := isOf hZ e2 E_REACHABLE
      obtain ⟨_, _, ⟨T9, L9, k9, n9⟩, -, X9, ⟨Lc9, hQ9, l9, y9, z9⟩, st9⟩ := X2.virtualBack hx (y := (⟨"com/example/ambit/ambit/StatementRules$Reach", "next", "(Z)Lcom/example/ambit/ambit/StatementRules$Reach;"⟩ : MethodName)) (z := (⟨"com/example/ambit/ambit/StatementRules$Reach", "next", "(Z)Lcom/example/ambit/ambit/StatementRules$Reach;"⟩ : MethodName)) hown (mvT hZ (hw _ (List.mem_of_getElem? (i := 8) rfl))) (mvT hZ (hw _ (List.mem_of_getElem? (i := 9) rfl))) (notFace_of_selects (args := #[]) (mvT hZ (hw _ (List.mem_of_getElem? (i := 11) rfl)))) (mvT hZ (hw _ (List.mem_of_getElem? (i := 11) rfl))) (mvT hZ (hw _ (List.mem_of_getElem? (i := 10) rfl))) (by decide) (backOf (W := 0) (rm_next1 l Z a0 hw [] w_REACHABLE (1 : Int32) h0 n0 Z0 S_REACHABLE (by decide)) hZ (hw _ (List.mem_of_getElem? (i := 12) rfl)) (hw _ (List.mem_of_getElem? (i := 6) rfl)) (by decide) (by decide)) q9a q9c (g := (mkF m 19 #[.val (.int p0), .val (.int p1), .val (.ref w_REACHABLE), .val (.int (1 : Int32)), .unset, .unset, .unset, .unset, .unset] [(.int (1 : Int32)), (.ref w_REACHABLE)])) rfl (by rw [hml]; rfl) (Steps.refl _) (argsL := [(.int (1 : Int32))]) (rest := []) (lenOf pd_1 rfl) rfl (by show 2 * 0 + _ ≤ _; exact Nat.le_of_eq rfl) (hb hby at_19) (fun _ _ => ⟨rfl, e2, (by decide : 0 + 0 ≤ _), (by decide : 0 + 0 ≤ _)⟩)
      dsimp only [Pt.U, Pt.locs, Pt.cells, Pt.slots] at X9 l9 y9 z9 st9 hQ9
      subst l9 y9 z9
      obtain ⟨rfl, N9q, e9⟩ := hQ9
      have N9 := Fr.app N2 N9q
      obtain ⟨T10, X10, e10, st10⟩ := getS2 X9 hx hZ hown (host := "") (Or.inl (hw _ (List.mem_of_getElem? (i := 5) rfl))) Via.refl e9 S_REACHABLE (g := (mkF m 25 #[.val (.int p0), .val (.int p1), .val (.ref w_REACHABLE), .val (.int (1 : Int32)), .val (.ref w_REACHABLE), .unset, .unset, .unset, .unset] [(.ref w_REACHABLE)])) rfl (hb hby at_25)
      obtain ⟨T11, X11, e11, st11⟩ := getS2 X10 hx hZ hown (host := "") (Or.inl (hw _ (List.mem_of_getElem? (i := 5) rfl))) Via.refl e10 S_REACHABLE (g := (mkF m 89 #[.val (.int p0), .val (.int p1), .val (.ref w_REACHABLE), .val (.int (1 : Int32)), .val (.ref w_REACHABLE), .val (.int (1 : Int32)), .val (.int (1 : Int32)), .val (.int (0 : Int32)), .val (.int (0 : Int32))] [(.ref w_REACHABLE)])) rfl (hb hby at_89)
      obtain ⟨T12, X12, e12, st12⟩ := getS2 X11 hx hZ hown (host := "") (Or.inl (hw _ (List.mem_of_getElem? (i := 14) rfl))) Via.refl e11 S_UNREACHABLE (g := (mkF m 107 #[.val (.int p0), .val (.int p1), .val (.ref w_REACHABLE), .val (.int (1 : Int32)), .val (.ref w_REACHABLE), .val (.int (1 : Int32)), .val (.int (1 : Int32)), .val (.int (0 : Int32)), .val (.int (0 : Int32))] [(.ref w_REACHABLE)])) rfl (hb hby at_107)
      obtain ⟨T13, X13, e13, st13⟩ := getS2 X12 hx hZ hown (host := "") (Or.inl (hw _ (List.mem_of_getElem? (i := 16) rfl))) Via.refl e12 S_AFTER_UNREACHABLE (g := (mkF m 125 #[.val (.int p0), .val (.int p1), .val (.ref w_REACHABLE), .val (.int (1 : Int32)), .val (.ref w_REACHABLE), .val (.int (1 : Int32)), .val (.int (1 : Int32)), .val (.int (0 : Int32)), .val (.int (0 : Int32))] [(.ref w_REACHABLE)])) rfl (hb hby at_125)
      obtain ⟨fs, hr, hrun, hended, hW, hsame⟩ := X13.leave (v := some (.int (1 : Int32))) (fun h => by rw [Bd.returns] at h; cases h)
      refine ⟨_, _, pre0 _ ?_, hrun, hended, _, _, rfl, ?_, ⟨_, rfl⟩, hW, hsame.mono (by decide) (by decide)⟩
      · refine k3 _ ?_
        show Steps p.tables e below (T2.setTop (mkF m 8 #[.val (.int p0), .val (.int p1), .val (.ref w_REACHABLE), .unset, .unset, .unset, .unset, .unset, .unset] [(.int (p1 &&& (1 : Int32)))])) _
        refine XS.ifNo X2.here hx rfl (hb hby at_8) rfl ((if0 _ _).trans (feq hc8).1) ?_
        show Steps p.tables e below (T2.setTop (mkF m 11 #[.val (.int p0), .val (.int p1), .val (.ref w_REACHABLE), .unset, .unset, .unset, .unset, .unset, .unset] [])) _
        refine XS.iconst X2.here hx rfl (hb hby at_11) ?_
        show Steps p.tables e below (T2.setTop (mkF m 12 #[.val (.int p0), .val (.int p1), .val (.ref w_REACHABLE), .unset, .unset, .unset, .unset, .unset, .unset] [(.int (1 : Int32))])) _
        refine XS.goto X2.here hx rfl (pc0 := 12) (pc' := 16) rfl (hb hby at_12) (by decide) (by decide) ?_
        show Steps p.tables e below (T2.setTop (mkF m 16 #[.val (.int p0), .val (.int p1), .val (.ref w_REACHABLE), .unset, .unset, .unset, .unset, .unset, .unset] [(.int (1 : Int32))])) _
        refine XS.istoreN X2.here hx rfl (hb hby at_16) rfl (l' := #[.val (.int p0), .val (.int p1), .val (.ref w_REACHABLE), .val (.int (1 : Int32)), .unset, .unset, .unset, .unset, .unset]) rfl ?_
        show Steps p.tables e below (T2.setTop (mkF m 17 #[.val (.int p0), .val (.int p1), .val (.ref w_REACHABLE), .val (.int (1 : Int32)), .unset, .unset, .unset, .unset, .unset] [])) _
        refine XS.aloadN X2.here hx rfl (hb hby at_17) rfl rfl ?_
        show Steps p.tables e below (T2.setTop (mkF m 18 #[.val (.int p0), .val (.int p1), .val (.ref w_REACHABLE), .val (.int (1 : Int32)), .unset, .unset, .unset, .unset, .unset] [(.ref w_REACHABLE)])) _
        refine XS.iloadN X2.here hx rfl (hb hby at_18) rfl ?_
        show Steps p.tables e below (T2.setTop (mkF m 19 #[.val (.int p0), .val (.int p1), .val (.ref w_REACHABLE), .val (.int (1 : Int32)), .unset, .unset, .unset, .unset, .unset] [(.int (1 : Int32)), (.ref w_REACHABLE)])) _
        refine st9.trans ?_
        show Steps p.tables e below (T9.setTop (mkF m 22 #[.val (.int p0), .val (.int p1), .val (.ref w_REACHABLE), .val (.int (1 : Int32)), .unset, .unset, .unset, .unset, .unset] [(.ref w_REACHABLE)])) _
        refine XS.astore X9.here hx rfl (hb hby at_22) rfl rfl (l' := #[.val (.int p0), .val (.int p1), .val (.ref w_REACHABLE), .val (.int (1 : Int32)), .val (.ref w_REACHABLE), .unset, .unset, .unset, .unset]) rfl ?_
        show Steps p.tables e below (T9.setTop (mkF m 24 #[.val (.int p0), .val (.int p1), .val (.ref w_REACHABLE), .val (.int (1 : Int32)), .val (.ref w_REACHABLE), .unset, .unset, .unset, .unset] [])) _
        refine XS.aloadN X9.here hx rfl (hb hby at_24) rfl rfl ?_
        show Steps p.tables e below (T9.setTop (mkF m 25 #[.val (.int p0), .val (.int p1), .val (.ref w_REACHABLE), .val (.int (1 : Int32)), .val (.ref w_REACHABLE), .unset, .unset, .unset, .unset] [(.ref w_REACHABLE)])) _
        refine st10 _ ?_
        show Steps p.tables e below (T10.setTop (mkF m 28 #[.val (.int p0), .val (.int p1), .val (.ref w_REACHABLE), .val (.int (1 : Int32)), .val (.ref w_REACHABLE), .unset, .unset, .unset, .unset] [(.ref w_REACHABLE), (.ref w_REACHABLE)])) _
        refine Jvm.RoadKit.acmp (g := (mkF m 28 #[.val (.int p0), .val (.int p1), .val (.ref w_REACHABLE), .val (.int (1 : Int32)), .val (.ref w_REACHABLE), .unset, .unset, .unset, .unset] [(.ref w_REACHABLE), (.ref w_REACHABLE)])) X10 hx rfl rfl rfl (pc0 := 28) (pc' := 31) (same := true) rfl (hb hby at_28) rfl (decide_eq_true rfl) (by decide) (by decide) ?_
        show Steps p.tables e below (T10.setTop (mkF m 31 #[.val (.int p0), .val (.int p1), .val (.ref w_REACHABLE), .val (.int (1 : Int32)), .val (.ref w_REACHABLE), .unset, .unset, .unset, .unset] [])) _
        refine XS.iconst X10.here hx rfl (hb hby at_31) ?_
        show Steps p.tables e below (T10.setTop (mkF m 32 #[.val (.int p0), .val (.int p1), .val (.ref w_REACHABLE), .val (.int (1 : Int32)), .val (.ref w_REACHABLE), .unset, .unset, .unset, .unset] [(.int (1 : Int32))])) _
        refine XS.goto X10.here hx rfl (pc0 := 32) (pc' := 36) rfl (hb hby at_32) (by decide) (by decide) ?_
        show Steps p.tables e below (T10.setTop (mkF m 36 #[.val (.int p0), .val (.int p1), .val (.ref w_REACHABLE), .val (.int (1 : Int32)), .val (.ref w_REACHABLE), .unset, .unset, .unset, .unset] [(.int (1 : Int32))])) _
        refine XS.istore X10.here hx rfl (hb hby at_36) rfl (l' := #[.val (.int p0), .val (.int p1), .val (.ref w_REACHABLE), .val (.int (1 : Int32)), .val (.ref w_REACHABLE), .val (.int (1 : Int32)), .unset, .unset, .unset]) rfl ?_
        show Steps p.tables e below (T10.setTop (mkF m 38 #[.val (.int p0), .val (.int p1), .val (.ref w_REACHABLE), .val (.int (1 : Int32)), .val (.ref w_REACHABLE), .val (.int (1 : Int32)), .unset, .unset, .unset] [])) _
        refine XS.iload X10.here hx rfl (hb hby at_38) rfl ?_
        show Steps p.tables e below (T10.setTop (mkF m 40 #[.val (.int p0), .val (.int p1), .val (.ref w_REACHABLE), .val (.int (1 : Int32)), .val (.ref w_REACHABLE), .val (.int (1 : Int32)), .unset, .unset, .unset] [(.int (1 : Int32))])) _
        refine XS.ifNo X10.here hx rfl (hb hby at_40) rfl ((if0 _ _).trans (feq (by decide : ¬ ((1 : Int32) = (0 : Int32)))).1) ?_
        show Steps p.tables e below (T10.setTop (mkF m 43 #[.val (.int p0), .val (.int p1), .val (.ref w_REACHABLE), .val (.int (1 : Int32)), .val (.ref w_REACHABLE), .val (.int (1 : Int32)), .unset, .unset, .unset] [])) _
        refine XS.iloadN X10.here hx rfl (hb hby at_43) rfl ?_
        show Steps p.tables e below (T10.setTop (mkF m 44 #[.val (.int p0), .val (.int p1), .val (.ref w_REACHABLE), .val (.int (1 : Int32)), .val (.ref w_REACHABLE), .val (.int (1 : Int32)), .unset, .unset, .unset] [(.int (1 : Int32))])) _
        refine XS.ifNo X10.here hx rfl (hb hby at_44) rfl ((if0 _ _).trans (feq (by decide : ¬ ((1 : Int32) = (0 : Int32)))).1) ?_
        show Steps p.tables e below (T10.setTop (mkF m 47 #[.val (.int p0), .val (.int p1), .val (.ref w_REACHABLE), .val (.int (1 : Int32)), .val (.ref w_REACHABLE), .val (.int (1 : Int32)), .unset, .unset, .unset] [])) _
        refine XS.iconst X10.here hx rfl (hb hby at_47) ?_
        show Steps p.tables e below (T10.setTop (mkF m 48 #[.val (.int p0), .val (.int p1), .val (.ref w_REACHABLE), .val (.int (1 : Int32)), .val (.ref w_REACHABLE), .val (.int (1 : Int32)), .unset, .unset, .unset] [(.int (1 : Int32))])) _
        refine XS.goto X10.here hx rfl (pc0 := 48) (pc' := 52) rfl (hb hby at_48) (by decide) (by decide) ?_
        show Steps p.tables e below (T10.setTop (mkF m 52 #[.val (.int p0), .val (.int p1), .val (.ref w_REACHABLE), .val (.int (1 : Int32)), .val (.ref w_REACHABLE), .val (.int (1 : Int32)), .unset, .unset, .unset] [(.int (1 : Int32))])) _
        refine XS.istore X10.here hx rfl (hb hby at_52) rfl (l' := #[.val (.int p0), .val (.int p1), .val (.ref w_REACHABLE), .val (.int (1 : Int32)), .val (.ref w_REACHABLE), .val (.int (1 : Int32)), .val (.int (1 : Int32)), .unset, .unset]) rfl ?_
        show Steps p.tables e below (T10.setTop (mkF m 54 #[.val (.int p0), .val (.int p1), .val (.ref w_REACHABLE), .val (.int (1 : Int32)), .val (.ref w_REACHABLE), .val (.int (1 : Int32)), .val (.int (1 : Int32)), .unset, .unset] [])) _
        refine XS.iload X10.here hx rfl (hb hby at_54) rfl ?_
        show Steps p.tables e below (T10.setTop (mkF m 56 #[.val (.int p0), .val (.int p1), .val (.ref w_REACHABLE), .val (.int (1 : Int32)), .val (.ref w_REACHABLE), .val (.int (1 : Int32)), .val (.int (1 : Int32)), .unset, .unset] [(.int (1 : Int32))])) _
        refine XS.ifNo X10.here hx rfl (hb hby at_56) rfl ((if0 _ _).trans (feq (by decide : ¬ ((1 : Int32) = (0 : Int32)))).1) ?_
        show Steps p.tables e below (T10.setTop (mkF m 59 #[.val (.int p0), .val (.int p1), .val (.ref w_REACHABLE), .val (.int (1 : Int32)), .val (.ref w_REACHABLE), .val (.int (1 : Int32)), .val (.int (1 : Int32)), .unset, .unset] [])) _
        refine XS.iloadN X10.here hx rfl (hb hby at_59) rfl ?_
        show Steps p.tables e below (T10.setTop (mkF m 60 #[.val (.int p0), .val (.int p1), .val (.ref w_REACHABLE), .val (.int (1 : Int32)), .val (.ref w_REACHABLE), .val (.int (1 : Int32)), .val (.int (1 : Int32)), .unset, .unset] [(.int (1 : Int32))])) _
        refine XS.ifYes X10.here hx rfl (pc0 := 60) (pc' := 67) rfl (hb hby at_60) rfl ((if0 _ _).trans (feq (by decide : ¬ ((1 : Int32) = (0 : Int32)))).2) (by decide) (by decide) ?_
        show Steps p.tables e below (T10.setTop (mkF m 67 #[.val (.int p0), .val (.int p1), .val (.ref w_REACHABLE), .val (.int (1 : Int32)), .val (.ref w_REACHABLE), .val (.int (1 : Int32)), .val (.int (1 : Int32)), .unset, .unset] [])) _
        refine XS.iconst X10.here hx rfl (hb hby at_67) ?_
        show Steps p.tables e below (T10.setTop (mkF m 68 #[.val (.int p0), .val (.int p1), .val (.ref w_REACHABLE), .val (.int (1 : Int32)), .val (.ref w_REACHABLE), .val (.int (1 : Int32)), .val (.int (1 : Int32)), .unset, .unset] [(.int (0 : Int32))])) _
        refine XS.istore X10.here hx rfl (hb hby at_68) rfl (l' := #[.val (.int p0), .val (.int p1), .val (.ref w_REACHABLE), .val (.int (1 : Int32)), .val (.ref w_REACHABLE), .val (.int (1 : Int32)), .val (.int (1 : Int32)), .val (.int (0 : Int32)), .unset]) rfl ?_
        show Steps p.tables e below (T10.setTop (mkF m 70 #[.val (.int p0), .val (.int p1), .val (.ref w_REACHABLE), .val (.int (1 : Int32)), .val (.ref w_REACHABLE), .val (.int (1 : Int32)), .val (.int (1 : Int32)), .val (.int (0 : Int32)), .unset] [])) _
        refine XS.iload X10.here hx rfl (hb hby at_70) rfl ?_
        show Steps p.tables e below (T10.setTop (mkF m 72 #[.val (.int p0), .val (.int p1), .val (.ref w_REACHABLE), .val (.int (1 : Int32)), .val (.ref w_REACHABLE), .val (.int (1 : Int32)), .val (.int (1 : Int32)), .val (.int (0 : Int32)), .unset] [(.int (1 : Int32))])) _
        refine XS.ifYes X10.here hx rfl (pc0 := 72) (pc' := 79) rfl (hb hby at_72) rfl ((if0 _ _).trans (feq (by decide : ¬ ((1 : Int32) = (0 : Int32)))).2) (by decide) (by decide) ?_
        show Steps p.tables e below (T10.setTop (mkF m 79 #[.val (.int p0), .val (.int p1), .val (.ref w_REACHABLE), .val (.int (1 : Int32)), .val (.ref w_REACHABLE), .val (.int (1 : Int32)), .val (.int (1 : Int32)), .val (.int (0 : Int32)), .unset] [])) _
        refine XS.iconst X10.here hx rfl (hb hby at_79) ?_
        show Steps p.tables e below (T10.setTop (mkF m 80 #[.val (.int p0), .val (.int p1), .val (.ref w_REACHABLE), .val (.int (1 : Int32)), .val (.ref w_REACHABLE), .val (.int (1 : Int32)), .val (.int (1 : Int32)), .val (.int (0 : Int32)), .unset] [(.int (0 : Int32))])) _
        refine XS.istore X10.here hx rfl (hb hby at_80) rfl (l' := #[.val (.int p0), .val (.int p1), .val (.ref w_REACHABLE), .val (.int (1 : Int32)), .val (.ref w_REACHABLE), .val (.int (1 : Int32)), .val (.int (1 : Int32)), .val (.int (0 : Int32)), .val (.int (0 : Int32))]) rfl ?_
        show Steps p.tables e below (T10.setTop (mkF m 82 #[.val (.int p0), .val (.int p1), .val (.ref w_REACHABLE), .val (.int (1 : Int32)), .val (.ref w_REACHABLE), .val (.int (1 : Int32)), .val (.int (1 : Int32)), .val (.int (0 : Int32)), .val (.int (0 : Int32))] [])) _
        refine XS.aload X10.here hx rfl (hb hby at_82) rfl rfl ?_
        show Steps p.tables e below (T10.setTop (mkF m 84 #[.val (.int p0), .val (.int p1), .val (.ref w_REACHABLE), .val (.int (1 : Int32)), .val (.ref w_REACHABLE), .val (.int (1 : Int32)), .val (.int (1 : Int32)), .val (.int (0 : Int32)), .val (.int (0 : Int32))] [(.ref w_REACHABLE)])) _
        refine XS.ifnullNo X10.here hx rfl (hb hby at_84) rfl ?_
        show Steps p.tables e below (T10.setTop (mkF m 87 #[.val (.int p0), .val (.int p1), .val (.ref w_REACHABLE), .val (.int (1 : Int32)), .val (.ref w_REACHABLE), .val (.int (1 : Int32)), .val (.int (1 : Int32)), .val (.int (0 : Int32)), .val (.int (0 : Int32))] [])) _
        refine XS.aload X10.here hx rfl (hb hby at_87) rfl rfl ?_
        show Steps p.tables e below (T10.setTop (mkF m 89 #[.val (.int p0), .val (.int p1), .val (.ref w_REACHABLE), .val (.int (1 : Int32)), .val (.ref w_REACHABLE), .val (.int (1 : Int32)), .val (.int (1 : Int32)), .val (.int (0 : Int32)), .val (.int (0 : Int32))] [(.ref w_REACHABLE)])) _
        refine st11 _ ?_
        show Steps p.tables e below (T11.setTop (mkF m 92 #[.val (.int p0), .val (.int p1), .val (.ref w_REACHABLE), .val (.int (1 : Int32)), .val (.ref w_REACHABLE), .val (.int (1 : Int32)), .val (.int (1 : Int32)), .val (.int (0 : Int32)), .val (.int (0 : Int32))] [(.ref w_REACHABLE), (.ref w_REACHABLE)])) _
        refine Jvm.RoadKit.acmp (g := (mkF m 92 #[.val (.int p0), .val (.int p1), .val (.ref w_REACHABLE), .val (.int (1 : Int32)), .val (.ref w_REACHABLE), .val (.int (1 : Int32)), .val (.int (1 : Int32)), .val (.int (0 : Int32)), .val (.int (0 : Int32))] [(.ref w_REACHABLE), (.ref w_REACHABLE)])) X11 hx rfl rfl rfl (pc0 := 92) (pc' := 95) (same := true) rfl (hb hby at_92) rfl (decide_eq_true rfl) (by decide) (by decide) ?_
        show Steps p.tables e below (T11.setTop (mkF m 95 #[.val (.int p0), .val (.int p1), .val (.ref w_REACHABLE), .val (.int (1 : Int32)), .val (.ref w_REACHABLE), .val (.int (1 : Int32)), .val (.int (1 : Int32)), .val (.int (0 : Int32)), .val (.int (0 : Int32))] [])) _
        refine XS.iconst X11.here hx rfl (hb hby at_95) ?_
        show Steps p.tables e below (T11.setTop (mkF m 96 #[.val (.int p0), .val (.int p1), .val (.ref w_REACHABLE), .val (.int (1 : Int32)), .val (.ref w_REACHABLE), .val (.int (1 : Int32)), .val (.int (1 : Int32)), .val (.int (0 : Int32)), .val (.int (0 : Int32))] [(.int (1 : Int32))])) _
        refine XS.goto X11.here hx rfl (pc0 := 96) (pc' := 100) rfl (hb hby at_96) (by decide) (by decide) ?_
        show Steps p.tables e below (T11.setTop (mkF m 100 #[.val (.int p0), .val (.int p1), .val (.ref w_REACHABLE), .val (.int (1 : Int32)), .val (.ref w_REACHABLE), .val (.int (1 : Int32)), .val (.int (1 : Int32)), .val (.int (0 : Int32)), .val (.int (0 : Int32))] [(.int (1 : Int32))])) _
        refine XS.iload X11.here hx rfl (hb hby at_100) rfl ?_
        show Steps p.tables e below (T11.setTop (mkF m 102 #[.val (.int p0), .val (.int p1), .val (.ref w_REACHABLE), .val (.int (1 : Int32)), .val (.ref w_REACHABLE), .val (.int (1 : Int32)), .val (.int (1 : Int32)), .val (.int (0 : Int32)), .val (.int (0 : Int32))] [(.int (1 : Int32)), (.int (1 : Int32))])) _
        refine XS.icmpNo X11.here hx rfl (hb hby at_102) rfl (teq (by decide : (1 : Int32) = (1 : Int32))).2 ?_
        show Steps p.tables e below (T11.setTop (mkF m 105 #[.val (.int p0), .val (.int p1), .val (.ref w_REACHABLE), .val (.int (1 : Int32)), .val (.ref w_REACHABLE), .val (.int (1 : Int32)), .val (.int (1 : Int32)), .val (.int (0 : Int32)), .val (.int (0 : Int32))] [])) _
        refine XS.aload X11.here hx rfl (hb hby at_105) rfl rfl ?_
        show Steps p.tables e below (T11.setTop (mkF m 107 #[.val (.int p0), .val (.int p1), .val (.ref w_REACHABLE), .val (.int (1 : Int32)), .val (.ref w_REACHABLE), .val (.int (1 : Int32)), .val (.int (1 : Int32)), .val (.int (0 : Int32)), .val (.int (0 : Int32))] [(.ref w_REACHABLE)])) _
        refine st12 _ ?_
        show Steps p.tables e below (T12.setTop (mkF m 110 #[.val (.int p0), .val (.int p1), .val (.ref w_REACHABLE), .val (.int (1 : Int32)), .val (.ref w_REACHABLE), .val (.int (1 : Int32)), .val (.int (1 : Int32)), .val (.int (0 : Int32)), .val (.int (0 : Int32))] [(.ref w_UNREACHABLE), (.ref w_REACHABLE)])) _
        refine Jvm.RoadKit.acmp (g := (mkF m 110 #[.val (.int p0), .val (.int p1), .val (.ref w_REACHABLE), .val (.int (1 : Int32)), .val (.ref w_REACHABLE), .val (.int (1 : Int32)), .val (.int (1 : Int32)), .val (.int (0 : Int32)), .val (.int (0 : Int32))] [(.ref w_UNREACHABLE), (.ref w_REACHABLE)])) X12 hx rfl rfl rfl (pc0 := 110) (pc' := 117) (same := false) rfl (hb hby at_110) rfl (decide_eq_false fun q => ne_REACHABLE_UNREACHABLE (Value.ref.inj q)) (by decide) (by decide) ?_
        show Steps p.tables e below (T12.setTop (mkF m 117 #[.val (.int p0), .val (.int p1), .val (.ref w_REACHABLE), .val (.int (1 : Int32)), .val (.ref w_REACHABLE), .val (.int (1 : Int32)), .val (.int (1 : Int32)), .val (.int (0 : Int32)), .val (.int (0 : Int32))] [])) _
        refine XS.iconst X12.here hx rfl (hb hby at_117) ?_
        show Steps p.tables e below (T12.setTop (mkF m 118 #[.val (.int p0), .val (.int p1), .val (.ref w_REACHABLE), .val (.int (1 : Int32)), .val (.ref w_REACHABLE), .val (.int (1 : Int32)), .val (.int (1 : Int32)), .val (.int (0 : Int32)), .val (.int (0 : Int32))] [(.int (0 : Int32))])) _
        refine XS.iload X12.here hx rfl (hb hby at_118) rfl ?_
        show Steps p.tables e below (T12.setTop (mkF m 120 #[.val (.int p0), .val (.int p1), .val (.ref w_REACHABLE), .val (.int (1 : Int32)), .val (.ref w_REACHABLE), .val (.int (1 : Int32)), .val (.int (1 : Int32)), .val (.int (0 : Int32)), .val (.int (0 : Int32))] [(.int (0 : Int32)), (.int (0 : Int32))])) _
        refine XS.icmpNo X12.here hx rfl (hb hby at_120) rfl (teq (by decide : (0 : Int32) = (0 : Int32))).2 ?_
        show Steps p.tables e below (T12.setTop (mkF m 123 #[.val (.int p0), .val (.int p1), .val (.ref w_REACHABLE), .val (.int (1 : Int32)), .val (.ref w_REACHABLE), .val (.int (1 : Int32)), .val (.int (1 : Int32)), .val (.int (0 : Int32)), .val (.int (0 : Int32))] [])) _
        refine XS.aload X12.here hx rfl (hb hby at_123) rfl rfl ?_
        show Steps p.tables e below (T12.setTop (mkF m 125 #[.val (.int p0), .val (.int p1), .val (.ref w_REACHABLE), .val (.int (1 : Int32)), .val (.ref w_REACHABLE), .val (.int (1 : Int32)), .val (.int (1 : Int32)), .val (.int (0 : Int32)), .val (.int (0 : Int32))] [(.ref w_REACHABLE)])) _
        refine st13 _ ?_
        show Steps p.tables e below (T13.setTop (mkF m 128 #[.val (.int p0), .val (.int p1), .val (.ref w_REACHABLE), .val (.int (1 : Int32)), .val (.ref w_REACHABLE), .val (.int (1 : Int32)), .val (.int (1 : Int32)), .val (.int (0 : Int32)), .val (.int (0 : Int32))] [(.ref w_AFTER_UNREACHABLE), (.ref w_REACHABLE)])) _
        refine Jvm.RoadKit.acmp (g := (mkF m 128 #[.val (.int p0), .val (.int p1), .val (.ref w_REACHABLE), .val (.int (1 : Int32)), .val (.ref w_REACHABLE), .val (.int (1 : Int32)), .val (.int (1 : Int32)), .val (.int (0 : Int32)), .val (.int (0 : Int32))] [(.ref w_AFTER_UNREACHABLE), (.ref w_REACHABLE)])) X13 hx rfl rfl rfl (pc0 := 128) (pc' := 135) (same := false) rfl (hb hby at_128) rfl (decide_eq_false fun q => ne_REACHABLE_AFTER_UNREACHABLE (Value.ref.inj q)) (by decide) (by decide) ?_
        show Steps p.tables e below (T13.setTop (mkF m 135 #[.val (.int p0), .val (.int p1), .val (.ref w_REACHABLE), .val (.int (1 : Int32)), .val (.ref w_REACHABLE), .val (.int (1 : Int32)), .val (.int (1 : Int32)), .val (.int (0 : Int32)), .val (.int (0 : Int32))] [])) _
        refine XS.iconst X13.here hx rfl (hb hby at_135) ?_
        show Steps p.tables e below (T13.setTop (mkF m 136 #[.val (.int p0), .val (.int p1), .val (.ref w_REACHABLE), .val (.int (1 : Int32)), .val (.ref w_REACHABLE), .val (.int (1 : Int32)), .val (.int (1 : Int32)), .val (.int (0 : Int32)), .val (.int (0 : Int32))] [(.int (0 : Int32))])) _
        refine XS.iload X13.here hx rfl (hb hby at_136) rfl ?_
        show Steps p.tables e below (T13.setTop (mkF m 138 #[.val (.int p0), .val (.int p1), .val (.ref w_REACHABLE), .val (.int (1 : Int32)), .val (.ref w_REACHABLE), .val (.int (1 : Int32)), .val (.int (1 : Int32)), .val (.int (0 : Int32)), .val (.int (0 : Int32))] [(.int (0 : Int32)), (.int (0 : Int32))])) _
        refine XS.icmpNo X13.here hx rfl (hb hby at_138) rfl (teq (by decide : (0 : Int32) = (0 : Int32))).2 ?_
        show Steps p.tables e below (T13.setTop (mkF m 141 #[.val (.int p0), .val (.int p1), .val (.ref w_REACHABLE), .val (.int (1 : Int32)), .val (.ref w_REACHABLE), .val (.int (1 : Int32)), .val (.int (1 : Int32)), .val (.int (0 : Int32)), .val (.int (0 : Int32))] [])) _
        refine XS.iconst X13.here hx rfl (hb hby at_141) ?_
        show Steps p.tables e below (T13.setTop (mkF m 142 #[.val (.int p0), .val (.int p1), .val (.ref w_REACHABLE), .val (.int (1 : Int32)), .val (.ref w_REACHABLE), .val (.int (1 : Int32)), .val (.int (1 : Int32)), .val (.int (0 : Int32)), .val (.int (0 : Int32))] [(.int (1 : Int32))])) _
        refine XS.goto X13.here hx rfl (pc0 := 142) (pc' := 146) rfl (hb hby at_142) (by decide) (by decide) ?_
        show Steps p.tables e below (T13.setTop (mkF m 146 #[.val (.int p0), .val (.int p1), .val (.ref w_REACHABLE), .val (.int (1 : Int32)), .val (.ref w_REACHABLE), .val (.int (1 : Int32)), .val (.int (1 : Int32)), .val (.int (0 : Int32)), .val (.int (0 : Int32))] [(.int (1 : Int32))])) _
        exact retN X13 hx (t := .boolean) Bd.returns (by simp) (hb hby at_146) hr
      · show Q_rm_law Z p0 p1 w_REACHABLE w_UNREACHABLE w_AFTER_UNREACHABLE h0 n0 _ T13.heap _
        rw [e13]
        exact ⟨rfl, N9, rfl⟩
  · have k14 : ∀ target, Steps p.tables e below (s₁.setTop (mkF m 1 #[.val (.int p0), .val (.int p1), .unset, .unset, .unset, .unset, .unset, .unset, .unset] [(.int p0)])) target → Steps p.tables e below (s₁.setTop (mkF m 0 #[.val (.int p0), .val (.int p1), .unset, .unset, .unset, .unset, .unset, .unset, .unset] [])) target := by
      intro target kt
      refine k1 _ ?_
      exact kt
    by_cases hk1 : ((p0 &&& (2147483647 : Int32)) % (3 : Int32)) = (1 : Int32)
    · obtain ⟨_, _, ⟨T15, L15, k15, n15⟩, -, X15, ⟨Lc15, hQ15, l15, y15, z15⟩, st15⟩ := Jvm.LawKit.callS X0 hx (y := (⟨"com/example/ambit/ambit/ReachNextPinLaw", "pick", "(I)Lcom/example/ambit/ambit/StatementRules$Reach;"⟩ : MethodName)) hown (mvT hZ (hw _ (List.mem_of_getElem? (i := 0) rfl))) (mvT hZ (hw _ (List.mem_of_getElem? (i := 1) rfl))) (mvT hZ (hw _ (List.mem_of_getElem? (i := 2) rfl))) (mvT hZ (hw _ (List.mem_of_getElem? (i := 3) rfl))) (by decide) (backOf (W := 0) (rm_pick1 l Z a0 hw [] p0 w_UNREACHABLE h0 n0 Z0 S_UNREACHABLE hk0 hk1) hZ (hw _ (List.mem_of_getElem? (i := 3) rfl)) (hw _ (List.mem_of_getElem? (i := 2) rfl)) (by decide) (by decide)) (g := (mkF m 1 #[.val (.int p0), .val (.int p1), .unset, .unset, .unset, .unset, .unset, .unset, .unset] [(.int p0)])) rfl (by rw [hml]; rfl) (argsL := [(.int p0)]) (rest := []) (lenOf pd_0 rfl) rfl (by show 2 * 0 + _ ≤ _; exact Nat.le_of_eq rfl) (hb hby at_1) (fun _ _ => ⟨rfl, e0, (by decide : 0 + 0 ≤ _), (by decide : 0 + 0 ≤ _)⟩)
      dsimp only [Pt.U, Pt.locs, Pt.cells, Pt.slots] at X15 l15 y15 z15 st15 hQ15
      subst l15 y15 z15
      obtain ⟨rfl, N15q, e15⟩ := hQ15
      have N15 := Fr.app N0 N15q
      have k16 : ∀ target, Steps p.tables e below (T15.setTop (mkF m 8 #[.val (.int p0), .val (.int p1), .val (.ref w_UNREACHABLE), .unset, .unset, .unset, .unset, .unset, .unset] [(.int (p1 &&& (1 : Int32)))])) target → Steps p.tables e below (s₁.setTop (mkF m 0 #[.val (.int p0), .val (.int p1), .unset, .unset, .unset, .unset, .unset, .unset, .unset] [])) target := by
        intro target kt
        refine k14 _ ?_
        show Steps p.tables e below (s₁.setTop (mkF m 1 #[.val (.int p0), .val (.int p1), .unset, .unset, .unset, .unset, .unset, .unset, .unset] [(.int p0)])) _
        refine st15 _ ?_
        show Steps p.tables e below (T15.setTop (mkF m 4 #[.val (.int p0), .val (.int p1), .unset, .unset, .unset, .unset, .unset, .unset, .unset] [(.ref w_UNREACHABLE)])) _
        refine XS.astoreN X15.here hx rfl (hb hby at_4) rfl rfl (l' := #[.val (.int p0), .val (.int p1), .val (.ref w_UNREACHABLE), .unset, .unset, .unset, .unset, .unset, .unset]) rfl ?_
        show Steps p.tables e below (T15.setTop (mkF m 5 #[.val (.int p0), .val (.int p1), .val (.ref w_UNREACHABLE), .unset, .unset, .unset, .unset, .unset, .unset] [])) _
        refine XS.iloadN X15.here hx rfl (hb hby at_5) rfl ?_
        show Steps p.tables e below (T15.setTop (mkF m 6 #[.val (.int p0), .val (.int p1), .val (.ref w_UNREACHABLE), .unset, .unset, .unset, .unset, .unset, .unset] [(.int p1)])) _
        refine XS.iconst X15.here hx rfl (hb hby at_6) ?_
        show Steps p.tables e below (T15.setTop (mkF m 7 #[.val (.int p0), .val (.int p1), .val (.ref w_UNREACHABLE), .unset, .unset, .unset, .unset, .unset, .unset] [(.int (1 : Int32)), (.int p1)])) _
        refine XS.iand X15.here hx rfl (hb hby at_7) rfl ?_
        exact kt
      by_cases hc8 : (p1 &&& (1 : Int32)) = (0 : Int32)
      · obtain ⟨cq17, kq17, q17a, q17b, q17c⟩ := isOf hZ e15 E_UNREACHABLE
        obtain ⟨_, _, ⟨T17, L17, k17, n17⟩, -, X17, ⟨Lc17, hQ17, l17, y17, z17⟩, st17⟩ := X15.virtualBack hx (y := (⟨"com/example/ambit/ambit/StatementRules$Reach", "next", "(Z)Lcom/example/ambit/ambit/StatementRules$Reach;"⟩ : MethodName)) (z := (⟨"com/example/ambit/ambit/StatementRules$Reach", "next", "(Z)Lcom/example/ambit/ambit/StatementRules$Reach;"⟩ : MethodName)) hown (mvT hZ (hw _ (List.mem_of_getElem? (i := 8) rfl))) (mvT hZ (hw _ (List.mem_of_getElem? (i := 9) rfl))) (notFace_of_selects (args := #[]) (mvT hZ (hw _ (List.mem_of_getElem? (i := 11) rfl)))) (mvT hZ (hw _ (List.mem_of_getElem? (i := 11) rfl))) (mvT hZ (hw _ (List.mem_of_getElem? (i := 10) rfl))) (by decide) (backOf (W := 0) (rm_nextA l Z a0 hw [] w_UNREACHABLE (0 : Int32) w_REACHABLE w_AFTER_UNREACHABLE h0 n0 Z0 S_REACHABLE S_AFTER_UNREACHABLE (Ne.symm ne_REACHABLE_UNREACHABLE)) hZ (hw _ (List.mem_of_getElem? (i := 12) rfl)) (hw _ (List.mem_of_getElem? (i := 6) rfl)) (by decide) (by decide)) q17a q17c (g := (mkF m 19 #[.val (.int p0), .val (.int p1), .val (.ref w_UNREACHABLE), .val (.int (0 : Int32)), .unset, .unset, .unset, .unset, .unset] [(.int (0 : Int32)), (.ref w_UNREACHABLE)])) rfl (by rw [hml]; rfl) (Steps.refl _) (argsL := [(.int (0 : Int32))]) (rest := []) (lenOf pd_1 rfl) rfl (by show 2 * 0 + _ ≤ _; exact Nat.le_of_eq rfl) (hb hby at_19) (fun _ _ => ⟨rfl, e15, (by decide : 0 + 0 ≤ _), (by decide : 0 + 0 ≤ _)⟩)
        dsimp only [Pt.U, Pt.locs, Pt.cells, Pt.slots] at X17 l17 y17 z17 st17 hQ17
        subst l17 y17 z17
        obtain ⟨rfl, N17q, e17⟩ := hQ17
        have N17 := Fr.app N15 N17q
        obtain ⟨T18, X18, e18, st18⟩ := getS2 X17 hx hZ hown (host := "") (Or.inl (hw _ (List.mem_of_getElem? (i := 5) rfl))) Via.refl e17 S_REACHABLE (g := (mkF m 25 #[.val (.int p0), .val (.int p1), .val (.ref w_UNREACHABLE), .val (.int (0 : Int32)), .val (.ref w_AFTER_UNREACHABLE), .unset, .unset, .unset, .unset] [(.ref w_UNREACHABLE)])) rfl (hb hby at_25)
        obtain ⟨T19, X19, e19, st19⟩ := getS2 X18 hx hZ hown (host := "") (Or.inl (hw _ (List.mem_of_getElem? (i := 5) rfl))) Via.refl e18 S_REACHABLE (g := (mkF m 89 #[.val (.int p0), .val (.int p1), .val (.ref w_UNREACHABLE), .val (.int (0 : Int32)), .val (.ref w_AFTER_UNREACHABLE), .val (.int (0 : Int32)), .val (.int (0 : Int32)), .val (.int (0 : Int32)), .val (.int (1 : Int32))] [(.ref w_AFTER_UNREACHABLE)])) rfl (hb hby at_89)
        obtain ⟨T20, X20, e20, st20⟩ := getS2 X19 hx hZ hown (host := "") (Or.inl (hw _ (List.mem_of_getElem? (i := 14) rfl))) Via.refl e19 S_UNREACHABLE (g := (mkF m 107 #[.val (.int p0), .val (.int p1), .val (.ref w_UNREACHABLE), .val (.int (0 : Int32)), .val (.ref w_AFTER_UNREACHABLE), .val (.int (0 : Int32)), .val (.int (0 : Int32)), .val (.int (0 : Int32)), .val (.int (1 : Int32))] [(.ref w_AFTER_UNREACHABLE)])) rfl (hb hby at_107)
        obtain ⟨T21, X21, e21, st21⟩ := getS2 X20 hx hZ hown (host := "") (Or.inl (hw _ (List.mem_of_getElem? (i := 16) rfl))) Via.refl e20 S_AFTER_UNREACHABLE (g := (mkF m 125 #[.val (.int p0), .val (.int p1), .val (.ref w_UNREACHABLE), .val (.int (0 : Int32)), .val (.ref w_AFTER_UNREACHABLE), .val (.int (0 : Int32)), .val (.int (0 : Int32)), .val (.int (0 : Int32)), .val (.int (1 : Int32))] [(.ref w_AFTER_UNREACHABLE)])) rfl (hb hby at_125)
        obtain ⟨fs, hr, hrun, hended, hW, hsame⟩ := X21.leave (v := some (.int (1 : Int32))) (fun h => by rw [Bd.returns] at h; cases h)
        refine ⟨_, _, pre0 _ ?_, hrun, hended, _, _, rfl, ?_, ⟨_, rfl⟩, hW, hsame.mono (by decide) (by decide)⟩
        · refine k16 _ ?_
          show Steps p.tables e below (T15.setTop (mkF m 8 #[.val (.int p0), .val (.int p1), .val (.ref w_UNREACHABLE), .unset, .unset, .unset, .unset, .unset, .unset] [(.int (p1 &&& (1 : Int32)))])) _
          refine XS.ifYes X15.here hx rfl (pc0 := 8) (pc' := 15) rfl (hb hby at_8) rfl ((if0 _ _).trans (teq hc8).1) (by decide) (by decide) ?_
          show Steps p.tables e below (T15.setTop (mkF m 15 #[.val (.int p0), .val (.int p1), .val (.ref w_UNREACHABLE), .unset, .unset, .unset, .unset, .unset, .unset] [])) _
          refine XS.iconst X15.here hx rfl (hb hby at_15) ?_
          show Steps p.tables e below (T15.setTop (mkF m 16 #[.val (.int p0), .val (.int p1), .val (.ref w_UNREACHABLE), .unset, .unset, .unset, .unset, .unset, .unset] [(.int (0 : Int32))])) _
          refine XS.istoreN X15.here hx rfl (hb hby at_16) rfl (l' := #[.val (.int p0), .val (.int p1), .val (.ref w_UNREACHABLE), .val (.int (0 : Int32)), .unset, .unset, .unset, .unset, .unset]) rfl ?_
          show Steps p.tables e below (T15.setTop (mkF m 17 #[.val (.int p0), .val (.int p1), .val (.ref w_UNREACHABLE), .val (.int (0 : Int32)), .unset, .unset, .unset, .unset, .unset] [])) _
          refine XS.aloadN X15.here hx rfl (hb hby at_17) rfl rfl ?_
          show Steps p.tables e below (T15.setTop (mkF m 18 #[.val (.int p0), .val (.int p1), .val (.ref w_UNREACHABLE), .val (.int (0 : Int32)), .unset, .unset, .unset, .unset, .unset] [(.ref w_UNREACHABLE)])) _
          refine XS.iloadN X15.here hx rfl (hb hby at_18) rfl ?_
          show Steps p.tables e below (T15.setTop (mkF m 19 #[.val (.int p0), .val (.int p1), .val (.ref w_UNREACHABLE), .val (.int (0 : Int32)), .unset, .unset, .unset, .unset, .unset] [(.int (0 : Int32)), (.ref w_UNREACHABLE)])) _
          refine st17.trans ?_
          show Steps p.tables e below (T17.setTop (mkF m 22 #[.val (.int p0), .val (.int p1), .val (.ref w_UNREACHABLE), .val (.int (0 : Int32)), .unset, .unset, .unset, .unset, .unset] [(.ref w_AFTER_UNREACHABLE)])) _
          refine XS.astore X17.here hx rfl (hb hby at_22) rfl rfl (l' := #[.val (.int p0), .val (.int p1), .val (.ref w_UNREACHABLE), .val (.int (0 : Int32)), .val (.ref w_AFTER_UNREACHABLE), .unset, .unset, .unset, .unset]) rfl ?_
          show Steps p.tables e below (T17.setTop (mkF m 24 #[.val (.int p0), .val (.int p1), .val (.ref w_UNREACHABLE), .val (.int (0 : Int32)), .val (.ref w_AFTER_UNREACHABLE), .unset, .unset, .unset, .unset] [])) _
          refine XS.aloadN X17.here hx rfl (hb hby at_24) rfl rfl ?_
          show Steps p.tables e below (T17.setTop (mkF m 25 #[.val (.int p0), .val (.int p1), .val (.ref w_UNREACHABLE), .val (.int (0 : Int32)), .val (.ref w_AFTER_UNREACHABLE), .unset, .unset, .unset, .unset] [(.ref w_UNREACHABLE)])) _
          refine st18 _ ?_
          show Steps p.tables e below (T18.setTop (mkF m 28 #[.val (.int p0), .val (.int p1), .val (.ref w_UNREACHABLE), .val (.int (0 : Int32)), .val (.ref w_AFTER_UNREACHABLE), .unset, .unset, .unset, .unset] [(.ref w_REACHABLE), (.ref w_UNREACHABLE)])) _
          refine Jvm.RoadKit.acmp (g := (mkF m 28 #[.val (.int p0), .val (.int p1), .val (.ref w_UNREACHABLE), .val (.int (0 : Int32)), .val (.ref w_AFTER_UNREACHABLE), .unset, .unset, .unset, .unset] [(.ref w_REACHABLE), (.ref w_UNREACHABLE)])) X18 hx rfl rfl rfl (pc0 := 28) (pc' := 35) (same := false) rfl (hb hby at_28) rfl (decide_eq_false fun q => (Ne.symm ne_REACHABLE_UNREACHABLE) (Value.ref.inj q)) (by decide) (by decide) ?_
          show Steps p.tables e below (T18.setTop (mkF m 35 #[.val (.int p0), .val (.int p1), .val (.ref w_UNREACHABLE), .val (.int (0 : Int32)), .val (.ref w_AFTER_UNREACHABLE), .unset, .unset, .unset, .unset] [])) _
          refine XS.iconst X18.here hx rfl (hb hby at_35) ?_
          show Steps p.tables e below (T18.setTop (mkF m 36 #[.val (.int p0), .val (.int p1), .val (.ref w_UNREACHABLE), .val (.int (0 : Int32)), .val (.ref w_AFTER_UNREACHABLE), .unset, .unset, .unset, .unset] [(.int (0 : Int32))])) _
          refine XS.istore X18.here hx rfl (hb hby at_36) rfl (l' := #[.val (.int p0), .val (.int p1), .val (.ref w_UNREACHABLE), .val (.int (0 : Int32)), .val (.ref w_AFTER_UNREACHABLE), .val (.int (0 : Int32)), .unset, .unset, .unset]) rfl ?_
          show Steps p.tables e below (T18.setTop (mkF m 38 #[.val (.int p0), .val (.int p1), .val (.ref w_UNREACHABLE), .val (.int (0 : Int32)), .val (.ref w_AFTER_UNREACHABLE), .val (.int (0 : Int32)), .unset, .unset, .unset] [])) _
          refine XS.iload X18.here hx rfl (hb hby at_38) rfl ?_
          show Steps p.tables e below (T18.setTop (mkF m 40 #[.val (.int p0), .val (.int p1), .val (.ref w_UNREACHABLE), .val (.int (0 : Int32)), .val (.ref w_AFTER_UNREACHABLE), .val (.int (0 : Int32)), .unset, .unset, .unset] [(.int (0 : Int32))])) _
          refine XS.ifYes X18.here hx rfl (pc0 := 40) (pc' := 51) rfl (hb hby at_40) rfl ((if0 _ _).trans (teq (by decide : (0 : Int32) = (0 : Int32))).1) (by decide) (by decide) ?_
          show Steps p.tables e below (T18.setTop (mkF m 51 #[.val (.int p0), .val (.int p1), .val (.ref w_UNREACHABLE), .val (.int (0 : Int32)), .val (.ref w_AFTER_UNREACHABLE), .val (.int (0 : Int32)), .unset, .unset, .unset] [])) _
          refine XS.iconst X18.here hx rfl (hb hby at_51) ?_
          show Steps p.tables e below (T18.setTop (mkF m 52 #[.val (.int p0), .val (.int p1), .val (.ref w_UNREACHABLE), .val (.int (0 : Int32)), .val (.ref w_AFTER_UNREACHABLE), .val (.int (0 : Int32)), .unset, .unset, .unset] [(.int (0 : Int32))])) _
          refine XS.istore X18.here hx rfl (hb hby at_52) rfl (l' := #[.val (.int p0), .val (.int p1), .val (.ref w_UNREACHABLE), .val (.int (0 : Int32)), .val (.ref w_AFTER_UNREACHABLE), .val (.int (0 : Int32)), .val (.int (0 : Int32)), .unset, .unset]) rfl ?_
          show Steps p.tables e below (T18.setTop (mkF m 54 #[.val (.int p0), .val (.int p1), .val (.ref w_UNREACHABLE), .val (.int (0 : Int32)), .val (.ref w_AFTER_UNREACHABLE), .val (.int (0 : Int32)), .val (.int (0 : Int32)), .unset, .unset] [])) _
          refine XS.iload X18.here hx rfl (hb hby at_54) rfl ?_
          show Steps p.tables e below (T18.setTop (mkF m 56 #[.val (.int p0), .val (.int p1), .val (.ref w_UNREACHABLE), .val (.int (0 : Int32)), .val (.ref w_AFTER_UNREACHABLE), .val (.int (0 : Int32)), .val (.int (0 : Int32)), .unset, .unset] [(.int (0 : Int32))])) _
          refine XS.ifYes X18.here hx rfl (pc0 := 56) (pc' := 67) rfl (hb hby at_56) rfl ((if0 _ _).trans (teq (by decide : (0 : Int32) = (0 : Int32))).1) (by decide) (by decide) ?_
          show Steps p.tables e below (T18.setTop (mkF m 67 #[.val (.int p0), .val (.int p1), .val (.ref w_UNREACHABLE), .val (.int (0 : Int32)), .val (.ref w_AFTER_UNREACHABLE), .val (.int (0 : Int32)), .val (.int (0 : Int32)), .unset, .unset] [])) _
          refine XS.iconst X18.here hx rfl (hb hby at_67) ?_
          show Steps p.tables e below (T18.setTop (mkF m 68 #[.val (.int p0), .val (.int p1), .val (.ref w_UNREACHABLE), .val (.int (0 : Int32)), .val (.ref w_AFTER_UNREACHABLE), .val (.int (0 : Int32)), .val (.int (0 : Int32)), .unset, .unset] [(.int (0 : Int32))])) _
          refine XS.istore X18.here hx rfl (hb hby at_68) rfl (l' := #[.val (.int p0), .val (.int p1), .val (.ref w_UNREACHABLE), .val (.int (0 : Int32)), .val (.ref w_AFTER_UNREACHABLE), .val (.int (0 : Int32)), .val (.int (0 : Int32)), .val (.int (0 : Int32)), .unset]) rfl ?_
          show Steps p.tables e below (T18.setTop (mkF m 70 #[.val (.int p0), .val (.int p1), .val (.ref w_UNREACHABLE), .val (.int (0 : Int32)), .val (.ref w_AFTER_UNREACHABLE), .val (.int (0 : Int32)), .val (.int (0 : Int32)), .val (.int (0 : Int32)), .unset] [])) _
          refine XS.iload X18.here hx rfl (hb hby at_70) rfl ?_
          show Steps p.tables e below (T18.setTop (mkF m 72 #[.val (.int p0), .val (.int p1), .val (.ref w_UNREACHABLE), .val (.int (0 : Int32)), .val (.ref w_AFTER_UNREACHABLE), .val (.int (0 : Int32)), .val (.int (0 : Int32)), .val (.int (0 : Int32)), .unset] [(.int (0 : Int32))])) _
          refine XS.ifNo X18.here hx rfl (hb hby at_72) rfl ((if0 _ _).trans (teq (by decide : (0 : Int32) = (0 : Int32))).2) ?_
          show Steps p.tables e below (T18.setTop (mkF m 75 #[.val (.int p0), .val (.int p1), .val (.ref w_UNREACHABLE), .val (.int (0 : Int32)), .val (.ref w_AFTER_UNREACHABLE), .val (.int (0 : Int32)), .val (.int (0 : Int32)), .val (.int (0 : Int32)), .unset] [])) _
          refine XS.iconst X18.here hx rfl (hb hby at_75) ?_
          show Steps p.tables e below (T18.setTop (mkF m 76 #[.val (.int p0), .val (.int p1), .val (.ref w_UNREACHABLE), .val (.int (0 : Int32)), .val (.ref w_AFTER_UNREACHABLE), .val (.int (0 : Int32)), .val (.int (0 : Int32)), .val (.int (0 : Int32)), .unset] [(.int (1 : Int32))])) _
          refine XS.goto X18.here hx rfl (pc0 := 76) (pc' := 80) rfl (hb hby at_76) (by decide) (by decide) ?_
          show Steps p.tables e below (T18.setTop (mkF m 80 #[.val (.int p0), .val (.int p1), .val (.ref w_UNREACHABLE), .val (.int (0 : Int32)), .val (.ref w_AFTER_UNREACHABLE), .val (.int (0 : Int32)), .val (.int (0 : Int32)), .val (.int (0 : Int32)), .unset] [(.int (1 : Int32))])) _
          refine XS.istore X18.here hx rfl (hb hby at_80) rfl (l' := #[.val (.int p0), .val (.int p1), .val (.ref w_UNREACHABLE), .val (.int (0 : Int32)), .val (.ref w_AFTER_UNREACHABLE), .val (.int (0 : Int32)), .val (.int (0 : Int32)), .val (.int (0 : Int32)), .val (.int (1 : Int32))]) rfl ?_
          show Steps p.tables e below (T18.setTop (mkF m 82 #[.val (.int p0), .val (.int p1), .val (.ref w_UNREACHABLE), .val (.int (0 : Int32)), .val (.ref w_AFTER_UNREACHABLE), .val (.int (0 : Int32)), .val (.int (0 : Int32)), .val (.int (0 : Int32)), .val (.int (1 : Int32))] [])) _
          refine XS.aload X18.here hx rfl (hb hby at_82) rfl rfl ?_
          show Steps p.tables e below (T18.setTop (mkF m 84 #[.val (.int p0), .val (.int p1), .val (.ref w_UNREACHABLE), .val (.int (0 : Int32)), .val (.ref w_AFTER_UNREACHABLE), .val (.int (0 : Int32)), .val (.int (0 : Int32)), .val (.int (0 : Int32)), .val (.int (1 : Int32))] [(.ref w_AFTER_UNREACHABLE)])) _
          refine XS.ifnullNo X18.here hx rfl (hb hby at_84) rfl ?_
          show Steps p.tables e below (T18.setTop (mkF m 87 #[.val (.int p0), .val (.int p1), .val (.ref w_UNREACHABLE), .val (.int (0 : Int32)), .val (.ref w_AFTER_UNREACHABLE), .val (.int (0 : Int32)), .val (.int (0 : Int32)), .val (.int (0 : Int32)), .val (.int (1 : Int32))] [])) _
          refine XS.aload X18.here hx rfl (hb hby at_87) rfl rfl ?_
          show Steps p.tables e below (T18.setTop (mkF m 89 #[.val (.int p0), .val (.int p1), .val (.ref w_UNREACHABLE), .val (.int (0 : Int32)), .val (.ref w_AFTER_UNREACHABLE), .val (.int (0 : Int32)), .val (.int (0 : Int32)), .val (.int (0 : Int32)), .val (.int (1 : Int32))] [(.ref w_AFTER_UNREACHABLE)])) _
          refine st19 _ ?_
          show Steps p.tables e below (T19.setTop (mkF m 92 #[.val (.int p0), .val (.int p1), .val (.ref w_UNREACHABLE), .val (.int (0 : Int32)), .val (.ref w_AFTER_UNREACHABLE), .val (.int (0 : Int32)), .val (.int (0 : Int32)), .val (.int (0 : Int32)), .val (.int (1 : Int32))] [(.ref w_REACHABLE), (.ref w_AFTER_UNREACHABLE)])) _
          refine Jvm.RoadKit.acmp (g := (mkF m 92 #[.val (.int p0), .val (.int p1), .val (.ref w_UNREACHABLE), .val (.int (0 : Int32)), .val (.ref w_AFTER_UNREACHABLE), .val (.int (0 : Int32)), .val (.int (0 : Int32)), .val (.int (0 : Int32)), .val (.int (1 : Int32))] [(.ref w_REACHABLE), (.ref w_AFTER_UNREACHABLE)])) X19 hx rfl rfl rfl (pc0 := 92) (pc' := 99) (same := false) rfl (hb hby at_92) rfl (decide_eq_false fun q => (Ne.symm ne_REACHABLE_AFTER_UNREACHABLE) (Value.ref.inj q)) (by decide) (by decide) ?_
          show Steps p.tables e below (T19.setTop (mkF m 99 #[.val (.int p0), .val (.int p1), .val (.ref w_UNREACHABLE), .val (.int (0 : Int32)), .val (.ref w_AFTER_UNREACHABLE), .val (.int (0 : Int32)), .val (.int (0 : Int32)), .val (.int (0 : Int32)), .val (.int (1 : Int32))] [])) _
          refine XS.iconst X19.here hx rfl (hb hby at_99) ?_
          show Steps p.tables e below (T19.setTop (mkF m 100 #[.val (.int p0), .val (.int p1), .val (.ref w_UNREACHABLE), .val (.int (0 : Int32)), .val (.ref w_AFTER_UNREACHABLE), .val (.int (0 : Int32)), .val (.int (0 : Int32)), .val (.int (0 : Int32)), .val (.int (1 : Int32))] [(.int (0 : Int32))])) _
          refine XS.iload X19.here hx rfl (hb hby at_100) rfl ?_
          show Steps p.tables e below (T19.setTop (mkF m 102 #[.val (.int p0), .val (.int p1), .val (.ref w_UNREACHABLE), .val (.int (0 : Int32)), .val (.ref w_AFTER_UNREACHABLE), .val (.int (0 : Int32)), .val (.int (0 : Int32)), .val (.int (0 : Int32)), .val (.int (1 : Int32))] [(.int (0 : Int32)), (.int (0 : Int32))])) _
          refine XS.icmpNo X19.here hx rfl (hb hby at_102) rfl (teq (by decide : (0 : Int32) = (0 : Int32))).2 ?_
          show Steps p.tables e below (T19.setTop (mkF m 105 #[.val (.int p0), .val (.int p1), .val (.ref w_UNREACHABLE), .val (.int (0 : Int32)), .val (.ref w_AFTER_UNREACHABLE), .val (.int (0 : Int32)), .val (.int (0 : Int32)), .val (.int (0 : Int32)), .val (.int (1 : Int32))] [])) _
          refine XS.aload X19.here hx rfl (hb hby at_105) rfl rfl ?_
          show Steps p.tables e below (T19.setTop (mkF m 107 #[.val (.int p0), .val (.int p1), .val (.ref w_UNREACHABLE), .val (.int (0 : Int32)), .val (.ref w_AFTER_UNREACHABLE), .val (.int (0 : Int32)), .val (.int (0 : Int32)), .val (.int (0 : Int32)), .val (.int (1 : Int32))] [(.ref w_AFTER_UNREACHABLE)])) _
          refine st20 _ ?_
          show Steps p.tables e below (T20.setTop (mkF m 110 #[.val (.int p0), .val (.int p1), .val (.ref w_UNREACHABLE), .val (.int (0 : Int32)), .val (.ref w_AFTER_UNREACHABLE), .val (.int (0 : Int32)), .val (.int (0 : Int32)), .val (.int (0 : Int32)), .val (.int (1 : Int32))] [(.ref w_UNREACHABLE), (.ref w_AFTER_UNREACHABLE)])) _
          refine Jvm.RoadKit.acmp (g := (mkF m 110 #[.val (.int p0), .val (.int p1), .val (.ref w_UNREACHABLE), .val (.int (0 : Int32)), .val (.ref w_AFTER_UNREACHABLE), .val (.int (0 : Int32)), .val (.int (0 : Int32)), .val (.int (0 : Int32)), .val (.int (1 : Int32))] [(.ref w_UNREACHABLE), (.ref w_AFTER_UNREACHABLE)])) X20 hx rfl rfl rfl (pc0 := 110) (pc' := 117) (same := false) rfl (hb hby at_110) rfl (decide_eq_false fun q => (Ne.symm ne_UNREACHABLE_AFTER_UNREACHABLE) (Value.ref.inj q)) (by decide) (by decide) ?_
          show Steps p.tables e below (T20.setTop (mkF m 117 #[.val (.int p0), .val (.int p1), .val (.ref w_UNREACHABLE), .val (.int (0 : Int32)), .val (.ref w_AFTER_UNREACHABLE), .val (.int (0 : Int32)), .val (.int (0 : Int32)), .val (.int (0 : Int32)), .val (.int (1 : Int32))] [])) _
          refine XS.iconst X20.here hx rfl (hb hby at_117) ?_
          show Steps p.tables e below (T20.setTop (mkF m 118 #[.val (.int p0), .val (.int p1), .val (.ref w_UNREACHABLE), .val (.int (0 : Int32)), .val (.ref w_AFTER_UNREACHABLE), .val (.int (0 : Int32)), .val (.int (0 : Int32)), .val (.int (0 : Int32)), .val (.int (1 : Int32))] [(.int (0 : Int32))])) _
          refine XS.iload X20.here hx rfl (hb hby at_118) rfl ?_
          show Steps p.tables e below (T20.setTop (mkF m 120 #[.val (.int p0), .val (.int p1), .val (.ref w_UNREACHABLE), .val (.int (0 : Int32)), .val (.ref w_AFTER_UNREACHABLE), .val (.int (0 : Int32)), .val (.int (0 : Int32)), .val (.int (0 : Int32)), .val (.int (1 : Int32))] [(.int (0 : Int32)), (.int (0 : Int32))])) _
          refine XS.icmpNo X20.here hx rfl (hb hby at_120) rfl (teq (by decide : (0 : Int32) = (0 : Int32))).2 ?_
          show Steps p.tables e below (T20.setTop (mkF m 123 #[.val (.int p0), .val (.int p1), .val (.ref w_UNREACHABLE), .val (.int (0 : Int32)), .val (.ref w_AFTER_UNREACHABLE), .val (.int (0 : Int32)), .val (.int (0 : Int32)), .val (.int (0 : Int32)), .val (.int (1 : Int32))] [])) _
          refine XS.aload X20.here hx rfl (hb hby at_123) rfl rfl ?_
          show Steps p.tables e below (T20.setTop (mkF m 125 #[.val (.int p0), .val (.int p1), .val (.ref w_UNREACHABLE), .val (.int (0 : Int32)), .val (.ref w_AFTER_UNREACHABLE), .val (.int (0 : Int32)), .val (.int (0 : Int32)), .val (.int (0 : Int32)), .val (.int (1 : Int32))] [(.ref w_AFTER_UNREACHABLE)])) _
          refine st21 _ ?_
          show Steps p.tables e below (T21.setTop (mkF m 128 #[.val (.int p0), .val (.int p1), .val (.ref w_UNREACHABLE), .val (.int (0 : Int32)), .val (.ref w_AFTER_UNREACHABLE), .val (.int (0 : Int32)), .val (.int (0 : Int32)), .val (.int (0 : Int32)), .val (.int (1 : Int32))] [(.ref w_AFTER_UNREACHABLE), (.ref w_AFTER_UNREACHABLE)])) _
          refine Jvm.RoadKit.acmp (g := (mkF m 128 #[.val (.int p0), .val (.int p1), .val (.ref w_UNREACHABLE), .val (.int (0 : Int32)), .val (.ref w_AFTER_UNREACHABLE), .val (.int (0 : Int32)), .val (.int (0 : Int32)), .val (.int (0 : Int32)), .val (.int (1 : Int32))] [(.ref w_AFTER_UNREACHABLE), (.ref w_AFTER_UNREACHABLE)])) X21 hx rfl rfl rfl (pc0 := 128) (pc' := 131) (same := true) rfl (hb hby at_128) rfl (decide_eq_true rfl) (by decide) (by decide) ?_
          show Steps p.tables e below (T21.setTop (mkF m 131 #[.val (.int p0), .val (.int p1), .val (.ref w_UNREACHABLE), .val (.int (0 : Int32)), .val (.ref w_AFTER_UNREACHABLE), .val (.int (0 : Int32)), .val (.int (0 : Int32)), .val (.int (0 : Int32)), .val (.int (1 : Int32))] [])) _
          refine XS.iconst X21.here hx rfl (hb hby at_131) ?_
          show Steps p.tables e below (T21.setTop (mkF m 132 #[.val (.int p0), .val (.int p1), .val (.ref w_UNREACHABLE), .val (.int (0 : Int32)), .val (.ref w_AFTER_UNREACHABLE), .val (.int (0 : Int32)), .val (.int (0 : Int32)), .val (.int (0 : Int32)), .val (.int (1 : Int32))] [(.int (1 : Int32))])) _
          refine XS.goto X21.here hx rfl (pc0 := 132) (pc' := 136) rfl (hb hby at_132) (by decide) (by decide) ?_
          show Steps p.tables e below (T21.setTop (mkF m 136 #[.val (.int p0), .val (.int p1), .val (.ref w_UNREACHABLE), .val (.int (0 : Int32)), .val (.ref w_AFTER_UNREACHABLE), .val (.int (0 : Int32)), .val (.int (0 : Int32)), .val (.int (0 : Int32)), .val (.int (1 : Int32))] [(.int (1 : Int32))])) _
          refine XS.iload X21.here hx rfl (hb hby at_136) rfl ?_
          show Steps p.tables e below (T21.setTop (mkF m 138 #[.val (.int p0), .val (.int p1), .val (.ref w_UNREACHABLE), .val (.int (0 : Int32)), .val (.ref w_AFTER_UNREACHABLE), .val (.int (0 : Int32)), .val (.int (0 : Int32)), .val (.int (0 : Int32)), .val (.int (1 : Int32))] [(.int (1 : Int32)), (.int (1 : Int32))])) _
          refine XS.icmpNo X21.here hx rfl (hb hby at_138) rfl (teq (by decide : (1 : Int32) = (1 : Int32))).2 ?_
          show Steps p.tables e below (T21.setTop (mkF m 141 #[.val (.int p0), .val (.int p1), .val (.ref w_UNREACHABLE), .val (.int (0 : Int32)), .val (.ref w_AFTER_UNREACHABLE), .val (.int (0 : Int32)), .val (.int (0 : Int32)), .val (.int (0 : Int32)), .val (.int (1 : Int32))] [])) _
          refine XS.iconst X21.here hx rfl (hb hby at_141) ?_
          show Steps p.tables e below (T21.setTop (mkF m 142 #[.val (.int p0), .val (.int p1), .val (.ref w_UNREACHABLE), .val (.int (0 : Int32)), .val (.ref w_AFTER_UNREACHABLE), .val (.int (0 : Int32)), .val (.int (0 : Int32)), .val (.int (0 : Int32)), .val (.int (1 : Int32))] [(.int (1 : Int32))])) _
          refine XS.goto X21.here hx rfl (pc0 := 142) (pc' := 146) rfl (hb hby at_142) (by decide) (by decide) ?_
          show Steps p.tables e below (T21.setTop (mkF m 146 #[.val (.int p0), .val (.int p1), .val (.ref w_UNREACHABLE), .val (.int (0 : Int32)), .val (.ref w_AFTER_UNREACHABLE), .val (.int (0 : Int32)), .val (.int (0 : Int32)), .val (.int (0 : Int32)), .val (.int (1 : Int32))] [(.int (1 : Int32))])) _
          exact retN X21 hx (t := .boolean) Bd.returns (by simp) (hb hby at_146) hr
        · show Q_rm_law Z p0 p1 w_REACHABLE w_UNREACHABLE w_AFTER_UNREACHABLE h0 n0 _ T21.heap _
          rw [e21]
          exact ⟨rfl, N17, rfl⟩
      · obtain ⟨cq22, kq22, q22a, q22b, q22c⟩ := isOf hZ e15 E_UNREACHABLE
        obtain ⟨_, _, ⟨T22, L22, k22, n22⟩, -, X22, ⟨Lc22, hQ22, l22, y22, z22⟩, st22⟩ := X15.virtualBack hx (y := (⟨"com/example/ambit/ambit/StatementRules$Reach", "next", "(Z)Lcom/example/ambit/ambit/StatementRules$Reach;"⟩ : MethodName)) (z := (⟨"com/example/ambit/ambit/StatementRules$Reach", "next", "(Z)Lcom/example/ambit/ambit/StatementRules$Reach;"⟩ : MethodName)) hown (mvT hZ (hw _ (List.mem_of_getElem? (i := 8) rfl))) (mvT hZ (hw _ (List.mem_of_getElem? (i := 9) rfl))) (notFace_of_selects (args := #[]) (mvT hZ (hw _ (List.mem_of_getElem? (i := 11) rfl)))) (mvT hZ (hw _ (List.mem_of_getElem? (i := 11) rfl))) (mvT hZ (hw _ (List.mem_of_getElem? (i := 10) rfl))) (by decide) (backOf (W := 0) (rm_nextA l Z a0 hw [] w_UNREACHABLE (1 : Int32) w_REACHABLE w_AFTER_UNREACHABLE h0 n0 Z0 S_REACHABLE S_AFTER_UNREACHABLE (Ne.symm ne_REACHABLE_UNREACHABLE)) hZ (hw _ (List.mem_of_getElem? (i := 12) rfl)) (hw _ (List.mem_of_getElem? (i := 6) rfl)) (by decide) (by decide)) q22a q22c (g := (mkF m 19 #[.val (.int p0), .val (.int p1), .val (.ref w_UNREACHABLE), .val (.int (1 : Int32)), .unset, .unset, .unset, .unset, .unset] [(.int (1 : Int32)), (.ref w_UNREACHABLE)])) rfl (by rw [hml]; rfl) (Steps.refl _) (argsL := [(.int (1 : Int32))]) (rest := []) (lenOf pd_1 rfl) rfl (by show 2 * 0 + _ ≤ _; exact Nat.le_of_eq rfl) (hb hby at_19) (fun _ _ => ⟨rfl, e15, (by decide : 0 + 0 ≤ _), (by decide : 0 + 0 ≤ _)⟩)
        dsimp only [Pt.U, Pt.locs, Pt.cells, Pt.slots] at X22 l22 y22 z22 st22 hQ22
        subst l22 y22 z22
        obtain ⟨rfl, N22q, e22⟩ := hQ22
        have N22 := Fr.app N15 N22q
        obtain ⟨T23, X23, e23, st23⟩ := getS2 X22 hx hZ hown (host := "") (Or.inl (hw _ (List.mem_of_getElem? (i := 5) rfl))) Via.refl e22 S_REACHABLE (g := (mkF m 25 #[.val (.int p0), .val (.int p1), .val (.ref w_UNREACHABLE), .val (.int (1 : Int32)), .val (.ref w_AFTER_UNREACHABLE), .unset, .unset, .unset, .unset] [(.ref w_UNREACHABLE)])) rfl (hb hby at_25)
        obtain ⟨T24, X24, e24, st24⟩ := getS2 X23 hx hZ hown (host := "") (Or.inl (hw _ (List.mem_of_getElem? (i := 5) rfl))) Via.refl e23 S_REACHABLE (g := (mkF m 89 #[.val (.int p0), .val (.int p1), .val (.ref w_UNREACHABLE), .val (.int (1 : Int32)), .val (.ref w_AFTER_UNREACHABLE), .val (.int (0 : Int32)), .val (.int (0 : Int32)), .val (.int (0 : Int32)), .val (.int (1 : Int32))] [(.ref w_AFTER_UNREACHABLE)])) rfl (hb hby at_89)
        obtain ⟨T25, X25, e25, st25⟩ := getS2 X24 hx hZ hown (host := "") (Or.inl (hw _ (List.mem_of_getElem? (i := 14) rfl))) Via.refl e24 S_UNREACHABLE (g := (mkF m 107 #[.val (.int p0), .val (.int p1), .val (.ref w_UNREACHABLE), .val (.int (1 : Int32)), .val (.ref w_AFTER_UNREACHABLE), .val (.int (0 : Int32)), .val (.int (0 : Int32)), .val (.int (0 : Int32)), .val (.int (1 : Int32))] [(.ref w_AFTER_UNREACHABLE)])) rfl (hb hby at_107)
        obtain ⟨T26, X26, e26, st26⟩ := getS2 X25 hx hZ hown (host := "") (Or.inl (hw _ (List.mem_of_getElem? (i := 16) rfl))) Via.refl e25 S_AFTER_UNREACHABLE (g := (mkF m 125 #[.val (.int p0), .val (.int p1), .val (.ref w_UNREACHABLE), .val (.int (1 : Int32)), .val (.ref w_AFTER_UNREACHABLE), .val (.int (0 : Int32)), .val (.int (0 : Int32)), .val (.int (0 : Int32)), .val (.int (1 : Int32))] [(.ref w_AFTER_UNREACHABLE)])) rfl (hb hby at_125)
        obtain ⟨fs, hr, hrun, hended, hW, hsame⟩ := X26.leave (v := some (.int (1 : Int32))) (fun h => by rw [Bd.returns] at h; cases h)
        refine ⟨_, _, pre0 _ ?_, hrun, hended, _, _, rfl, ?_, ⟨_, rfl⟩, hW, hsame.mono (by decide) (by decide)⟩
        · refine k16 _ ?_
          show Steps p.tables e below (T15.setTop (mkF m 8 #[.val (.int p0), .val (.int p1), .val (.ref w_UNREACHABLE), .unset, .unset, .unset, .unset, .unset, .unset] [(.int (p1 &&& (1 : Int32)))])) _
          refine XS.ifNo X15.here hx rfl (hb hby at_8) rfl ((if0 _ _).trans (feq hc8).1) ?_
          show Steps p.tables e below (T15.setTop (mkF m 11 #[.val (.int p0), .val (.int p1), .val (.ref w_UNREACHABLE), .unset, .unset, .unset, .unset, .unset, .unset] [])) _
          refine XS.iconst X15.here hx rfl (hb hby at_11) ?_
          show Steps p.tables e below (T15.setTop (mkF m 12 #[.val (.int p0), .val (.int p1), .val (.ref w_UNREACHABLE), .unset, .unset, .unset, .unset, .unset, .unset] [(.int (1 : Int32))])) _
          refine XS.goto X15.here hx rfl (pc0 := 12) (pc' := 16) rfl (hb hby at_12) (by decide) (by decide) ?_
          show Steps p.tables e below (T15.setTop (mkF m 16 #[.val (.int p0), .val (.int p1), .val (.ref w_UNREACHABLE), .unset, .unset, .unset, .unset, .unset, .unset] [(.int (1 : Int32))])) _
          refine XS.istoreN X15.here hx rfl (hb hby at_16) rfl (l' := #[.val (.int p0), .val (.int p1), .val (.ref w_UNREACHABLE), .val (.int (1 : Int32)), .unset, .unset, .unset, .unset, .unset]) rfl ?_
          show Steps p.tables e below (T15.setTop (mkF m 17 #[.val (.int p0), .val (.int p1), .val (.ref w_UNREACHABLE), .val (.int (1 : Int32)), .unset, .unset, .unset, .unset, .unset] [])) _
          refine XS.aloadN X15.here hx rfl (hb hby at_17) rfl rfl ?_
          show Steps p.tables e below (T15.setTop (mkF m 18 #[.val (.int p0), .val (.int p1), .val (.ref w_UNREACHABLE), .val (.int (1 : Int32)), .unset, .unset, .unset, .unset, .unset] [(.ref w_UNREACHABLE)])) _
          refine XS.iloadN X15.here hx rfl (hb hby at_18) rfl ?_
          show Steps p.tables e below (T15.setTop (mkF m 19 #[.val (.int p0), .val (.int p1), .val (.ref w_UNREACHABLE), .val (.int (1 : Int32)), .unset, .unset, .unset, .unset, .unset] [(.int (1 : Int32)), (.ref w_UNREACHABLE)])) _
          refine st22.trans ?_
          show Steps p.tables e below (T22.setTop (mkF m 22 #[.val (.int p0), .val (.int p1), .val (.ref w_UNREACHABLE), .val (.int (1 : Int32)), .unset, .unset, .unset, .unset, .unset] [(.ref w_AFTER_UNREACHABLE)])) _
          refine XS.astore X22.here hx rfl (hb hby at_22) rfl rfl (l' := #[.val (.int p0), .val (.int p1), .val (.ref w_UNREACHABLE), .val (.int (1 : Int32)), .val (.ref w_AFTER_UNREACHABLE), .unset, .unset, .unset, .unset]) rfl ?_
          show Steps p.tables e below (T22.setTop (mkF m 24 #[.val (.int p0), .val (.int p1), .val (.ref w_UNREACHABLE), .val (.int (1 : Int32)), .val (.ref w_AFTER_UNREACHABLE), .unset, .unset, .unset, .unset] [])) _
          refine XS.aloadN X22.here hx rfl (hb hby at_24) rfl rfl ?_
          show Steps p.tables e below (T22.setTop (mkF m 25 #[.val (.int p0), .val (.int p1), .val (.ref w_UNREACHABLE), .val (.int (1 : Int32)), .val (.ref w_AFTER_UNREACHABLE), .unset, .unset, .unset, .unset] [(.ref w_UNREACHABLE)])) _
          refine st23 _ ?_
          show Steps p.tables e below (T23.setTop (mkF m 28 #[.val (.int p0), .val (.int p1), .val (.ref w_UNREACHABLE), .val (.int (1 : Int32)), .val (.ref w_AFTER_UNREACHABLE), .unset, .unset, .unset, .unset] [(.ref w_REACHABLE), (.ref w_UNREACHABLE)])) _
          refine Jvm.RoadKit.acmp (g := (mkF m 28 #[.val (.int p0), .val (.int p1), .val (.ref w_UNREACHABLE), .val (.int (1 : Int32)), .val (.ref w_AFTER_UNREACHABLE), .unset, .unset, .unset, .unset] [(.ref w_REACHABLE), (.ref w_UNREACHABLE)])) X23 hx rfl rfl rfl (pc0 := 28) (pc' := 35) (same := false) rfl (hb hby at_28) rfl (decide_eq_false fun q => (Ne.symm ne_REACHABLE_UNREACHABLE) (Value.ref.inj q)) (by decide) (by decide) ?_
          show Steps p.tables e below (T23.setTop (mkF m 35 #[.val (.int p0), .val (.int p1), .val (.ref w_UNREACHABLE), .val (.int (1 : Int32)), .val (.ref w_AFTER_UNREACHABLE), .unset, .unset, .unset, .unset] [])) _
          refine XS.iconst X23.here hx rfl (hb hby at_35) ?_
          show Steps p.tables e below (T23.setTop (mkF m 36 #[.val (.int p0), .val (.int p1), .val (.ref w_UNREACHABLE), .val (.int (1 : Int32)), .val (.ref w_AFTER_UNREACHABLE), .unset, .unset, .unset, .unset] [(.int (0 : Int32))])) _
          refine XS.istore X23.here hx rfl (hb hby at_36) rfl (l' := #[.val (.int p0), .val (.int p1), .val (.ref w_UNREACHABLE), .val (.int (1 : Int32)), .val (.ref w_AFTER_UNREACHABLE), .val (.int (0 : Int32)), .unset, .unset, .unset]) rfl ?_
          show Steps p.tables e below (T23.setTop (mkF m 38 #[.val (.int p0), .val (.int p1), .val (.ref w_UNREACHABLE), .val (.int (1 : Int32)), .val (.ref w_AFTER_UNREACHABLE), .val (.int (0 : Int32)), .unset, .unset, .unset] [])) _
          refine XS.iload X23.here hx rfl (hb hby at_38) rfl ?_
          show Steps p.tables e below (T23.setTop (mkF m 40 #[.val (.int p0), .val (.int p1), .val (.ref w_UNREACHABLE), .val (.int (1 : Int32)), .val (.ref w_AFTER_UNREACHABLE), .val (.int (0 : Int32)), .unset, .unset, .unset] [(.int (0 : Int32))])) _
          refine XS.ifYes X23.here hx rfl (pc0 := 40) (pc' := 51) rfl (hb hby at_40) rfl ((if0 _ _).trans (teq (by decide : (0 : Int32) = (0 : Int32))).1) (by decide) (by decide) ?_
          show Steps p.tables e below (T23.setTop (mkF m 51 #[.val (.int p0), .val (.int p1), .val (.ref w_UNREACHABLE), .val (.int (1 : Int32)), .val (.ref w_AFTER_UNREACHABLE), .val (.int (0 : Int32)), .unset, .unset, .unset] [])) _
          refine XS.iconst X23.here hx rfl (hb hby at_51) ?_
          show Steps p.tables e below (T23.setTop (mkF m 52 #[.val (.int p0), .val (.int p1), .val (.ref w_UNREACHABLE), .val (.int (1 : Int32)), .val (.ref w_AFTER_UNREACHABLE), .val (.int (0 : Int32)), .unset, .unset, .unset] [(.int (0 : Int32))])) _
          refine XS.istore X23.here hx rfl (hb hby at_52) rfl (l' := #[.val (.int p0), .val (.int p1), .val (.ref w_UNREACHABLE), .val (.int (1 : Int32)), .val (.ref w_AFTER_UNREACHABLE), .val (.int (0 : Int32)), .val (.int (0 : Int32)), .unset, .unset]) rfl ?_
          show Steps p.tables e below (T23.setTop (mkF m 54 #[.val (.int p0), .val (.int p1), .val (.ref w_UNREACHABLE), .val (.int (1 : Int32)), .val (.ref w_AFTER_UNREACHABLE), .val (.int (0 : Int32)), .val (.int (0 : Int32)), .unset, .unset] [])) _
          refine XS.iload X23.here hx rfl (hb hby at_54) rfl ?_
          show Steps p.tables e below (T23.setTop (mkF m 56 #[.val (.int p0), .val (.int p1), .val (.ref w_UNREACHABLE), .val (.int (1 : Int32)), .val (.ref w_AFTER_UNREACHABLE), .val (.int (0 : Int32)), .val (.int (0 : Int32)), .unset, .unset] [(.int (0 : Int32))])) _
          refine XS.ifYes X23.here hx rfl (pc0 := 56) (pc' := 67) rfl (hb hby at_56) rfl ((if0 _ _).trans (teq (by decide : (0 : Int32) = (0 : Int32))).1) (by decide) (by decide) ?_
          show Steps p.tables e below (T23.setTop (mkF m 67 #[.val (.int p0), .val (.int p1), .val (.ref w_UNREACHABLE), .val (.int (1 : Int32)), .val (.ref w_AFTER_UNREACHABLE), .val (.int (0 : Int32)), .val (.int (0 : Int32)), .unset, .unset] [])) _
          refine XS.iconst X23.here hx rfl (hb hby at_67) ?_
          show Steps p.tables e below (T23.setTop (mkF m 68 #[.val (.int p0), .val (.int p1), .val (.ref w_UNREACHABLE), .val (.int (1 : Int32)), .val (.ref w_AFTER_UNREACHABLE), .val (.int (0 : Int32)), .val (.int (0 : Int32)), .unset, .unset] [(.int (0 : Int32))])) _
          refine XS.istore X23.here hx rfl (hb hby at_68) rfl (l' := #[.val (.int p0), .val (.int p1), .val (.ref w_UNREACHABLE), .val (.int (1 : Int32)), .val (.ref w_AFTER_UNREACHABLE), .val (.int (0 : Int32)), .val (.int (0 : Int32)), .val (.int (0 : Int32)), .unset]) rfl ?_
          show Steps p.tables e below (T23.setTop (mkF m 70 #[.val (.int p0), .val (.int p1), .val (.ref w_UNREACHABLE), .val (.int (1 : Int32)), .val (.ref w_AFTER_UNREACHABLE), .val (.int (0 : Int32)), .val (.int (0 : Int32)), .val (.int (0 : Int32)), .unset] [])) _
          refine XS.iload X23.here hx rfl (hb hby at_70) rfl ?_
          show Steps p.tables e below (T23.setTop (mkF m 72 #[.val (.int p0), .val (.int p1), .val (.ref w_UNREACHABLE), .val (.int (1 : Int32)), .val (.ref w_AFTER_UNREACHABLE), .val (.int (0 : Int32)), .val (.int (0 : Int32)), .val (.int (0 : Int32)), .unset] [(.int (0 : Int32))])) _
          refine XS.ifNo X23.here hx rfl (hb hby at_72) rfl ((if0 _ _).trans (teq (by decide : (0 : Int32) = (0 : Int32))).2) ?_
          show Steps p.tables e below (T23.setTop (mkF m 75 #[.val (.int p0), .val (.int p1), .val (.ref w_UNREACHABLE), .val (.int (1 : Int32)), .val (.ref w_AFTER_UNREACHABLE), .val (.int (0 : Int32)), .val (.int (0 : Int32)), .val (.int (0 : Int32)), .unset] [])) _
          refine XS.iconst X23.here hx rfl (hb hby at_75) ?_
          show Steps p.tables e below (T23.setTop (mkF m 76 #[.val (.int p0), .val (.int p1), .val (.ref w_UNREACHABLE), .val (.int (1 : Int32)), .val (.ref w_AFTER_UNREACHABLE), .val (.int (0 : Int32)), .val (.int (0 : Int32)), .val (.int (0 : Int32)), .unset] [(.int (1 : Int32))])) _
          refine XS.goto X23.here hx rfl (pc0 := 76) (pc' := 80) rfl (hb hby at_76) (by decide) (by decide) ?_
          show Steps p.tables e below (T23.setTop (mkF m 80 #[.val (.int p0), .val (.int p1), .val (.ref w_UNREACHABLE), .val (.int (1 : Int32)), .val (.ref w_AFTER_UNREACHABLE), .val (.int (0 : Int32)), .val (.int (0 : Int32)), .val (.int (0 : Int32)), .unset] [(.int (1 : Int32))])) _
          refine XS.istore X23.here hx rfl (hb hby at_80) rfl (l' := #[.val (.int p0), .val (.int p1), .val (.ref w_UNREACHABLE), .val (.int (1 : Int32)), .val (.ref w_AFTER_UNREACHABLE), .val (.int (0 : Int32)), .val (.int (0 : Int32)), .val (.int (0 : Int32)), .val (.int (1 : Int32))]) rfl ?_
          show Steps p.tables e below (T23.setTop (mkF m 82 #[.val (.int p0), .val (.int p1), .val (.ref w_UNREACHABLE), .val (.int (1 : Int32)), .val (.ref w_AFTER_UNREACHABLE), .val (.int (0 : Int32)), .val (.int (0 : Int32)), .val (.int (0 : Int32)), .val (.int (1 : Int32))] [])) _
          refine XS.aload X23.here hx rfl (hb hby at_82) rfl rfl ?_
          show Steps p.tables e below (T23.setTop (mkF m 84 #[.val (.int p0), .val (.int p1), .val (.ref w_UNREACHABLE), .val (.int (1 : Int32)), .val (.ref w_AFTER_UNREACHABLE), .val (.int (0 : Int32)), .val (.int (0 : Int32)), .val (.int (0 : Int32)), .val (.int (1 : Int32))] [(.ref w_AFTER_UNREACHABLE)])) _
          refine XS.ifnullNo X23.here hx rfl (hb hby at_84) rfl ?_
          show Steps p.tables e below (T23.setTop (mkF m 87 #[.val (.int p0), .val (.int p1), .val (.ref w_UNREACHABLE), .val (.int (1 : Int32)), .val (.ref w_AFTER_UNREACHABLE), .val (.int (0 : Int32)), .val (.int (0 : Int32)), .val (.int (0 : Int32)), .val (.int (1 : Int32))] [])) _
          refine XS.aload X23.here hx rfl (hb hby at_87) rfl rfl ?_
          show Steps p.tables e below (T23.setTop (mkF m 89 #[.val (.int p0), .val (.int p1), .val (.ref w_UNREACHABLE), .val (.int (1 : Int32)), .val (.ref w_AFTER_UNREACHABLE), .val (.int (0 : Int32)), .val (.int (0 : Int32)), .val (.int (0 : Int32)), .val (.int (1 : Int32))] [(.ref w_AFTER_UNREACHABLE)])) _
          refine st24 _ ?_
          show Steps p.tables e below (T24.setTop (mkF m 92 #[.val (.int p0), .val (.int p1), .val (.ref w_UNREACHABLE), .val (.int (1 : Int32)), .val (.ref w_AFTER_UNREACHABLE), .val (.int (0 : Int32)), .val (.int (0 : Int32)), .val (.int (0 : Int32)), .val (.int (1 : Int32))] [(.ref w_REACHABLE), (.ref w_AFTER_UNREACHABLE)])) _
          refine Jvm.RoadKit.acmp (g := (mkF m 92 #[.val (.int p0), .val (.int p1), .val (.ref w_UNREACHABLE), .val (.int (1 : Int32)), .val (.ref w_AFTER_UNREACHABLE), .val (.int (0 : Int32)), .val (.int (0 : Int32)), .val (.int (0 : Int32)), .val (.int (1 : Int32))] [(.ref w_REACHABLE), (.ref w_AFTER_UNREACHABLE)])) X24 hx rfl rfl rfl (pc0 := 92) (pc' := 99) (same := false) rfl (hb hby at_92) rfl (decide_eq_false fun q => (Ne.symm ne_REACHABLE_AFTER_UNREACHABLE) (Value.ref.inj q)) (by decide) (by decide) ?_
          show Steps p.tables e below (T24.setTop (mkF m 99 #[.val (.int p0), .val (.int p1), .val (.ref w_UNREACHABLE), .val (.int (1 : Int32)), .val (.ref w_AFTER_UNREACHABLE), .val (.int (0 : Int32)), .val (.int (0 : Int32)), .val (.int (0 : Int32)), .val (.int (1 : Int32))] [])) _
          refine XS.iconst X24.here hx rfl (hb hby at_99) ?_
          show Steps p.tables e below (T24.setTop (mkF m 100 #[.val (.int p0), .val (.int p1), .val (.ref w_UNREACHABLE), .val (.int (1 : Int32)), .val (.ref w_AFTER_UNREACHABLE), .val (.int (0 : Int32)), .val (.int (0 : Int32)), .val (.int (0 : Int32)), .val (.int (1 : Int32))] [(.int (0 : Int32))])) _
          refine XS.iload X24.here hx rfl (hb hby at_100) rfl ?_
          show Steps p.tables e below (T24.setTop (mkF m 102 #[.val (.int p0), .val (.int p1), .val (.ref w_UNREACHABLE), .val (.int (1 : Int32)), .val (.ref w_AFTER_UNREACHABLE), .val (.int (0 : Int32)), .val (.int (0 : Int32)), .val (.int (0 : Int32)), .val (.int (1 : Int32))] [(.int (0 : Int32)), (.int (0 : Int32))])) _
          refine XS.icmpNo X24.here hx rfl (hb hby at_102) rfl (teq (by decide : (0 : Int32) = (0 : Int32))).2 ?_
          show Steps p.tables e below (T24.setTop (mkF m 105 #[.val (.int p0), .val (.int p1), .val (.ref w_UNREACHABLE), .val (.int (1 : Int32)), .val (.ref w_AFTER_UNREACHABLE), .val (.int (0 : Int32)), .val (.int (0 : Int32)), .val (.int (0 : Int32)), .val (.int (1 : Int32))] [])) _
          refine XS.aload X24.here hx rfl (hb hby at_105) rfl rfl ?_
          show Steps p.tables e below (T24.setTop (mkF m 107 #[.val (.int p0), .val (.int p1), .val (.ref w_UNREACHABLE), .val (.int (1 : Int32)), .val (.ref w_AFTER_UNREACHABLE), .val (.int (0 : Int32)), .val (.int (0 : Int32)), .val (.int (0 : Int32)), .val (.int (1 : Int32))] [(.ref w_AFTER_UNREACHABLE)])) _
          refine st25 _ ?_
          show Steps p.tables e below (T25.setTop (mkF m 110 #[.val (.int p0), .val (.int p1), .val (.ref w_UNREACHABLE), .val (.int (1 : Int32)), .val (.ref w_AFTER_UNREACHABLE), .val (.int (0 : Int32)), .val (.int (0 : Int32)), .val (.int (0 : Int32)), .val (.int (1 : Int32))] [(.ref w_UNREACHABLE), (.ref w_AFTER_UNREACHABLE)])) _
          refine Jvm.RoadKit.acmp (g := (mkF m 110 #[.val (.int p0), .val (.int p1), .val (.ref w_UNREACHABLE), .val (.int (1 : Int32)), .val (.ref w_AFTER_UNREACHABLE), .val (.int (0 : Int32)), .val (.int (0 : Int32)), .val (.int (0 : Int32)), .val (.int (1 : Int32))] [(.ref w_UNREACHABLE), (.ref w_AFTER_UNREACHABLE)])) X25 hx rfl rfl rfl (pc0 := 110) (pc' := 117) (same := false) rfl (hb hby at_110) rfl (decide_eq_false fun q => (Ne.symm ne_UNREACHABLE_AFTER_UNREACHABLE) (Value.ref.inj q)) (by decide) (by decide) ?_
          show Steps p.tables e below (T25.setTop (mkF m 117 #[.val (.int p0), .val (.int p1), .val (.ref w_UNREACHABLE), .val (.int (1 : Int32)), .val (.ref w_AFTER_UNREACHABLE), .val (.int (0 : Int32)), .val (.int (0 : Int32)), .val (.int (0 : Int32)), .val (.int (1 : Int32))] [])) _
          refine XS.iconst X25.here hx rfl (hb hby at_117) ?_
          show Steps p.tables e below (T25.setTop (mkF m 118 #[.val (.int p0), .val (.int p1), .val (.ref w_UNREACHABLE), .val (.int (1 : Int32)), .val (.ref w_AFTER_UNREACHABLE), .val (.int (0 : Int32)), .val (.int (0 : Int32)), .val (.int (0 : Int32)), .val (.int (1 : Int32))] [(.int (0 : Int32))])) _
          refine XS.iload X25.here hx rfl (hb hby at_118) rfl ?_
          show Steps p.tables e below (T25.setTop (mkF m 120 #[.val (.int p0), .val (.int p1), .val (.ref w_UNREACHABLE), .val (.int (1 : Int32)), .val (.ref w_AFTER_UNREACHABLE), .val (.int (0 : Int32)), .val (.int (0 : Int32)), .val (.int (0 : Int32)), .val (.int (1 : Int32))] [(.int (0 : Int32)), (.int (0 : Int32))])) _
          refine XS.icmpNo X25.here hx rfl (hb hby at_120) rfl (teq (by decide : (0 : Int32) = (0 : Int32))).2 ?_
          show Steps p.tables e below (T25.setTop (mkF m 123 #[.val (.int p0), .val (.int p1), .val (.ref w_UNREACHABLE), .val (.int (1 : Int32)), .val (.ref w_AFTER_UNREACHABLE), .val (.int (0 : Int32)), .val (.int (0 : Int32)), .val (.int (0 : Int32)), .val (.int (1 : Int32))] [])) _
          refine XS.aload X25.here hx rfl (hb hby at_123) rfl rfl ?_
          show Steps p.tables e below (T25.setTop (mkF m 125 #[.val (.int p0), .val (.int p1), .val (.ref w_UNREACHABLE), .val (.int (1 : Int32)), .val (.ref w_AFTER_UNREACHABLE), .val (.int (0 : Int32)), .val (.int (0 : Int32)), .val (.int (0 : Int32)), .val (.int (1 : Int32))] [(.ref w_AFTER_UNREACHABLE)])) _
          refine st26 _ ?_
          show Steps p.tables e below (T26.setTop (mkF m 128 #[.val (.int p0), .val (.int p1), .val (.ref w_UNREACHABLE), .val (.int (1 : Int32)), .val (.ref w_AFTER_UNREACHABLE), .val (.int (0 : Int32)), .val (.int (0 : Int32)), .val (.int (0 : Int32)), .val (.int (1 : Int32))] [(.ref w_AFTER_UNREACHABLE), (.ref w_AFTER_UNREACHABLE)])) _
          refine Jvm.RoadKit.acmp (g := (mkF m 128 #[.val (.int p0), .val (.int p1), .val (.ref w_UNREACHABLE), .val (.int (1 : Int32)), .val (.ref w_AFTER_UNREACHABLE), .val (.int (0 : Int32)), .val (.int (0 : Int32)), .val (.int (0 : Int32)), .val (.int (1 : Int32))] [(.ref w_AFTER_UNREACHABLE), (.ref w_AFTER_UNREACHABLE)])) X26 hx rfl rfl rfl (pc0 := 128) (pc' := 131) (same := true) rfl (hb hby at_128) rfl (decide_eq_true rfl) (by decide) (by decide) ?_
          show Steps p.tables e below (T26.setTop (mkF m 131 #[.val (.int p0), .val (.int p1), .val (.ref w_UNREACHABLE), .val (.int (1 : Int32)), .val (.ref w_AFTER_UNREACHABLE), .val (.int (0 : Int32)), .val (.int (0 : Int32)), .val (.int (0 : Int32)), .val (.int (1 : Int32))] [])) _
          refine XS.iconst X26.here hx rfl (hb hby at_131) ?_
          show Steps p.tables e below (T26.setTop (mkF m 132 #[.val (.int p0), .val (.int p1), .val (.ref w_UNREACHABLE), .val (.int (1 : Int32)), .val (.ref w_AFTER_UNREACHABLE), .val (.int (0 : Int32)), .val (.int (0 : Int32)), .val (.int (0 : Int32)), .val (.int (1 : Int32))] [(.int (1 : Int32))])) _
          refine XS.goto X26.here hx rfl (pc0 := 132) (pc' := 136) rfl (hb hby at_132) (by decide) (by decide) ?_
          show Steps p.tables e below (T26.setTop (mkF m 136 #[.val (.int p0), .val (.int p1), .val (.ref w_UNREACHABLE), .val (.int (1 : Int32)), .val (.ref w_AFTER_UNREACHABLE), .val (.int (0 : Int32)), .val (.int (0 : Int32)), .val (.int (0 : Int32)), .val (.int (1 : Int32))] [(.int (1 : Int32))])) _
          refine XS.iload X26.here hx rfl (hb hby at_136) rfl ?_
          show Steps p.tables e below (T26.setTop (mkF m 138 #[.val (.int p0), .val (.int p1), .val (.ref w_UNREACHABLE), .val (.int (1 : Int32)), .val (.ref w_AFTER_UNREACHABLE), .val (.int (0 : Int32)), .val (.int (0 : Int32)), .val (.int (0 : Int32)), .val (.int (1 : Int32))] [(.int (1 : Int32)), (.int (1 : Int32))])) _
          refine XS.icmpNo X26.here hx rfl (hb hby at_138) rfl (teq (by decide : (1 : Int32) = (1 : Int32))).2 ?_
          show Steps p.tables e below (T26.setTop (mkF m 141 #[.val (.int p0), .val (.int p1), .val (.ref w_UNREACHABLE), .val (.int (1 : Int32)), .val (.ref w_AFTER_UNREACHABLE), .val (.int (0 : Int32)), .val (.int (0 : Int32)), .val (.int (0 : Int32)), .val (.int (1 : Int32))] [])) _
          refine XS.iconst X26.here hx rfl (hb hby at_141) ?_
          show Steps p.tables e below (T26.setTop (mkF m 142 #[.val (.int p0), .val (.int p1), .val (.ref w_UNREACHABLE), .val (.int (1 : Int32)), .val (.ref w_AFTER_UNREACHABLE), .val (.int (0 : Int32)), .val (.int (0 : Int32)), .val (.int (0 : Int32)), .val (.int (1 : Int32))] [(.int (1 : Int32))])) _
          refine XS.goto X26.here hx rfl (pc0 := 142) (pc' := 146) rfl (hb hby at_142) (by decide) (by decide) ?_
          show Steps p.tables e below (T26.setTop (mkF m 146 #[.val (.int p0), .val (.int p1), .val (.ref w_UNREACHABLE), .val (.int (1 : Int32)), .val (.ref w_AFTER_UNREACHABLE), .val (.int (0 : Int32)), .val (.int (0 : Int32)), .val (.int (0 : Int32)), .val (.int (1 : Int32))] [(.int (1 : Int32))])) _
          exact retN X26 hx (t := .boolean) Bd.returns (by simp) (hb hby at_146) hr
        · show Q_rm_law Z p0 p1 w_REACHABLE w_UNREACHABLE w_AFTER_UNREACHABLE h0 n0 _ T26.heap _
          rw [e26]
          exact ⟨rfl, N22, rfl⟩
    · obtain ⟨_, _, ⟨T27, L27, k27, n27⟩, -, X27, ⟨Lc27, hQ27, l27, y27, z27⟩, st27⟩ := Jvm.LawKit.callS X0 hx (y := (⟨"com/example/ambit/ambit/ReachNextPinLaw", "pick", "(I)Lcom/example/ambit/ambit/StatementRules$Reach;"⟩ : MethodName)) hown (mvT hZ (hw _ (List.mem_of_getElem? (i := 0) rfl))) (mvT hZ (hw _ (List.mem_of_getElem? (i := 1) rfl))) (mvT hZ (hw _ (List.mem_of_getElem? (i := 2) rfl))) (mvT hZ (hw _ (List.mem_of_getElem? (i := 3) rfl))) (by decide) (backOf (W := 0) (rm_pick2 l Z a0 hw [] p0 w_AFTER_UNREACHABLE h0 n0 Z0 S_AFTER_UNREACHABLE hk0 hk1) hZ (hw _ (List.mem_of_getElem? (i := 3) rfl)) (hw _ (List.mem_of_getElem? (i := 2) rfl)) (by decide) (by decide)) (g := (mkF m 1 #[.val (.int p0), .val (.int p1), .unset, .unset, .unset, .unset, .unset, .unset, .unset] [(.int p0)])) rfl (by rw [hml]; rfl) (argsL := [(.int p0)]) (rest := []) (lenOf pd_0 rfl) rfl (by show 2 * 0 + _ ≤ _; exact Nat.le_of_eq rfl) (hb hby at_1) (fun _ _ => ⟨rfl, e0, (by decide : 0 + 0 ≤ _), (by decide : 0 + 0 ≤ _)⟩)
      dsimp only [Pt.U, Pt.locs, Pt.cells, Pt.slots] at X27 l27 y27 z27 st27 hQ27
      subst l27 y27 z27
      obtain ⟨rfl, N27q, e27⟩ := hQ27
      have N27 := Fr.app N0 N27q
      have k28 : ∀ target, Steps p.tables e below (T27.setTop (mkF m 8 #[.val (.int p0), .val (.int p1), .val (.ref w_AFTER_UNREACHABLE), .unset, .unset, .unset, .unset, .unset, .unset] [(.int (p1 &&& (1 : Int32)))])) target → Steps p.tables e below (s₁.setTop (mkF m 0 #[.val (.int p0), .val (.int p1), .unset, .unset, .unset, .unset, .unset, .unset, .unset] [])) target := by
        intro target kt
        refine k14 _ ?_
        show Steps p.tables e below (s₁.setTop (mkF m 1 #[.val (.int p0), .val (.int p1), .unset, .unset, .unset, .unset, .unset, .unset, .unset] [(.int p0)])) _
        refine st27 _ ?_
        show Steps p.tables e below (T27.setTop (mkF m 4 #[.val (.int p0), .val (.int p1), .unset, .unset, .unset, .unset, .unset, .unset, .unset] [(.ref w_AFTER_UNREACHABLE)])) _
        refine XS.astoreN X27.here hx rfl (hb hby at_4) rfl rfl (l' := #[.val (.int p0), .val (.int p1), .val (.ref w_AFTER_UNREACHABLE), .unset, .unset, .unset, .unset, .unset, .unset]) rfl ?_
        show Steps p.tables e below (T27.setTop (mkF m 5 #[.val (.int p0), .val (.int p1), .val (.ref w_AFTER_UNREACHABLE), .unset, .unset, .unset, .unset, .unset, .unset] [])) _
        refine XS.iloadN X27.here hx rfl (hb hby at_5) rfl ?_
        show Steps p.tables e below (T27.setTop (mkF m 6 #[.val (.int p0), .val (.int p1), .val (.ref w_AFTER_UNREACHABLE), .unset, .unset, .unset, .unset, .unset, .unset] [(.int p1)])) _
        refine XS.iconst X27.here hx rfl (hb hby at_6) ?_
        show Steps p.tables e below (T27.setTop (mkF m 7 #[.val (.int p0), .val (.int p1), .val (.ref w_AFTER_UNREACHABLE), .unset, .unset, .unset, .unset, .unset, .unset] [(.int (1 : Int32)), (.int p1)])) _
        refine XS.iand X27.here hx rfl (hb hby at_7) rfl ?_
        exact kt
      by_cases hc8 : (p1 &&& (1 : Int32)) = (0 : Int32)
      · obtain ⟨cq29, kq29, q29a, q29b, q29c⟩ := isOf hZ e27 E_AFTER_UNREACHABLE
        obtain ⟨_, _, ⟨T29, L29, k29, n29⟩, -, X29, ⟨Lc29, hQ29, l29, y29, z29⟩, st29⟩ := X27.virtualBack hx (y := (⟨"com/example/ambit/ambit/StatementRules$Reach", "next", "(Z)Lcom/example/ambit/ambit/StatementRules$Reach;"⟩ : MethodName)) (z := (⟨"com/example/ambit/ambit/StatementRules$Reach", "next", "(Z)Lcom/example/ambit/ambit/StatementRules$Reach;"⟩ : MethodName)) hown (mvT hZ (hw _ (List.mem_of_getElem? (i := 8) rfl))) (mvT hZ (hw _ (List.mem_of_getElem? (i := 9) rfl))) (notFace_of_selects (args := #[]) (mvT hZ (hw _ (List.mem_of_getElem? (i := 11) rfl)))) (mvT hZ (hw _ (List.mem_of_getElem? (i := 11) rfl))) (mvT hZ (hw _ (List.mem_of_getElem? (i := 10) rfl))) (by decide) (backOf (W := 0) (rm_nextA l Z a0 hw [] w_AFTER_UNREACHABLE (0 : Int32) w_REACHABLE w_AFTER_UNREACHABLE h0 n0 Z0 S_REACHABLE S_AFTER_UNREACHABLE (Ne.symm ne_REACHABLE_AFTER_UNREACHABLE)) hZ (hw _ (List.mem_of_getElem? (i := 12) rfl)) (hw _ (List.mem_of_getElem? (i := 6) rfl)) (by decide) (by decide)) q29a q29c (g := (mkF m 19 #[.val (.int p0), .val (.int p1), .val (.ref w_AFTER_UNREACHABLE), .val (.int (0 : Int32)), .unset, .unset, .unset, .unset, .unset] [(.int (0 : Int32)), (.ref w_AFTER_UNREACHABLE)])) rfl (by rw [hml]; rfl) (Steps.refl _) (argsL := [(.int (0 : Int32))]) (rest := []) (lenOf pd_1 rfl) rfl (by show 2 * 0 + _ ≤ _; exact Nat.le_of_eq rfl) (hb hby at_19) (fun _ _ => ⟨rfl, e27, (by decide : 0 + 0 ≤ _), (by decide : 0 + 0 ≤ _)⟩)
        dsimp only [Pt.U, Pt.locs, Pt.cells, Pt.slots] at X29 l29 y29 z29 st29 hQ29
        subst l29 y29 z29
        obtain ⟨rfl, N29q, e29⟩ := hQ29
        have N29 := Fr.app N27 N29q
        obtain ⟨T30, X30, e30, st30⟩ := getS2 X29 hx hZ hown (host := "") (Or.inl (hw _ (List.mem_of_getElem? (i := 5) rfl))) Via.refl e29 S_REACHABLE (g := (mkF m 25 #[.val (.int p0), .val (.int p1), .val (.ref w_AFTER_UNREACHABLE), .val (.int (0 : Int32)), .val (.ref w_AFTER_UNREACHABLE), .unset, .unset, .unset, .unset] [(.ref w_AFTER_UNREACHABLE)])) rfl (hb hby at_25)
        obtain ⟨T31, X31, e31, st31⟩ := getS2 X30 hx hZ hown (host := "") (Or.inl (hw _ (List.mem_of_getElem? (i := 5) rfl))) Via.refl e30 S_REACHABLE (g := (mkF m 89 #[.val (.int p0), .val (.int p1), .val (.ref w_AFTER_UNREACHABLE), .val (.int (0 : Int32)), .val (.ref w_AFTER_UNREACHABLE), .val (.int (0 : Int32)), .val (.int (0 : Int32)), .val (.int (0 : Int32)), .val (.int (1 : Int32))] [(.ref w_AFTER_UNREACHABLE)])) rfl (hb hby at_89)
        obtain ⟨T32, X32, e32, st32⟩ := getS2 X31 hx hZ hown (host := "") (Or.inl (hw _ (List.mem_of_getElem? (i := 14) rfl))) Via.refl e31 S_UNREACHABLE (g := (mkF m 107 #[.val (.int p0), .val (.int p1), .val (.ref w_AFTER_UNREACHABLE), .val (.int (0 : Int32)), .val (.ref w_AFTER_UNREACHABLE), .val (.int (0 : Int32)), .val (.int (0 : Int32)), .val (.int (0 : Int32)), .val (.int (1 : Int32))] [(.ref w_AFTER_UNREACHABLE)])) rfl (hb hby at_107)
        obtain ⟨T33, X33, e33, st33⟩ := getS2 X32 hx hZ hown (host := "") (Or.inl (hw _ (List.mem_of_getElem? (i := 16) rfl))) Via.refl e32 S_AFTER_UNREACHABLE (g := (mkF m 125 #[.val (.int p0), .val (.int p1), .val (.ref w_AFTER_UNREACHABLE), .val (.int (0 : Int32)), .val (.ref w_AFTER_UNREACHABLE), .val (.int (0 : Int32)), .val (.int (0 : Int32)), .val (.int (0 : Int32)), .val (.int (1 : Int32))] [(.ref w_AFTER_UNREACHABLE)])) rfl (hb hby at_125)
        obtain ⟨fs, hr, hrun, hended, hW, hsame⟩ := X33.leave (v := some (.int (1 : Int32))) (fun h => by rw [Bd.returns] at h; cases h)
        refine ⟨_, _, pre0 _ ?_, hrun, hended, _, _, rfl, ?_, ⟨_, rfl⟩, hW, hsame.mono (by decide) (by decide)⟩
        · refine k28 _ ?_
          show Steps p.tables e below (T27.setTop (mkF m 8 #[.val (.int p0), .val (.int p1), .val (.ref w_AFTER_UNREACHABLE), .unset, .unset, .unset, .unset, .unset, .unset] [(.int (p1 &&& (1 : Int32)))])) _
          refine XS.ifYes X27.here hx rfl (pc0 := 8) (pc' := 15) rfl (hb hby at_8) rfl ((if0 _ _).trans (teq hc8).1) (by decide) (by decide) ?_
          show Steps p.tables e below (T27.setTop (mkF m 15 #[.val (.int p0), .val (.int p1), .val (.ref w_AFTER_UNREACHABLE), .unset, .unset, .unset, .unset, .unset, .unset] [])) _
          refine XS.iconst X27.here hx rfl (hb hby at_15) ?_
          show Steps p.tables e below (T27.setTop (mkF m 16 #[.val (.int p0), .val (.int p1), .val (.ref w_AFTER_UNREACHABLE), .unset, .unset, .unset, .unset, .unset, .unset] [(.int (0 : Int32))])) _
          refine XS.istoreN X27.here hx rfl (hb hby at_16) rfl (l' := #[.val (.int p0), .val (.int p1), .val (.ref w_AFTER_UNREACHABLE), .val (.int (0 : Int32)), .unset, .unset, .unset, .unset, .unset]) rfl ?_
          show Steps p.tables e below (T27.setTop (mkF m 17 #[.val (.int p0), .val (.int p1), .val (.ref w_AFTER_UNREACHABLE), .val (.int (0 : Int32)), .unset, .unset, .unset, .unset, .unset] [])) _
          refine XS.aloadN X27.here hx rfl (hb hby at_17) rfl rfl ?_
          show Steps p.tables e below (T27.setTop (mkF m 18 #[.val (.int p0), .val (.int p1), .val (.ref w_AFTER_UNREACHABLE), .val (.int (0 : Int32)), .unset, .unset, .unset, .unset, .unset] [(.ref w_AFTER_UNREACHABLE)])) _
          refine XS.iloadN X27.here hx rfl (hb hby at_18) rfl ?_
          show Steps p.tables e below (T27.setTop (mkF m 19 #[.val (.int p0), .val (.int p1), .val (.ref w_AFTER_UNREACHABLE), .val (.int (0 : Int32)), .unset, .unset, .unset, .unset, .unset] [(.int (0 : Int32)), (.ref w_AFTER_UNREACHABLE)])) _
          refine st29.trans ?_
          show Steps p.tables e below (T29.setTop (mkF m 22 #[.val (.int p0), .val (.int p1), .val (.ref w_AFTER_UNREACHABLE), .val (.int (0 : Int32)), .unset, .unset, .unset, .unset, .unset] [(.ref w_AFTER_UNREACHABLE)])) _
          refine XS.astore X29.here hx rfl (hb hby at_22) rfl rfl (l' := #[.val (.int p0), .val (.int p1), .val (.ref w_AFTER_UNREACHABLE), .val (.int (0 : Int32)), .val (.ref w_AFTER_UNREACHABLE), .unset, .unset, .unset, .unset]) rfl ?_
          show Steps p.tables e below (T29.setTop (mkF m 24 #[.val (.int p0), .val (.int p1), .val (.ref w_AFTER_UNREACHABLE), .val (.int (0 : Int32)), .val (.ref w_AFTER_UNREACHABLE), .unset, .unset, .unset, .unset] [])) _
          refine XS.aloadN X29.here hx rfl (hb hby at_24) rfl rfl ?_
          show Steps p.tables e below (T29.setTop (mkF m 25 #[.val (.int p0), .val (.int p1), .val (.ref w_AFTER_UNREACHABLE), .val (.int (0 : Int32)), .val (.ref w_AFTER_UNREACHABLE), .unset, .unset, .unset, .unset] [(.ref w_AFTER_UNREACHABLE)])) _
          refine st30 _ ?_
          show Steps p.tables e below (T30.setTop (mkF m 28 #[.val (.int p0), .val (.int p1), .val (.ref w_AFTER_UNREACHABLE), .val (.int (0 : Int32)), .val (.ref w_AFTER_UNREACHABLE), .unset, .unset, .unset, .unset] [(.ref w_REACHABLE), (.ref w_AFTER_UNREACHABLE)])) _
          refine Jvm.RoadKit.acmp (g := (mkF m 28 #[.val (.int p0), .val (.int p1), .val (.ref w_AFTER_UNREACHABLE), .val (.int (0 : Int32)), .val (.ref w_AFTER_UNREACHABLE), .unset, .unset, .unset, .unset] [(.ref w_REACHABLE), (.ref w_AFTER_UNREACHABLE)])) X30 hx rfl rfl rfl (pc0 := 28) (pc' := 35) (same := false) rfl (hb hby at_28) rfl (decide_eq_false fun q => (Ne.symm ne_REACHABLE_AFTER_UNREACHABLE) (Value.ref.inj q)) (by decide) (by decide) ?_
          show Steps p.tables e below (T30.setTop (mkF m 35 #[.val (.int p0), .val (.int p1), .val (.ref w_AFTER_UNREACHABLE), .val (.int (0 : Int32)), .val (.ref w_AFTER_UNREACHABLE), .unset, .unset, .unset, .unset] [])) _
          refine XS.iconst X30.here hx rfl (hb hby at_35) ?_
          show Steps p.tables e below (T30.setTop (mkF m 36 #[.val (.int p0), .val (.int p1), .val (.ref w_AFTER_UNREACHABLE), .val (.int (0 : Int32)), .val (.ref w_AFTER_UNREACHABLE), .unset, .unset, .unset, .unset] [(.int (0 : Int32))])) _
          refine XS.istore X30.here hx rfl (hb hby at_36) rfl (l' := #[.val (.int p0), .val (.int p1), .val (.ref w_AFTER_UNREACHABLE), .val (.int (0 : Int32)), .val (.ref w_AFTER_UNREACHABLE), .val (.int (0 : Int32)), .unset, .unset, .unset]) rfl ?_
          show Steps p.tables e below (T30.setTop (mkF m 38 #[.val (.int p0), .val (.int p1), .val (.ref w_AFTER_UNREACHABLE), .val (.int (0 : Int32)), .val (.ref w_AFTER_UNREACHABLE), .val (.int (0 : Int32)), .unset, .unset, .unset] [])) _
          refine XS.iload X30.here hx rfl (hb hby at_38) rfl ?_
          show Steps p.tables e below (T30.setTop (mkF m 40 #[.val (.int p0), .val (.int p1), .val (.ref w_AFTER_UNREACHABLE), .val (.int (0 : Int32)), .val (.ref w_AFTER_UNREACHABLE), .val (.int (0 : Int32)), .unset, .unset, .unset] [(.int (0 : Int32))])) _
          refine XS.ifYes X30.here hx rfl (pc0 := 40) (pc' := 51) rfl (hb hby at_40) rfl ((if0 _ _).trans (teq (by decide : (0 : Int32) = (0 : Int32))).1) (by decide) (by decide) ?_
          show Steps p.tables e below (T30.setTop (mkF m 51 #[.val (.int p0), .val (.int p1), .val (.ref w_AFTER_UNREACHABLE), .val (.int (0 : Int32)), .val (.ref w_AFTER_UNREACHABLE), .val (.int (0 : Int32)), .unset, .unset, .unset] [])) _
          refine XS.iconst X30.here hx rfl (hb hby at_51) ?_
          show Steps p.tables e below (T30.setTop (mkF m 52 #[.val (.int p0), .val (.int p1), .val (.ref w_AFTER_UNREACHABLE), .val (.int (0 : Int32)), .val (.ref w_AFTER_UNREACHABLE), .val (.int (0 : Int32)), .unset, .unset, .unset] [(.int (0 : Int32))])) _
          refine XS.istore X30.here hx rfl (hb hby at_52) rfl (l' := #[.val (.int p0), .val (.int p1), .val (.ref w_AFTER_UNREACHABLE), .val (.int (0 : Int32)), .val (.ref w_AFTER_UNREACHABLE), .val (.int (0 : Int32)), .val (.int (0 : Int32)), .unset, .unset]) rfl ?_
          show Steps p.tables e below (T30.setTop (mkF m 54 #[.val (.int p0), .val (.int p1), .val (.ref w_AFTER_UNREACHABLE), .val (.int (0 : Int32)), .val (.ref w_AFTER_UNREACHABLE), .val (.int (0 : Int32)), .val (.int (0 : Int32)), .unset, .unset] [])) _
          refine XS.iload X30.here hx rfl (hb hby at_54) rfl ?_
          show Steps p.tables e below (T30.setTop (mkF m 56 #[.val (.int p0), .val (.int p1), .val (.ref w_AFTER_UNREACHABLE), .val (.int (0 : Int32)), .val (.ref w_AFTER_UNREACHABLE), .val (.int (0 : Int32)), .val (.int (0 : Int32)), .unset, .unset] [(.int (0 : Int32))])) _
          refine XS.ifYes X30.here hx rfl (pc0 := 56) (pc' := 67) rfl (hb hby at_56) rfl ((if0 _ _).trans (teq (by decide : (0 : Int32) = (0 : Int32))).1) (by decide) (by decide) ?_
          show Steps p.tables e below (T30.setTop (mkF m 67 #[.val (.int p0), .val (.int p1), .val (.ref w_AFTER_UNREACHABLE), .val (.int (0 : Int32)), .val (.ref w_AFTER_UNREACHABLE), .val (.int (0 : Int32)), .val (.int (0 : Int32)), .unset, .unset] [])) _
          refine XS.iconst X30.here hx rfl (hb hby at_67) ?_
          show Steps p.tables e below (T30.setTop (mkF m 68 #[.val (.int p0), .val (.int p1), .val (.ref w_AFTER_UNREACHABLE), .val (.int (0 : Int32)), .val (.ref w_AFTER_UNREACHABLE), .val (.int (0 : Int32)), .val (.int (0 : Int32)), .unset, .unset] [(.int (0 : Int32))])) _
          refine XS.istore X30.here hx rfl (hb hby at_68) rfl (l' := #[.val (.int p0), .val (.int p1), .val (.ref w_AFTER_UNREACHABLE), .val (.int (0 : Int32)), .val (.ref w_AFTER_UNREACHABLE), .val (.int (0 : Int32)), .val (.int (0 : Int32)), .val (.int (0 : Int32)), .unset]) rfl ?_
          show Steps p.tables e below (T30.setTop (mkF m 70 #[.val (.int p0), .val (.int p1), .val (.ref w_AFTER_UNREACHABLE), .val (.int (0 : Int32)), .val (.ref w_AFTER_UNREACHABLE), .val (.int (0 : Int32)), .val (.int (0 : Int32)), .val (.int (0 : Int32)), .unset] [])) _
          refine XS.iload X30.here hx rfl (hb hby at_70) rfl ?_
          show Steps p.tables e below (T30.setTop (mkF m 72 #[.val (.int p0), .val (.int p1), .val (.ref w_AFTER_UNREACHABLE), .val (.int (0 : Int32)), .val (.ref w_AFTER_UNREACHABLE), .val (.int (0 : Int32)), .val (.int (0 : Int32)), .val (.int (0 : Int32)), .unset] [(.int (0 : Int32))])) _
          refine XS.ifNo X30.here hx rfl (hb hby at_72) rfl ((if0 _ _).trans (teq (by decide : (0 : Int32) = (0 : Int32))).2) ?_
          show Steps p.tables e below (T30.setTop (mkF m 75 #[.val (.int p0), .val (.int p1), .val (.ref w_AFTER_UNREACHABLE), .val (.int (0 : Int32)), .val (.ref w_AFTER_UNREACHABLE), .val (.int (0 : Int32)), .val (.int (0 : Int32)), .val (.int (0 : Int32)), .unset] [])) _
          refine XS.iconst X30.here hx rfl (hb hby at_75) ?_
          show Steps p.tables e below (T30.setTop (mkF m 76 #[.val (.int p0), .val (.int p1), .val (.ref w_AFTER_UNREACHABLE), .val (.int (0 : Int32)), .val (.ref w_AFTER_UNREACHABLE), .val (.int (0 : Int32)), .val (.int (0 : Int32)), .val (.int (0 : Int32)), .unset] [(.int (1 : Int32))])) _
          refine XS.goto X30.here hx rfl (pc0 := 76) (pc' := 80) rfl (hb hby at_76) (by decide) (by decide) ?_
          show Steps p.tables e below (T30.setTop (mkF m 80 #[.val (.int p0), .val (.int p1), .val (.ref w_AFTER_UNREACHABLE), .val (.int (0 : Int32)), .val (.ref w_AFTER_UNREACHABLE), .val (.int (0 : Int32)), .val (.int (0 : Int32)), .val (.int (0 : Int32)), .unset] [(.int (1 : Int32))])) _
          refine XS.istore X30.here hx rfl (hb hby at_80) rfl (l' := #[.val (.int p0), .val (.int p1), .val (.ref w_AFTER_UNREACHABLE), .val (.int (0 : Int32)), .val (.ref w_AFTER_UNREACHABLE), .val (.int (0 : Int32)), .val (.int (0 : Int32)), .val (.int (0 : Int32)), .val (.int (1 : Int32))]) rfl ?_
          show Steps p.tables e below (T30.setTop (mkF m 82 #[.val (.int p0), .val (.int p1), .val (.ref w_AFTER_UNREACHABLE), .val (.int (0 : Int32)), .val (.ref w_AFTER_UNREACHABLE), .val (.int (0 : Int32)), .val (.int (0 : Int32)), .val (.int (0 : Int32)), .val (.int (1 : Int32))] [])) _
          refine XS.aload X30.here hx rfl (hb hby at_82) rfl rfl ?_
          show Steps p.tables e below (T30.setTop (mkF m 84 #[.val (.int p0), .val (.int p1), .val (.ref w_AFTER_UNREACHABLE), .val (.int (0 : Int32)), .val (.ref w_AFTER_UNREACHABLE), .val (.int (0 : Int32)), .val (.int (0 : Int32)), .val (.int (0 : Int32)), .val (.int (1 : Int32))] [(.ref w_AFTER_UNREACHABLE)])) _
          refine XS.ifnullNo X30.here hx rfl (hb hby at_84) rfl ?_
          show Steps p.tables e below (T30.setTop (mkF m 87 #[.val (.int p0), .val (.int p1), .val (.ref w_AFTER_UNREACHABLE), .val (.int (0 : Int32)), .val (.ref w_AFTER_UNREACHABLE), .val (.int (0 : Int32)), .val (.int (0 : Int32)), .val (.int (0 : Int32)), .val (.int (1 : Int32))] [])) _
          refine XS.aload X30.here hx rfl (hb hby at_87) rfl rfl ?_
          show Steps p.tables e below (T30.setTop (mkF m 89 #[.val (.int p0), .val (.int p1), .val (.ref w_AFTER_UNREACHABLE), .val (.int (0 : Int32)), .val (.ref w_AFTER_UNREACHABLE), .val (.int (0 : Int32)), .val (.int (0 : Int32)), .val (.int (0 : Int32)), .val (.int (1 : Int32))] [(.ref w_AFTER_UNREACHABLE)])) _
          refine st31 _ ?_
          show Steps p.tables e below (T31.setTop (mkF m 92 #[.val (.int p0), .val (.int p1), .val (.ref w_AFTER_UNREACHABLE), .val (.int (0 : Int32)), .val (.ref w_AFTER_UNREACHABLE), .val (.int (0 : Int32)), .val (.int (0 : Int32)), .val (.int (0 : Int32)), .val (.int (1 : Int32))] [(.ref w_REACHABLE), (.ref w_AFTER_UNREACHABLE)])) _
          refine Jvm.RoadKit.acmp (g := (mkF m 92 #[.val (.int p0), .val (.int p1), .val (.ref w_AFTER_UNREACHABLE), .val (.int (0 : Int32)), .val (.ref w_AFTER_UNREACHABLE), .val (.int (0 : Int32)), .val (.int (0 : Int32)), .val (.int (0 : Int32)), .val (.int (1 : Int32))] [(.ref w_REACHABLE), (.ref w_AFTER_UNREACHABLE)])) X31 hx rfl rfl rfl (pc0 := 92) (pc' := 99) (same := false) rfl (hb hby at_92) rfl (decide_eq_false fun q => (Ne.symm ne_REACHABLE_AFTER_UNREACHABLE) (Value.ref.inj q)) (by decide) (by decide) ?_
          show Steps p.tables e below (T31.setTop (mkF m 99 #[.val (.int p0), .val (.int p1), .val (.ref w_AFTER_UNREACHABLE), .val (.int (0 : Int32)), .val (.ref w_AFTER_UNREACHABLE), .val (.int (0 : Int32)), .val (.int (0 : Int32)), .val (.int (0 : Int32)), .val (.int (1 : Int32))] [])) _
          refine XS.iconst X31.here hx rfl (hb hby at_99) ?_
          show Steps p.tables e below (T31.setTop (mkF m 100 #[.val (.int p0), .val (.int p1), .val (.ref w_AFTER_UNREACHABLE), .val (.int (0 : Int32)), .val (.ref w_AFTER_UNREACHABLE), .val (.int (0 : Int32)), .val (.int (0 : Int32)), .val (.int (0 : Int32)), .val (.int (1 : Int32))] [(.int (0 : Int32))])) _
          refine XS.iload X31.here hx rfl (hb hby at_100) rfl ?_
          show Steps p.tables e below (T31.setTop (mkF m 102 #[.val (.int p0), .val (.int p1), .val (.ref w_AFTER_UNREACHABLE), .val (.int (0 : Int32)), .val (.ref w_AFTER_UNREACHABLE), .val (.int (0 : Int32)), .val (.int (0 : Int32)), .val (.int (0 : Int32)), .val (.int (1 : Int32))] [(.int (0 : Int32)), (.int (0 : Int32))])) _
          refine XS.icmpNo X31.here hx rfl (hb hby at_102) rfl (teq (by decide : (0 : Int32) = (0 : Int32))).2 ?_
          show Steps p.tables e below (T31.setTop (mkF m 105 #[.val (.int p0), .val (.int p1), .val (.ref w_AFTER_UNREACHABLE), .val (.int (0 : Int32)), .val (.ref w_AFTER_UNREACHABLE), .val (.int (0 : Int32)), .val (.int (0 : Int32)), .val (.int (0 : Int32)), .val (.int (1 : Int32))] [])) _
          refine XS.aload X31.here hx rfl (hb hby at_105) rfl rfl ?_
          show Steps p.tables e below (T31.setTop (mkF m 107 #[.val (.int p0), .val (.int p1), .val (.ref w_AFTER_UNREACHABLE), .val (.int (0 : Int32)), .val (.ref w_AFTER_UNREACHABLE), .val (.int (0 : Int32)), .val (.int (0 : Int32)), .val (.int (0 : Int32)), .val (.int (1 : Int32))] [(.ref w_AFTER_UNREACHABLE)])) _
          refine st32 _ ?_
          show Steps p.tables e below (T32.setTop (mkF m 110 #[.val (.int p0), .val (.int p1), .val (.ref w_AFTER_UNREACHABLE), .val (.int (0 : Int32)), .val (.ref w_AFTER_UNREACHABLE), .val (.int (0 : Int32)), .val (.int (0 : Int32)), .val (.int (0 : Int32)), .val (.int (1 : Int32))] [(.ref w_UNREACHABLE), (.ref w_AFTER_UNREACHABLE)])) _
          refine Jvm.RoadKit.acmp (g := (mkF m 110 #[.val (.int p0), .val (.int p1), .val (.ref w_AFTER_UNREACHABLE), .val (.int (0 : Int32)), .val (.ref w_AFTER_UNREACHABLE), .val (.int (0 : Int32)), .val (.int (0 : Int32)), .val (.int (0 : Int32)), .val (.int (1 : Int32))] [(.ref w_UNREACHABLE), (.ref w_AFTER_UNREACHABLE)])) X32 hx rfl rfl rfl (pc0 := 110) (pc' := 117) (same := false) rfl (hb hby at_110) rfl (decide_eq_false fun q => (Ne.symm ne_UNREACHABLE_AFTER_UNREACHABLE) (Value.ref.inj q)) (by decide) (by decide) ?_
          show Steps p.tables e below (T32.setTop (mkF m 117 #[.val (.int p0), .val (.int p1), .val (.ref w_AFTER_UNREACHABLE), .val (.int (0 : Int32)), .val (.ref w_AFTER_UNREACHABLE), .val (.int (0 : Int32)), .val (.int (0 : Int32)), .val (.int (0 : Int32)), .val (.int (1 : Int32))] [])) _
          refine XS.iconst X32.here hx rfl (hb hby at_117) ?_
          show Steps p.tables e below (T32.setTop (mkF m 118 #[.val (.int p0), .val (.int p1), .val (.ref w_AFTER_UNREACHABLE), .val (.int (0 : Int32)), .val (.ref w_AFTER_UNREACHABLE), .val (.int (0 : Int32)), .val (.int (0 : Int32)), .val (.int (0 : Int32)), .val (.int (1 : Int32))] [(.int (0 : Int32))])) _
          refine XS.iload X32.here hx rfl (hb hby at_118) rfl ?_
          show Steps p.tables e below (T32.setTop (mkF m 120 #[.val (.int p0), .val (.int p1), .val (.ref w_AFTER_UNREACHABLE), .val (.int (0 : Int32)), .val (.ref w_AFTER_UNREACHABLE), .val (.int (0 : Int32)), .val (.int (0 : Int32)), .val (.int (0 : Int32)), .val (.int (1 : Int32))] [(.int (0 : Int32)), (.int (0 : Int32))])) _
          refine XS.icmpNo X32.here hx rfl (hb hby at_120) rfl (teq (by decide : (0 : Int32) = (0 : Int32))).2 ?_
          show Steps p.tables e below (T32.setTop (mkF m 123 #[.val (.int p0), .val (.int p1), .val (.ref w_AFTER_UNREACHABLE), .val (.int (0 : Int32)), .val (.ref w_AFTER_UNREACHABLE), .val (.int (0 : Int32)), .val (.int (0 : Int32)), .val (.int (0 : Int32)), .val (.int (1 : Int32))] [])) _
          refine XS.aload X32.here hx rfl (hb hby at_123) rfl rfl ?_
          show Steps p.tables e below (T32.setTop (mkF m 125 #[.val (.int p0), .val (.int p1), .val (.ref w_AFTER_UNREACHABLE), .val (.int (0 : Int32)), .val (.ref w_AFTER_UNREACHABLE), .val (.int (0 : Int32)), .val (.int (0 : Int32)), .val (.int (0 : Int32)), .val (.int (1 : Int32))] [(.ref w_AFTER_UNREACHABLE)])) _
          refine st33 _ ?_
          show Steps p.tables e below (T33.setTop (mkF m 128 #[.val (.int p0), .val (.int p1), .val (.ref w_AFTER_UNREACHABLE), .val (.int (0 : Int32)), .val (.ref w_AFTER_UNREACHABLE), .val (.int (0 : Int32)), .val (.int (0 : Int32)), .val (.int (0 : Int32)), .val (.int (1 : Int32))] [(.ref w_AFTER_UNREACHABLE), (.ref w_AFTER_UNREACHABLE)])) _
          refine Jvm.RoadKit.acmp (g := (mkF m 128 #[.val (.int p0), .val (.int p1), .val (.ref w_AFTER_UNREACHABLE), .val (.int (0 : Int32)), .val (.ref w_AFTER_UNREACHABLE), .val (.int (0 : Int32)), .val (.int (0 : Int32)), .val (.int (0 : Int32)), .val (.int (1 : Int32))] [(.ref w_AFTER_UNREACHABLE), (.ref w_AFTER_UNREACHABLE)])) X33 hx rfl rfl rfl (pc0 := 128) (pc' := 131) (same := true) rfl (hb hby at_128) rfl (decide_eq_true rfl) (by decide) (by decide) ?_
          show Steps p.tables e below (T33.setTop (mkF m 131 #[.val (.int p0), .val (.int p1), .val (.ref w_AFTER_UNREACHABLE), .val (.int (0 : Int32)), .val (.ref w_AFTER_UNREACHABLE), .val (.int (0 : Int32)), .val (.int (0 : Int32)), .val (.int (0 : Int32)), .val (.int (1 : Int32))] [])) _
          refine XS.iconst X33.here hx rfl (hb hby at_131) ?_
          show Steps p.tables e below (T33.setTop (mkF m 132 #[.val (.int p0), .val (.int p1), .val (.ref w_AFTER_UNREACHABLE), .val (.int (0 : Int32)), .val (.ref w_AFTER_UNREACHABLE), .val (.int (0 : Int32)), .val (.int (0 : Int32)), .val (.int (0 : Int32)), .val (.int (1 : Int32))] [(.int (1 : Int32))])) _
          refine XS.goto X33.here hx rfl (pc0 := 132) (pc' := 136) rfl (hb hby at_132) (by decide) (by decide) ?_
          show Steps p.tables e below (T33.setTop (mkF m 136 #[.val (.int p0), .val (.int p1), .val (.ref w_AFTER_UNREACHABLE), .val (.int (0 : Int32)), .val (.ref w_AFTER_UNREACHABLE), .val (.int (0 : Int32)), .val (.int (0 : Int32)), .val (.int (0 : Int32)), .val (.int (1 : Int32))] [(.int (1 : Int32))])) _
          refine XS.iload X33.here hx rfl (hb hby at_136) rfl ?_
          show Steps p.tables e below (T33.setTop (mkF m 138 #[.val (.int p0), .val (.int p1), .val (.ref w_AFTER_UNREACHABLE), .val (.int (0 : Int32)), .val (.ref w_AFTER_UNREACHABLE), .val (.int (0 : Int32)), .val (.int (0 : Int32)), .val (.int (0 : Int32)), .val (.int (1 : Int32))] [(.int (1 : Int32)), (.int (1 : Int32))])) _
          refine XS.icmpNo X33.here hx rfl (hb hby at_138) rfl (teq (by decide : (1 : Int32) = (1 : Int32))).2 ?_
          show Steps p.tables e below (T33.setTop (mkF m 141 #[.val (.int p0), .val (.int p1), .val (.ref w_AFTER_UNREACHABLE), .val (.int (0 : Int32)), .val (.ref w_AFTER_UNREACHABLE), .val (.int (0 : Int32)), .val (.int (0 : Int32)), .val (.int (0 : Int32)), .val (.int (1 : Int32))] [])) _
          refine XS.iconst X33.here hx rfl (hb hby at_141) ?_
          show Steps p.tables e below (T33.setTop (mkF m 142 #[.val (.int p0), .val (.int p1), .val (.ref w_AFTER_UNREACHABLE), .val (.int (0 : Int32)), .val (.ref w_AFTER_UNREACHABLE), .val (.int (0 : Int32)), .val (.int (0 : Int32)), .val (.int (0 : Int32)), .val (.int (1 : Int32))] [(.int (1 : Int32))])) _
          refine XS.goto X33.here hx rfl (pc0 := 142) (pc' := 146) rfl (hb hby at_142) (by decide) (by decide) ?_
          show Steps p.tables e below (T33.setTop (mkF m 146 #[.val (.int p0), .val (.int p1), .val (.ref w_AFTER_UNREACHABLE), .val (.int (0 : Int32)), .val (.ref w_AFTER_UNREACHABLE), .val (.int (0 : Int32)), .val (.int (0 : Int32)), .val (.int (0 : Int32)), .val (.int (1 : Int32))] [(.int (1 : Int32))])) _
          exact retN X33 hx (t := .boolean) Bd.returns (by simp) (hb hby at_146) hr
        · show Q_rm_law Z p0 p1 w_REACHABLE w_UNREACHABLE w_AFTER_UNREACHABLE h0 n0 _ T33.heap _
          rw [e33]
          exact ⟨rfl, N29, rfl⟩
      · obtain ⟨cq34, kq34, q34a, q34b, q34c⟩ := isOf hZ e27 E_AFTER_UNREACHABLE
        obtain ⟨_, _, ⟨T34, L34, k34, n34⟩, -, X34, ⟨Lc34, hQ34, l34, y34, z34⟩, st34⟩ := X27.virtualBack hx (y := (⟨"com/example/ambit/ambit/StatementRules$Reach", "next", "(Z)Lcom/example/ambit/ambit/StatementRules$Reach;"⟩ : MethodName)) (z := (⟨"com/example/ambit/ambit/StatementRules$Reach", "next", "(Z)Lcom/example/ambit/ambit/StatementRules$Reach;"⟩ : MethodName)) hown (mvT hZ (hw _ (List.mem_of_getElem? (i := 8) rfl))) (mvT hZ (hw _ (List.mem_of_getElem? (i := 9) rfl))) (notFace_of_selects (args := #[]) (mvT hZ (hw _ (List.mem_of_getElem? (i := 11) rfl)))) (mvT hZ (hw _ (List.mem_of_getElem? (i := 11) rfl))) (mvT hZ (hw _ (List.mem_of_getElem? (i := 10) rfl))) (by decide) (backOf (W := 0) (rm_nextA l Z a0 hw [] w_AFTER_UNREACHABLE (1 : Int32) w_REACHABLE w_AFTER_UNREACHABLE h0 n0 Z0 S_REACHABLE S_AFTER_UNREACHABLE (Ne.symm ne_REACHABLE_AFTER_UNREACHABLE)) hZ (hw _ (List.mem_of_getElem? (i := 12) rfl)) (hw _ (List.mem_of_getElem? (i := 6) rfl)) (by decide) (by decide)) q34a q34c (g := (mkF m 19 #[.val (.int p0), .val (.int p1), .val (.ref w_AFTER_UNREACHABLE), .val (.int (1 : Int32)), .unset, .unset, .unset, .unset, .unset] [(.int (1 : Int32)), (.ref w_AFTER_UNREACHABLE)])) rfl (by rw [hml]; rfl) (Steps.refl _) (argsL := [(.int (1 : Int32))]) (rest := []) (lenOf pd_1 rfl) rfl (by show 2 * 0 + _ ≤ _; exact Nat.le_of_eq rfl) (hb hby at_19) (fun _ _ => ⟨rfl, e27, (by decide : 0 + 0 ≤ _), (by decide : 0 + 0 ≤ _)⟩)
        dsimp only [Pt.U, Pt.locs, Pt.cells, Pt.slots] at X34 l34 y34 z34 st34 hQ34
        subst l34 y34 z34
        obtain ⟨rfl, N34q, e34⟩ := hQ34
        have N34 := Fr.app N27 N34q
        obtain ⟨T35, X35, e35, st35⟩ := getS2 X34 hx hZ hown (host := "") (Or.inl (hw _ (List.mem_of_getElem? (i := 5) rfl))) Via.refl e34 S_REACHABLE (g := (mkF m 25 #[.val (.int p0), .val (.int p1), .val (.ref w_AFTER_UNREACHABLE), .val (.int (1 : Int32)), .val (.ref w_AFTER_UNREACHABLE), .unset, .unset, .unset, .unset] [(.ref w_AFTER_UNREACHABLE)])) rfl (hb hby at_25)
        obtain ⟨T36, X36, e36, st36⟩ := getS2 X35 hx hZ hown (host := "") (Or.inl (hw _ (List.mem_of_getElem? (i := 5) rfl))) Via.refl e35 S_REACHABLE (g := (mkF m 89 #[.val (.int p0), .val (.int p1), .val (.ref w_AFTER_UNREACHABLE), .val (.int (1 : Int32)), .val (.ref w_AFTER_UNREACHABLE), .val (.int (0 : Int32)), .val (.int (0 : Int32)), .val (.int (0 : Int32)), .val (.int (1 : Int32))] [(.ref w_AFTER_UNREACHABLE)])) rfl (hb hby at_89)
        obtain ⟨T37, X37, e37, st37⟩ := getS2 X36 hx hZ hown (host := "") (Or.inl (hw _ (List.mem_of_getElem? (i := 14) rfl))) Via.refl e36 S_UNREACHABLE (g := (mkF m 107 #[.val (.int p0), .val (.int p1), .val (.ref w_AFTER_UNREACHABLE), .val (.int (1 : Int32)), .val (.ref w_AFTER_UNREACHABLE), .val (.int (0 : Int32)), .val (.int (0 : Int32)), .val (.int (0 : Int32)), .val (.int (1 : Int32))] [(.ref w_AFTER_UNREACHABLE)])) rfl (hb hby at_107)
        obtain ⟨T38, X38, e38, st38⟩ := getS2 X37 hx hZ hown (host := "") (Or.inl (hw _ (List.mem_of_getElem? (i := 16) rfl))) Via.refl e37 S_AFTER_UNREACHABLE (g := (mkF m 125 #[.val (.int p0), .val (.int p1), .val (.ref w_AFTER_UNREACHABLE), .val (.int (1 : Int32)), .val (.ref w_AFTER_UNREACHABLE), .val (.int (0 : Int32)), .val (.int (0 : Int32)), .val (.int (0 : Int32)), .val (.int (1 : Int32))] [(.ref w_AFTER_UNREACHABLE)])) rfl (hb hby at_125)
        obtain ⟨fs, hr, hrun, hended, hW, hsame⟩ := X38.leave (v := some (.int (1 : Int32))) (fun h => by rw [Bd.returns] at h; cases h)
        refine ⟨_, _, pre0 _ ?_, hrun, hended, _, _, rfl, ?_, ⟨_, rfl⟩, hW, hsame.mono (by decide) (by decide)⟩
        · refine k28 _ ?_
          show Steps p.tables e below (T27.setTop (mkF m 8 #[.val (.int p0), .val (.int p1), .val (.ref w_AFTER_UNREACHABLE), .unset, .unset, .unset, .unset, .unset, .unset] [(.int (p1 &&& (1 : Int32)))])) _
          refine XS.ifNo X27.here hx rfl (hb hby at_8) rfl ((if0 _ _).trans (feq hc8).1) ?_
          show Steps p.tables e below (T27.setTop (mkF m 11 #[.val (.int p0), .val (.int p1), .val (.ref w_AFTER_UNREACHABLE), .unset, .unset, .unset, .unset, .unset, .unset] [])) _
          refine XS.iconst X27.here hx rfl (hb hby at_11) ?_
          show Steps p.tables e below (T27.setTop (mkF m 12 #[.val (.int p0), .val (.int p1), .val (.ref w_AFTER_UNREACHABLE), .unset, .unset, .unset, .unset, .unset, .unset] [(.int (1 : Int32))])) _
          refine XS.goto X27.here hx rfl (pc0 := 12) (pc' := 16) rfl (hb hby at_12) (by decide) (by decide) ?_
          show Steps p.tables e below (T27.setTop (mkF m 16 #[.val (.int p0), .val (.int p1), .val (.ref w_AFTER_UNREACHABLE), .unset, .unset, .unset, .unset, .unset, .unset] [(.int (1 : Int32))])) _
          refine XS.istoreN X27.here hx rfl (hb hby at_16) rfl (l' := #[.val (.int p0), .val (.int p1), .val (.ref w_AFTER_UNREACHABLE), .val (.int (1 : Int32)), .unset, .unset, .unset, .unset, .unset]) rfl ?_
          show Steps p.tables e below (T27.setTop (mkF m 17 #[.val (.int p0), .val (.int p1), .val (.ref w_AFTER_UNREACHABLE), .val (.int (1 : Int32)), .unset, .unset, .unset, .unset, .unset] [])) _
          refine XS.aloadN X27.here hx rfl (hb hby at_17) rfl rfl ?_
          show Steps p.tables e below (T27.setTop (mkF m 18 #[.val (.int p0), .val (.int p1), .val (.ref w_AFTER_UNREACHABLE), .val (.int (1 : Int32)), .unset, .unset, .unset, .unset, .unset] [(.ref w_AFTER_UNREACHABLE)])) _
          refine XS.iloadN X27.here hx rfl (hb hby at_18) rfl ?_
          show Steps p.tables e below (T27.setTop (mkF m 19 #[.val (.int p0), .val (.int p1), .val (.ref w_AFTER_UNREACHABLE), .val (.int (1 : Int32)), .unset, .unset, .unset, .unset, .unset] [(.int (1 : Int32)), (.ref w_AFTER_UNREACHABLE)])) _
          refine st34.trans ?_
          show Steps p.tables e below (T34.setTop (mkF m 22 #[.val (.int p0), .val (.int p1), .val (.ref w_AFTER_UNREACHABLE), .val (.int (1 : Int32)), .unset, .unset, .unset, .unset, .unset] [(.ref w_AFTER_UNREACHABLE)])) _
          refine XS.astore X34.here hx rfl (hb hby at_22) rfl rfl (l' := #[.val (.int p0), .val (.int p1), .val (.ref w_AFTER_UNREACHABLE), .val (.int (1 : Int32)), .val (.ref w_AFTER_UNREACHABLE), .unset, .unset, .unset, .unset]) rfl ?_
          show Steps p.tables e below (T34.setTop (mkF m 24 #[.val (.int p0), .val (.int p1), .val (.ref w_AFTER_UNREACHABLE), .val (.int (1 : Int32)), .val (.ref w_AFTER_UNREACHABLE), .unset, .unset, .unset, .unset] [])) _
          refine XS.aloadN X34.here hx rfl (hb hby at_24) rfl rfl ?_
          show Steps p.tables e below (T34.setTop (mkF m 25 #[.val (.int p0), .val (.int p1), .val (.ref w_AFTER_UNREACHABLE), .val (.int (1 : Int32)), .val (.ref w_AFTER_UNREACHABLE), .unset, .unset, .unset, .unset] [(.ref w_AFTER_UNREACHABLE)])) _
          refine st35 _ ?_
          show Steps p.tables e below (T35.setTop (mkF m 28 #[.val (.int p0), .val (.int p1), .val (.ref w_AFTER_UNREACHABLE), .val (.int (1 : Int32)), .val (.ref w_AFTER_UNREACHABLE), .unset, .unset, .unset, .unset] [(.ref w_REACHABLE), (.ref w_AFTER_UNREACHABLE)])) _
          refine Jvm.RoadKit.acmp (g := (mkF m 28 #[.val (.int p0), .val (.int p1), .val (.ref w_AFTER_UNREACHABLE), .val (.int (1 : Int32)), .val (.ref w_AFTER_UNREACHABLE), .unset, .unset, .unset, .unset] [(.ref w_REACHABLE), (.ref w_AFTER_UNREACHABLE)])) X35 hx rfl rfl rfl (pc0 := 28) (pc' := 35) (same := false) rfl (hb hby at_28) rfl (decide_eq_false fun q => (Ne.symm ne_REACHABLE_AFTER_UNREACHABLE) (Value.ref.inj q)) (by decide) (by decide) ?_
          show Steps p.tables e below (T35.setTop (mkF m 35 #[.val (.int p0), .val (.int p1), .val (.ref w_AFTER_UNREACHABLE), .val (.int (1 : Int32)), .val (.ref w_AFTER_UNREACHABLE), .unset, .unset, .unset, .unset] [])) _
          refine XS.iconst X35.here hx rfl (hb hby at_35) ?_
          show Steps p.tables e below (T35.setTop (mkF m 36 #[.val (.int p0), .val (.int p1), .val (.ref w_AFTER_UNREACHABLE), .val (.int (1 : Int32)), .val (.ref w_AFTER_UNREACHABLE), .unset, .unset, .unset, .unset] [(.int (0 : Int32))])) _
          refine XS.istore X35.here hx rfl (hb hby at_36) rfl (l' := #[.val (.int p0), .val (.int p1), .val (.ref w_AFTER_UNREACHABLE), .val (.int (1 : Int32)), .val (.ref w_AFTER_UNREACHABLE), .val (.int (0 : Int32)), .unset, .unset, .unset]) rfl ?_
          show Steps p.tables e below (T35.setTop (mkF m 38 #[.val (.int p0), .val (.int p1), .val (.ref w_AFTER_UNREACHABLE), .val (.int (1 : Int32)), .val (.ref w_AFTER_UNREACHABLE), .val (.int (0 : Int32)), .unset, .unset, .unset] [])) _
          refine XS.iload X35.here hx rfl (hb hby at_38) rfl ?_
          show Steps p.tables e below (T35.setTop (mkF m 40 #[.val (.int p0), .val (.int p1), .val (.ref w_AFTER_UNREACHABLE), .val (.int (1 : Int32)), .val (.ref w_AFTER_UNREACHABLE), .val (.int (0 : Int32)), .unset, .unset, .unset] [(.int (0 : Int32))])) _
          refine XS.ifYes X35.here hx rfl (pc0 := 40) (pc' := 51) rfl (hb hby at_40) rfl ((if0 _ _).trans (teq (by decide : (0 : Int32) = (0 : Int32))).1) (by decide) (by decide) ?_
          show Steps p.tables e below (T35.setTop (mkF m 51 #[.val (.int p0), .val (.int p1), .val (.ref w_AFTER_UNREACHABLE), .val (.int (1 : Int32)), .val (.ref w_AFTER_UNREACHABLE), .val (.int (0 : Int32)), .unset, .unset, .unset] [])) _
          refine XS.iconst X35.here hx rfl (hb hby at_51) ?_
          show Steps p.tables e below (T35.setTop (mkF m 52 #[.val (.int p0), .val (.int p1), .val (.ref w_AFTER_UNREACHABLE), .val (.int (1 : Int32)), .val (.ref w_AFTER_UNREACHABLE), .val (.int (0 : Int32)), .unset, .unset, .unset] [(.int (0 : Int32))])) _
          refine XS.istore X35.here hx rfl (hb hby at_52) rfl (l' := #[.val (.int p0), .val (.int p1), .val (.ref w_AFTER_UNREACHABLE), .val (.int (1 : Int32)), .val (.ref w_AFTER_UNREACHABLE), .val (.int (0 : Int32)), .val (.int (0 : Int32)), .unset, .unset]) rfl ?_
          show Steps p.tables e below (T35.setTop (mkF m 54 #[.val (.int p0), .val (.int p1), .val (.ref w_AFTER_UNREACHABLE), .val (.int (1 : Int32)), .val (.ref w_AFTER_UNREACHABLE), .val (.int (0 : Int32)), .val (.int (0 : Int32)), .unset, .unset] [])) _
          refine XS.iload X35.here hx rfl (hb hby at_54) rfl ?_
          show Steps p.tables e below (T35.setTop (mkF m 56 #[.val (.int p0), .val (.int p1), .val (.ref w_AFTER_UNREACHABLE), .val (.int (1 : Int32)), .val (.ref w_AFTER_UNREACHABLE), .val (.int (0 : Int32)), .val (.int (0 : Int32)), .unset, .unset] [(.int (0 : Int32))])) _
          refine XS.ifYes X35.here hx rfl (pc0 := 56) (pc' := 67) rfl (hb hby at_56) rfl ((if0 _ _).trans (teq (by decide : (0 : Int32) = (0 : Int32))).1) (by decide) (by decide) ?_
          show Steps p.tables e below (T35.setTop (mkF m 67 #[.val (.int p0), .val (.int p1), .val (.ref w_AFTER_UNREACHABLE), .val (.int (1 : Int32)), .val (.ref w_AFTER_UNREACHABLE), .val (.int (0 : Int32)), .val (.int (0 : Int32)), .unset, .unset] [])) _
          refine XS.iconst X35.here hx rfl (hb hby at_67) ?_
          show Steps p.tables e below (T35.setTop (mkF m 68 #[.val (.int p0), .val (.int p1), .val (.ref w_AFTER_UNREACHABLE), .val (.int (1 : Int32)), .val (.ref w_AFTER_UNREACHABLE), .val (.int (0 : Int32)), .val (.int (0 : Int32)), .unset, .unset] [(.int (0 : Int32))])) _
          refine XS.istore X35.here hx rfl (hb hby at_68) rfl (l' := #[.val (.int p0), .val (.int p1), .val (.ref w_AFTER_UNREACHABLE), .val (.int (1 : Int32)), .val (.ref w_AFTER_UNREACHABLE), .val (.int (0 : Int32)), .val (.int (0 : Int32)), .val (.int (0 : Int32)), .unset]) rfl ?_
          show Steps p.tables e below (T35.setTop (mkF m 70 #[.val (.int p0), .val (.int p1), .val (.ref w_AFTER_UNREACHABLE), .val (.int (1 : Int32)), .val (.ref w_AFTER_UNREACHABLE), .val (.int (0 : Int32)), .val (.int (0 : Int32)), .val (.int (0 : Int32)), .unset] [])) _
          refine XS.iload X35.here hx rfl (hb hby at_70) rfl ?_
          show Steps p.tables e below (T35.setTop (mkF m 72 #[.val (.int p0), .val (.int p1), .val (.ref w_AFTER_UNREACHABLE), .val (.int (1 : Int32)), .val (.ref w_AFTER_UNREACHABLE), .val (.int (0 : Int32)), .val (.int (0 : Int32)), .val (.int (0 : Int32)), .unset] [(.int (0 : Int32))])) _
          refine XS.ifNo X35.here hx rfl (hb hby at_72) rfl ((if0 _ _).trans (teq (by decide : (0 : Int32) = (0 : Int32))).2) ?_
          show Steps p.tables e below (T35.setTop (mkF m 75 #[.val (.int p0), .val (.int p1), .val (.ref w_AFTER_UNREACHABLE), .val (.int (1 : Int32)), .val (.ref w_AFTER_UNREACHABLE), .val (.int (0 : Int32)), .val (.int (0 : Int32)), .val (.int (0 : Int32)), .unset] [])) _
          refine XS.iconst X35.here hx rfl (hb hby at_75) ?_
          show Steps p.tables e below (T35.setTop (mkF m 76 #[.val (.int p0), .val (.int p1), .val (.ref w_AFTER_UNREACHABLE), .val (.int (1 : Int32)), .val (.ref w_AFTER_UNREACHABLE), .val (.int (0 : Int32)), .val (.int (0 : Int32)), .val (.int (0 : Int32)), .unset] [(.int (1 : Int32))])) _
          refine XS.goto X35.here hx rfl (pc0 := 76) (pc' := 80) rfl (hb hby at_76) (by decide) (by decide) ?_
          show Steps p.tables e below (T35.setTop (mkF m 80 #[.val (.int p0), .val (.int p1), .val (.ref w_AFTER_UNREACHABLE), .val (.int (1 : Int32)), .val (.ref w_AFTER_UNREACHABLE), .val (.int (0 : Int32)), .val (.int (0 : Int32)), .val (.int (0 : Int32)), .unset] [(.int (1 : Int32))])) _
          refine XS.istore X35.here hx rfl (hb hby at_80) rfl (l' := #[.val (.int p0), .val (.int p1), .val (.ref w_AFTER_UNREACHABLE), .val (.int (1 : Int32)), .val (.ref w_AFTER_UNREACHABLE), .val (.int (0 : Int32)), .val (.int (0 : Int32)), .val (.int (0 : Int32)), .val (.int (1 : Int32))]) rfl ?_
          show Steps p.tables e below (T35.setTop (mkF m 82 #[.val (.int p0), .val (.int p1), .val (.ref w_AFTER_UNREACHABLE), .val (.int (1 : Int32)), .val (.ref w_AFTER_UNREACHABLE), .val (.int (0 : Int32)), .val (.int (0 : Int32)), .val (.int (0 : Int32)), .val (.int (1 : Int32))] [])) _
          refine XS.aload X35.here hx rfl (hb hby at_82) rfl rfl ?_
          show Steps p.tables e below (T35.setTop (mkF m 84 #[.val (.int p0), .val (.int p1), .val (.ref w_AFTER_UNREACHABLE), .val (.int (1 : Int32)), .val (.ref w_AFTER_UNREACHABLE), .val (.int (0 : Int32)), .val (.int (0 : Int32)), .val (.int (0 : Int32)), .val (.int (1 : Int32))] [(.ref w_AFTER_UNREACHABLE)])) _
          refine XS.ifnullNo X35.here hx rfl (hb hby at_84) rfl ?_
          show Steps p.tables e below (T35.setTop (mkF m 87 #[.val (.int p0), .val (.int p1), .val (.ref w_AFTER_UNREACHABLE), .val (.int (1 : Int32)), .val (.ref w_AFTER_UNREACHABLE), .val (.int (0 : Int32)), .val (.int (0 : Int32)), .val (.int (0 : Int32)), .val (.int (1 : Int32))] [])) _
          refine XS.aload X35.here hx rfl (hb hby at_87) rfl rfl ?_
          show Steps p.tables e below (T35.setTop (mkF m 89 #[.val (.int p0), .val (.int p1), .val (.ref w_AFTER_UNREACHABLE), .val (.int (1 : Int32)), .val (.ref w_AFTER_UNREACHABLE), .val (.int (0 : Int32)), .val (.int (0 : Int32)), .val (.int (0 : Int32)), .val (.int (1 : Int32))] [(.ref w_AFTER_UNREACHABLE)])) _
          refine st36 _ ?_
          show Steps p.tables e below (T36.setTop (mkF m 92 #[.val (.int p0), .val (.int p1), .val (.ref w_AFTER_UNREACHABLE), .val (.int (1 : Int32)), .val (.ref w_AFTER_UNREACHABLE), .val (.int (0 : Int32)), .val (.int (0 : Int32)), .val (.int (0 : Int32)), .val (.int (1 : Int32))] [(.ref w_REACHABLE), (.ref w_AFTER_UNREACHABLE)])) _
          refine Jvm.RoadKit.acmp (g := (mkF m 92 #[.val (.int p0), .val (.int p1), .val (.ref w_AFTER_UNREACHABLE), .val (.int (1 : Int32)), .val (.ref w_AFTER_UNREACHABLE), .val (.int (0 : Int32)), .val (.int (0 : Int32)), .val (.int (0 : Int32)), .val (.int (1 : Int32))] [(.ref w_REACHABLE), (.ref w_AFTER_UNREACHABLE)])) X36 hx rfl rfl rfl (pc0 := 92) (pc' := 99) (same := false) rfl (hb hby at_92) rfl (decide_eq_false fun q => (Ne.symm ne_REACHABLE_AFTER_UNREACHABLE) (Value.ref.inj q)) (by decide) (by decide) ?_
          show Steps p.tables e below (T36.setTop (mkF m 99 #[.val (.int p0), .val (.int p1), .val (.ref w_AFTER_UNREACHABLE), .val (.int (1 : Int32)), .val (.ref w_AFTER_UNREACHABLE), .val (.int (0 : Int32)), .val (.int (0 : Int32)), .val (.int (0 : Int32)), .val (.int (1 : Int32))] [])) _
          refine XS.iconst X36.here hx rfl (hb hby at_99) ?_
          show Steps p.tables e below (T36.setTop (mkF m 100 #[.val (.int p0), .val (.int p1), .val (.ref w_AFTER_UNREACHABLE), .val (.int (1 : Int32)), .val (.ref w_AFTER_UNREACHABLE), .val (.int (0 : Int32)), .val (.int (0 : Int32)), .val (.int (0 : Int32)), .val (.int (1 : Int32))] [(.int (0 : Int32))])) _
          refine XS.iload X36.here hx rfl (hb hby at_100) rfl ?_
          show Steps p.tables e below (T36.setTop (mkF m 102 #[.val (.int p0), .val (.int p1), .val (.ref w_AFTER_UNREACHABLE), .val (.int (1 : Int32)), .val (.ref w_AFTER_UNREACHABLE), .val (.int (0 : Int32)), .val (.int (0 : Int32)), .val (.int (0 : Int32)), .val (.int (1 : Int32))] [(.int (0 : Int32)), (.int (0 : Int32))])) _
          refine XS.icmpNo X36.here hx rfl (hb hby at_102) rfl (teq (by decide : (0 : Int32) = (0 : Int32))).2 ?_
          show Steps p.tables e below (T36.setTop (mkF m 105 #[.val (.int p0), .val (.int p1), .val (.ref w_AFTER_UNREACHABLE), .val (.int (1 : Int32)), .val (.ref w_AFTER_UNREACHABLE), .val (.int (0 : Int32)), .val (.int (0 : Int32)), .val (.int (0 : Int32)), .val (.int (1 : Int32))] [])) _
          refine XS.aload X36.here hx rfl (hb hby at_105) rfl rfl ?_
          show Steps p.tables e below (T36.setTop (mkF m 107 #[.val (.int p0), .val (.int p1), .val (.ref w_AFTER_UNREACHABLE), .val (.int (1 : Int32)), .val (.ref w_AFTER_UNREACHABLE), .val (.int (0 : Int32)), .val (.int (0 : Int32)), .val (.int (0 : Int32)), .val (.int (1 : Int32))] [(.ref w_AFTER_UNREACHABLE)])) _
          refine st37 _ ?_
          show Steps p.tables e below (T37.setTop (mkF m 110 #[.val (.int p0), .val (.int p1), .val (.ref w_AFTER_UNREACHABLE), .val (.int (1 : Int32)), .val (.ref w_AFTER_UNREACHABLE), .val (.int (0 : Int32)), .val (.int (0 : Int32)), .val (.int (0 : Int32)), .val (.int (1 : Int32))] [(.ref w_UNREACHABLE), (.ref w_AFTER_UNREACHABLE)])) _
          refine Jvm.RoadKit.acmp (g := (mkF m 110 #[.val (.int p0), .val (.int p1), .val (.ref w_AFTER_UNREACHABLE), .val (.int (1 : Int32)), .val (.ref w_AFTER_UNREACHABLE), .val (.int (0 : Int32)), .val (.int (0 : Int32)), .val (.int (0 : Int32)), .val (.int (1 : Int32))] [(.ref w_UNREACHABLE), (.ref w_AFTER_UNREACHABLE)])) X37 hx rfl rfl rfl (pc0 := 110) (pc' := 117) (same := false) rfl (hb hby at_110) rfl (decide_eq_false fun q => (Ne.symm ne_UNREACHABLE_AFTER_UNREACHABLE) (Value.ref.inj q)) (by decide) (by decide) ?_
          show Steps p.tables e below (T37.setTop (mkF m 117 #[.val (.int p0), .val (.int p1), .val (.ref w_AFTER_UNREACHABLE), .val (.int (1 : Int32)), .val (.ref w_AFTER_UNREACHABLE), .val (.int (0 : Int32)), .val (.int (0 : Int32)), .val (.int (0 : Int32)), .val (.int (1 : Int32))] [])) _
          refine XS.iconst X37.here hx rfl (hb hby at_117) ?_
          show Steps p.tables e below (T37.setTop (mkF m 118 #[.val (.int p0), .val (.int p1), .val (.ref w_AFTER_UNREACHABLE), .val (.int (1 : Int32)), .val (.ref w_AFTER_UNREACHABLE), .val (.int (0 : Int32)), .val (.int (0 : Int32)), .val (.int (0 : Int32)), .val (.int (1 : Int32))] [(.int (0 : Int32))])) _
          refine XS.iload X37.here hx rfl (hb hby at_118) rfl ?_
          show Steps p.tables e below (T37.setTop (mkF m 120 #[.val (.int p0), .val (.int p1), .val (.ref w_AFTER_UNREACHABLE), .val (.int (1 : Int32)), .val (.ref w_AFTER_UNREACHABLE), .val (.int (0 : Int32)), .val (.int (0 : Int32)), .val (.int (0 : Int32)), .val (.int (1 : Int32))] [(.int (0 : Int32)), (.int (0 : Int32))])) _
          refine XS.icmpNo X37.here hx rfl (hb hby at_120) rfl (teq (by decide : (0 : Int32) = (0 : Int32))).2 ?_
          show Steps p.tables e below (T37.setTop (mkF m 123 #[.val (.int p0), .val (.int p1), .val (.ref w_AFTER_UNREACHABLE), .val (.int (1 : Int32)), .val (.ref w_AFTER_UNREACHABLE), .val (.int (0 : Int32)), .val (.int (0 : Int32)), .val (.int (0 : Int32)), .val (.int (1 : Int32))] [])) _
          refine XS.aload X37.here hx rfl (hb hby at_123) rfl rfl ?_
          show Steps p.tables e below (T37.setTop (mkF m 125 #[.val (.int p0), .val (.int p1), .val (.ref w_AFTER_UNREACHABLE), .val (.int (1 : Int32)), .val (.ref w_AFTER_UNREACHABLE), .val (.int (0 : Int32)), .val (.int (0 : Int32)), .val (.int (0 : Int32)), .val (.int (1 : Int32))] [(.ref w_AFTER_UNREACHABLE)])) _
          refine st38 _ ?_
          show Steps p.tables e below (T38.setTop (mkF m 128 #[.val (.int p0), .val (.int p1), .val (.ref w_AFTER_UNREACHABLE), .val (.int (1 : Int32)), .val (.ref w_AFTER_UNREACHABLE), .val (.int (0 : Int32)), .val (.int (0 : Int32)), .val (.int (0 : Int32)), .val (.int (1 : Int32))] [(.ref w_AFTER_UNREACHABLE), (.ref w_AFTER_UNREACHABLE)])) _
          refine Jvm.RoadKit.acmp (g := (mkF m 128 #[.val (.int p0), .val (.int p1), .val (.ref w_AFTER_UNREACHABLE), .val (.int (1 : Int32)), .val (.ref w_AFTER_UNREACHABLE), .val (.int (0 : Int32)), .val (.int (0 : Int32)), .val (.int (0 : Int32)), .val (.int (1 : Int32))] [(.ref w_AFTER_UNREACHABLE), (.ref w_AFTER_UNREACHABLE)])) X38 hx rfl rfl rfl (pc0 := 128) (pc' := 131) (same := true) rfl (hb hby at_128) rfl (decide_eq_true rfl) (by decide) (by decide) ?_
          show Steps p.tables e below (T38.setTop (mkF m 131 #[.val (.int p0), .val (.int p1), .val (.ref w_AFTER_UNREACHABLE), .val (.int (1 : Int32)), .val (.ref w_AFTER_UNREACHABLE), .val (.int (0 : Int32)), .val (.int (0 : Int32)), .val (.int (0 : Int32)), .val (.int (1 : Int32))] [])) _
          refine XS.iconst X38.here hx rfl (hb hby at_131) ?_
          show Steps p.tables e below (T38.setTop (mkF m 132 #[.val (.int p0), .val (.int p1), .val (.ref w_AFTER_UNREACHABLE), .val (.int (1 : Int32)), .val (.ref w_AFTER_UNREACHABLE), .val (.int (0 : Int32)), .val (.int (0 : Int32)), .val (.int (0 : Int32)), .val (.int (1 : Int32))] [(.int (1 : Int32))])) _
          refine XS.goto X38.here hx rfl (pc0 := 132) (pc' := 136) rfl (hb hby at_132) (by decide) (by decide) ?_
          show Steps p.tables e below (T38.setTop (mkF m 136 #[.val (.int p0), .val (.int p1), .val (.ref w_AFTER_UNREACHABLE), .val (.int (1 : Int32)), .val (.ref w_AFTER_UNREACHABLE), .val (.int (0 : Int32)), .val (.int (0 : Int32)), .val (.int (0 : Int32)), .val (.int (1 : Int32))] [(.int (1 : Int32))])) _
          refine XS.iload X38.here hx rfl (hb hby at_136) rfl ?_
          show Steps p.tables e below (T38.setTop (mkF m 138 #[.val (.int p0), .val (.int p1), .val (.ref w_AFTER_UNREACHABLE), .val (.int (1 : Int32)), .val (.ref w_AFTER_UNREACHABLE), .val (.int (0 : Int32)), .val (.int (0 : Int32)), .val (.int (0 : Int32)), .val (.int (1 : Int32))] [(.int (1 : Int32)), (.int (1 : Int32))])) _
          refine XS.icmpNo X38.here hx rfl (hb hby at_138) rfl (teq (by decide : (1 : Int32) = (1 : Int32))).2 ?_
          show Steps p.tables e below (T38.setTop (mkF m 141 #[.val (.int p0), .val (.int p1), .val (.ref w_AFTER_UNREACHABLE), .val (.int (1 : Int32)), .val (.ref w_AFTER_UNREACHABLE), .val (.int (0 : Int32)), .val (.int (0 : Int32)), .val (.int (0 : Int32)), .val (.int (1 : Int32))] [])) _
          refine XS.iconst X38.here hx rfl (hb hby at_141) ?_
          show Steps p.tables e below (T38.setTop (mkF m 142 #[.val (.int p0), .val (.int p1), .val (.ref w_AFTER_UNREACHABLE), .val (.int (1 : Int32)), .val (.ref w_AFTER_UNREACHABLE), .val (.int (0 : Int32)), .val (.int (0 : Int32)), .val (.int (0 : Int32)), .val (.int (1 : Int32))] [(.int (1 : Int32))])) _
          refine XS.goto X38.here hx rfl (pc0 := 142) (pc' := 146) rfl (hb hby at_142) (by decide) (by decide) ?_
          show Steps p.tables e below (T38.setTop (mkF m 146 #[.val (.int p0), .val (.int p1), .val (.ref w_AFTER_UNREACHABLE), .val (.int (1 : Int32)), .val (.ref w_AFTER_UNREACHABLE), .val (.int (0 : Int32)), .val (.int (0 : Int32)), .val (.int (0 : Int32)), .val (.int (1 : Int32))] [(.int (1 : Int32))])) _
          exact retN X38 hx (t := .boolean) Bd.returns (by simp) (hb hby at_146) hr
        · show Q_rm_law Z p0 p1 w_REACHABLE w_UNREACHABLE w_AFTER_UNREACHABLE h0 n0 _ T38.heap _
          rw [e38]
          exact ⟨rfl, N34, rfl⟩
set_option maxRecDepth 65536 in
set_option maxHeartbeats 40000000 in
theorem comes_1 {Post : Tables → Env → Array Value → State → Outcome → State → Prop} (hpost : ∀ tb e args s v u, (limb_1_1.after args s (.returned v) u = true ∧ limb_1_2.after args s (.returned v) u = true ∧ True) → FrameEnd s (.returned v) u (Jvm.fieldLocs frame_1_writes args s ++ Jvm.arrayLocs frame_1_arrays args s ++ Jvm.staticLocs frame_1_statics s) 0 0 → Post tb e args s (.returned v) u) :
    ArmFor flags0 classFile x code maxLocals ret World_1 tables_1 room_1 Calls_1 rest_1 Pre_1 Post := by
  intro l hfl _ _ p e ha hc hk s m args below hf hA hF happ hP
  obtain ⟨hcalls, hrest, hpre⟩ := hP
  obtain ⟨-, -, -, hnamed, -, -, -, hat⟩ := (Spec.applies_iff hf).mp happ
  obtain ⟨hg, hn⟩ := and_e (Cond.before_iff.mp (show (Jvm.Cond.and given_1 narrow_1).before args s = true from hpre))
  obtain ⟨hcnt, hgv0⟩ := and_e hg
  obtain ⟨hg0, hgv1⟩ := and_e hgv0
  have hg1 := hgv1
  obtain ⟨w0, w1, rfl⟩ : ∃ w0 w1 : Value, args = #[w0, w1] := by
    have hs : args.size = 2 := by simpa [Cond.value, given_1] using hcnt
    obtain ⟨L⟩ := args
    match L, hs with
    | [w0, w1], _ => exact ⟨w0, w1, rfl⟩
  have hw := fun d (hd : d ∈ tables_1) => atoms_spec (ws := Jvm.Cond.code x code maxLocals ret :: tables_1) hat d (List.mem_cons_of_mem _ hd)
  have hfit : Fit s := fun {y c} hc i hi => by
    obtain ⟨ha, rfl⟩ := Array.getElem?_eq_some_iff.mp hc
    have q := List.all_eq_true.mp ((Array.all_eq_true_iff_forall_mem.mp hF) _ (Array.getElem_mem ha)) i (List.mem_range.mpr hi)
    simpa [Array.getElem?_eq_getElem hi] using q
  obtain ⟨i0, ei0⟩ := is_v hg0
  obtain rfl : w0 = (.int i0) := Option.some.inj ei0
  obtain ⟨i1, ei1⟩ := is_v hg1
  obtain rfl : w1 = (.int i1) := Option.some.inj ei1
  obtain ⟨hn0, hnr0⟩ := and_e hn
  obtain ⟨hn1, hnr1⟩ := and_e hnr0
  obtain ⟨hn2, hnr2⟩ := and_e hnr1
  obtain ⟨hn3, hnr3⟩ := and_e hnr2
  obtain ⟨hn4, hnr4⟩ := and_e hnr3
  have hn5 := hnr4
  obtain ⟨w_REACHABLE, ev_REACHABLE⟩ := exa_v hn0
  have E_REACHABLE := Exa.start ev_REACHABLE hn0
  have S_REACHABLE : Sta s s.heap "com/example/ambit/ambit/StatementRules$Reach" "REACHABLE" "Lcom/example/ambit/ambit/StatementRules$Reach;" (.ref w_REACHABLE) := Sta.start ev_REACHABLE (Or.inr ⟨(hw _ (List.mem_of_getElem? (i := 6) rfl)), (hw _ (List.mem_of_getElem? (i := 7) rfl))⟩)
  obtain ⟨w_UNREACHABLE, ev_UNREACHABLE⟩ := exa_v hn1
  have E_UNREACHABLE := Exa.start ev_UNREACHABLE hn1
  have S_UNREACHABLE : Sta s s.heap "com/example/ambit/ambit/StatementRules$Reach" "UNREACHABLE" "Lcom/example/ambit/ambit/StatementRules$Reach;" (.ref w_UNREACHABLE) := Sta.start ev_UNREACHABLE (Or.inr ⟨(hw _ (List.mem_of_getElem? (i := 6) rfl)), (hw _ (List.mem_of_getElem? (i := 15) rfl))⟩)
  obtain ⟨w_AFTER_UNREACHABLE, ev_AFTER_UNREACHABLE⟩ := exa_v hn4
  have E_AFTER_UNREACHABLE := Exa.start ev_AFTER_UNREACHABLE hn4
  have S_AFTER_UNREACHABLE : Sta s s.heap "com/example/ambit/ambit/StatementRules$Reach" "AFTER_UNREACHABLE" "Lcom/example/ambit/ambit/StatementRules$Reach;" (.ref w_AFTER_UNREACHABLE) := Sta.start ev_AFTER_UNREACHABLE (Or.inr ⟨(hw _ (List.mem_of_getElem? (i := 6) rfl)), (hw _ (List.mem_of_getElem? (i := 17) rfl))⟩)
  have F_REACHABLE_ordinal := own_fld ev_REACHABLE hn2
  have F_UNREACHABLE_ordinal := own_fld ev_UNREACHABLE hn3
  have F_AFTER_UNREACHABLE_ordinal := own_fld ev_AFTER_UNREACHABLE hn5
  obtain ⟨n, o, h1, h2, h3, _, L, rfl, hQL, hq⟩ := rm_law l s _ hw tables_1 i0 i1 w_REACHABLE w_UNREACHABLE w_AFTER_UNREACHABLE s.heap s.heap.size (Nat.le_refl _) S_REACHABLE S_UNREACHABLE S_AFTER_UNREACHABLE E_REACHABLE E_UNREACHABLE E_AFTER_UNREACHABLE F_REACHABLE_ordinal F_UNREACHABLE_ordinal F_AFTER_UNREACHABLE_ordinal p e ha hc hk s m _ below hf ((Spec.applies_iff_loose hf).mp happ).1 ⟨rfl, State.Warmed39.refl s, rfl⟩ trivial
  obtain ⟨rfl, N, -⟩ := hQL
  refine ⟨n, _, h1, h2, h3, hpost _ _ _ _ _ _ ⟨Cond.after_iff.mpr rfl, Cond.after_iff.mpr (eq_i res_at (Term.int_eval (1)) rfl), trivial⟩ ⟨hq.1, hq.2.1, (hq.2.2.sift fun y hy => Or.inr (N y hy)).mono (by decide) (by decide)⟩⟩
theorem main_1_1 : Claimed_1_1 := comes_1 fun _ _ _ _ _ _ h hF => ⟨h.1, hF⟩
theorem main_1_2 : Claimed_1_2 := comes_1 fun _ _ _ _ _ _ h hF => ⟨h.2.1, hF⟩
end Jvm.Pilot.@@N@@
namespace Jvm.Pilot.@@N@@
open Jvm Jvm.ClassFile Sem Op Lib Jvm.Free Jvm.Stand Jvm.Pilot.@@N@@.Jvm.D
/-! MADE BY PROGRAM (witnessworld.py) out of the Statement's table words and the real class files: 12 classes; the members and pool entries that the words name. The judged class is class 1, her method 2. -/
namespace start1
open Jvm.ClassFile
def u (s : String) : CpInfo := .utf8 (stringToUtf16 s)
/-- a pool by its gaps: so many unusable entries, then the entry; so many at the end -/
def gap : Nat → List CpInfo → List CpInfo
  | 0, r => r
  | n + 1, r => .unusable :: gap n r
def poolList (es : List (Nat × CpInfo)) (last : Nat) : List CpInfo := es.foldr (fun e r => gap e.1 (e.2 :: r)) (gap last [])
def pool (es : List (Nat × CpInfo)) (last : Nat) : Array CpInfo := ⟨poolList es last⟩
def fileOf (pool : Array CpInfo) (this : Nat) (attrs : Array Attribute := #[]) (ms : Array MethodInfo := #[]) (fl : Nat := 33) (sup : Nat := 0) (ifs : Array Nat := #[]) (fds : Array FieldInfo := #[]) : ClassFile where
  minorVersion := 0
  majorVersion := 65
  constantPool := pool
  accessFlags := fl
  thisClass := this
  superClass := sup
  interfaces := ifs
  fields := fds
  methods := ms
  attributes := attrs
def plain (name : String) (sup : Option ClassId) : Class where
  name := name
  kind := .ordinary
  loader := none
  accessFlags := 33
  super := sup
  interfaces := #[]
  cf := none
  fields := #[]
  methods := #[]
  instanceTypes := #[]
  staticTypes := #[]
  resolved := #[]
  callSites := []
  init := .initialized
  statics := none
  mirror := none

def pool0 : Array CpInfo := pool [(5, u "<init>"), (0, u "()V"), (1, .class_ 10), (1, u "java/lang/Object")] 113

def k0m0 : Method := { name := "<init>", desc := "()V", sig := { parameters := [], returnType := none }, accessFlags := 1, code := none }
/-- java/lang/Object -/
def k0 : Class := { plain "java/lang/Object" none with
  accessFlags := 33
  interfaces := #[]
  cf := some (fileOf pool0 8 #[] #[{ accessFlags := 1, nameIndex := 5, descriptorIndex := 6, attributes := #[] }] 33 0 #[] #[])
  fields := #[]
  methods := #[k0m0]
  instanceTypes := #[]
  staticTypes := #[]
  resolved := Array.replicate 124 none
  statics := none }

def pool1 : Array CpInfo := pool [(2, .class_ 4), (1, u "java/lang/Object"), (0, u "<init>"), (0, u "()V"), (0, .integer 2147483647), (0, .fieldref 9 10), (0, .class_ 11), (0, .nameAndType 12 13), (0, u "com/example/ambit/ambit/StatementRules$Reach"), (0, u "REACHABLE"), (0, u "Lcom/example/ambit/ambit/StatementRules$Reach;"), (0, .fieldref 9 15), (0, .nameAndType 16 13), (0, u "UNREACHABLE"), (0, .fieldref 9 18), (0, .nameAndType 19 13), (0, u "AFTER_UNREACHABLE"), (0, .methodref 21 22), (0, .class_ 23), (0, .nameAndType 24 25), (0, u "com/example/ambit/ambit/ReachNextPinLaw"), (0, u "pick"), (0, u "(I)Lcom/example/ambit/ambit/StatementRules$Reach;"), (0, .methodref 9 27), (0, .nameAndType 28 29), (0, u "next"), (0, u "(Z)Lcom/example/ambit/ambit/StatementRules$Reach;"), (3, u "law"), (0, u "(II)Z")] 6

def k1m0 : Method := { name := "<init>", desc := "()V", sig := { parameters := [], returnType := none }, accessFlags := 1, code := none }
def k1c1 : Code := { maxStack := 2, maxLocals := 2, code := method_2_code, exceptionTable := #[], attributes := #[] }
def k1m1 : Method := { name := "pick", desc := "(I)Lcom/example/ambit/ambit/StatementRules$Reach;", sig := { parameters := [.int], returnType := some (.object "com/example/ambit/ambit/StatementRules$Reach") }, accessFlags := 10, code := some k1c1 }
def k1c2 : Code := { maxStack := 2, maxLocals := 9, code := code, exceptionTable := #[], attributes := #[] }
def k1m2 : Method := { name := "law", desc := "(II)Z", sig := { parameters := [.int, .int], returnType := some .boolean }, accessFlags := 9, code := some k1c2 }
/-- com/example/ambit/ambit/ReachNextPinLaw -/
def k1 : Class := { plain "com/example/ambit/ambit/ReachNextPinLaw" (some 0) with
  accessFlags := 49
  interfaces := #[]
  cf := some (fileOf pool1 21 #[] #[{ accessFlags := 1, nameIndex := 5, descriptorIndex := 6, attributes := #[] }, { accessFlags := 10, nameIndex := 24, descriptorIndex := 25, attributes := #[] }, { accessFlags := 9, nameIndex := 33, descriptorIndex := 34, attributes := #[] }] 49 2 #[] #[])
  fields := #[]
  methods := #[k1m0, k1m1, k1m2]
  instanceTypes := #[]
  staticTypes := #[]
  resolved := Array.replicate 41 none
  statics := none }

def pool2 : Array CpInfo := pool [(1, .class_ 2), (0, u "java/lang/constant/Constable"), (0, .class_ 4), (0, u "java/lang/Object")] 6

/-- java/lang/constant/Constable -/
def k2 : Class := { plain "java/lang/constant/Constable" (some 0) with
  accessFlags := 1537
  interfaces := #[]
  cf := some (fileOf pool2 1 #[] #[] 1537 3 #[] #[])
  fields := #[]
  methods := #[]
  instanceTypes := #[]
  staticTypes := #[]
  resolved := Array.replicate 11 none
  statics := none }

def pool3 : Array CpInfo := pool [(1, .class_ 2), (0, u "java/lang/Comparable"), (0, .class_ 4), (0, u "java/lang/Object")] 7

/-- java/lang/Comparable -/
def k3 : Class := { plain "java/lang/Comparable" (some 0) with
  accessFlags := 1537
  interfaces := #[]
  cf := some (fileOf pool3 1 #[] #[] 1537 3 #[] #[])
  fields := #[]
  methods := #[]
  instanceTypes := #[]
  staticTypes := #[]
  resolved := Array.replicate 12 none
  statics := none }

def pool4 : Array CpInfo := pool [(1, .class_ 2), (0, u "java/io/Serializable"), (0, .class_ 4), (0, u "java/lang/Object")] 2

/-- java/io/Serializable -/
def k4 : Class := { plain "java/io/Serializable" (some 0) with
  accessFlags := 1537
  interfaces := #[]
  cf := some (fileOf pool4 1 #[] #[] 1537 3 #[] #[])
  fields := #[]
  methods := #[]
  instanceTypes := #[]
  staticTypes := #[]
  resolved := Array.replicate 7 none
  statics := none }

def pool5 : Array CpInfo := pool [(2, .class_ 4), (1, u "java/lang/Enum"), (0, u "name"), (0, u "Ljava/lang/String;"), (2, u "ordinal"), (0, u "I"), (1, .class_ 14), (1, u "java/lang/Object"), (4, u "hash"), (86, .class_ 108), (1, u "java/lang/Enum$EnumDesc"), (2, .class_ 112), (0, u "java/lang/constant/Constable"), (0, .class_ 114), (0, u "java/lang/Comparable"), (0, .class_ 116), (0, u "java/io/Serializable")] 87

/-- java/lang/Enum -/
def k5 : Class := { plain "java/lang/Enum" (some 0) with
  accessFlags := 1057
  interfaces := #[2, 3, 4]
  cf := some (fileOf pool5 2 #[.nestMembers #[106]] #[] 1057 12 #[111, 113, 115] #[{ accessFlags := 18, nameIndex := 5, descriptorIndex := 6, attributes := #[] }, { accessFlags := 18, nameIndex := 9, descriptorIndex := 10, attributes := #[] }, { accessFlags := 2, nameIndex := 19, descriptorIndex := 10, attributes := #[] }])
  fields := #[{ name := "name", type := (.object "java/lang/String"), accessFlags := 18, slot := 0, constantValue := 0 }, { name := "ordinal", type := .int, accessFlags := 18, slot := 1, constantValue := 0 }, { name := "hash", type := .int, accessFlags := 2, slot := 2, constantValue := 0 }]
  methods := #[]
  instanceTypes := #[(.object "java/lang/String"), .int, .int]
  staticTypes := #[]
  resolved := Array.replicate 204 none
  statics := none }

def pool6 : Array CpInfo := pool [(1, .class_ 2), (0, u "com/example/ambit/ambit/StatementRules$Reach"), (0, .fieldref 1 4), (0, .nameAndType 5 6), (0, u "REACHABLE"), (0, u "Lcom/example/ambit/ambit/StatementRules$Reach;"), (0, .fieldref 1 8), (0, .nameAndType 9 6), (0, u "UNREACHABLE"), (0, .fieldref 1 11), (0, .nameAndType 12 6), (0, u "AFTER_UNREACHABLE"), (2, u "$VALUES"), (0, u "[Lcom/example/ambit/ambit/StatementRules$Reach;"), (6, .class_ 25), (1, u "java/lang/Enum"), (21, u "next"), (0, u "(Z)Lcom/example/ambit/ambit/StatementRules$Reach;"), (8, .class_ 58), (0, u "com/example/ambit/ambit/StatementRules")] 2

def k6c0 : Code := { maxStack := 2, maxLocals := 3, code := prog_57_method_4_code, exceptionTable := #[], attributes := #[] }
def k6m0 : Method := { name := "next", desc := "(Z)Lcom/example/ambit/ambit/StatementRules$Reach;", sig := { parameters := [.boolean], returnType := some (.object "com/example/ambit/ambit/StatementRules$Reach") }, accessFlags := 0, code := some k6c0 }
/-- com/example/ambit/ambit/StatementRules$Reach -/
def k6 : Class := { plain "com/example/ambit/ambit/StatementRules$Reach" (some 5) with
  accessFlags := 16432
  interfaces := #[]
  cf := some (fileOf pool6 1 #[.nestHost 57] #[{ accessFlags := 0, nameIndex := 47, descriptorIndex := 48, attributes := #[] }] 16432 23 #[] #[{ accessFlags := 16409, nameIndex := 5, descriptorIndex := 6, attributes := #[] }, { accessFlags := 16409, nameIndex := 9, descriptorIndex := 6, attributes := #[] }, { accessFlags := 16409, nameIndex := 12, descriptorIndex := 6, attributes := #[] }, { accessFlags := 4122, nameIndex := 15, descriptorIndex := 16, attributes := #[] }])
  fields := #[{ name := "REACHABLE", type := (.object "com/example/ambit/ambit/StatementRules$Reach"), accessFlags := 16409, slot := 0, constantValue := 0 }, { name := "UNREACHABLE", type := (.object "com/example/ambit/ambit/StatementRules$Reach"), accessFlags := 16409, slot := 1, constantValue := 0 }, { name := "AFTER_UNREACHABLE", type := (.object "com/example/ambit/ambit/StatementRules$Reach"), accessFlags := 16409, slot := 2, constantValue := 0 }, { name := "$VALUES", type := (.array (.object "com/example/ambit/ambit/StatementRules$Reach")), accessFlags := 4122, slot := 3, constantValue := 0 }]
  methods := #[k6m0]
  instanceTypes := #[(.object "java/lang/String"), .int, .int]
  staticTypes := #[(.object "com/example/ambit/ambit/StatementRules$Reach"), (.object "com/example/ambit/ambit/StatementRules$Reach"), (.object "com/example/ambit/ambit/StatementRules$Reach"), (.array (.object "com/example/ambit/ambit/StatementRules$Reach"))]
  resolved := Array.replicate 61 none
  statics := some 0 }

def pool7 : Array CpInfo := pool [(1, u "java/lang/Cloneable"), (0, .class_ 1), (0, u "java/lang/Object"), (0, .class_ 3)] 3

/-- java/lang/Cloneable -/
def k7 : Class := { plain "java/lang/Cloneable" (some 0) with
  accessFlags := 1537
  interfaces := #[]
  cf := some (fileOf pool7 2 #[] #[] 1537 4 #[] #[])
  fields := #[]
  methods := #[]
  instanceTypes := #[]
  staticTypes := #[]
  resolved := Array.replicate 8 none
  statics := none }

/-- the primitive byte -/
def k8 : Class := { plain "byte" none with kind := .primitive 'B', accessFlags := 0x411 }
/-- [B -/
def k9 : Class := { plain "[B" (some 0) with kind := .array 8 .byte, interfaces := #[7, 4], accessFlags := 1041 }

/-- the primitive int -/
def k10 : Class := { plain "int" none with kind := .primitive 'I', accessFlags := 0x411 }
/-- [I -/
def k11 : Class := { plain "[I" (some 0) with kind := .array 10 .int, interfaces := #[7, 4], accessFlags := 1041 }

def heap : Heap := #[{ cls := 6, slots := #[.ref 1, .ref 2, .ref 3, .null], vm := .statics 6 },
  { cls := 6, slots := #[.null, .int 0, .int 0], vm := .none },
  { cls := 6, slots := #[.null, .int 1, .int 0], vm := .none },
  { cls := 6, slots := #[.null, .int 2, .int 0], vm := .none }]
def classes : Array Class := #[k0, k1, k2, k3, k4, k5, k6, k7, k8, k9, k10, k11]
def interned : List (Array UInt16 × Addr) := []
def slotsUsed : Nat := 13
def theMethod : MethodId := ⟨1, 2⟩
def args0 : Array Value := #[.int 5, .int 5]
def aboutOver (below : List Frame) : State where
  vm := { classes := classes, interned := interned.toArray }
  heap := heap
  slotsUsed := slotsUsed
  threads := #[{ frames := .invoking theMethod args0 :: below }]
def below0 : List Frame := [.native { method := ⟨0, 0⟩, args := #[] }]
def about1 : State := aboutOver below0
def p0 : Program := .bare "" "" ""
def e0 : Env := launch0.env 0 0 0
theorem w_frames : about1.frames = Frame.invoking theMethod args0 :: below0 := rfl
set_option maxRecDepth 65536 in
theorem w_args : argsFit about1.vm theMethod args0 = true := by decide +kernel
set_option maxRecDepth 65536 in
theorem w_heap : heapFits about1 = true := by decide +kernel
set_option maxRecDepth 65536 in
theorem w_runnable : about1.curStatus? = some .runnable := by decide +kernel
set_option maxRecDepth 65536 in
theorem w_alone : about1.alone = true := by decide +kernel
set_option maxRecDepth 65536 in
theorem w_named : about1.methodNamed? x = some theMethod := by decide +kernel
set_option maxRecDepth 65536 in
theorem w_hears : about1.hears theMethod below0 = true := by decide +kernel
set_option maxRecDepth 65536 in
theorem w_ripe : about1.ripe theMethod args0 below0 = true := by decide +kernel
theorem w_running : about1.status = .running := rfl
set_option maxRecDepth 65536 in
theorem w_room : about1.hasRoom e0.platform room_1 = true :=
  launch0.hasRoom_least _ room_1 (by decide +kernel) (by decide +kernel) (by decide +kernel) (by decide +kernel) (by decide +kernel) (by decide +kernel)
theorem allAtoms_all (ts : List Jvm.Cond) (a : Array Jvm.Value) (st : Jvm.State) : (allAtoms ts).before a st = ts.all (fun c => c.before a st) := by
  induction ts with
  | nil => rfl
  | cons c t ih =>
    show (Jvm.Cond.and c (allAtoms t)).before a st = _
    rw [Jvm.Cond.before_and, ih, List.all_cons]
def words1 : List Jvm.Cond := Jvm.Cond.code x code maxLocals ret :: tables_1
/-- a 'code' word, met by the world's own term for the bytes: nothing is compared byte by byte -/
theorem code_word {y : MethodName} {bytes : ByteArray} {mx : Nat} {rt : Option FieldType} {a : Array Value} {s : State} {m : MethodId} {meth : Method} {c : Code} (h1 : s.methodNamed? y = some m) (h2 : s.vm.method? m = some meth) (h3 : meth.code = some c) (h4 : c.code = bytes)
    (h5 : (c.maxLocals == mx && c.exceptionTable.isEmpty && decide (c.maxStack ≤ mostOperands) && decide (meth.sig.returnType = rt) && !meth.locks && decide (parseMethodDescriptor y.desc = some meth.sig)) = true) : (Jvm.Cond.code y bytes mx rt).before a s = true := by
  simp only [Bool.and_eq_true, beq_iff_eq, Bool.not_eq_true', decide_eq_true_eq] at h5
  obtain ⟨⟨⟨⟨⟨g1, g2⟩, g3⟩, g4⟩, g5⟩, g6⟩ := h5
  simp [Cond.before, Cond.holds, Cond.value, h1, h2, h3, h4, g1, g2, g3, g4, g5, g6]
def isCode : Jvm.Cond → Bool
  | .code _ _ _ _ => true
  | _ => false
theorem all_split {L : List Jvm.Cond} {P : Jvm.Cond → Bool} (h1 : L.all (fun c => isCode c || P c) = true) (h2 : ∀ c ∈ L.filter isCode, P c = true) : L.all P = true := by
  refine List.all_eq_true.mpr fun c hc => ?_
  have h := List.all_eq_true.mp h1 c hc
  rcases Bool.eq_false_or_eq_true (isCode c) with hi | hi
  · exact h2 c (List.mem_filter.mpr ⟨hc, hi⟩)
  · simpa [hi] using h
set_option maxRecDepth 65536 in
theorem w_c0 : (Jvm.Cond.code x code maxLocals ret).before args0 about1 = true := code_word (m := ⟨1, 2⟩) (meth := k1m2) (c := k1c2) (by decide +kernel) rfl rfl rfl (by decide +kernel)
set_option maxRecDepth 65536 in
theorem w_c1 : (Jvm.Cond.code ({ cls := "com/example/ambit/ambit/ReachNextPinLaw", name := "pick", desc := "(I)Lcom/example/ambit/ambit/StatementRules$Reach;" } : Jvm.MethodName) method_2_code (2 : Nat) (Option.some (Jvm.ClassFile.FieldType.object "com/example/ambit/ambit/StatementRules$Reach"))).before args0 about1 = true := code_word (m := ⟨1, 1⟩) (meth := k1m1) (c := k1c1) (by decide +kernel) rfl rfl rfl (by decide +kernel)
set_option maxRecDepth 65536 in
theorem w_c2 : (Jvm.Cond.code ({ cls := "com/example/ambit/ambit/StatementRules$Reach", name := "next", desc := "(Z)Lcom/example/ambit/ambit/StatementRules$Reach;" } : Jvm.MethodName) prog_57_method_4_code (3 : Nat) (Option.some (Jvm.ClassFile.FieldType.object "com/example/ambit/ambit/StatementRules$Reach"))).before args0 about1 = true := code_word (m := ⟨6, 0⟩) (meth := k6m0) (c := k6c0) (by decide +kernel) rfl rfl rfl (by decide +kernel)
def codes1 : List Jvm.Cond := [Jvm.Cond.code x code maxLocals ret, Jvm.Cond.code ({ cls := "com/example/ambit/ambit/ReachNextPinLaw", name := "pick", desc := "(I)Lcom/example/ambit/ambit/StatementRules$Reach;" } : Jvm.MethodName) method_2_code (2 : Nat) (Option.some (Jvm.ClassFile.FieldType.object "com/example/ambit/ambit/StatementRules$Reach")), Jvm.Cond.code ({ cls := "com/example/ambit/ambit/StatementRules$Reach", name := "next", desc := "(Z)Lcom/example/ambit/ambit/StatementRules$Reach;" } : Jvm.MethodName) prog_57_method_4_code (3 : Nat) (Option.some (Jvm.ClassFile.FieldType.object "com/example/ambit/ambit/StatementRules$Reach"))]
set_option maxRecDepth 65536 in
theorem codes_eq : words1.filter isCode = codes1 := rfl
theorem w_codes : ∀ c ∈ words1.filter isCode, c.before args0 about1 = true := by
  rw [codes_eq]
  intro c hc
  simp only [codes1, List.mem_cons, List.not_mem_nil, or_false] at hc
  rcases hc with rfl | rfl | rfl
  · exact w_c0
  · exact w_c1
  · exact w_c2
set_option maxRecDepth 65536 in
theorem w_t1 : words1.all (fun c => isCode c || c.before args0 about1) = true := by decide +kernel
theorem w_tables : (allAtoms (Jvm.Cond.code x code maxLocals ret :: tables_1)).before args0 about1 = true := by
  rw [allAtoms_all]
  show words1.all (fun c => c.before args0 about1) = true
  refine all_split ?_ w_codes
  rw [w_t1]
set_option maxRecDepth 65536 in
theorem w_case : (Jvm.Cond.and given_1 narrow_1).before args0 about1 = true := by decide +kernel
theorem w_applies : (headSpec (Jvm.Cond.code x code maxLocals ret :: tables_1) room_1).applies x e0.platform about1 = true :=
  (Spec.applies_iff w_frames).mpr ⟨w_running, w_runnable, w_alone, w_named, w_hears, w_ripe, w_room, w_tables⟩
theorem atStart : AtStart classFile x code maxLocals ret World_1 tables_1 room_1 Calls_1 rest_1 Pre_1 launch0 p0 e0 about1 theMethod args0 below0 :=
  ⟨lists_1, trivial, launch0.admits_env _ _ _, launch0.least_env, fairChoices_fair.cas, fairChoices_fair.clock, w_frames, w_args, w_heap, w_applies, trivial, trivial, w_case⟩
end start1
theorem witness_1 : WitnessClaimed_1 := ⟨start1.p0, start1.e0, start1.about1, start1.theMethod, start1.args0, start1.below0, start1.atStart⟩
end Jvm.Pilot.@@N@@
