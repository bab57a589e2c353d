import JvmDerived
import JvmDerived.Pilot.@@N@@Statement
import JvmDerived.Pilot.@@N@@Code
set_option linter.unusedVariables false
set_option linter.unusedSimpArgs false

namespace Jvm.RoadKit
open Sem ClassFile Op Lib Jvm.Stand Jvm.Free Jvm.LawKit
section New
variable {p : Program} {l : Launch} {e : Env} {R : Room} {s : State} {m : MethodId} {args : Array Value} {below : List Frame} {meth : Method} {c : Code} {T : State} {locs : List Loc} {cells slots : Nat}
theorem retI (X : Stand p l e R s m args below meth c T locs cells slots) (hx : p.tables.exec = Jvm.exec) {pc : Nat} {Ls : Array Slot} {z : Int32} {rest : List Value} (hret : meth.sig.returnType = some .int) (hd : decode c.code pc = .ok (.ireturn, 1)) {fs : List Frame}
    (hl : ∀ (f : JFrame) (acts : List Action), f.method = m → f.locked = none → f.entered = [] → (doReturn e (T.setTop f) acts (some (.int z))).1 = T.setFrames fs) : Steps p.tables e below (T.setTop (mkF m pc Ls (.int z :: rest))) (T.setFrames fs) := by
  have hm' : T.vm.method? m = some meth := X.method'
  have hn : narrow .int (.int z) = .int z := rfl
  show Steps p.tables e below (T.setTop { method := m, pc := pc, locals := Ls, stack := _ :: rest, locked := none }) _
  jvm_step X.here [X.here.top, hx, hd, hm', hret, hn]
  first | (intro acts; rw [hl _ acts rfl rfl rfl]) | rw [hl _ _ rfl rfl rfl]
  exact Steps.refl _
end New
end Jvm.RoadKit

namespace Jvm.Pilot.@@N@@
open Jvm Jvm.ClassFile Sem Op Lib Jvm.Free Jvm.Stand Jvm.LawKit Jvm.RoadKit Bundle Jvm.Pilot.@@N@@.Jvm.D
theorem own_fld {args : Array Value} {Z : State} {t : Term} {C n d : String} {k : Int32} {a : Addr} (ht : t.eval args Z none [] Z = some (.ref a)) (h : (Jvm.Cond.eq (.field t C n d) (.int k)).value args Z none Z [] = some true) : Fld Z Z.heap a C n d (.int k) := by
  refine Fld.start ?_
  rw [← fld_at (args := args) (first := Z) (o := none) (idx := []) ht]
  cases hx : (Term.field t C n d).eval args Z none [] Z with
  | none => simp [Cond.value, hx] at h
  | some x => cases x <;> simp_all [Cond.value, Term.eval]
theorem d1_0 : decode prog_46_method_6_code 0 = .ok (.aload_n 0, 1) := by decide +kernel
theorem d1_1 : decode prog_46_method_6_code 1 = .ok (.getstatic 7, 3) := by decide +kernel
theorem d1_4 : decode prog_46_method_6_code 4 = .ok (.if_acmp .eq 7, 3) := by decide +kernel
theorem d1_11 : decode prog_46_method_6_code 11 = .ok (.iconst 0, 1) := by decide +kernel
theorem d1_12 : decode prog_46_method_6_code 12 = .ok (.ireturn, 1) := by decide +kernel
theorem pn_0 : plainName "com/example/albero/albero/mode/ColumnPath$Node" = true := by first | (simp [plainName, overriddenIn]; done) | decide +kernel
theorem ef_1 (m : MethodId) (x0 : Addr) : entryFrame m #[(.ref x0)] 1 = mkF m 0 #[.val (.ref x0)] [] := by first | (simp [entryFrame, mkF, argsToLocals, Value.category]; done) | rfl
def Q_rm_isA (Z : State) (w_ATTRIBUTE : Addr) (h0 : Heap) (n0 : Nat) (v : Option Value) (h : Heap) (L : List Loc) : Prop := v = some (.int (0 : Int32)) ∧ Fr n0 L ∧ h = h0
set_option maxRecDepth 65536 in
set_option maxHeartbeats 40000000 in
theorem rm_isA (l : Launch) (Z : State) (a0 : Array Value) (hw : ∀ d ∈ tables_1, d.before a0 Z = true) (ws : List Jvm.Cond) (w_ATTRIBUTE : Addr) (h0 : Heap) (n0 : Nat) (Z0 : n0 ≤ h0.size) (S_ATTRIBUTE : Sta Z h0 "com/example/albero/albero/mode/ColumnPath$Node" "ATTRIBUTE" "Lcom/example/albero/albero/mode/ColumnPath$Node;" (.ref w_ATTRIBUTE)) :
    MetFree l (⟨"com/example/albero/albero/mode/ColumnPath$Node", "isContent", "()Z"⟩ : MethodName) (head1 (Jvm.Cond.code (⟨"com/example/albero/albero/mode/ColumnPath$Node", "isContent", "()Z"⟩ : MethodName) prog_46_method_6_code 1 (some .boolean) :: ws) ({ frames := 0, cells := 0, slots := 0, locals := 0 } : Room)) (fun a U => a = #[(.ref w_ATTRIBUTE)] ∧ Z.Warmed39 U.vm ∧ U.heap = h0) (fun _ _ _ _ _ => True) (fun _ U o U' => ∃ v L, o = .returned v ∧ Q_rm_isA Z w_ATTRIBUTE h0 n0 v U'.heap L ∧ FrameEnd U o U' L ({ frames := 0, cells := 0, slots := 0, locals := 0 } : Room).cells ({ frames := 0, cells := 0, slots := 0, locals := 0 } : Room).slots) := by
  refine MetFree.of_bodySF (plainFor_of_name pn_0) hisR ?_
  intro p e s m args below meth c s₁ Bd hml0 hP hK
  obtain ⟨rfl, hZ, hh⟩ := hP
  have hx := Bd.exec
  have hby := Bd.bytes
  have hml : c.maxLocals = 1 := hml0
  have hown : s.vm.findClass "com/example/albero/albero/mode/ColumnPath$Node" = some m.cls := findClass_of_methodNamed Bd.named
  have hnm := (name_of_methodNamed Bd.named Bd.method).1
  have X0 : Stand p l e ({ frames := 0, cells := 0, slots := 0, locals := 0 } : Room) s m #[(.ref w_ATTRIBUTE)] below meth c s₁ [] 0 0 := Stand.of_body Bd
  have e0 : s₁.heap = h0 := by rw [← hh, Bd.state]; rfl
  have N0 := Fr.nil n0
  have pre0 : ∀ t, Steps p.tables e below (s₁.setTop (mkF m 0 #[.val (.ref w_ATTRIBUTE)] [])) t → Steps p.tables e below (s₁.setTop (entryFrame m #[(.ref w_ATTRIBUTE)] 1)) t := fun t k => castTop (ef_1 m w_ATTRIBUTE) k
  obtain ⟨T1, X1, e1, st1⟩ := getS2 X0 hx hZ hown (host := "") (Or.inl (hw _ (List.mem_of_getElem? (i := 9) rfl))) Via.refl e0 S_ATTRIBUTE (g := (mkF m 1 #[.val (.ref w_ATTRIBUTE)] [(.ref w_ATTRIBUTE)])) rfl (hb hby d1_1)
  obtain ⟨fs, hr, hrun, hended, hW, hsame⟩ := X1.leave (v := some (.int (0 : Int32))) (fun h => by rw [Bd.returns] at h; cases h)
  refine ⟨_, _, pre0 _ ?_, hrun, hended, _, _, rfl, ?_, ⟨_, rfl⟩, hW, hsame.mono (by decide) (by decide)⟩
  · show Steps p.tables e below (s₁.setTop (mkF m 0 #[.val (.ref w_ATTRIBUTE)] [])) _
    refine XS.aloadN X0.here hx rfl (hb hby d1_0) rfl rfl ?_
    show Steps p.tables e below (s₁.setTop (mkF m 1 #[.val (.ref w_ATTRIBUTE)] [(.ref w_ATTRIBUTE)])) _
    refine st1 _ ?_
    show Steps p.tables e below (T1.setTop (mkF m 4 #[.val (.ref w_ATTRIBUTE)] [(.ref w_ATTRIBUTE), (.ref w_ATTRIBUTE)])) _
    refine Jvm.RoadKit.acmp (g := (mkF m 4 #[.val (.ref w_ATTRIBUTE)] [(.ref w_ATTRIBUTE), (.ref w_ATTRIBUTE)])) X1 hx rfl rfl rfl (pc0 := 4) (pc' := 11) (same := true) rfl (hb hby d1_4) rfl (decide_eq_true rfl) (by decide) (by decide) ?_
    show Steps p.tables e below (T1.setTop (mkF m 11 #[.val (.ref w_ATTRIBUTE)] [])) _
    refine XS.iconst X1.here hx rfl (hb hby d1_11) ?_
    show Steps p.tables e below (T1.setTop (mkF m 12 #[.val (.ref w_ATTRIBUTE)] [(.int (0 : Int32))])) _
    exact retN X1 hx (t := .boolean) Bd.returns (by simp) (hb hby d1_12) hr
  · show Q_rm_isA Z w_ATTRIBUTE h0 n0 _ T1.heap _
    rw [e1]
    exact ⟨rfl, N0, rfl⟩
theorem d1_7 : decode prog_46_method_6_code 7 = .ok (.iconst 1, 1) := by decide +kernel
theorem d1_8 : decode prog_46_method_6_code 8 = .ok (.goto 4, 3) := by decide +kernel
def Q_rm_isO (Z : State) (a1 : Addr) (w_ATTRIBUTE : Addr) (h0 : Heap) (n0 : Nat) (v : Option Value) (h : Heap) (L : List Loc) : Prop := v = some (.int (1 : Int32)) ∧ Fr n0 L ∧ h = h0
set_option maxRecDepth 65536 in
set_option maxHeartbeats 40000000 in
theorem rm_isO (l : Launch) (Z : State) (a0 : Array Value) (hw : ∀ d ∈ tables_1, d.before a0 Z = true) (ws : List Jvm.Cond) (a1 : Addr) (w_ATTRIBUTE : Addr) (h0 : Heap) (n0 : Nat) (Z0 : n0 ≤ h0.size) (S_ATTRIBUTE : Sta Z h0 "com/example/albero/albero/mode/ColumnPath$Node" "ATTRIBUTE" "Lcom/example/albero/albero/mode/ColumnPath$Node;" (.ref w_ATTRIBUTE)) (ne1 : a1 ≠ w_ATTRIBUTE) :
    MetFree l (⟨"com/example/albero/albero/mode/ColumnPath$Node", "isContent", "()Z"⟩ : MethodName) (head1 (Jvm.Cond.code (⟨"com/example/albero/albero/mode/ColumnPath$Node", "isContent", "()Z"⟩ : MethodName) prog_46_method_6_code 1 (some .boolean) :: ws) ({ frames := 0, cells := 0, slots := 0, locals := 0 } : Room)) (fun a U => a = #[(.ref a1)] ∧ Z.Warmed39 U.vm ∧ U.heap = h0) (fun _ _ _ _ _ => True) (fun _ U o U' => ∃ v L, o = .returned v ∧ Q_rm_isO Z a1 w_ATTRIBUTE h0 n0 v U'.heap L ∧ FrameEnd U o U' L ({ frames := 0, cells := 0, slots := 0, locals := 0 } : Room).cells ({ frames := 0, cells := 0, slots := 0, locals := 0 } : Room).slots) := by
  refine MetFree.of_bodySF (plainFor_of_name pn_0) hisR ?_
  intro p e s m args below meth c s₁ Bd hml0 hP hK
  obtain ⟨rfl, hZ, hh⟩ := hP
  have hx := Bd.exec
  have hby := Bd.bytes
  have hml : c.maxLocals = 1 := hml0
  have hown : s.vm.findClass "com/example/albero/albero/mode/ColumnPath$Node" = some m.cls := findClass_of_methodNamed Bd.named
  have hnm := (name_of_methodNamed Bd.named Bd.method).1
  have X0 : Stand p l e ({ frames := 0, cells := 0, slots := 0, locals := 0 } : Room) s m #[(.ref a1)] below meth c s₁ [] 0 0 := Stand.of_body Bd
  have e0 : s₁.heap = h0 := by rw [← hh, Bd.state]; rfl
  have N0 := Fr.nil n0
  have pre0 : ∀ t, Steps p.tables e below (s₁.setTop (mkF m 0 #[.val (.ref a1)] [])) t → Steps p.tables e below (s₁.setTop (entryFrame m #[(.ref a1)] 1)) t := fun t k => castTop (ef_1 m a1) k
  obtain ⟨T1, X1, e1, st1⟩ := getS2 X0 hx hZ hown (host := "") (Or.inl (hw _ (List.mem_of_getElem? (i := 9) rfl))) Via.refl e0 S_ATTRIBUTE (g := (mkF m 1 #[.val (.ref a1)] [(.ref a1)])) rfl (hb hby d1_1)
  obtain ⟨fs, hr, hrun, hended, hW, hsame⟩ := X1.leave (v := some (.int (1 : Int32))) (fun h => by rw [Bd.returns] at h; cases h)
  refine ⟨_, _, pre0 _ ?_, hrun, hended, _, _, rfl, ?_, ⟨_, rfl⟩, hW, hsame.mono (by decide) (by decide)⟩
  · show Steps p.tables e below (s₁.setTop (mkF m 0 #[.val (.ref a1)] [])) _
    refine XS.aloadN X0.here hx rfl (hb hby d1_0) rfl rfl ?_
    show Steps p.tables e below (s₁.setTop (mkF m 1 #[.val (.ref a1)] [(.ref a1)])) _
    refine st1 _ ?_
    show Steps p.tables e below (T1.setTop (mkF m 4 #[.val (.ref a1)] [(.ref w_ATTRIBUTE), (.ref a1)])) _
    refine Jvm.RoadKit.acmp (g := (mkF m 4 #[.val (.ref a1)] [(.ref w_ATTRIBUTE), (.ref a1)])) X1 hx rfl rfl rfl (pc0 := 4) (pc' := 7) (same := false) rfl (hb hby d1_4) rfl (decide_eq_false fun q => ne1 (Value.ref.inj q)) (by decide) (by decide) ?_
    show Steps p.tables e below (T1.setTop (mkF m 7 #[.val (.ref a1)] [])) _
    refine XS.iconst X1.here hx rfl (hb hby d1_7) ?_
    show Steps p.tables e below (T1.setTop (mkF m 8 #[.val (.ref a1)] [(.int (1 : Int32))])) _
    refine XS.goto X1.here hx rfl (pc0 := 8) (pc' := 12) rfl (hb hby d1_8) (by decide) (by decide) ?_
    show Steps p.tables e below (T1.setTop (mkF m 12 #[.val (.ref a1)] [(.int (1 : Int32))])) _
    exact retN X1 hx (t := .boolean) Bd.returns (by simp) (hb hby d1_12) hr
  · show Q_rm_isO Z a1 w_ATTRIBUTE h0 n0 _ T1.heap _
    rw [e1]
    exact ⟨rfl, N0, rfl⟩
theorem d2_0 : decode prog_46_method_5_code 0 = .ok (.aload_n 0, 1) := by decide +kernel
theorem d2_1 : decode prog_46_method_5_code 1 = .ok (.getfield 48, 3) := by decide +kernel
theorem d2_4 : decode prog_46_method_5_code 4 = .ok (.ireturn, 1) := by decide +kernel
theorem ef_2 (m : MethodId) (x0 : Addr) : entryFrame m #[(.ref x0)] 1 = mkF m 0 #[.val (.ref x0)] [] := by first | (simp [entryFrame, mkF, argsToLocals, Value.category]; done) | rfl
def Q_rm_hold (Z : State) (a1 : Addr) (p1 : Int32) (h0 : Heap) (n0 : Nat) (v : Option Value) (h : Heap) (L : List Loc) : Prop := v = some (.int (nar .boolean p1)) ∧ Fr n0 L ∧ h = h0
set_option maxRecDepth 65536 in
set_option maxHeartbeats 40000000 in
theorem rm_hold (l : Launch) (Z : State) (a0 : Array Value) (hw : ∀ d ∈ tables_1, d.before a0 Z = true) (ws : List Jvm.Cond) (a1 : Addr) (p1 : Int32) (h0 : Heap) (n0 : Nat) (Z0 : n0 ≤ h0.size) (F1 : Fld Z h0 a1 "com/example/albero/albero/mode/ColumnPath$Node" "mayHoldXml" "Z" (.int p1)) :
    MetFree l (⟨"com/example/albero/albero/mode/ColumnPath$Node", "mayHoldXml", "()Z"⟩ : MethodName) (head1 (Jvm.Cond.code (⟨"com/example/albero/albero/mode/ColumnPath$Node", "mayHoldXml", "()Z"⟩ : MethodName) prog_46_method_5_code 1 (some .boolean) :: ws) ({ frames := 0, cells := 0, slots := 0, locals := 0 } : Room)) (fun a U => a = #[(.ref a1)] ∧ Z.Warmed39 U.vm ∧ U.heap = h0) (fun _ _ _ _ _ => True) (fun _ U o U' => ∃ v L, o = .returned v ∧ Q_rm_hold Z a1 p1 h0 n0 v U'.heap L ∧ FrameEnd U o U' L ({ frames := 0, cells := 0, slots := 0, locals := 0 } : Room).cells ({ frames := 0, cells := 0, slots := 0, locals := 0 } : Room).slots) := by
  refine MetFree.of_bodySF (plainFor_of_name pn_0) hisR ?_
  intro p e s m args below meth c s₁ Bd hml0 hP hK
  obtain ⟨rfl, hZ, hh⟩ := hP
  have hx := Bd.exec
  have hby := Bd.bytes
  have hml : c.maxLocals = 1 := hml0
  have hown : s.vm.findClass "com/example/albero/albero/mode/ColumnPath$Node" = some m.cls := findClass_of_methodNamed Bd.named
  have hnm := (name_of_methodNamed Bd.named Bd.method).1
  have X0 : Stand p l e ({ frames := 0, cells := 0, slots := 0, locals := 0 } : Room) s m #[(.ref a1)] below meth c s₁ [] 0 0 := Stand.of_body Bd
  have e0 : s₁.heap = h0 := by rw [← hh, Bd.state]; rfl
  have N0 := Fr.nil n0
  have pre0 : ∀ t, Steps p.tables e below (s₁.setTop (mkF m 0 #[.val (.ref a1)] [])) t → Steps p.tables e below (s₁.setTop (entryFrame m #[(.ref a1)] 1)) t := fun t k => castTop (ef_2 m a1) k
  obtain ⟨T1, X1, e1, st1⟩ := getF X0 hx hZ hown (host := "") (Or.inl (hw _ (List.mem_of_getElem? (i := 16) rfl))) Via.refl e0 F1 (g := (mkF m 1 #[.val (.ref a1)] [(.ref a1)])) rfl rfl (hb hby d2_1)
  obtain ⟨fs, hr, hrun, hended, hW, hsame⟩ := X1.leave (v := some (.int (nar .boolean p1))) (fun h => by rw [Bd.returns] at h; cases h)
  refine ⟨_, _, pre0 _ ?_, hrun, hended, _, _, rfl, ?_, ⟨_, rfl⟩, hW, hsame.mono (by decide) (by decide)⟩
  · show Steps p.tables e below (s₁.setTop (mkF m 0 #[.val (.ref a1)] [])) _
    refine XS.aloadN X0.here hx rfl (hb hby d2_0) rfl rfl ?_
    show Steps p.tables e below (s₁.setTop (mkF m 1 #[.val (.ref a1)] [(.ref a1)])) _
    refine st1 _ ?_
    show Steps p.tables e below (T1.setTop (mkF m 4 #[.val (.ref a1)] [(.int p1)])) _
    exact retN X1 hx (t := .boolean) Bd.returns (by simp) (hb hby d2_4) hr
  · show Q_rm_hold Z a1 p1 h0 n0 _ T1.heap _
    rw [e1]
    exact ⟨rfl, N0, rfl⟩
theorem d3_0 : decode prog_46_method_7_code 0 = .ok (.aload_n 0, 1) := by decide +kernel
theorem d3_1 : decode prog_46_method_7_code 1 = .ok (.getstatic 3, 3) := by decide +kernel
theorem d3_4 : decode prog_46_method_7_code 4 = .ok (.if_acmp .ne 7, 3) := by decide +kernel
theorem d3_7 : decode prog_46_method_7_code 7 = .ok (.iconst 1, 1) := by decide +kernel
theorem d3_8 : decode prog_46_method_7_code 8 = .ok (.goto 4, 3) := by decide +kernel
theorem d3_12 : decode prog_46_method_7_code 12 = .ok (.ireturn, 1) := by decide +kernel
theorem ef_3 (m : MethodId) (x0 : Addr) : entryFrame m #[(.ref x0)] 1 = mkF m 0 #[.val (.ref x0)] [] := by first | (simp [entryFrame, mkF, argsToLocals, Value.category]; done) | rfl
def Q_rm_nilE (Z : State) (w_ELEMENT : Addr) (h0 : Heap) (n0 : Nat) (v : Option Value) (h : Heap) (L : List Loc) : Prop := v = some (.int (1 : Int32)) ∧ Fr n0 L ∧ h = h0
set_option maxRecDepth 65536 in
set_option maxHeartbeats 40000000 in
theorem rm_nilE (l : Launch) (Z : State) (a0 : Array Value) (hw : ∀ d ∈ tables_1, d.before a0 Z = true) (ws : List Jvm.Cond) (w_ELEMENT : Addr) (h0 : Heap) (n0 : Nat) (Z0 : n0 ≤ h0.size) (S_ELEMENT : Sta Z h0 "com/example/albero/albero/mode/ColumnPath$Node" "ELEMENT" "Lcom/example/albero/albero/mode/ColumnPath$Node;" (.ref w_ELEMENT)) :
    MetFree l (⟨"com/example/albero/albero/mode/ColumnPath$Node", "mayBeNil", "()Z"⟩ : MethodName) (head1 (Jvm.Cond.code (⟨"com/example/albero/albero/mode/ColumnPath$Node", "mayBeNil", "()Z"⟩ : MethodName) prog_46_method_7_code 1 (some .boolean) :: ws) ({ frames := 0, cells := 0, slots := 0, locals := 0 } : Room)) (fun a U => a = #[(.ref w_ELEMENT)] ∧ Z.Warmed39 U.vm ∧ U.heap = h0) (fun _ _ _ _ _ => True) (fun _ U o U' => ∃ v L, o = .returned v ∧ Q_rm_nilE Z w_ELEMENT h0 n0 v U'.heap L ∧ FrameEnd U o U' L ({ frames := 0, cells := 0, slots := 0, locals := 0 } : Room).cells ({ frames := 0, cells := 0, slots := 0, locals := 0 } : Room).slots) := by
  refine MetFree.of_bodySF (plainFor_of_name pn_0) hisR ?_
  intro p e s m args below meth c s₁ Bd hml0 hP hK
  obtain ⟨rfl, hZ, hh⟩ := hP
  have hx := Bd.exec
  have hby := Bd.bytes
  have hml : c.maxLocals = 1 := hml0
  have hown : s.vm.findClass "com/example/albero/albero/mode/ColumnPath$Node" = some m.cls := findClass_of_methodNamed Bd.named
  have hnm := (name_of_methodNamed Bd.named Bd.method).1
  have X0 : Stand p l e ({ frames := 0, cells := 0, slots := 0, locals := 0 } : Room) s m #[(.ref w_ELEMENT)] below meth c s₁ [] 0 0 := Stand.of_body Bd
  have e0 : s₁.heap = h0 := by rw [← hh, Bd.state]; rfl
  have N0 := Fr.nil n0
  have pre0 : ∀ t, Steps p.tables e below (s₁.setTop (mkF m 0 #[.val (.ref w_ELEMENT)] [])) t → Steps p.tables e below (s₁.setTop (entryFrame m #[(.ref w_ELEMENT)] 1)) t := fun t k => castTop (ef_3 m w_ELEMENT) k
  obtain ⟨T1, X1, e1, st1⟩ := getS2 X0 hx hZ hown (host := "") (Or.inl (hw _ (List.mem_of_getElem? (i := 23) rfl))) Via.refl e0 S_ELEMENT (g := (mkF m 1 #[.val (.ref w_ELEMENT)] [(.ref w_ELEMENT)])) rfl (hb hby d3_1)
  obtain ⟨fs, hr, hrun, hended, hW, hsame⟩ := X1.leave (v := some (.int (1 : Int32))) (fun h => by rw [Bd.returns] at h; cases h)
  refine ⟨_, _, pre0 _ ?_, hrun, hended, _, _, rfl, ?_, ⟨_, rfl⟩, hW, hsame.mono (by decide) (by decide)⟩
  · show Steps p.tables e below (s₁.setTop (mkF m 0 #[.val (.ref w_ELEMENT)] [])) _
    refine XS.aloadN X0.here hx rfl (hb hby d3_0) rfl rfl ?_
    show Steps p.tables e below (s₁.setTop (mkF m 1 #[.val (.ref w_ELEMENT)] [(.ref w_ELEMENT)])) _
    refine st1 _ ?_
    show Steps p.tables e below (T1.setTop (mkF m 4 #[.val (.ref w_ELEMENT)] [(.ref w_ELEMENT), (.ref w_ELEMENT)])) _
    refine Jvm.RoadKit.acmp (g := (mkF m 4 #[.val (.ref w_ELEMENT)] [(.ref w_ELEMENT), (.ref w_ELEMENT)])) X1 hx rfl rfl rfl (pc0 := 4) (pc' := 7) (same := true) rfl (hb hby d3_4) rfl (decide_eq_true rfl) (by decide) (by decide) ?_
    show Steps p.tables e below (T1.setTop (mkF m 7 #[.val (.ref w_ELEMENT)] [])) _
    refine XS.iconst X1.here hx rfl (hb hby d3_7) ?_
    show Steps p.tables e below (T1.setTop (mkF m 8 #[.val (.ref w_ELEMENT)] [(.int (1 : Int32))])) _
    refine XS.goto X1.here hx rfl (pc0 := 8) (pc' := 12) rfl (hb hby d3_8) (by decide) (by decide) ?_
    show Steps p.tables e below (T1.setTop (mkF m 12 #[.val (.ref w_ELEMENT)] [(.int (1 : Int32))])) _
    exact retN X1 hx (t := .boolean) Bd.returns (by simp) (hb hby d3_12) hr
  · show Q_rm_nilE Z w_ELEMENT h0 n0 _ T1.heap _
    rw [e1]
    exact ⟨rfl, N0, rfl⟩
theorem d3_11 : decode prog_46_method_7_code 11 = .ok (.iconst 0, 1) := by decide +kernel
def Q_rm_nilO (Z : State) (a1 : Addr) (w_ELEMENT : Addr) (h0 : Heap) (n0 : Nat) (v : Option Value) (h : Heap) (L : List Loc) : Prop := v = some (.int (0 : Int32)) ∧ Fr n0 L ∧ h = h0
set_option maxRecDepth 65536 in
set_option maxHeartbeats 40000000 in
theorem rm_nilO (l : Launch) (Z : State) (a0 : Array Value) (hw : ∀ d ∈ tables_1, d.before a0 Z = true) (ws : List Jvm.Cond) (a1 : Addr) (w_ELEMENT : Addr) (h0 : Heap) (n0 : Nat) (Z0 : n0 ≤ h0.size) (S_ELEMENT : Sta Z h0 "com/example/albero/albero/mode/ColumnPath$Node" "ELEMENT" "Lcom/example/albero/albero/mode/ColumnPath$Node;" (.ref w_ELEMENT)) (ne1 : a1 ≠ w_ELEMENT) :
    MetFree l (⟨"com/example/albero/albero/mode/ColumnPath$Node", "mayBeNil", "()Z"⟩ : MethodName) (head1 (Jvm.Cond.code (⟨"com/example/albero/albero/mode/ColumnPath$Node", "mayBeNil", "()Z"⟩ : MethodName) prog_46_method_7_code 1 (some .boolean) :: ws) ({ frames := 0, cells := 0, slots := 0, locals := 0 } : Room)) (fun a U => a = #[(.ref a1)] ∧ Z.Warmed39 U.vm ∧ U.heap = h0) (fun _ _ _ _ _ => True) (fun _ U o U' => ∃ v L, o = .returned v ∧ Q_rm_nilO Z a1 w_ELEMENT h0 n0 v U'.heap L ∧ FrameEnd U o U' L ({ frames := 0, cells := 0, slots := 0, locals := 0 } : Room).cells ({ frames := 0, cells := 0, slots := 0, locals := 0 } : Room).slots) := by
  refine MetFree.of_bodySF (plainFor_of_name pn_0) hisR ?_
  intro p e s m args below meth c s₁ Bd hml0 hP hK
  obtain ⟨rfl, hZ, hh⟩ := hP
  have hx := Bd.exec
  have hby := Bd.bytes
  have hml : c.maxLocals = 1 := hml0
  have hown : s.vm.findClass "com/example/albero/albero/mode/ColumnPath$Node" = some m.cls := findClass_of_methodNamed Bd.named
  have hnm := (name_of_methodNamed Bd.named Bd.method).1
  have X0 : Stand p l e ({ frames := 0, cells := 0, slots := 0, locals := 0 } : Room) s m #[(.ref a1)] below meth c s₁ [] 0 0 := Stand.of_body Bd
  have e0 : s₁.heap = h0 := by rw [← hh, Bd.state]; rfl
  have N0 := Fr.nil n0
  have pre0 : ∀ t, Steps p.tables e below (s₁.setTop (mkF m 0 #[.val (.ref a1)] [])) t → Steps p.tables e below (s₁.setTop (entryFrame m #[(.ref a1)] 1)) t := fun t k => castTop (ef_3 m a1) k
  obtain ⟨T1, X1, e1, st1⟩ := getS2 X0 hx hZ hown (host := "") (Or.inl (hw _ (List.mem_of_getElem? (i := 23) rfl))) Via.refl e0 S_ELEMENT (g := (mkF m 1 #[.val (.ref a1)] [(.ref a1)])) rfl (hb hby d3_1)
  obtain ⟨fs, hr, hrun, hended, hW, hsame⟩ := X1.leave (v := some (.int (0 : Int32))) (fun h => by rw [Bd.returns] at h; cases h)
  refine ⟨_, _, pre0 _ ?_, hrun, hended, _, _, rfl, ?_, ⟨_, rfl⟩, hW, hsame.mono (by decide) (by decide)⟩
  · show Steps p.tables e below (s₁.setTop (mkF m 0 #[.val (.ref a1)] [])) _
    refine XS.aloadN X0.here hx rfl (hb hby d3_0) rfl rfl ?_
    show Steps p.tables e below (s₁.setTop (mkF m 1 #[.val (.ref a1)] [(.ref a1)])) _
    refine st1 _ ?_
    show Steps p.tables e below (T1.setTop (mkF m 4 #[.val (.ref a1)] [(.ref w_ELEMENT), (.ref a1)])) _
    refine Jvm.RoadKit.acmp (g := (mkF m 4 #[.val (.ref a1)] [(.ref w_ELEMENT), (.ref a1)])) X1 hx rfl rfl rfl (pc0 := 4) (pc' := 11) (same := false) rfl (hb hby d3_4) rfl (decide_eq_false fun q => ne1 (Value.ref.inj q)) (by decide) (by decide) ?_
    show Steps p.tables e below (T1.setTop (mkF m 11 #[.val (.ref a1)] [])) _
    refine XS.iconst X1.here hx rfl (hb hby d3_11) ?_
    show Steps p.tables e below (T1.setTop (mkF m 12 #[.val (.ref a1)] [(.int (0 : Int32))])) _
    exact retN X1 hx (t := .boolean) Bd.returns (by simp) (hb hby d3_12) hr
  · show Q_rm_nilO Z a1 w_ELEMENT h0 n0 _ T1.heap _
    rw [e1]
    exact ⟨rfl, N0, rfl⟩
theorem pd_0 : parseMethodDescriptor "()Z" = some ⟨[], some .boolean⟩ := by decide +kernel
theorem pn_1 : plainName "com/example/albero/albero/mode/NodeIsContentPinLaw" = true := by first | (simp [plainName, overriddenIn]; done) | decide +kernel
theorem ef_0 (m : MethodId) (x0 : Int32) : entryFrame m #[(.int x0)] maxLocals = mkF m 0 #[.val (.int x0), .unset, .unset, .unset, .unset] [] := by first | (simp [entryFrame, mkF, argsToLocals, Value.category, maxLocals]; done) | rfl
def Q_rm_law (Z : State) (p0 : Int32) (w_ELEMENT : Addr) (w_ATTRIBUTE : Addr) (w_TEXT : Addr) (w_PROCESSING_INSTRUCTION : Addr) (w_LIST_ITEM : Addr) (w_COMMENT : Addr) (w_CONTENT : Addr) (h0 : Heap) (n0 : Nat) (v : Option Value) (h : Heap) (L : List Loc) : Prop := v = some (.int (1 : Int32)) ∧ Fr n0 L ∧ h = h0
set_option maxRecDepth 65536 in
set_option maxHeartbeats 40000000 in
theorem rm_law (l : Launch) (Z : State) (a0 : Array Value) (hw : ∀ d ∈ tables_1, d.before a0 Z = true) (ws : List Jvm.Cond) (p0 : Int32) (w_ELEMENT : Addr) (w_ATTRIBUTE : Addr) (w_TEXT : Addr) (w_PROCESSING_INSTRUCTION : Addr) (w_LIST_ITEM : Addr) (w_COMMENT : Addr) (w_CONTENT : Addr) (h0 : Heap) (n0 : Nat) (Z0 : n0 ≤ h0.size) (S_ELEMENT : Sta Z h0 "com/example/albero/albero/mode/ColumnPath$Node" "ELEMENT" "Lcom/example/albero/albero/mode/ColumnPath$Node;" (.ref w_ELEMENT)) (S_ATTRIBUTE : Sta Z h0 "com/example/albero/albero/mode/ColumnPath$Node" "ATTRIBUTE" "Lcom/example/albero/albero/mode/ColumnPath$Node;" (.ref w_ATTRIBUTE)) (S_TEXT : Sta Z h0 "com/example/albero/albero/mode/ColumnPath$Node" "TEXT" "Lcom/example/albero/albero/mode/ColumnPath$Node;" (.ref w_TEXT)) (S_PROCESSING_INSTRUCTION : Sta Z h0 "com/example/albero/albero/mode/ColumnPath$Node" "PROCESSING_INSTRUCTION" "Lcom/example/albero/albero/mode/ColumnPath$Node;" (.ref w_PROCESSING_INSTRUCTION)) (S_LIST_ITEM : Sta Z h0 "com/example/albero/albero/mode/ColumnPath$Node" "LIST_ITEM" "Lcom/example/albero/albero/mode/ColumnPath$Node;" (.ref w_LIST_ITEM)) (S_COMMENT : Sta Z h0 "com/example/albero/albero/mode/ColumnPath$Node" "COMMENT" "Lcom/example/albero/albero/mode/ColumnPath$Node;" (.ref w_COMMENT)) (S_CONTENT : Sta Z h0 "com/example/albero/albero/mode/ColumnPath$Node" "CONTENT" "Lcom/example/albero/albero/mode/ColumnPath$Node;" (.ref w_CONTENT)) (E_ELEMENT : Exa Z h0 w_ELEMENT "com/example/albero/albero/mode/ColumnPath$Node") (E_ATTRIBUTE : Exa Z h0 w_ATTRIBUTE "com/example/albero/albero/mode/ColumnPath$Node") (E_TEXT : Exa Z h0 w_TEXT "com/example/albero/albero/mode/ColumnPath$Node") (E_PROCESSING_INSTRUCTION : Exa Z h0 w_PROCESSING_INSTRUCTION "com/example/albero/albero/mode/ColumnPath$Node") (E_LIST_ITEM : Exa Z h0 w_LIST_ITEM "com/example/albero/albero/mode/ColumnPath$Node") (E_COMMENT : Exa Z h0 w_COMMENT "com/example/albero/albero/mode/ColumnPath$Node") (E_CONTENT : Exa Z h0 w_CONTENT "com/example/albero/albero/mode/ColumnPath$Node") (F_ELEMENT_ordinal : Fld Z h0 w_ELEMENT "java/lang/Enum" "ordinal" "I" (.int (0 : Int32))) (F_ELEMENT_mayHoldXml : Fld Z h0 w_ELEMENT "com/example/albero/albero/mode/ColumnPath$Node" "mayHoldXml" "Z" (.int (1 : Int32))) (F_ATTRIBUTE_ordinal : Fld Z h0 w_ATTRIBUTE "java/lang/Enum" "ordinal" "I" (.int (1 : Int32))) (F_ATTRIBUTE_mayHoldXml : Fld Z h0 w_ATTRIBUTE "com/example/albero/albero/mode/ColumnPath$Node" "mayHoldXml" "Z" (.int (0 : Int32))) (F_TEXT_ordinal : Fld Z h0 w_TEXT "java/lang/Enum" "ordinal" "I" (.int (3 : Int32))) (F_TEXT_mayHoldXml : Fld Z h0 w_TEXT "com/example/albero/albero/mode/ColumnPath$Node" "mayHoldXml" "Z" (.int (0 : Int32))) (F_PROCESSING_INSTRUCTION_ordinal : Fld Z h0 w_PROCESSING_INSTRUCTION "java/lang/Enum" "ordinal" "I" (.int (5 : Int32))) (F_PROCESSING_INSTRUCTION_mayHoldXml : Fld Z h0 w_PROCESSING_INSTRUCTION "com/example/albero/albero/mode/ColumnPath$Node" "mayHoldXml" "Z" (.int (0 : Int32))) (F_LIST_ITEM_ordinal : Fld Z h0 w_LIST_ITEM "java/lang/Enum" "ordinal" "I" (.int (6 : Int32))) (F_LIST_ITEM_mayHoldXml : Fld Z h0 w_LIST_ITEM "com/example/albero/albero/mode/ColumnPath$Node" "mayHoldXml" "Z" (.int (0 : Int32))) (F_COMMENT_ordinal : Fld Z h0 w_COMMENT "java/lang/Enum" "ordinal" "I" (.int (4 : Int32))) (F_COMMENT_mayHoldXml : Fld Z h0 w_COMMENT "com/example/albero/albero/mode/ColumnPath$Node" "mayHoldXml" "Z" (.int (0 : Int32))) (F_CONTENT_ordinal : Fld Z h0 w_CONTENT "java/lang/Enum" "ordinal" "I" (.int (2 : Int32))) (F_CONTENT_mayHoldXml : Fld Z h0 w_CONTENT "com/example/albero/albero/mode/ColumnPath$Node" "mayHoldXml" "Z" (.int (1 : Int32))) :
    MetFree l x (head1 (Jvm.Cond.code x code maxLocals ret :: ws) room_1) (fun a U => a = #[(.int p0)] ∧ Z.Warmed39 U.vm ∧ U.heap = h0) (fun _ _ _ _ _ => True) (fun _ U o U' => ∃ v L, o = .returned v ∧ Q_rm_law Z p0 w_ELEMENT w_ATTRIBUTE w_TEXT w_PROCESSING_INSTRUCTION w_LIST_ITEM w_COMMENT w_CONTENT h0 n0 v U'.heap L ∧ FrameEnd U o U' L room_1.cells room_1.slots) := by
  refine MetFree.of_bodySF (plainFor_of_name pn_1) hisR ?_
  intro p e s m args below meth c s₁ Bd hml0 hP hK
  obtain ⟨rfl, hZ, hh⟩ := hP
  have hx := Bd.exec
  have hby := Bd.bytes
  have hml : c.maxLocals = 5 := hml0
  have hown : s.vm.findClass "com/example/albero/albero/mode/NodeIsContentPinLaw" = some m.cls := findClass_of_methodNamed Bd.named
  have hnm := (name_of_methodNamed Bd.named Bd.method).1
  have X0 : Stand p l e room_1 s m #[(.int p0)] below meth c s₁ [] 0 0 := Stand.of_body Bd
  have e0 : s₁.heap = h0 := by rw [← hh, Bd.state]; rfl
  have N0 := Fr.nil n0
  have pre0 : ∀ t, Steps p.tables e below (s₁.setTop (mkF m 0 #[.val (.int p0), .unset, .unset, .unset, .unset] [])) t → Steps p.tables e below (s₁.setTop (entryFrame m #[(.int p0)] maxLocals)) t := fun t k => castTop (ef_0 m p0) k
  have ne_ELEMENT_ATTRIBUTE : w_ELEMENT ≠ w_ATTRIBUTE := Fld.ne F_ELEMENT_ordinal F_ATTRIBUTE_ordinal (by intro q; injection q with q; exact absurd q (by decide))
  have ne_TEXT_ATTRIBUTE : w_TEXT ≠ w_ATTRIBUTE := Fld.ne F_TEXT_ordinal F_ATTRIBUTE_ordinal (by intro q; injection q with q; exact absurd q (by decide))
  have ne_PROCESSING_INSTRUCTION_ATTRIBUTE : w_PROCESSING_INSTRUCTION ≠ w_ATTRIBUTE := Fld.ne F_PROCESSING_INSTRUCTION_ordinal F_ATTRIBUTE_ordinal (by intro q; injection q with q; exact absurd q (by decide))
  have ne_LIST_ITEM_ATTRIBUTE : w_LIST_ITEM ≠ w_ATTRIBUTE := Fld.ne F_LIST_ITEM_ordinal F_ATTRIBUTE_ordinal (by intro q; injection q with q; exact absurd q (by decide))
  have ne_COMMENT_ATTRIBUTE : w_COMMENT ≠ w_ATTRIBUTE := Fld.ne F_COMMENT_ordinal F_ATTRIBUTE_ordinal (by intro q; injection q with q; exact absurd q (by decide))
  have ne_CONTENT_ATTRIBUTE : w_CONTENT ≠ w_ATTRIBUTE := Fld.ne F_CONTENT_ordinal F_ATTRIBUTE_ordinal (by intro q; injection q with q; exact absurd q (by decide))
  have ne_TEXT_ELEMENT : w_TEXT ≠ w_ELEMENT := Fld.ne F_TEXT_ordinal F_ELEMENT_ordinal (by intro q; injection q with q; exact absurd q (by decide))
  have ne_PROCESSING_INSTRUCTION_ELEMENT : w_PROCESSING_INSTRUCTION ≠ w_ELEMENT := Fld.ne F_PROCESSING_INSTRUCTION_ordinal F_ELEMENT_ordinal (by intro q; injection q with q; exact absurd q (by decide))
  have ne_LIST_ITEM_ELEMENT : w_LIST_ITEM ≠ w_ELEMENT := Fld.ne F_LIST_ITEM_ordinal F_ELEMENT_ordinal (by intro q; injection q with q; exact absurd q (by decide))
  have ne_COMMENT_ELEMENT : w_COMMENT ≠ w_ELEMENT := Fld.ne F_COMMENT_ordinal F_ELEMENT_ordinal (by intro q; injection q with q; exact absurd q (by decide))
  have ne_CONTENT_ELEMENT : w_CONTENT ≠ w_ELEMENT := Fld.ne F_CONTENT_ordinal F_ELEMENT_ordinal (by intro q; injection q with q; exact absurd q (by decide))
  have k1 : ∀ target, Steps p.tables e below (s₁.setTop (mkF m 9 #[.val (.int p0), .val (.int ((p0 &&& (2147483647 : Int32)) % (7 : Int32))), .unset, .unset, .unset] [(.int ((p0 &&& (2147483647 : Int32)) % (7 : Int32)))])) target → Steps p.tables e below (s₁.setTop (mkF m 0 #[.val (.int p0), .unset, .unset, .unset, .unset] [])) target := by
    intro target kt
    show Steps p.tables e below (s₁.setTop (mkF m 0 #[.val (.int p0), .unset, .unset, .unset, .unset] [])) _
    refine XS.iloadN X0.here hx rfl (hb hby at_0) rfl ?_
    show Steps p.tables e below (s₁.setTop (mkF m 1 #[.val (.int p0), .unset, .unset, .unset, .unset] [(.int p0)])) _
    refine X0.ldcInt hx hown (mvT hZ (hw _ (List.mem_of_getElem? (i := 0) rfl))) (g := (mkF m 1 #[.val (.int p0), .unset, .unset, .unset, .unset] [(.int p0)])) rfl (hb hby at_1) _ ?_
    show Steps p.tables e below (s₁.setTop (mkF m 3 #[.val (.int p0), .unset, .unset, .unset, .unset] [(.int (2147483647 : Int32)), (.int p0)])) _
    refine XS.iand X0.here hx rfl (hb hby at_3) rfl ?_
    show Steps p.tables e below (s₁.setTop (mkF m 4 #[.val (.int p0), .unset, .unset, .unset, .unset] [(.int (p0 &&& (2147483647 : Int32)))])) _
    refine XS.bipush X0.here hx rfl (hb hby at_4) ?_
    show Steps p.tables e below (s₁.setTop (mkF m 6 #[.val (.int p0), .unset, .unset, .unset, .unset] [(.int (7 : Int32)), (.int (p0 &&& (2147483647 : Int32)))])) _
    refine iremM X0 hx rfl (hb hby at_6) rfl (by decide) ?_
    show Steps p.tables e below (s₁.setTop (mkF m 7 #[.val (.int p0), .unset, .unset, .unset, .unset] [(.int ((p0 &&& (2147483647 : Int32)) % (7 : Int32)))])) _
    refine XS.istoreN X0.here hx rfl (hb hby at_7) rfl (l' := #[.val (.int p0), .val (.int ((p0 &&& (2147483647 : Int32)) % (7 : Int32))), .unset, .unset, .unset]) rfl ?_
    show Steps p.tables e below (s₁.setTop (mkF m 8 #[.val (.int p0), .val (.int ((p0 &&& (2147483647 : Int32)) % (7 : Int32))), .unset, .unset, .unset] [])) _
    refine XS.iloadN X0.here hx rfl (hb hby at_8) rfl ?_
    exact kt
  by_cases hc9 : ((p0 &&& (2147483647 : Int32)) % (7 : Int32)) = (0 : Int32)
  · obtain ⟨T2, X2, e2, st2⟩ := getS2 X0 hx hZ hown (host := "") (Or.inl (hw _ (List.mem_of_getElem? (i := 1) rfl))) Via.refl e0 S_ELEMENT (g := (mkF m 12 #[.val (.int p0), .val (.int ((p0 &&& (2147483647 : Int32)) % (7 : Int32))), .unset, .unset, .unset] [])) rfl (hb hby at_12)
    obtain ⟨cq3, kq3, q3a, q3b, q3c⟩ := isOf hZ e2 E_ELEMENT
    obtain ⟨_, _, ⟨T3, L3, k3, n3⟩, -, X3, ⟨Lc3, hQ3, l3, y3, z3⟩, st3⟩ := X2.virtualBack hx (y := (⟨"com/example/albero/albero/mode/ColumnPath$Node", "isContent", "()Z"⟩ : MethodName)) (z := (⟨"com/example/albero/albero/mode/ColumnPath$Node", "isContent", "()Z"⟩ : MethodName)) hown (mvT hZ (hw _ (List.mem_of_getElem? (i := 4) rfl))) (mvT hZ (hw _ (List.mem_of_getElem? (i := 5) rfl))) (notFace_of_selects (args := #[]) (mvT hZ (hw _ (List.mem_of_getElem? (i := 7) rfl)))) (mvT hZ (hw _ (List.mem_of_getElem? (i := 7) rfl))) (mvT hZ (hw _ (List.mem_of_getElem? (i := 6) rfl))) (by decide) (backOf (W := 0) (rm_isO l Z a0 hw [] w_ELEMENT w_ATTRIBUTE h0 n0 Z0 S_ATTRIBUTE ne_ELEMENT_ATTRIBUTE) hZ (hw _ (List.mem_of_getElem? (i := 8) rfl)) (hw _ (List.mem_of_getElem? (i := 2) rfl)) (by decide) (by decide)) q3a q3c (g := (mkF m 98 #[.val (.int p0), .val (.int ((p0 &&& (2147483647 : Int32)) % (7 : Int32))), .val (.ref w_ELEMENT), .val (.int (1 : Int32)), .unset] [(.ref w_ELEMENT)])) rfl (by rw [hml]; rfl) (Steps.refl _) (argsL := []) (rest := []) (lenOf pd_0 rfl) rfl (by show 2 * 0 + _ ≤ _; exact Nat.le_of_eq rfl) (hb hby at_98) (fun _ _ => ⟨rfl, e2, (by decide : 0 + 0 ≤ _), (by decide : 0 + 0 ≤ _)⟩)
    dsimp only [Pt.U, Pt.locs, Pt.cells, Pt.slots] at X3 l3 y3 z3 st3 hQ3
    subst l3 y3 z3
    obtain ⟨rfl, N3q, e3⟩ := hQ3
    have N3 := Fr.app N0 N3q
    obtain ⟨cq4, kq4, q4a, q4b, q4c⟩ := isOf hZ e3 E_ELEMENT
    obtain ⟨_, _, ⟨T4, L4, k4, n4⟩, -, X4, ⟨Lc4, hQ4, l4, y4, z4⟩, st4⟩ := X3.virtualBack hx (y := (⟨"com/example/albero/albero/mode/ColumnPath$Node", "mayHoldXml", "()Z"⟩ : MethodName)) (z := (⟨"com/example/albero/albero/mode/ColumnPath$Node", "mayHoldXml", "()Z"⟩ : MethodName)) hown (mvT hZ (hw _ (List.mem_of_getElem? (i := 11) rfl))) (mvT hZ (hw _ (List.mem_of_getElem? (i := 12) rfl))) (notFace_of_selects (args := #[]) (mvT hZ (hw _ (List.mem_of_getElem? (i := 14) rfl)))) (mvT hZ (hw _ (List.mem_of_getElem? (i := 14) rfl))) (mvT hZ (hw _ (List.mem_of_getElem? (i := 13) rfl))) (by decide) (backOf (W := 0) (rm_hold l Z a0 hw [] w_ELEMENT (1 : Int32) h0 n0 Z0 F_ELEMENT_mayHoldXml) hZ (hw _ (List.mem_of_getElem? (i := 15) rfl)) (hw _ (List.mem_of_getElem? (i := 2) rfl)) (by decide) (by decide)) q4a q4c (g := (mkF m 110 #[.val (.int p0), .val (.int ((p0 &&& (2147483647 : Int32)) % (7 : Int32))), .val (.ref w_ELEMENT), .val (.int (1 : Int32)), .val (.int (1 : Int32))] [(.ref w_ELEMENT)])) rfl (by rw [hml]; rfl) (Steps.refl _) (argsL := []) (rest := []) (lenOf pd_0 rfl) rfl (by show 2 * 0 + _ ≤ _; exact Nat.le_of_eq rfl) (hb hby at_110) (fun _ _ => ⟨rfl, e3, (by decide : 0 + 0 ≤ _), (by decide : 0 + 0 ≤ _)⟩)
    dsimp only [Pt.U, Pt.locs, Pt.cells, Pt.slots] at X4 l4 y4 z4 st4 hQ4
    subst l4 y4 z4
    obtain ⟨rfl, N4q, e4⟩ := hQ4
    have N4 := Fr.app N3 N4q
    obtain ⟨cq5, kq5, q5a, q5b, q5c⟩ := isOf hZ e4 E_ELEMENT
    obtain ⟨_, _, ⟨T5, L5, k5, n5⟩, -, X5, ⟨Lc5, hQ5, l5, y5, z5⟩, st5⟩ := X4.virtualBack hx (y := (⟨"com/example/albero/albero/mode/ColumnPath$Node", "mayBeNil", "()Z"⟩ : MethodName)) (z := (⟨"com/example/albero/albero/mode/ColumnPath$Node", "mayBeNil", "()Z"⟩ : MethodName)) hown (mvT hZ (hw _ (List.mem_of_getElem? (i := 18) rfl))) (mvT hZ (hw _ (List.mem_of_getElem? (i := 19) rfl))) (notFace_of_selects (args := #[]) (mvT hZ (hw _ (List.mem_of_getElem? (i := 21) rfl)))) (mvT hZ (hw _ (List.mem_of_getElem? (i := 21) rfl))) (mvT hZ (hw _ (List.mem_of_getElem? (i := 20) rfl))) (by decide) (backOf (W := 0) (rm_nilE l Z a0 hw [] w_ELEMENT h0 n0 Z0 S_ELEMENT) hZ (hw _ (List.mem_of_getElem? (i := 22) rfl)) (hw _ (List.mem_of_getElem? (i := 2) rfl)) (by decide) (by decide)) q5a q5c (g := (mkF m 122 #[.val (.int p0), .val (.int ((p0 &&& (2147483647 : Int32)) % (7 : Int32))), .val (.ref w_ELEMENT), .val (.int (1 : Int32)), .val (.int (1 : Int32))] [(.ref w_ELEMENT)])) rfl (by rw [hml]; rfl) (Steps.refl _) (argsL := []) (rest := []) (lenOf pd_0 rfl) rfl (by show 2 * 0 + _ ≤ _; exact Nat.le_of_eq rfl) (hb hby at_122) (fun _ _ => ⟨rfl, e4, (by decide : 0 + 0 ≤ _), (by decide : 0 + 0 ≤ _)⟩)
    dsimp only [Pt.U, Pt.locs, Pt.cells, Pt.slots] at X5 l5 y5 z5 st5 hQ5
    subst l5 y5 z5
    obtain ⟨rfl, N5q, e5⟩ := hQ5
    have N5 := Fr.app N4 N5q
    obtain ⟨fs, hr, hrun, hended, hW, hsame⟩ := X5.leave (v := some (.int (1 : Int32))) (fun h => by rw [Bd.returns] at h; cases h)
    refine ⟨_, _, pre0 _ ?_, hrun, hended, _, _, rfl, ?_, ⟨_, rfl⟩, hW, hsame.mono (by decide) (by decide)⟩
    · refine k1 _ ?_
      show Steps p.tables e below (s₁.setTop (mkF m 9 #[.val (.int p0), .val (.int ((p0 &&& (2147483647 : Int32)) % (7 : Int32))), .unset, .unset, .unset] [(.int ((p0 &&& (2147483647 : Int32)) % (7 : Int32)))])) _
      refine XS.ifNo X0.here hx rfl (hb hby at_9) rfl ((if0 _ _).trans (teq hc9).2) ?_
      show Steps p.tables e below (s₁.setTop (mkF m 12 #[.val (.int p0), .val (.int ((p0 &&& (2147483647 : Int32)) % (7 : Int32))), .unset, .unset, .unset] [])) _
      refine st2 _ ?_
      show Steps p.tables e below (T2.setTop (mkF m 15 #[.val (.int p0), .val (.int ((p0 &&& (2147483647 : Int32)) % (7 : Int32))), .unset, .unset, .unset] [(.ref w_ELEMENT)])) _
      refine XS.astoreN X2.here hx rfl (hb hby at_15) rfl rfl (l' := #[.val (.int p0), .val (.int ((p0 &&& (2147483647 : Int32)) % (7 : Int32))), .val (.ref w_ELEMENT), .unset, .unset]) rfl ?_
      show Steps p.tables e below (T2.setTop (mkF m 16 #[.val (.int p0), .val (.int ((p0 &&& (2147483647 : Int32)) % (7 : Int32))), .val (.ref w_ELEMENT), .unset, .unset] [])) _
      refine XS.iconst X2.here hx rfl (hb hby at_16) ?_
      show Steps p.tables e below (T2.setTop (mkF m 17 #[.val (.int p0), .val (.int ((p0 &&& (2147483647 : Int32)) % (7 : Int32))), .val (.ref w_ELEMENT), .unset, .unset] [(.int (1 : Int32))])) _
      refine XS.istoreN X2.here hx rfl (hb hby at_17) rfl (l' := #[.val (.int p0), .val (.int ((p0 &&& (2147483647 : Int32)) % (7 : Int32))), .val (.ref w_ELEMENT), .val (.int (1 : Int32)), .unset]) rfl ?_
      show Steps p.tables e below (T2.setTop (mkF m 18 #[.val (.int p0), .val (.int ((p0 &&& (2147483647 : Int32)) % (7 : Int32))), .val (.ref w_ELEMENT), .val (.int (1 : Int32)), .unset] [])) _
      refine XS.goto X2.here hx rfl (pc0 := 18) (pc' := 97) rfl (hb hby at_18) (by decide) (by decide) ?_
      show Steps p.tables e below (T2.setTop (mkF m 97 #[.val (.int p0), .val (.int ((p0 &&& (2147483647 : Int32)) % (7 : Int32))), .val (.ref w_ELEMENT), .val (.int (1 : Int32)), .unset] [])) _
      refine XS.aloadN X2.here hx rfl (hb hby at_97) rfl rfl ?_
      show Steps p.tables e below (T2.setTop (mkF m 98 #[.val (.int p0), .val (.int ((p0 &&& (2147483647 : Int32)) % (7 : Int32))), .val (.ref w_ELEMENT), .val (.int (1 : Int32)), .unset] [(.ref w_ELEMENT)])) _
      refine st3.trans ?_
      show Steps p.tables e below (T3.setTop (mkF m 101 #[.val (.int p0), .val (.int ((p0 &&& (2147483647 : Int32)) % (7 : Int32))), .val (.ref w_ELEMENT), .val (.int (1 : Int32)), .unset] [(.int (1 : Int32))])) _
      refine XS.istore X3.here hx rfl (hb hby at_101) rfl (l' := #[.val (.int p0), .val (.int ((p0 &&& (2147483647 : Int32)) % (7 : Int32))), .val (.ref w_ELEMENT), .val (.int (1 : Int32)), .val (.int (1 : Int32))]) rfl ?_
      show Steps p.tables e below (T3.setTop (mkF m 103 #[.val (.int p0), .val (.int ((p0 &&& (2147483647 : Int32)) % (7 : Int32))), .val (.ref w_ELEMENT), .val (.int (1 : Int32)), .val (.int (1 : Int32))] [])) _
      refine XS.iload X3.here hx rfl (hb hby at_103) rfl ?_
      show Steps p.tables e below (T3.setTop (mkF m 105 #[.val (.int p0), .val (.int ((p0 &&& (2147483647 : Int32)) % (7 : Int32))), .val (.ref w_ELEMENT), .val (.int (1 : Int32)), .val (.int (1 : Int32))] [(.int (1 : Int32))])) _
      refine XS.iloadN X3.here hx rfl (hb hby at_105) rfl ?_
      show Steps p.tables e below (T3.setTop (mkF m 106 #[.val (.int p0), .val (.int ((p0 &&& (2147483647 : Int32)) % (7 : Int32))), .val (.ref w_ELEMENT), .val (.int (1 : Int32)), .val (.int (1 : Int32))] [(.int (1 : Int32)), (.int (1 : Int32))])) _
      refine XS.icmpNo X3.here hx rfl (hb hby at_106) rfl (teq (by decide : (1 : Int32) = (1 : Int32))).2 ?_
      show Steps p.tables e below (T3.setTop (mkF m 109 #[.val (.int p0), .val (.int ((p0 &&& (2147483647 : Int32)) % (7 : Int32))), .val (.ref w_ELEMENT), .val (.int (1 : Int32)), .val (.int (1 : Int32))] [])) _
      refine XS.aloadN X3.here hx rfl (hb hby at_109) rfl rfl ?_
      show Steps p.tables e below (T3.setTop (mkF m 110 #[.val (.int p0), .val (.int ((p0 &&& (2147483647 : Int32)) % (7 : Int32))), .val (.ref w_ELEMENT), .val (.int (1 : Int32)), .val (.int (1 : Int32))] [(.ref w_ELEMENT)])) _
      refine st4.trans ?_
      show Steps p.tables e below (T4.setTop (mkF m 113 #[.val (.int p0), .val (.int ((p0 &&& (2147483647 : Int32)) % (7 : Int32))), .val (.ref w_ELEMENT), .val (.int (1 : Int32)), .val (.int (1 : Int32))] [(.int (1 : Int32))])) _
      refine XS.ifNo X4.here hx rfl (hb hby at_113) rfl ((if0 _ _).trans (feq (by decide : ¬ ((1 : Int32) = (0 : Int32)))).1) ?_
      show Steps p.tables e below (T4.setTop (mkF m 116 #[.val (.int p0), .val (.int ((p0 &&& (2147483647 : Int32)) % (7 : Int32))), .val (.ref w_ELEMENT), .val (.int (1 : Int32)), .val (.int (1 : Int32))] [])) _
      refine XS.iload X4.here hx rfl (hb hby at_116) rfl ?_
      show Steps p.tables e below (T4.setTop (mkF m 118 #[.val (.int p0), .val (.int ((p0 &&& (2147483647 : Int32)) % (7 : Int32))), .val (.ref w_ELEMENT), .val (.int (1 : Int32)), .val (.int (1 : Int32))] [(.int (1 : Int32))])) _
      refine XS.ifNo X4.here hx rfl (hb hby at_118) rfl ((if0 _ _).trans (feq (by decide : ¬ ((1 : Int32) = (0 : Int32)))).1) ?_
      show Steps p.tables e below (T4.setTop (mkF m 121 #[.val (.int p0), .val (.int ((p0 &&& (2147483647 : Int32)) % (7 : Int32))), .val (.ref w_ELEMENT), .val (.int (1 : Int32)), .val (.int (1 : Int32))] [])) _
      refine XS.aloadN X4.here hx rfl (hb hby at_121) rfl rfl ?_
      show Steps p.tables e below (T4.setTop (mkF m 122 #[.val (.int p0), .val (.int ((p0 &&& (2147483647 : Int32)) % (7 : Int32))), .val (.ref w_ELEMENT), .val (.int (1 : Int32)), .val (.int (1 : Int32))] [(.ref w_ELEMENT)])) _
      refine st5.trans ?_
      show Steps p.tables e below (T5.setTop (mkF m 125 #[.val (.int p0), .val (.int ((p0 &&& (2147483647 : Int32)) % (7 : Int32))), .val (.ref w_ELEMENT), .val (.int (1 : Int32)), .val (.int (1 : Int32))] [(.int (1 : Int32))])) _
      refine XS.ifNo X5.here hx rfl (hb hby at_125) rfl ((if0 _ _).trans (feq (by decide : ¬ ((1 : Int32) = (0 : Int32)))).1) ?_
      show Steps p.tables e below (T5.setTop (mkF m 128 #[.val (.int p0), .val (.int ((p0 &&& (2147483647 : Int32)) % (7 : Int32))), .val (.ref w_ELEMENT), .val (.int (1 : Int32)), .val (.int (1 : Int32))] [])) _
      refine XS.iload X5.here hx rfl (hb hby at_128) rfl ?_
      show Steps p.tables e below (T5.setTop (mkF m 130 #[.val (.int p0), .val (.int ((p0 &&& (2147483647 : Int32)) % (7 : Int32))), .val (.ref w_ELEMENT), .val (.int (1 : Int32)), .val (.int (1 : Int32))] [(.int (1 : Int32))])) _
      refine XS.ifNo X5.here hx rfl (hb hby at_130) rfl ((if0 _ _).trans (feq (by decide : ¬ ((1 : Int32) = (0 : Int32)))).1) ?_
      show Steps p.tables e below (T5.setTop (mkF m 133 #[.val (.int p0), .val (.int ((p0 &&& (2147483647 : Int32)) % (7 : Int32))), .val (.ref w_ELEMENT), .val (.int (1 : Int32)), .val (.int (1 : Int32))] [])) _
      refine XS.iconst X5.here hx rfl (hb hby at_133) ?_
      show Steps p.tables e below (T5.setTop (mkF m 134 #[.val (.int p0), .val (.int ((p0 &&& (2147483647 : Int32)) % (7 : Int32))), .val (.ref w_ELEMENT), .val (.int (1 : Int32)), .val (.int (1 : Int32))] [(.int (1 : Int32))])) _
      refine XS.goto X5.here hx rfl (pc0 := 134) (pc' := 138) rfl (hb hby at_134) (by decide) (by decide) ?_
      show Steps p.tables e below (T5.setTop (mkF m 138 #[.val (.int p0), .val (.int ((p0 &&& (2147483647 : Int32)) % (7 : Int32))), .val (.ref w_ELEMENT), .val (.int (1 : Int32)), .val (.int (1 : Int32))] [(.int (1 : Int32))])) _
      exact retN X5 hx (t := .boolean) Bd.returns (by simp) (hb hby at_138) hr
    · show Q_rm_law Z p0 w_ELEMENT w_ATTRIBUTE w_TEXT w_PROCESSING_INSTRUCTION w_LIST_ITEM w_COMMENT w_CONTENT h0 n0 _ T5.heap _
      rw [e5]
      exact ⟨rfl, N5, rfl⟩
  · have k6 : ∀ target, Steps p.tables e below (s₁.setTop (mkF m 23 #[.val (.int p0), .val (.int ((p0 &&& (2147483647 : Int32)) % (7 : Int32))), .unset, .unset, .unset] [(.int (1 : Int32)), (.int ((p0 &&& (2147483647 : Int32)) % (7 : Int32)))])) target → Steps p.tables e below (s₁.setTop (mkF m 0 #[.val (.int p0), .unset, .unset, .unset, .unset] [])) target := by
      intro target kt
      refine k1 _ ?_
      show Steps p.tables e below (s₁.setTop (mkF m 9 #[.val (.int p0), .val (.int ((p0 &&& (2147483647 : Int32)) % (7 : Int32))), .unset, .unset, .unset] [(.int ((p0 &&& (2147483647 : Int32)) % (7 : Int32)))])) _
      refine XS.ifYes X0.here hx rfl (pc0 := 9) (pc' := 21) rfl (hb hby at_9) rfl ((if0 _ _).trans (feq hc9).2) (by decide) (by decide) ?_
      show Steps p.tables e below (s₁.setTop (mkF m 21 #[.val (.int p0), .val (.int ((p0 &&& (2147483647 : Int32)) % (7 : Int32))), .unset, .unset, .unset] [])) _
      refine XS.iloadN X0.here hx rfl (hb hby at_21) rfl ?_
      show Steps p.tables e below (s₁.setTop (mkF m 22 #[.val (.int p0), .val (.int ((p0 &&& (2147483647 : Int32)) % (7 : Int32))), .unset, .unset, .unset] [(.int ((p0 &&& (2147483647 : Int32)) % (7 : Int32)))])) _
      refine XS.iconst X0.here hx rfl (hb hby at_22) ?_
      exact kt
    by_cases hc23 : ((p0 &&& (2147483647 : Int32)) % (7 : Int32)) = (1 : Int32)
    · obtain ⟨T7, X7, e7, st7⟩ := getS2 X0 hx hZ hown (host := "") (Or.inl (hw _ (List.mem_of_getElem? (i := 34) rfl))) Via.refl e0 S_ATTRIBUTE (g := (mkF m 26 #[.val (.int p0), .val (.int ((p0 &&& (2147483647 : Int32)) % (7 : Int32))), .unset, .unset, .unset] [])) rfl (hb hby at_26)
      obtain ⟨cq8, kq8, q8a, q8b, q8c⟩ := isOf hZ e7 E_ATTRIBUTE
      obtain ⟨_, _, ⟨T8, L8, k8, n8⟩, -, X8, ⟨Lc8, hQ8, l8, y8, z8⟩, st8⟩ := X7.virtualBack hx (y := (⟨"com/example/albero/albero/mode/ColumnPath$Node", "isContent", "()Z"⟩ : MethodName)) (z := (⟨"com/example/albero/albero/mode/ColumnPath$Node", "isContent", "()Z"⟩ : MethodName)) hown (mvT hZ (hw _ (List.mem_of_getElem? (i := 4) rfl))) (mvT hZ (hw _ (List.mem_of_getElem? (i := 5) rfl))) (notFace_of_selects (args := #[]) (mvT hZ (hw _ (List.mem_of_getElem? (i := 7) rfl)))) (mvT hZ (hw _ (List.mem_of_getElem? (i := 7) rfl))) (mvT hZ (hw _ (List.mem_of_getElem? (i := 6) rfl))) (by decide) (backOf (W := 0) (rm_isA l Z a0 hw [] w_ATTRIBUTE h0 n0 Z0 S_ATTRIBUTE) hZ (hw _ (List.mem_of_getElem? (i := 8) rfl)) (hw _ (List.mem_of_getElem? (i := 2) rfl)) (by decide) (by decide)) q8a q8c (g := (mkF m 98 #[.val (.int p0), .val (.int ((p0 &&& (2147483647 : Int32)) % (7 : Int32))), .val (.ref w_ATTRIBUTE), .val (.int (0 : Int32)), .unset] [(.ref w_ATTRIBUTE)])) rfl (by rw [hml]; rfl) (Steps.refl _) (argsL := []) (rest := []) (lenOf pd_0 rfl) rfl (by show 2 * 0 + _ ≤ _; exact Nat.le_of_eq rfl) (hb hby at_98) (fun _ _ => ⟨rfl, e7, (by decide : 0 + 0 ≤ _), (by decide : 0 + 0 ≤ _)⟩)
      dsimp only [Pt.U, Pt.locs, Pt.cells, Pt.slots] at X8 l8 y8 z8 st8 hQ8
      subst l8 y8 z8
      obtain ⟨rfl, N8q, e8⟩ := hQ8
      have N8 := Fr.app N0 N8q
      obtain ⟨cq9, kq9, q9a, q9b, q9c⟩ := isOf hZ e8 E_ATTRIBUTE
      obtain ⟨_, _, ⟨T9, L9, k9, n9⟩, -, X9, ⟨Lc9, hQ9, l9, y9, z9⟩, st9⟩ := X8.virtualBack hx (y := (⟨"com/example/albero/albero/mode/ColumnPath$Node", "mayHoldXml", "()Z"⟩ : MethodName)) (z := (⟨"com/example/albero/albero/mode/ColumnPath$Node", "mayHoldXml", "()Z"⟩ : MethodName)) hown (mvT hZ (hw _ (List.mem_of_getElem? (i := 11) rfl))) (mvT hZ (hw _ (List.mem_of_getElem? (i := 12) rfl))) (notFace_of_selects (args := #[]) (mvT hZ (hw _ (List.mem_of_getElem? (i := 14) rfl)))) (mvT hZ (hw _ (List.mem_of_getElem? (i := 14) rfl))) (mvT hZ (hw _ (List.mem_of_getElem? (i := 13) rfl))) (by decide) (backOf (W := 0) (rm_hold l Z a0 hw [] w_ATTRIBUTE (0 : Int32) h0 n0 Z0 F_ATTRIBUTE_mayHoldXml) hZ (hw _ (List.mem_of_getElem? (i := 15) rfl)) (hw _ (List.mem_of_getElem? (i := 2) rfl)) (by decide) (by decide)) q9a q9c (g := (mkF m 110 #[.val (.int p0), .val (.int ((p0 &&& (2147483647 : Int32)) % (7 : Int32))), .val (.ref w_ATTRIBUTE), .val (.int (0 : Int32)), .val (.int (0 : Int32))] [(.ref w_ATTRIBUTE)])) rfl (by rw [hml]; rfl) (Steps.refl _) (argsL := []) (rest := []) (lenOf pd_0 rfl) rfl (by show 2 * 0 + _ ≤ _; exact Nat.le_of_eq rfl) (hb hby at_110) (fun _ _ => ⟨rfl, e8, (by decide : 0 + 0 ≤ _), (by decide : 0 + 0 ≤ _)⟩)
      dsimp only [Pt.U, Pt.locs, Pt.cells, Pt.slots] at X9 l9 y9 z9 st9 hQ9
      subst l9 y9 z9
      obtain ⟨rfl, N9q, e9⟩ := hQ9
      have N9 := Fr.app N8 N9q
      obtain ⟨cq10, kq10, q10a, q10b, q10c⟩ := isOf hZ e9 E_ATTRIBUTE
      obtain ⟨_, _, ⟨T10, L10, k10, n10⟩, -, X10, ⟨Lc10, hQ10, l10, y10, z10⟩, st10⟩ := X9.virtualBack hx (y := (⟨"com/example/albero/albero/mode/ColumnPath$Node", "mayBeNil", "()Z"⟩ : MethodName)) (z := (⟨"com/example/albero/albero/mode/ColumnPath$Node", "mayBeNil", "()Z"⟩ : MethodName)) hown (mvT hZ (hw _ (List.mem_of_getElem? (i := 18) rfl))) (mvT hZ (hw _ (List.mem_of_getElem? (i := 19) rfl))) (notFace_of_selects (args := #[]) (mvT hZ (hw _ (List.mem_of_getElem? (i := 21) rfl)))) (mvT hZ (hw _ (List.mem_of_getElem? (i := 21) rfl))) (mvT hZ (hw _ (List.mem_of_getElem? (i := 20) rfl))) (by decide) (backOf (W := 0) (rm_nilO l Z a0 hw [] w_ATTRIBUTE w_ELEMENT h0 n0 Z0 S_ELEMENT (Ne.symm ne_ELEMENT_ATTRIBUTE)) hZ (hw _ (List.mem_of_getElem? (i := 22) rfl)) (hw _ (List.mem_of_getElem? (i := 2) rfl)) (by decide) (by decide)) q10a q10c (g := (mkF m 122 #[.val (.int p0), .val (.int ((p0 &&& (2147483647 : Int32)) % (7 : Int32))), .val (.ref w_ATTRIBUTE), .val (.int (0 : Int32)), .val (.int (0 : Int32))] [(.ref w_ATTRIBUTE)])) rfl (by rw [hml]; rfl) (Steps.refl _) (argsL := []) (rest := []) (lenOf pd_0 rfl) rfl (by show 2 * 0 + _ ≤ _; exact Nat.le_of_eq rfl) (hb hby at_122) (fun _ _ => ⟨rfl, e9, (by decide : 0 + 0 ≤ _), (by decide : 0 + 0 ≤ _)⟩)
      dsimp only [Pt.U, Pt.locs, Pt.cells, Pt.slots] at X10 l10 y10 z10 st10 hQ10
      subst l10 y10 z10
      obtain ⟨rfl, N10q, e10⟩ := hQ10
      have N10 := Fr.app N9 N10q
      obtain ⟨fs, hr, hrun, hended, hW, hsame⟩ := X10.leave (v := some (.int (1 : Int32))) (fun h => by rw [Bd.returns] at h; cases h)
      refine ⟨_, _, pre0 _ ?_, hrun, hended, _, _, rfl, ?_, ⟨_, rfl⟩, hW, hsame.mono (by decide) (by decide)⟩
      · refine k6 _ ?_
        show Steps p.tables e below (s₁.setTop (mkF m 23 #[.val (.int p0), .val (.int ((p0 &&& (2147483647 : Int32)) % (7 : Int32))), .unset, .unset, .unset] [(.int (1 : Int32)), (.int ((p0 &&& (2147483647 : Int32)) % (7 : Int32)))])) _
        refine XS.icmpNo X0.here hx rfl (hb hby at_23) rfl (teq hc23).2 ?_
        show Steps p.tables e below (s₁.setTop (mkF m 26 #[.val (.int p0), .val (.int ((p0 &&& (2147483647 : Int32)) % (7 : Int32))), .unset, .unset, .unset] [])) _
        refine st7 _ ?_
        show Steps p.tables e below (T7.setTop (mkF m 29 #[.val (.int p0), .val (.int ((p0 &&& (2147483647 : Int32)) % (7 : Int32))), .unset, .unset, .unset] [(.ref w_ATTRIBUTE)])) _
        refine XS.astoreN X7.here hx rfl (hb hby at_29) rfl rfl (l' := #[.val (.int p0), .val (.int ((p0 &&& (2147483647 : Int32)) % (7 : Int32))), .val (.ref w_ATTRIBUTE), .unset, .unset]) rfl ?_
        show Steps p.tables e below (T7.setTop (mkF m 30 #[.val (.int p0), .val (.int ((p0 &&& (2147483647 : Int32)) % (7 : Int32))), .val (.ref w_ATTRIBUTE), .unset, .unset] [])) _
        refine XS.iconst X7.here hx rfl (hb hby at_30) ?_
        show Steps p.tables e below (T7.setTop (mkF m 31 #[.val (.int p0), .val (.int ((p0 &&& (2147483647 : Int32)) % (7 : Int32))), .val (.ref w_ATTRIBUTE), .unset, .unset] [(.int (0 : Int32))])) _
        refine XS.istoreN X7.here hx rfl (hb hby at_31) rfl (l' := #[.val (.int p0), .val (.int ((p0 &&& (2147483647 : Int32)) % (7 : Int32))), .val (.ref w_ATTRIBUTE), .val (.int (0 : Int32)), .unset]) rfl ?_
        show Steps p.tables e below (T7.setTop (mkF m 32 #[.val (.int p0), .val (.int ((p0 &&& (2147483647 : Int32)) % (7 : Int32))), .val (.ref w_ATTRIBUTE), .val (.int (0 : Int32)), .unset] [])) _
        refine XS.goto X7.here hx rfl (pc0 := 32) (pc' := 97) rfl (hb hby at_32) (by decide) (by decide) ?_
        show Steps p.tables e below (T7.setTop (mkF m 97 #[.val (.int p0), .val (.int ((p0 &&& (2147483647 : Int32)) % (7 : Int32))), .val (.ref w_ATTRIBUTE), .val (.int (0 : Int32)), .unset] [])) _
        refine XS.aloadN X7.here hx rfl (hb hby at_97) rfl rfl ?_
        show Steps p.tables e below (T7.setTop (mkF m 98 #[.val (.int p0), .val (.int ((p0 &&& (2147483647 : Int32)) % (7 : Int32))), .val (.ref w_ATTRIBUTE), .val (.int (0 : Int32)), .unset] [(.ref w_ATTRIBUTE)])) _
        refine st8.trans ?_
        show Steps p.tables e below (T8.setTop (mkF m 101 #[.val (.int p0), .val (.int ((p0 &&& (2147483647 : Int32)) % (7 : Int32))), .val (.ref w_ATTRIBUTE), .val (.int (0 : Int32)), .unset] [(.int (0 : Int32))])) _
        refine XS.istore X8.here hx rfl (hb hby at_101) rfl (l' := #[.val (.int p0), .val (.int ((p0 &&& (2147483647 : Int32)) % (7 : Int32))), .val (.ref w_ATTRIBUTE), .val (.int (0 : Int32)), .val (.int (0 : Int32))]) rfl ?_
        show Steps p.tables e below (T8.setTop (mkF m 103 #[.val (.int p0), .val (.int ((p0 &&& (2147483647 : Int32)) % (7 : Int32))), .val (.ref w_ATTRIBUTE), .val (.int (0 : Int32)), .val (.int (0 : Int32))] [])) _
        refine XS.iload X8.here hx rfl (hb hby at_103) rfl ?_
        show Steps p.tables e below (T8.setTop (mkF m 105 #[.val (.int p0), .val (.int ((p0 &&& (2147483647 : Int32)) % (7 : Int32))), .val (.ref w_ATTRIBUTE), .val (.int (0 : Int32)), .val (.int (0 : Int32))] [(.int (0 : Int32))])) _
        refine XS.iloadN X8.here hx rfl (hb hby at_105) rfl ?_
        show Steps p.tables e below (T8.setTop (mkF m 106 #[.val (.int p0), .val (.int ((p0 &&& (2147483647 : Int32)) % (7 : Int32))), .val (.ref w_ATTRIBUTE), .val (.int (0 : Int32)), .val (.int (0 : Int32))] [(.int (0 : Int32)), (.int (0 : Int32))])) _
        refine XS.icmpNo X8.here hx rfl (hb hby at_106) rfl (teq (by decide : (0 : Int32) = (0 : Int32))).2 ?_
        show Steps p.tables e below (T8.setTop (mkF m 109 #[.val (.int p0), .val (.int ((p0 &&& (2147483647 : Int32)) % (7 : Int32))), .val (.ref w_ATTRIBUTE), .val (.int (0 : Int32)), .val (.int (0 : Int32))] [])) _
        refine XS.aloadN X8.here hx rfl (hb hby at_109) rfl rfl ?_
        show Steps p.tables e below (T8.setTop (mkF m 110 #[.val (.int p0), .val (.int ((p0 &&& (2147483647 : Int32)) % (7 : Int32))), .val (.ref w_ATTRIBUTE), .val (.int (0 : Int32)), .val (.int (0 : Int32))] [(.ref w_ATTRIBUTE)])) _
        refine st9.trans ?_
        show Steps p.tables e below (T9.setTop (mkF m 113 #[.val (.int p0), .val (.int ((p0 &&& (2147483647 : Int32)) % (7 : Int32))), .val (.ref w_ATTRIBUTE), .val (.int (0 : Int32)), .val (.int (0 : Int32))] [(.int (0 : Int32))])) _
        refine XS.ifYes X9.here hx rfl (pc0 := 113) (pc' := 121) rfl (hb hby at_113) rfl ((if0 _ _).trans (teq (by decide : (0 : Int32) = (0 : Int32))).1) (by decide) (by decide) ?_
        show Steps p.tables e below (T9.setTop (mkF m 121 #[.val (.int p0), .val (.int ((p0 &&& (2147483647 : Int32)) % (7 : Int32))), .val (.ref w_ATTRIBUTE), .val (.int (0 : Int32)), .val (.int (0 : Int32))] [])) _
        refine XS.aloadN X9.here hx rfl (hb hby at_121) rfl rfl ?_
        show Steps p.tables e below (T9.setTop (mkF m 122 #[.val (.int p0), .val (.int ((p0 &&& (2147483647 : Int32)) % (7 : Int32))), .val (.ref w_ATTRIBUTE), .val (.int (0 : Int32)), .val (.int (0 : Int32))] [(.ref w_ATTRIBUTE)])) _
        refine st10.trans ?_
        show Steps p.tables e below (T10.setTop (mkF m 125 #[.val (.int p0), .val (.int ((p0 &&& (2147483647 : Int32)) % (7 : Int32))), .val (.ref w_ATTRIBUTE), .val (.int (0 : Int32)), .val (.int (0 : Int32))] [(.int (0 : Int32))])) _
        refine XS.ifYes X10.here hx rfl (pc0 := 125) (pc' := 133) rfl (hb hby at_125) rfl ((if0 _ _).trans (teq (by decide : (0 : Int32) = (0 : Int32))).1) (by decide) (by decide) ?_
        show Steps p.tables e below (T10.setTop (mkF m 133 #[.val (.int p0), .val (.int ((p0 &&& (2147483647 : Int32)) % (7 : Int32))), .val (.ref w_ATTRIBUTE), .val (.int (0 : Int32)), .val (.int (0 : Int32))] [])) _
        refine XS.iconst X10.here hx rfl (hb hby at_133) ?_
        show Steps p.tables e below (T10.setTop (mkF m 134 #[.val (.int p0), .val (.int ((p0 &&& (2147483647 : Int32)) % (7 : Int32))), .val (.ref w_ATTRIBUTE), .val (.int (0 : Int32)), .val (.int (0 : Int32))] [(.int (1 : Int32))])) _
        refine XS.goto X10.here hx rfl (pc0 := 134) (pc' := 138) rfl (hb hby at_134) (by decide) (by decide) ?_
        show Steps p.tables e below (T10.setTop (mkF m 138 #[.val (.int p0), .val (.int ((p0 &&& (2147483647 : Int32)) % (7 : Int32))), .val (.ref w_ATTRIBUTE), .val (.int (0 : Int32)), .val (.int (0 : Int32))] [(.int (1 : Int32))])) _
        exact retN X10 hx (t := .boolean) Bd.returns (by simp) (hb hby at_138) hr
      · show Q_rm_law Z p0 w_ELEMENT w_ATTRIBUTE w_TEXT w_PROCESSING_INSTRUCTION w_LIST_ITEM w_COMMENT w_CONTENT h0 n0 _ T10.heap _
        rw [e10]
        exact ⟨rfl, N10, rfl⟩
    · have k11 : ∀ target, Steps p.tables e below (s₁.setTop (mkF m 37 #[.val (.int p0), .val (.int ((p0 &&& (2147483647 : Int32)) % (7 : Int32))), .unset, .unset, .unset] [(.int (2 : Int32)), (.int ((p0 &&& (2147483647 : Int32)) % (7 : Int32)))])) target → Steps p.tables e below (s₁.setTop (mkF m 0 #[.val (.int p0), .unset, .unset, .unset, .unset] [])) target := by
        intro target kt
        refine k6 _ ?_
        show Steps p.tables e below (s₁.setTop (mkF m 23 #[.val (.int p0), .val (.int ((p0 &&& (2147483647 : Int32)) % (7 : Int32))), .unset, .unset, .unset] [(.int (1 : Int32)), (.int ((p0 &&& (2147483647 : Int32)) % (7 : Int32)))])) _
        refine XS.icmpYes X0.here hx rfl (pc0 := 23) (pc' := 35) rfl (hb hby at_23) rfl (feq hc23).2 (by decide) (by decide) ?_
        show Steps p.tables e below (s₁.setTop (mkF m 35 #[.val (.int p0), .val (.int ((p0 &&& (2147483647 : Int32)) % (7 : Int32))), .unset, .unset, .unset] [])) _
        refine XS.iloadN X0.here hx rfl (hb hby at_35) rfl ?_
        show Steps p.tables e below (s₁.setTop (mkF m 36 #[.val (.int p0), .val (.int ((p0 &&& (2147483647 : Int32)) % (7 : Int32))), .unset, .unset, .unset] [(.int ((p0 &&& (2147483647 : Int32)) % (7 : Int32)))])) _
        refine XS.iconst X0.here hx rfl (hb hby at_36) ?_
        exact kt
      by_cases hc37 : ((p0 &&& (2147483647 : Int32)) % (7 : Int32)) = (2 : Int32)
      · obtain ⟨T12, X12, e12, st12⟩ := getS2 X0 hx hZ hown (host := "") (Or.inl (hw _ (List.mem_of_getElem? (i := 32) rfl))) Via.refl e0 S_CONTENT (g := (mkF m 40 #[.val (.int p0), .val (.int ((p0 &&& (2147483647 : Int32)) % (7 : Int32))), .unset, .unset, .unset] [])) rfl (hb hby at_40)
        obtain ⟨cq13, kq13, q13a, q13b, q13c⟩ := isOf hZ e12 E_CONTENT
        obtain ⟨_, _, ⟨T13, L13, k13, n13⟩, -, X13, ⟨Lc13, hQ13, l13, y13, z13⟩, st13⟩ := X12.virtualBack hx (y := (⟨"com/example/albero/albero/mode/ColumnPath$Node", "isContent", "()Z"⟩ : MethodName)) (z := (⟨"com/example/albero/albero/mode/ColumnPath$Node", "isContent", "()Z"⟩ : MethodName)) hown (mvT hZ (hw _ (List.mem_of_getElem? (i := 4) rfl))) (mvT hZ (hw _ (List.mem_of_getElem? (i := 5) rfl))) (notFace_of_selects (args := #[]) (mvT hZ (hw _ (List.mem_of_getElem? (i := 7) rfl)))) (mvT hZ (hw _ (List.mem_of_getElem? (i := 7) rfl))) (mvT hZ (hw _ (List.mem_of_getElem? (i := 6) rfl))) (by decide) (backOf (W := 0) (rm_isO l Z a0 hw [] w_CONTENT w_ATTRIBUTE h0 n0 Z0 S_ATTRIBUTE ne_CONTENT_ATTRIBUTE) hZ (hw _ (List.mem_of_getElem? (i := 8) rfl)) (hw _ (List.mem_of_getElem? (i := 2) rfl)) (by decide) (by decide)) q13a q13c (g := (mkF m 98 #[.val (.int p0), .val (.int ((p0 &&& (2147483647 : Int32)) % (7 : Int32))), .val (.ref w_CONTENT), .val (.int (1 : Int32)), .unset] [(.ref w_CONTENT)])) rfl (by rw [hml]; rfl) (Steps.refl _) (argsL := []) (rest := []) (lenOf pd_0 rfl) rfl (by show 2 * 0 + _ ≤ _; exact Nat.le_of_eq rfl) (hb hby at_98) (fun _ _ => ⟨rfl, e12, (by decide : 0 + 0 ≤ _), (by decide : 0 + 0 ≤ _)⟩)
        dsimp only [Pt.U, Pt.locs, Pt.cells, Pt.slots] at X13 l13 y13 z13 st13 hQ13
        subst l13 y13 z13
        obtain ⟨rfl, N13q, e13⟩ := hQ13
        have N13 := Fr.app N0 N13q
        obtain ⟨cq14, kq14, q14a, q14b, q14c⟩ := isOf hZ e13 E_CONTENT
        obtain ⟨_, _, ⟨T14, L14, k14, n14⟩, -, X14, ⟨Lc14, hQ14, l14, y14, z14⟩, st14⟩ := X13.virtualBack hx (y := (⟨"com/example/albero/albero/mode/ColumnPath$Node", "mayHoldXml", "()Z"⟩ : MethodName)) (z := (⟨"com/example/albero/albero/mode/ColumnPath$Node", "mayHoldXml", "()Z"⟩ : MethodName)) hown (mvT hZ (hw _ (List.mem_of_getElem? (i := 11) rfl))) (mvT hZ (hw _ (List.mem_of_getElem? (i := 12) rfl))) (notFace_of_selects (args := #[]) (mvT hZ (hw _ (List.mem_of_getElem? (i := 14) rfl)))) (mvT hZ (hw _ (List.mem_of_getElem? (i := 14) rfl))) (mvT hZ (hw _ (List.mem_of_getElem? (i := 13) rfl))) (by decide) (backOf (W := 0) (rm_hold l Z a0 hw [] w_CONTENT (1 : Int32) h0 n0 Z0 F_CONTENT_mayHoldXml) hZ (hw _ (List.mem_of_getElem? (i := 15) rfl)) (hw _ (List.mem_of_getElem? (i := 2) rfl)) (by decide) (by decide)) q14a q14c (g := (mkF m 110 #[.val (.int p0), .val (.int ((p0 &&& (2147483647 : Int32)) % (7 : Int32))), .val (.ref w_CONTENT), .val (.int (1 : Int32)), .val (.int (1 : Int32))] [(.ref w_CONTENT)])) rfl (by rw [hml]; rfl) (Steps.refl _) (argsL := []) (rest := []) (lenOf pd_0 rfl) rfl (by show 2 * 0 + _ ≤ _; exact Nat.le_of_eq rfl) (hb hby at_110) (fun _ _ => ⟨rfl, e13, (by decide : 0 + 0 ≤ _), (by decide : 0 + 0 ≤ _)⟩)
        dsimp only [Pt.U, Pt.locs, Pt.cells, Pt.slots] at X14 l14 y14 z14 st14 hQ14
        subst l14 y14 z14
        obtain ⟨rfl, N14q, e14⟩ := hQ14
        have N14 := Fr.app N13 N14q
        obtain ⟨cq15, kq15, q15a, q15b, q15c⟩ := isOf hZ e14 E_CONTENT
        obtain ⟨_, _, ⟨T15, L15, k15, n15⟩, -, X15, ⟨Lc15, hQ15, l15, y15, z15⟩, st15⟩ := X14.virtualBack hx (y := (⟨"com/example/albero/albero/mode/ColumnPath$Node", "mayBeNil", "()Z"⟩ : MethodName)) (z := (⟨"com/example/albero/albero/mode/ColumnPath$Node", "mayBeNil", "()Z"⟩ : MethodName)) hown (mvT hZ (hw _ (List.mem_of_getElem? (i := 18) rfl))) (mvT hZ (hw _ (List.mem_of_getElem? (i := 19) rfl))) (notFace_of_selects (args := #[]) (mvT hZ (hw _ (List.mem_of_getElem? (i := 21) rfl)))) (mvT hZ (hw _ (List.mem_of_getElem? (i := 21) rfl))) (mvT hZ (hw _ (List.mem_of_getElem? (i := 20) rfl))) (by decide) (backOf (W := 0) (rm_nilO l Z a0 hw [] w_CONTENT w_ELEMENT h0 n0 Z0 S_ELEMENT ne_CONTENT_ELEMENT) hZ (hw _ (List.mem_of_getElem? (i := 22) rfl)) (hw _ (List.mem_of_getElem? (i := 2) rfl)) (by decide) (by decide)) q15a q15c (g := (mkF m 122 #[.val (.int p0), .val (.int ((p0 &&& (2147483647 : Int32)) % (7 : Int32))), .val (.ref w_CONTENT), .val (.int (1 : Int32)), .val (.int (1 : Int32))] [(.ref w_CONTENT)])) rfl (by rw [hml]; rfl) (Steps.refl _) (argsL := []) (rest := []) (lenOf pd_0 rfl) rfl (by show 2 * 0 + _ ≤ _; exact Nat.le_of_eq rfl) (hb hby at_122) (fun _ _ => ⟨rfl, e14, (by decide : 0 + 0 ≤ _), (by decide : 0 + 0 ≤ _)⟩)
        dsimp only [Pt.U, Pt.locs, Pt.cells, Pt.slots] at X15 l15 y15 z15 st15 hQ15
        subst l15 y15 z15
        obtain ⟨rfl, N15q, e15⟩ := hQ15
        have N15 := Fr.app N14 N15q
        obtain ⟨fs, hr, hrun, hended, hW, hsame⟩ := X15.leave (v := some (.int (1 : Int32))) (fun h => by rw [Bd.returns] at h; cases h)
        refine ⟨_, _, pre0 _ ?_, hrun, hended, _, _, rfl, ?_, ⟨_, rfl⟩, hW, hsame.mono (by decide) (by decide)⟩
        · refine k11 _ ?_
          show Steps p.tables e below (s₁.setTop (mkF m 37 #[.val (.int p0), .val (.int ((p0 &&& (2147483647 : Int32)) % (7 : Int32))), .unset, .unset, .unset] [(.int (2 : Int32)), (.int ((p0 &&& (2147483647 : Int32)) % (7 : Int32)))])) _
          refine XS.icmpNo X0.here hx rfl (hb hby at_37) rfl (teq hc37).2 ?_
          show Steps p.tables e below (s₁.setTop (mkF m 40 #[.val (.int p0), .val (.int ((p0 &&& (2147483647 : Int32)) % (7 : Int32))), .unset, .unset, .unset] [])) _
          refine st12 _ ?_
          show Steps p.tables e below (T12.setTop (mkF m 43 #[.val (.int p0), .val (.int ((p0 &&& (2147483647 : Int32)) % (7 : Int32))), .unset, .unset, .unset] [(.ref w_CONTENT)])) _
          refine XS.astoreN X12.here hx rfl (hb hby at_43) rfl rfl (l' := #[.val (.int p0), .val (.int ((p0 &&& (2147483647 : Int32)) % (7 : Int32))), .val (.ref w_CONTENT), .unset, .unset]) rfl ?_
          show Steps p.tables e below (T12.setTop (mkF m 44 #[.val (.int p0), .val (.int ((p0 &&& (2147483647 : Int32)) % (7 : Int32))), .val (.ref w_CONTENT), .unset, .unset] [])) _
          refine XS.iconst X12.here hx rfl (hb hby at_44) ?_
          show Steps p.tables e below (T12.setTop (mkF m 45 #[.val (.int p0), .val (.int ((p0 &&& (2147483647 : Int32)) % (7 : Int32))), .val (.ref w_CONTENT), .unset, .unset] [(.int (1 : Int32))])) _
          refine XS.istoreN X12.here hx rfl (hb hby at_45) rfl (l' := #[.val (.int p0), .val (.int ((p0 &&& (2147483647 : Int32)) % (7 : Int32))), .val (.ref w_CONTENT), .val (.int (1 : Int32)), .unset]) rfl ?_
          show Steps p.tables e below (T12.setTop (mkF m 46 #[.val (.int p0), .val (.int ((p0 &&& (2147483647 : Int32)) % (7 : Int32))), .val (.ref w_CONTENT), .val (.int (1 : Int32)), .unset] [])) _
          refine XS.goto X12.here hx rfl (pc0 := 46) (pc' := 97) rfl (hb hby at_46) (by decide) (by decide) ?_
          show Steps p.tables e below (T12.setTop (mkF m 97 #[.val (.int p0), .val (.int ((p0 &&& (2147483647 : Int32)) % (7 : Int32))), .val (.ref w_CONTENT), .val (.int (1 : Int32)), .unset] [])) _
          refine XS.aloadN X12.here hx rfl (hb hby at_97) rfl rfl ?_
          show Steps p.tables e below (T12.setTop (mkF m 98 #[.val (.int p0), .val (.int ((p0 &&& (2147483647 : Int32)) % (7 : Int32))), .val (.ref w_CONTENT), .val (.int (1 : Int32)), .unset] [(.ref w_CONTENT)])) _
          refine st13.trans ?_
          show Steps p.tables e below (T13.setTop (mkF m 101 #[.val (.int p0), .val (.int ((p0 &&& (2147483647 : Int32)) % (7 : Int32))), .val (.ref w_CONTENT), .val (.int (1 : Int32)), .unset] [(.int (1 : Int32))])) _
          refine XS.istore X13.here hx rfl (hb hby at_101) rfl (l' := #[.val (.int p0), .val (.int ((p0 &&& (2147483647 : Int32)) % (7 : Int32))), .val (.ref w_CONTENT), .val (.int (1 : Int32)), .val (.int (1 : Int32))]) rfl ?_
          show Steps p.tables e below (T13.setTop (mkF m 103 #[.val (.int p0), .val (.int ((p0 &&& (2147483647 : Int32)) % (7 : Int32))), .val (.ref w_CONTENT), .val (.int (1 : Int32)), .val (.int (1 : Int32))] [])) _
          refine XS.iload X13.here hx rfl (hb hby at_103) rfl ?_
          show Steps p.tables e below (T13.setTop (mkF m 105 #[.val (.int p0), .val (.int ((p0 &&& (2147483647 : Int32)) % (7 : Int32))), .val (.ref w_CONTENT), .val (.int (1 : Int32)), .val (.int (1 : Int32))] [(.int (1 : Int32))])) _
          refine XS.iloadN X13.here hx rfl (hb hby at_105) rfl ?_
          show Steps p.tables e below (T13.setTop (mkF m 106 #[.val (.int p0), .val (.int ((p0 &&& (2147483647 : Int32)) % (7 : Int32))), .val (.ref w_CONTENT), .val (.int (1 : Int32)), .val (.int (1 : Int32))] [(.int (1 : Int32)), (.int (1 : Int32))])) _
          refine XS.icmpNo X13.here hx rfl (hb hby at_106) rfl (teq (by decide : (1 : Int32) = (1 : Int32))).2 ?_
          show Steps p.tables e below (T13.setTop (mkF m 109 #[.val (.int p0), .val (.int ((p0 &&& (2147483647 : Int32)) % (7 : Int32))), .val (.ref w_CONTENT), .val (.int (1 : Int32)), .val (.int (1 : Int32))] [])) _
          refine XS.aloadN X13.here hx rfl (hb hby at_109) rfl rfl ?_
          show Steps p.tables e below (T13.setTop (mkF m 110 #[.val (.int p0), .val (.int ((p0 &&& (2147483647 : Int32)) % (7 : Int32))), .val (.ref w_CONTENT), .val (.int (1 : Int32)), .val (.int (1 : Int32))] [(.ref w_CONTENT)])) _
          refine st14.trans ?_
          show Steps p.tables e below (T14.setTop (mkF m 113 #[.val (.int p0), .val (.int ((p0 &&& (2147483647 : Int32)) % (7 : Int32))), .val (.ref w_CONTENT), .val (.int (1 : Int32)), .val (.int (1 : Int32))] [(.int (1 : Int32))])) _
          refine XS.ifNo X14.here hx rfl (hb hby at_113) rfl ((if0 _ _).trans (feq (by decide : ¬ ((1 : Int32) = (0 : Int32)))).1) ?_
          show Steps p.tables e below (T14.setTop (mkF m 116 #[.val (.int p0), .val (.int ((p0 &&& (2147483647 : Int32)) % (7 : Int32))), .val (.ref w_CONTENT), .val (.int (1 : Int32)), .val (.int (1 : Int32))] [])) _
          refine XS.iload X14.here hx rfl (hb hby at_116) rfl ?_
          show Steps p.tables e below (T14.setTop (mkF m 118 #[.val (.int p0), .val (.int ((p0 &&& (2147483647 : Int32)) % (7 : Int32))), .val (.ref w_CONTENT), .val (.int (1 : Int32)), .val (.int (1 : Int32))] [(.int (1 : Int32))])) _
          refine XS.ifNo X14.here hx rfl (hb hby at_118) rfl ((if0 _ _).trans (feq (by decide : ¬ ((1 : Int32) = (0 : Int32)))).1) ?_
          show Steps p.tables e below (T14.setTop (mkF m 121 #[.val (.int p0), .val (.int ((p0 &&& (2147483647 : Int32)) % (7 : Int32))), .val (.ref w_CONTENT), .val (.int (1 : Int32)), .val (.int (1 : Int32))] [])) _
          refine XS.aloadN X14.here hx rfl (hb hby at_121) rfl rfl ?_
          show Steps p.tables e below (T14.setTop (mkF m 122 #[.val (.int p0), .val (.int ((p0 &&& (2147483647 : Int32)) % (7 : Int32))), .val (.ref w_CONTENT), .val (.int (1 : Int32)), .val (.int (1 : Int32))] [(.ref w_CONTENT)])) _
          refine st15.trans ?_
          show Steps p.tables e below (T15.setTop (mkF m 125 #[.val (.int p0), .val (.int ((p0 &&& (2147483647 : Int32)) % (7 : Int32))), .val (.ref w_CONTENT), .val (.int (1 : Int32)), .val (.int (1 : Int32))] [(.int (0 : Int32))])) _
          refine XS.ifYes X15.here hx rfl (pc0 := 125) (pc' := 133) rfl (hb hby at_125) rfl ((if0 _ _).trans (teq (by decide : (0 : Int32) = (0 : Int32))).1) (by decide) (by decide) ?_
          show Steps p.tables e below (T15.setTop (mkF m 133 #[.val (.int p0), .val (.int ((p0 &&& (2147483647 : Int32)) % (7 : Int32))), .val (.ref w_CONTENT), .val (.int (1 : Int32)), .val (.int (1 : Int32))] [])) _
          refine XS.iconst X15.here hx rfl (hb hby at_133) ?_
          show Steps p.tables e below (T15.setTop (mkF m 134 #[.val (.int p0), .val (.int ((p0 &&& (2147483647 : Int32)) % (7 : Int32))), .val (.ref w_CONTENT), .val (.int (1 : Int32)), .val (.int (1 : Int32))] [(.int (1 : Int32))])) _
          refine XS.goto X15.here hx rfl (pc0 := 134) (pc' := 138) rfl (hb hby at_134) (by decide) (by decide) ?_
          show Steps p.tables e below (T15.setTop (mkF m 138 #[.val (.int p0), .val (.int ((p0 &&& (2147483647 : Int32)) % (7 : Int32))), .val (.ref w_CONTENT), .val (.int (1 : Int32)), .val (.int (1 : Int32))] [(.int (1 : Int32))])) _
          exact retN X15 hx (t := .boolean) Bd.returns (by simp) (hb hby at_138) hr
        · show Q_rm_law Z p0 w_ELEMENT w_ATTRIBUTE w_TEXT w_PROCESSING_INSTRUCTION w_LIST_ITEM w_COMMENT w_CONTENT h0 n0 _ T15.heap _
          rw [e15]
          exact ⟨rfl, N15, rfl⟩
      · have k16 : ∀ target, Steps p.tables e below (s₁.setTop (mkF m 51 #[.val (.int p0), .val (.int ((p0 &&& (2147483647 : Int32)) % (7 : Int32))), .unset, .unset, .unset] [(.int (3 : Int32)), (.int ((p0 &&& (2147483647 : Int32)) % (7 : Int32)))])) target → Steps p.tables e below (s₁.setTop (mkF m 0 #[.val (.int p0), .unset, .unset, .unset, .unset] [])) target := by
          intro target kt
          refine k11 _ ?_
          show Steps p.tables e below (s₁.setTop (mkF m 37 #[.val (.int p0), .val (.int ((p0 &&& (2147483647 : Int32)) % (7 : Int32))), .unset, .unset, .unset] [(.int (2 : Int32)), (.int ((p0 &&& (2147483647 : Int32)) % (7 : Int32)))])) _
          refine XS.icmpYes X0.here hx rfl (pc0 := 37) (pc' := 49) rfl (hb hby at_37) rfl (feq hc37).2 (by decide) (by decide) ?_
          show Steps p.tables e below (s₁.setTop (mkF m 49 #[.val (.int p0), .val (.int ((p0 &&& (2147483647 : Int32)) % (7 : Int32))), .unset, .unset, .unset] [])) _
          refine XS.iloadN X0.here hx rfl (hb hby at_49) rfl ?_
          show Steps p.tables e below (s₁.setTop (mkF m 50 #[.val (.int p0), .val (.int ((p0 &&& (2147483647 : Int32)) % (7 : Int32))), .unset, .unset, .unset] [(.int ((p0 &&& (2147483647 : Int32)) % (7 : Int32)))])) _
          refine XS.iconst X0.here hx rfl (hb hby at_50) ?_
          exact kt
        by_cases hc51 : ((p0 &&& (2147483647 : Int32)) % (7 : Int32)) = (3 : Int32)
        · obtain ⟨T17, X17, e17, st17⟩ := getS2 X0 hx hZ hown (host := "") (Or.inl (hw _ (List.mem_of_getElem? (i := 24) rfl))) Via.refl e0 S_TEXT (g := (mkF m 54 #[.val (.int p0), .val (.int ((p0 &&& (2147483647 : Int32)) % (7 : Int32))), .unset, .unset, .unset] [])) rfl (hb hby at_54)
          obtain ⟨cq18, kq18, q18a, q18b, q18c⟩ := isOf hZ e17 E_TEXT
          obtain ⟨_, _, ⟨T18, L18, k18, n18⟩, -, X18, ⟨Lc18, hQ18, l18, y18, z18⟩, st18⟩ := X17.virtualBack hx (y := (⟨"com/example/albero/albero/mode/ColumnPath$Node", "isContent", "()Z"⟩ : MethodName)) (z := (⟨"com/example/albero/albero/mode/ColumnPath$Node", "isContent", "()Z"⟩ : MethodName)) hown (mvT hZ (hw _ (List.mem_of_getElem? (i := 4) rfl))) (mvT hZ (hw _ (List.mem_of_getElem? (i := 5) rfl))) (notFace_of_selects (args := #[]) (mvT hZ (hw _ (List.mem_of_getElem? (i := 7) rfl)))) (mvT hZ (hw _ (List.mem_of_getElem? (i := 7) rfl))) (mvT hZ (hw _ (List.mem_of_getElem? (i := 6) rfl))) (by decide) (backOf (W := 0) (rm_isO l Z a0 hw [] w_TEXT w_ATTRIBUTE h0 n0 Z0 S_ATTRIBUTE ne_TEXT_ATTRIBUTE) hZ (hw _ (List.mem_of_getElem? (i := 8) rfl)) (hw _ (List.mem_of_getElem? (i := 2) rfl)) (by decide) (by decide)) q18a q18c (g := (mkF m 98 #[.val (.int p0), .val (.int ((p0 &&& (2147483647 : Int32)) % (7 : Int32))), .val (.ref w_TEXT), .val (.int (1 : Int32)), .unset] [(.ref w_TEXT)])) rfl (by rw [hml]; rfl) (Steps.refl _) (argsL := []) (rest := []) (lenOf pd_0 rfl) rfl (by show 2 * 0 + _ ≤ _; exact Nat.le_of_eq rfl) (hb hby at_98) (fun _ _ => ⟨rfl, e17, (by decide : 0 + 0 ≤ _), (by decide : 0 + 0 ≤ _)⟩)
          dsimp only [Pt.U, Pt.locs, Pt.cells, Pt.slots] at X18 l18 y18 z18 st18 hQ18
          subst l18 y18 z18
          obtain ⟨rfl, N18q, e18⟩ := hQ18
          have N18 := Fr.app N0 N18q
          obtain ⟨cq19, kq19, q19a, q19b, q19c⟩ := isOf hZ e18 E_TEXT
          obtain ⟨_, _, ⟨T19, L19, k19, n19⟩, -, X19, ⟨Lc19, hQ19, l19, y19, z19⟩, st19⟩ := X18.virtualBack hx (y := (⟨"com/example/albero/albero/mode/ColumnPath$Node", "mayHoldXml", "()Z"⟩ : MethodName)) (z := (⟨"com/example/albero/albero/mode/ColumnPath$Node", "mayHoldXml", "()Z"⟩ : MethodName)) hown (mvT hZ (hw _ (List.mem_of_getElem? (i := 11) rfl))) (mvT hZ (hw _ (List.mem_of_getElem? (i := 12) rfl))) (notFace_of_selects (args := #[]) (mvT hZ (hw _ (List.mem_of_getElem? (i := 14) rfl)))) (mvT hZ (hw _ (List.mem_of_getElem? (i := 14) rfl))) (mvT hZ (hw _ (List.mem_of_getElem? (i := 13) rfl))) (by decide) (backOf (W := 0) (rm_hold l Z a0 hw [] w_TEXT (0 : Int32) h0 n0 Z0 F_TEXT_mayHoldXml) hZ (hw _ (List.mem_of_getElem? (i := 15) rfl)) (hw _ (List.mem_of_getElem? (i := 2) rfl)) (by decide) (by decide)) q19a q19c (g := (mkF m 110 #[.val (.int p0), .val (.int ((p0 &&& (2147483647 : Int32)) % (7 : Int32))), .val (.ref w_TEXT), .val (.int (1 : Int32)), .val (.int (1 : Int32))] [(.ref w_TEXT)])) rfl (by rw [hml]; rfl) (Steps.refl _) (argsL := []) (rest := []) (lenOf pd_0 rfl) rfl (by show 2 * 0 + _ ≤ _; exact Nat.le_of_eq rfl) (hb hby at_110) (fun _ _ => ⟨rfl, e18, (by decide : 0 + 0 ≤ _), (by decide : 0 + 0 ≤ _)⟩)
          dsimp only [Pt.U, Pt.locs, Pt.cells, Pt.slots] at X19 l19 y19 z19 st19 hQ19
          subst l19 y19 z19
          obtain ⟨rfl, N19q, e19⟩ := hQ19
          have N19 := Fr.app N18 N19q
          obtain ⟨cq20, kq20, q20a, q20b, q20c⟩ := isOf hZ e19 E_TEXT
          obtain ⟨_, _, ⟨T20, L20, k20, n20⟩, -, X20, ⟨Lc20, hQ20, l20, y20, z20⟩, st20⟩ := X19.virtualBack hx (y := (⟨"com/example/albero/albero/mode/ColumnPath$Node", "mayBeNil", "()Z"⟩ : MethodName)) (z := (⟨"com/example/albero/albero/mode/ColumnPath$Node", "mayBeNil", "()Z"⟩ : MethodName)) hown (mvT hZ (hw _ (List.mem_of_getElem? (i := 18) rfl))) (mvT hZ (hw _ (List.mem_of_getElem? (i := 19) rfl))) (notFace_of_selects (args := #[]) (mvT hZ (hw _ (List.mem_of_getElem? (i := 21) rfl)))) (mvT hZ (hw _ (List.mem_of_getElem? (i := 21) rfl))) (mvT hZ (hw _ (List.mem_of_getElem? (i := 20) rfl))) (by decide) (backOf (W := 0) (rm_nilO l Z a0 hw [] w_TEXT w_ELEMENT h0 n0 Z0 S_ELEMENT ne_TEXT_ELEMENT) hZ (hw _ (List.mem_of_getElem? (i := 22) rfl)) (hw _ (List.mem_of_getElem? (i := 2) rfl)) (by decide) (by decide)) q20a q20c (g := (mkF m 122 #[.val (.int p0), .val (.int ((p0 &&& (2147483647 : Int32)) % (7 : Int32))), .val (.ref w_TEXT), .val (.int (1 : Int32)), .val (.int (1 : Int32))] [(.ref w_TEXT)])) rfl (by rw [hml]; rfl) (Steps.refl _) (argsL := []) (rest := []) (lenOf pd_0 rfl) rfl (by show 2 * 0 + _ ≤ _; exact Nat.le_of_eq rfl) (hb hby at_122) (fun _ _ => ⟨rfl, e19, (by decide : 0 + 0 ≤ _), (by decide : 0 + 0 ≤ _)⟩)
          dsimp only [Pt.U, Pt.locs, Pt.cells, Pt.slots] at X20 l20 y20 z20 st20 hQ20
          subst l20 y20 z20
          obtain ⟨rfl, N20q, e20⟩ := hQ20
          have N20 := Fr.app N19 N20q
          obtain ⟨fs, hr, hrun, hended, hW, hsame⟩ := X20.leave (v := some (.int (1 : Int32))) (fun h => by rw [Bd.returns] at h; cases h)
          refine ⟨_, _, pre0 _ ?_, hrun, hended, _, _, rfl, ?_, ⟨_, rfl⟩, hW, hsame.mono (by decide) (by decide)⟩
          · refine k16 _ ?_
            show Steps p.tables e below (s₁.setTop (mkF m 51 #[.val (.int p0), .val (.int ((p0 &&& (2147483647 : Int32)) % (7 : Int32))), .unset, .unset, .unset] [(.int (3 : Int32)), (.int ((p0 &&& (2147483647 : Int32)) % (7 : Int32)))])) _
            refine XS.icmpNo X0.here hx rfl (hb hby at_51) rfl (teq hc51).2 ?_
            show Steps p.tables e below (s₁.setTop (mkF m 54 #[.val (.int p0), .val (.int ((p0 &&& (2147483647 : Int32)) % (7 : Int32))), .unset, .unset, .unset] [])) _
            refine st17 _ ?_
            show Steps p.tables e below (T17.setTop (mkF m 57 #[.val (.int p0), .val (.int ((p0 &&& (2147483647 : Int32)) % (7 : Int32))), .unset, .unset, .unset] [(.ref w_TEXT)])) _
            refine XS.astoreN X17.here hx rfl (hb hby at_57) rfl rfl (l' := #[.val (.int p0), .val (.int ((p0 &&& (2147483647 : Int32)) % (7 : Int32))), .val (.ref w_TEXT), .unset, .unset]) rfl ?_
            show Steps p.tables e below (T17.setTop (mkF m 58 #[.val (.int p0), .val (.int ((p0 &&& (2147483647 : Int32)) % (7 : Int32))), .val (.ref w_TEXT), .unset, .unset] [])) _
            refine XS.iconst X17.here hx rfl (hb hby at_58) ?_
            show Steps p.tables e below (T17.setTop (mkF m 59 #[.val (.int p0), .val (.int ((p0 &&& (2147483647 : Int32)) % (7 : Int32))), .val (.ref w_TEXT), .unset, .unset] [(.int (1 : Int32))])) _
            refine XS.istoreN X17.here hx rfl (hb hby at_59) rfl (l' := #[.val (.int p0), .val (.int ((p0 &&& (2147483647 : Int32)) % (7 : Int32))), .val (.ref w_TEXT), .val (.int (1 : Int32)), .unset]) rfl ?_
            show Steps p.tables e below (T17.setTop (mkF m 60 #[.val (.int p0), .val (.int ((p0 &&& (2147483647 : Int32)) % (7 : Int32))), .val (.ref w_TEXT), .val (.int (1 : Int32)), .unset] [])) _
            refine XS.goto X17.here hx rfl (pc0 := 60) (pc' := 97) rfl (hb hby at_60) (by decide) (by decide) ?_
            show Steps p.tables e below (T17.setTop (mkF m 97 #[.val (.int p0), .val (.int ((p0 &&& (2147483647 : Int32)) % (7 : Int32))), .val (.ref w_TEXT), .val (.int (1 : Int32)), .unset] [])) _
            refine XS.aloadN X17.here hx rfl (hb hby at_97) rfl rfl ?_
            show Steps p.tables e below (T17.setTop (mkF m 98 #[.val (.int p0), .val (.int ((p0 &&& (2147483647 : Int32)) % (7 : Int32))), .val (.ref w_TEXT), .val (.int (1 : Int32)), .unset] [(.ref w_TEXT)])) _
            refine st18.trans ?_
            show Steps p.tables e below (T18.setTop (mkF m 101 #[.val (.int p0), .val (.int ((p0 &&& (2147483647 : Int32)) % (7 : Int32))), .val (.ref w_TEXT), .val (.int (1 : Int32)), .unset] [(.int (1 : Int32))])) _
            refine XS.istore X18.here hx rfl (hb hby at_101) rfl (l' := #[.val (.int p0), .val (.int ((p0 &&& (2147483647 : Int32)) % (7 : Int32))), .val (.ref w_TEXT), .val (.int (1 : Int32)), .val (.int (1 : Int32))]) rfl ?_
            show Steps p.tables e below (T18.setTop (mkF m 103 #[.val (.int p0), .val (.int ((p0 &&& (2147483647 : Int32)) % (7 : Int32))), .val (.ref w_TEXT), .val (.int (1 : Int32)), .val (.int (1 : Int32))] [])) _
            refine XS.iload X18.here hx rfl (hb hby at_103) rfl ?_
            show Steps p.tables e below (T18.setTop (mkF m 105 #[.val (.int p0), .val (.int ((p0 &&& (2147483647 : Int32)) % (7 : Int32))), .val (.ref w_TEXT), .val (.int (1 : Int32)), .val (.int (1 : Int32))] [(.int (1 : Int32))])) _
            refine XS.iloadN X18.here hx rfl (hb hby at_105) rfl ?_
            show Steps p.tables e below (T18.setTop (mkF m 106 #[.val (.int p0), .val (.int ((p0 &&& (2147483647 : Int32)) % (7 : Int32))), .val (.ref w_TEXT), .val (.int (1 : Int32)), .val (.int (1 : Int32))] [(.int (1 : Int32)), (.int (1 : Int32))])) _
            refine XS.icmpNo X18.here hx rfl (hb hby at_106) rfl (teq (by decide : (1 : Int32) = (1 : Int32))).2 ?_
            show Steps p.tables e below (T18.setTop (mkF m 109 #[.val (.int p0), .val (.int ((p0 &&& (2147483647 : Int32)) % (7 : Int32))), .val (.ref w_TEXT), .val (.int (1 : Int32)), .val (.int (1 : Int32))] [])) _
            refine XS.aloadN X18.here hx rfl (hb hby at_109) rfl rfl ?_
            show Steps p.tables e below (T18.setTop (mkF m 110 #[.val (.int p0), .val (.int ((p0 &&& (2147483647 : Int32)) % (7 : Int32))), .val (.ref w_TEXT), .val (.int (1 : Int32)), .val (.int (1 : Int32))] [(.ref w_TEXT)])) _
            refine st19.trans ?_
            show Steps p.tables e below (T19.setTop (mkF m 113 #[.val (.int p0), .val (.int ((p0 &&& (2147483647 : Int32)) % (7 : Int32))), .val (.ref w_TEXT), .val (.int (1 : Int32)), .val (.int (1 : Int32))] [(.int (0 : Int32))])) _
            refine XS.ifYes X19.here hx rfl (pc0 := 113) (pc' := 121) rfl (hb hby at_113) rfl ((if0 _ _).trans (teq (by decide : (0 : Int32) = (0 : Int32))).1) (by decide) (by decide) ?_
            show Steps p.tables e below (T19.setTop (mkF m 121 #[.val (.int p0), .val (.int ((p0 &&& (2147483647 : Int32)) % (7 : Int32))), .val (.ref w_TEXT), .val (.int (1 : Int32)), .val (.int (1 : Int32))] [])) _
            refine XS.aloadN X19.here hx rfl (hb hby at_121) rfl rfl ?_
            show Steps p.tables e below (T19.setTop (mkF m 122 #[.val (.int p0), .val (.int ((p0 &&& (2147483647 : Int32)) % (7 : Int32))), .val (.ref w_TEXT), .val (.int (1 : Int32)), .val (.int (1 : Int32))] [(.ref w_TEXT)])) _
            refine st20.trans ?_
            show Steps p.tables e below (T20.setTop (mkF m 125 #[.val (.int p0), .val (.int ((p0 &&& (2147483647 : Int32)) % (7 : Int32))), .val (.ref w_TEXT), .val (.int (1 : Int32)), .val (.int (1 : Int32))] [(.int (0 : Int32))])) _
            refine XS.ifYes X20.here hx rfl (pc0 := 125) (pc' := 133) rfl (hb hby at_125) rfl ((if0 _ _).trans (teq (by decide : (0 : Int32) = (0 : Int32))).1) (by decide) (by decide) ?_
            show Steps p.tables e below (T20.setTop (mkF m 133 #[.val (.int p0), .val (.int ((p0 &&& (2147483647 : Int32)) % (7 : Int32))), .val (.ref w_TEXT), .val (.int (1 : Int32)), .val (.int (1 : Int32))] [])) _
            refine XS.iconst X20.here hx rfl (hb hby at_133) ?_
            show Steps p.tables e below (T20.setTop (mkF m 134 #[.val (.int p0), .val (.int ((p0 &&& (2147483647 : Int32)) % (7 : Int32))), .val (.ref w_TEXT), .val (.int (1 : Int32)), .val (.int (1 : Int32))] [(.int (1 : Int32))])) _
            refine XS.goto X20.here hx rfl (pc0 := 134) (pc' := 138) rfl (hb hby at_134) (by decide) (by decide) ?_
            show Steps p.tables e below (T20.setTop (mkF m 138 #[.val (.int p0), .val (.int ((p0 &&& (2147483647 : Int32)) % (7 : Int32))), .val (.ref w_TEXT), .val (.int (1 : Int32)), .val (.int (1 : Int32))] [(.int (1 : Int32))])) _
            exact retN X20 hx (t := .boolean) Bd.returns (by simp) (hb hby at_138) hr
          · show Q_rm_law Z p0 w_ELEMENT w_ATTRIBUTE w_TEXT w_PROCESSING_INSTRUCTION w_LIST_ITEM w_COMMENT w_CONTENT h0 n0 _ T20.heap _
            rw [e20]
            exact ⟨rfl, N20, rfl⟩
        · have k21 : ∀ target, Steps p.tables e below (s₁.setTop (mkF m 65 #[.val (.int p0), .val (.int ((p0 &&& (2147483647 : Int32)) % (7 : Int32))), .unset, .unset, .unset] [(.int (4 : Int32)), (.int ((p0 &&& (2147483647 : Int32)) % (7 : Int32)))])) target → Steps p.tables e below (s₁.setTop (mkF m 0 #[.val (.int p0), .unset, .unset, .unset, .unset] [])) target := by
            intro target kt
            refine k16 _ ?_
            show Steps p.tables e below (s₁.setTop (mkF m 51 #[.val (.int p0), .val (.int ((p0 &&& (2147483647 : Int32)) % (7 : Int32))), .unset, .unset, .unset] [(.int (3 : Int32)), (.int ((p0 &&& (2147483647 : Int32)) % (7 : Int32)))])) _
            refine XS.icmpYes X0.here hx rfl (pc0 := 51) (pc' := 63) rfl (hb hby at_51) rfl (feq hc51).2 (by decide) (by decide) ?_
            show Steps p.tables e below (s₁.setTop (mkF m 63 #[.val (.int p0), .val (.int ((p0 &&& (2147483647 : Int32)) % (7 : Int32))), .unset, .unset, .unset] [])) _
            refine XS.iloadN X0.here hx rfl (hb hby at_63) rfl ?_
            show Steps p.tables e below (s₁.setTop (mkF m 64 #[.val (.int p0), .val (.int ((p0 &&& (2147483647 : Int32)) % (7 : Int32))), .unset, .unset, .unset] [(.int ((p0 &&& (2147483647 : Int32)) % (7 : Int32)))])) _
            refine XS.iconst X0.here hx rfl (hb hby at_64) ?_
            exact kt
          by_cases hc65 : ((p0 &&& (2147483647 : Int32)) % (7 : Int32)) = (4 : Int32)
          · obtain ⟨T22, X22, e22, st22⟩ := getS2 X0 hx hZ hown (host := "") (Or.inl (hw _ (List.mem_of_getElem? (i := 30) rfl))) Via.refl e0 S_COMMENT (g := (mkF m 68 #[.val (.int p0), .val (.int ((p0 &&& (2147483647 : Int32)) % (7 : Int32))), .unset, .unset, .unset] [])) rfl (hb hby at_68)
            obtain ⟨cq23, kq23, q23a, q23b, q23c⟩ := isOf hZ e22 E_COMMENT
            obtain ⟨_, _, ⟨T23, L23, k23, n23⟩, -, X23, ⟨Lc23, hQ23, l23, y23, z23⟩, st23⟩ := X22.virtualBack hx (y := (⟨"com/example/albero/albero/mode/ColumnPath$Node", "isContent", "()Z"⟩ : MethodName)) (z := (⟨"com/example/albero/albero/mode/ColumnPath$Node", "isContent", "()Z"⟩ : MethodName)) hown (mvT hZ (hw _ (List.mem_of_getElem? (i := 4) rfl))) (mvT hZ (hw _ (List.mem_of_getElem? (i := 5) rfl))) (notFace_of_selects (args := #[]) (mvT hZ (hw _ (List.mem_of_getElem? (i := 7) rfl)))) (mvT hZ (hw _ (List.mem_of_getElem? (i := 7) rfl))) (mvT hZ (hw _ (List.mem_of_getElem? (i := 6) rfl))) (by decide) (backOf (W := 0) (rm_isO l Z a0 hw [] w_COMMENT w_ATTRIBUTE h0 n0 Z0 S_ATTRIBUTE ne_COMMENT_ATTRIBUTE) hZ (hw _ (List.mem_of_getElem? (i := 8) rfl)) (hw _ (List.mem_of_getElem? (i := 2) rfl)) (by decide) (by decide)) q23a q23c (g := (mkF m 98 #[.val (.int p0), .val (.int ((p0 &&& (2147483647 : Int32)) % (7 : Int32))), .val (.ref w_COMMENT), .val (.int (1 : Int32)), .unset] [(.ref w_COMMENT)])) rfl (by rw [hml]; rfl) (Steps.refl _) (argsL := []) (rest := []) (lenOf pd_0 rfl) rfl (by show 2 * 0 + _ ≤ _; exact Nat.le_of_eq rfl) (hb hby at_98) (fun _ _ => ⟨rfl, e22, (by decide : 0 + 0 ≤ _), (by decide : 0 + 0 ≤ _)⟩)
            dsimp only [Pt.U, Pt.locs, Pt.cells, Pt.slots] at X23 l23 y23 z23 st23 hQ23
            subst l23 y23 z23
            obtain ⟨rfl, N23q, e23⟩ := hQ23
            have N23 := Fr.app N0 N23q
            obtain ⟨cq24, kq24, q24a, q24b, q24c⟩ := isOf hZ e23 E_COMMENT
            obtain ⟨_, _, ⟨T24, L24, k24, n24⟩, -, X24, ⟨Lc24, hQ24, l24, y24, z24⟩, st24⟩ := X23.virtualBack hx (y := (⟨"com/example/albero/albero/mode/ColumnPath$Node", "mayHoldXml", "()Z"⟩ : MethodName)) (z := (⟨"com/example/albero/albero/mode/ColumnPath$Node", "mayHoldXml", "()Z"⟩ : MethodName)) hown (mvT hZ (hw _ (List.mem_of_getElem? (i := 11) rfl))) (mvT hZ (hw _ (List.mem_of_getElem? (i := 12) rfl))) (notFace_of_selects (args := #[]) (mvT hZ (hw _ (List.mem_of_getElem? (i := 14) rfl)))) (mvT hZ (hw _ (List.mem_of_getElem? (i := 14) rfl))) (mvT hZ (hw _ (List.mem_of_getElem? (i := 13) rfl))) (by decide) (backOf (W := 0) (rm_hold l Z a0 hw [] w_COMMENT (0 : Int32) h0 n0 Z0 F_COMMENT_mayHoldXml) hZ (hw _ (List.mem_of_getElem? (i := 15) rfl)) (hw _ (List.mem_of_getElem? (i := 2) rfl)) (by decide) (by decide)) q24a q24c (g := (mkF m 110 #[.val (.int p0), .val (.int ((p0 &&& (2147483647 : Int32)) % (7 : Int32))), .val (.ref w_COMMENT), .val (.int (1 : Int32)), .val (.int (1 : Int32))] [(.ref w_COMMENT)])) rfl (by rw [hml]; rfl) (Steps.refl _) (argsL := []) (rest := []) (lenOf pd_0 rfl) rfl (by show 2 * 0 + _ ≤ _; exact Nat.le_of_eq rfl) (hb hby at_110) (fun _ _ => ⟨rfl, e23, (by decide : 0 + 0 ≤ _), (by decide : 0 + 0 ≤ _)⟩)
            dsimp only [Pt.U, Pt.locs, Pt.cells, Pt.slots] at X24 l24 y24 z24 st24 hQ24
            subst l24 y24 z24
            obtain ⟨rfl, N24q, e24⟩ := hQ24
            have N24 := Fr.app N23 N24q
            obtain ⟨cq25, kq25, q25a, q25b, q25c⟩ := isOf hZ e24 E_COMMENT
            obtain ⟨_, _, ⟨T25, L25, k25, n25⟩, -, X25, ⟨Lc25, hQ25, l25, y25, z25⟩, st25⟩ := X24.virtualBack hx (y := (⟨"com/example/albero/albero/mode/ColumnPath$Node", "mayBeNil", "()Z"⟩ : MethodName)) (z := (⟨"com/example/albero/albero/mode/ColumnPath$Node", "mayBeNil", "()Z"⟩ : MethodName)) hown (mvT hZ (hw _ (List.mem_of_getElem? (i := 18) rfl))) (mvT hZ (hw _ (List.mem_of_getElem? (i := 19) rfl))) (notFace_of_selects (args := #[]) (mvT hZ (hw _ (List.mem_of_getElem? (i := 21) rfl)))) (mvT hZ (hw _ (List.mem_of_getElem? (i := 21) rfl))) (mvT hZ (hw _ (List.mem_of_getElem? (i := 20) rfl))) (by decide) (backOf (W := 0) (rm_nilO l Z a0 hw [] w_COMMENT w_ELEMENT h0 n0 Z0 S_ELEMENT ne_COMMENT_ELEMENT) hZ (hw _ (List.mem_of_getElem? (i := 22) rfl)) (hw _ (List.mem_of_getElem? (i := 2) rfl)) (by decide) (by decide)) q25a q25c (g := (mkF m 122 #[.val (.int p0), .val (.int ((p0 &&& (2147483647 : Int32)) % (7 : Int32))), .val (.ref w_COMMENT), .val (.int (1 : Int32)), .val (.int (1 : Int32))] [(.ref w_COMMENT)])) rfl (by rw [hml]; rfl) (Steps.refl _) (argsL := []) (rest := []) (lenOf pd_0 rfl) rfl (by show 2 * 0 + _ ≤ _; exact Nat.le_of_eq rfl) (hb hby at_122) (fun _ _ => ⟨rfl, e24, (by decide : 0 + 0 ≤ _), (by decide : 0 + 0 ≤ _)⟩)
            dsimp only [Pt.U, Pt.locs, Pt.cells, Pt.slots] at X25 l25 y25 z25 st25 hQ25
            subst l25 y25 z25
            obtain ⟨rfl, N25q, e25⟩ := hQ25
            have N25 := Fr.app N24 N25q
            obtain ⟨fs, hr, hrun, hended, hW, hsame⟩ := X25.leave (v := some (.int (1 : Int32))) (fun h => by rw [Bd.returns] at h; cases h)
            refine ⟨_, _, pre0 _ ?_, hrun, hended, _, _, rfl, ?_, ⟨_, rfl⟩, hW, hsame.mono (by decide) (by decide)⟩
            · refine k21 _ ?_
              show Steps p.tables e below (s₁.setTop (mkF m 65 #[.val (.int p0), .val (.int ((p0 &&& (2147483647 : Int32)) % (7 : Int32))), .unset, .unset, .unset] [(.int (4 : Int32)), (.int ((p0 &&& (2147483647 : Int32)) % (7 : Int32)))])) _
              refine XS.icmpNo X0.here hx rfl (hb hby at_65) rfl (teq hc65).2 ?_
              show Steps p.tables e below (s₁.setTop (mkF m 68 #[.val (.int p0), .val (.int ((p0 &&& (2147483647 : Int32)) % (7 : Int32))), .unset, .unset, .unset] [])) _
              refine st22 _ ?_
              show Steps p.tables e below (T22.setTop (mkF m 71 #[.val (.int p0), .val (.int ((p0 &&& (2147483647 : Int32)) % (7 : Int32))), .unset, .unset, .unset] [(.ref w_COMMENT)])) _
              refine XS.astoreN X22.here hx rfl (hb hby at_71) rfl rfl (l' := #[.val (.int p0), .val (.int ((p0 &&& (2147483647 : Int32)) % (7 : Int32))), .val (.ref w_COMMENT), .unset, .unset]) rfl ?_
              show Steps p.tables e below (T22.setTop (mkF m 72 #[.val (.int p0), .val (.int ((p0 &&& (2147483647 : Int32)) % (7 : Int32))), .val (.ref w_COMMENT), .unset, .unset] [])) _
              refine XS.iconst X22.here hx rfl (hb hby at_72) ?_
              show Steps p.tables e below (T22.setTop (mkF m 73 #[.val (.int p0), .val (.int ((p0 &&& (2147483647 : Int32)) % (7 : Int32))), .val (.ref w_COMMENT), .unset, .unset] [(.int (1 : Int32))])) _
              refine XS.istoreN X22.here hx rfl (hb hby at_73) rfl (l' := #[.val (.int p0), .val (.int ((p0 &&& (2147483647 : Int32)) % (7 : Int32))), .val (.ref w_COMMENT), .val (.int (1 : Int32)), .unset]) rfl ?_
              show Steps p.tables e below (T22.setTop (mkF m 74 #[.val (.int p0), .val (.int ((p0 &&& (2147483647 : Int32)) % (7 : Int32))), .val (.ref w_COMMENT), .val (.int (1 : Int32)), .unset] [])) _
              refine XS.goto X22.here hx rfl (pc0 := 74) (pc' := 97) rfl (hb hby at_74) (by decide) (by decide) ?_
              show Steps p.tables e below (T22.setTop (mkF m 97 #[.val (.int p0), .val (.int ((p0 &&& (2147483647 : Int32)) % (7 : Int32))), .val (.ref w_COMMENT), .val (.int (1 : Int32)), .unset] [])) _
              refine XS.aloadN X22.here hx rfl (hb hby at_97) rfl rfl ?_
              show Steps p.tables e below (T22.setTop (mkF m 98 #[.val (.int p0), .val (.int ((p0 &&& (2147483647 : Int32)) % (7 : Int32))), .val (.ref w_COMMENT), .val (.int (1 : Int32)), .unset] [(.ref w_COMMENT)])) _
              refine st23.trans ?_
              show Steps p.tables e below (T23.setTop (mkF m 101 #[.val (.int p0), .val (.int ((p0 &&& (2147483647 : Int32)) % (7 : Int32))), .val (.ref w_COMMENT), .val (.int (1 : Int32)), .unset] [(.int (1 : Int32))])) _
              refine XS.istore X23.here hx rfl (hb hby at_101) rfl (l' := #[.val (.int p0), .val (.int ((p0 &&& (2147483647 : Int32)) % (7 : Int32))), .val (.ref w_COMMENT), .val (.int (1 : Int32)), .val (.int (1 : Int32))]) rfl ?_
              show Steps p.tables e below (T23.setTop (mkF m 103 #[.val (.int p0), .val (.int ((p0 &&& (2147483647 : Int32)) % (7 : Int32))), .val (.ref w_COMMENT), .val (.int (1 : Int32)), .val (.int (1 : Int32))] [])) _
              refine XS.iload X23.here hx rfl (hb hby at_103) rfl ?_
              show Steps p.tables e below (T23.setTop (mkF m 105 #[.val (.int p0), .val (.int ((p0 &&& (2147483647 : Int32)) % (7 : Int32))), .val (.ref w_COMMENT), .val (.int (1 : Int32)), .val (.int (1 : Int32))] [(.int (1 : Int32))])) _
              refine XS.iloadN X23.here hx rfl (hb hby at_105) rfl ?_
              show Steps p.tables e below (T23.setTop (mkF m 106 #[.val (.int p0), .val (.int ((p0 &&& (2147483647 : Int32)) % (7 : Int32))), .val (.ref w_COMMENT), .val (.int (1 : Int32)), .val (.int (1 : Int32))] [(.int (1 : Int32)), (.int (1 : Int32))])) _
              refine XS.icmpNo X23.here hx rfl (hb hby at_106) rfl (teq (by decide : (1 : Int32) = (1 : Int32))).2 ?_
              show Steps p.tables e below (T23.setTop (mkF m 109 #[.val (.int p0), .val (.int ((p0 &&& (2147483647 : Int32)) % (7 : Int32))), .val (.ref w_COMMENT), .val (.int (1 : Int32)), .val (.int (1 : Int32))] [])) _
              refine XS.aloadN X23.here hx rfl (hb hby at_109) rfl rfl ?_
              show Steps p.tables e below (T23.setTop (mkF m 110 #[.val (.int p0), .val (.int ((p0 &&& (2147483647 : Int32)) % (7 : Int32))), .val (.ref w_COMMENT), .val (.int (1 : Int32)), .val (.int (1 : Int32))] [(.ref w_COMMENT)])) _
              refine st24.trans ?_
              show Steps p.tables e below (T24.setTop (mkF m 113 #[.val (.int p0), .val (.int ((p0 &&& (2147483647 : Int32)) % (7 : Int32))), .val (.ref w_COMMENT), .val (.int (1 : Int32)), .val (.int (1 : Int32))] [(.int (0 : Int32))])) _
              refine XS.ifYes X24.here hx rfl (pc0 := 113) (pc' := 121) rfl (hb hby at_113) rfl ((if0 _ _).trans (teq (by decide : (0 : Int32) = (0 : Int32))).1) (by decide) (by decide) ?_
              show Steps p.tables e below (T24.setTop (mkF m 121 #[.val (.int p0), .val (.int ((p0 &&& (2147483647 : Int32)) % (7 : Int32))), .val (.ref w_COMMENT), .val (.int (1 : Int32)), .val (.int (1 : Int32))] [])) _
              refine XS.aloadN X24.here hx rfl (hb hby at_121) rfl rfl ?_
              show Steps p.tables e below (T24.setTop (mkF m 122 #[.val (.int p0), .val (.int ((p0 &&& (2147483647 : Int32)) % (7 : Int32))), .val (.ref w_COMMENT), .val (.int (1 : Int32)), .val (.int (1 : Int32))] [(.ref w_COMMENT)])) _
              refine st25.trans ?_
              show Steps p.tables e below (T25.setTop (mkF m 125 #[.val (.int p0), .val (.int ((p0 &&& (2147483647 : Int32)) % (7 : Int32))), .val (.ref w_COMMENT), .val (.int (1 : Int32)), .val (.int (1 : Int32))] [(.int (0 : Int32))])) _
              refine XS.ifYes X25.here hx rfl (pc0 := 125) (pc' := 133) rfl (hb hby at_125) rfl ((if0 _ _).trans (teq (by decide : (0 : Int32) = (0 : Int32))).1) (by decide) (by decide) ?_
              show Steps p.tables e below (T25.setTop (mkF m 133 #[.val (.int p0), .val (.int ((p0 &&& (2147483647 : Int32)) % (7 : Int32))), .val (.ref w_COMMENT), .val (.int (1 : Int32)), .val (.int (1 : Int32))] [])) _
              refine XS.iconst X25.here hx rfl (hb hby at_133) ?_
              show Steps p.tables e below (T25.setTop (mkF m 134 #[.val (.int p0), .val (.int ((p0 &&& (2147483647 : Int32)) % (7 : Int32))), .val (.ref w_COMMENT), .val (.int (1 : Int32)), .val (.int (1 : Int32))] [(.int (1 : Int32))])) _
              refine XS.goto X25.here hx rfl (pc0 := 134) (pc' := 138) rfl (hb hby at_134) (by decide) (by decide) ?_
              show Steps p.tables e below (T25.setTop (mkF m 138 #[.val (.int p0), .val (.int ((p0 &&& (2147483647 : Int32)) % (7 : Int32))), .val (.ref w_COMMENT), .val (.int (1 : Int32)), .val (.int (1 : Int32))] [(.int (1 : Int32))])) _
              exact retN X25 hx (t := .boolean) Bd.returns (by simp) (hb hby at_138) hr
            · show Q_rm_law Z p0 w_ELEMENT w_ATTRIBUTE w_TEXT w_PROCESSING_INSTRUCTION w_LIST_ITEM w_COMMENT w_CONTENT h0 n0 _ T25.heap _
              rw [e25]
              exact ⟨rfl, N25, rfl⟩
          · have k26 : ∀ target, Steps p.tables e below (s₁.setTop (mkF m 79 #[.val (.int p0), .val (.int ((p0 &&& (2147483647 : Int32)) % (7 : Int32))), .unset, .unset, .unset] [(.int (5 : Int32)), (.int ((p0 &&& (2147483647 : Int32)) % (7 : Int32)))])) target → Steps p.tables e below (s₁.setTop (mkF m 0 #[.val (.int p0), .unset, .unset, .unset, .unset] [])) target := by
              intro target kt
              refine k21 _ ?_
              show Steps p.tables e below (s₁.setTop (mkF m 65 #[.val (.int p0), .val (.int ((p0 &&& (2147483647 : Int32)) % (7 : Int32))), .unset, .unset, .unset] [(.int (4 : Int32)), (.int ((p0 &&& (2147483647 : Int32)) % (7 : Int32)))])) _
              refine XS.icmpYes X0.here hx rfl (pc0 := 65) (pc' := 77) rfl (hb hby at_65) rfl (feq hc65).2 (by decide) (by decide) ?_
              show Steps p.tables e below (s₁.setTop (mkF m 77 #[.val (.int p0), .val (.int ((p0 &&& (2147483647 : Int32)) % (7 : Int32))), .unset, .unset, .unset] [])) _
              refine XS.iloadN X0.here hx rfl (hb hby at_77) rfl ?_
              show Steps p.tables e below (s₁.setTop (mkF m 78 #[.val (.int p0), .val (.int ((p0 &&& (2147483647 : Int32)) % (7 : Int32))), .unset, .unset, .unset] [(.int ((p0 &&& (2147483647 : Int32)) % (7 : Int32)))])) _
              refine XS.iconst X0.here hx rfl (hb hby at_78) ?_
              exact kt
            by_cases hc79 : ((p0 &&& (2147483647 : Int32)) % (7 : Int32)) = (5 : Int32)
            · obtain ⟨T27, X27, e27, st27⟩ := getS2 X0 hx hZ hown (host := "") (Or.inl (hw _ (List.mem_of_getElem? (i := 26) rfl))) Via.refl e0 S_PROCESSING_INSTRUCTION (g := (mkF m 82 #[.val (.int p0), .val (.int ((p0 &&& (2147483647 : Int32)) % (7 : Int32))), .unset, .unset, .unset] [])) rfl (hb hby at_82)
              obtain ⟨cq28, kq28, q28a, q28b, q28c⟩ := isOf hZ e27 E_PROCESSING_INSTRUCTION
              obtain ⟨_, _, ⟨T28, L28, k28, n28⟩, -, X28, ⟨Lc28, hQ28, l28, y28, z28⟩, st28⟩ := X27.virtualBack hx (y := (⟨"com/example/albero/albero/mode/ColumnPath$Node", "isContent", "()Z"⟩ : MethodName)) (z := (⟨"com/example/albero/albero/mode/ColumnPath$Node", "isContent", "()Z"⟩ : MethodName)) hown (mvT hZ (hw _ (List.mem_of_getElem? (i := 4) rfl))) (mvT hZ (hw _ (List.mem_of_getElem? (i := 5) rfl))) (notFace_of_selects (args := #[]) (mvT hZ (hw _ (List.mem_of_getElem? (i := 7) rfl)))) (mvT hZ (hw _ (List.mem_of_getElem? (i := 7) rfl))) (mvT hZ (hw _ (List.mem_of_getElem? (i := 6) rfl))) (by decide) (backOf (W := 0) (rm_isO l Z a0 hw [] w_PROCESSING_INSTRUCTION w_ATTRIBUTE h0 n0 Z0 S_ATTRIBUTE ne_PROCESSING_INSTRUCTION_ATTRIBUTE) hZ (hw _ (List.mem_of_getElem? (i := 8) rfl)) (hw _ (List.mem_of_getElem? (i := 2) rfl)) (by decide) (by decide)) q28a q28c (g := (mkF m 98 #[.val (.int p0), .val (.int ((p0 &&& (2147483647 : Int32)) % (7 : Int32))), .val (.ref w_PROCESSING_INSTRUCTION), .val (.int (1 : Int32)), .unset] [(.ref w_PROCESSING_INSTRUCTION)])) rfl (by rw [hml]; rfl) (Steps.refl _) (argsL := []) (rest := []) (lenOf pd_0 rfl) rfl (by show 2 * 0 + _ ≤ _; exact Nat.le_of_eq rfl) (hb hby at_98) (fun _ _ => ⟨rfl, e27, (by decide : 0 + 0 ≤ _), (by decide : 0 + 0 ≤ _)⟩)
              dsimp only [Pt.U, Pt.locs, Pt.cells, Pt.slots] at X28 l28 y28 z28 st28 hQ28
              subst l28 y28 z28
              obtain ⟨rfl, N28q, e28⟩ := hQ28
              have N28 := Fr.app N0 N28q
              obtain ⟨cq29, kq29, q29a, q29b, q29c⟩ := isOf hZ e28 E_PROCESSING_INSTRUCTION
              obtain ⟨_, _, ⟨T29, L29, k29, n29⟩, -, X29, ⟨Lc29, hQ29, l29, y29, z29⟩, st29⟩ := X28.virtualBack hx (y := (⟨"com/example/albero/albero/mode/ColumnPath$Node", "mayHoldXml", "()Z"⟩ : MethodName)) (z := (⟨"com/example/albero/albero/mode/ColumnPath$Node", "mayHoldXml", "()Z"⟩ : MethodName)) hown (mvT hZ (hw _ (List.mem_of_getElem? (i := 11) rfl))) (mvT hZ (hw _ (List.mem_of_getElem? (i := 12) rfl))) (notFace_of_selects (args := #[]) (mvT hZ (hw _ (List.mem_of_getElem? (i := 14) rfl)))) (mvT hZ (hw _ (List.mem_of_getElem? (i := 14) rfl))) (mvT hZ (hw _ (List.mem_of_getElem? (i := 13) rfl))) (by decide) (backOf (W := 0) (rm_hold l Z a0 hw [] w_PROCESSING_INSTRUCTION (0 : Int32) h0 n0 Z0 F_PROCESSING_INSTRUCTION_mayHoldXml) hZ (hw _ (List.mem_of_getElem? (i := 15) rfl)) (hw _ (List.mem_of_getElem? (i := 2) rfl)) (by decide) (by decide)) q29a q29c (g := (mkF m 110 #[.val (.int p0), .val (.int ((p0 &&& (2147483647 : Int32)) % (7 : Int32))), .val (.ref w_PROCESSING_INSTRUCTION), .val (.int (1 : Int32)), .val (.int (1 : Int32))] [(.ref w_PROCESSING_INSTRUCTION)])) rfl (by rw [hml]; rfl) (Steps.refl _) (argsL := []) (rest := []) (lenOf pd_0 rfl) rfl (by show 2 * 0 + _ ≤ _; exact Nat.le_of_eq rfl) (hb hby at_110) (fun _ _ => ⟨rfl, e28, (by decide : 0 + 0 ≤ _), (by decide : 0 + 0 ≤ _)⟩)
              dsimp only [Pt.U, Pt.locs, Pt.cells, Pt.slots] at X29 l29 y29 z29 st29 hQ29
              subst l29 y29 z29
              obtain ⟨rfl, N29q, e29⟩ := hQ29
              have N29 := Fr.app N28 N29q
              obtain ⟨cq30, kq30, q30a, q30b, q30c⟩ := isOf hZ e29 E_PROCESSING_INSTRUCTION
              obtain ⟨_, _, ⟨T30, L30, k30, n30⟩, -, X30, ⟨Lc30, hQ30, l30, y30, z30⟩, st30⟩ := X29.virtualBack hx (y := (⟨"com/example/albero/albero/mode/ColumnPath$Node", "mayBeNil", "()Z"⟩ : MethodName)) (z := (⟨"com/example/albero/albero/mode/ColumnPath$Node", "mayBeNil", "()Z"⟩ : MethodName)) hown (mvT hZ (hw _ (List.mem_of_getElem? (i := 18) rfl))) (mvT hZ (hw _ (List.mem_of_getElem? (i := 19) rfl))) (notFace_of_selects (args := #[]) (mvT hZ (hw _ (List.mem_of_getElem? (i := 21) rfl)))) (mvT hZ (hw _ (List.mem_of_getElem? (i := 21) rfl))) (mvT hZ (hw _ (List.mem_of_getElem? (i := 20) rfl))) (by decide) (backOf (W := 0) (rm_nilO l Z a0 hw [] w_PROCESSING_INSTRUCTION w_ELEMENT h0 n0 Z0 S_ELEMENT ne_PROCESSING_INSTRUCTION_ELEMENT) hZ (hw _ (List.mem_of_getElem? (i := 22) rfl)) (hw _ (List.mem_of_getElem? (i := 2) rfl)) (by decide) (by decide)) q30a q30c (g := (mkF m 122 #[.val (.int p0), .val (.int ((p0 &&& (2147483647 : Int32)) % (7 : Int32))), .val (.ref w_PROCESSING_INSTRUCTION), .val (.int (1 : Int32)), .val (.int (1 : Int32))] [(.ref w_PROCESSING_INSTRUCTION)])) rfl (by rw [hml]; rfl) (Steps.refl _) (argsL := []) (rest := []) (lenOf pd_0 rfl) rfl (by show 2 * 0 + _ ≤ _; exact Nat.le_of_eq rfl) (hb hby at_122) (fun _ _ => ⟨rfl, e29, (by decide : 0 + 0 ≤ _), (by decide : 0 + 0 ≤ _)⟩)
              dsimp only [Pt.U, Pt.locs, Pt.cells, Pt.slots] at X30 l30 y30 z30 st30 hQ30
              subst l30 y30 z30
              obtain ⟨rfl, N30q, e30⟩ := hQ30
              have N30 := Fr.app N29 N30q
              obtain ⟨fs, hr, hrun, hended, hW, hsame⟩ := X30.leave (v := some (.int (1 : Int32))) (fun h => by rw [Bd.returns] at h; cases h)
              refine ⟨_, _, pre0 _ ?_, hrun, hended, _, _, rfl, ?_, ⟨_, rfl⟩, hW, hsame.mono (by decide) (by decide)⟩
              · refine k26 _ ?_
                show Steps p.tables e below (s₁.setTop (mkF m 79 #[.val (.int p0), .val (.int ((p0 &&& (2147483647 : Int32)) % (7 : Int32))), .unset, .unset, .unset] [(.int (5 : Int32)), (.int ((p0 &&& (2147483647 : Int32)) % (7 : Int32)))])) _
                refine XS.icmpNo X0.here hx rfl (hb hby at_79) rfl (teq hc79).2 ?_
                show Steps p.tables e below (s₁.setTop (mkF m 82 #[.val (.int p0), .val (.int ((p0 &&& (2147483647 : Int32)) % (7 : Int32))), .unset, .unset, .unset] [])) _
                refine st27 _ ?_
                show Steps p.tables e below (T27.setTop (mkF m 85 #[.val (.int p0), .val (.int ((p0 &&& (2147483647 : Int32)) % (7 : Int32))), .unset, .unset, .unset] [(.ref w_PROCESSING_INSTRUCTION)])) _
                refine XS.astoreN X27.here hx rfl (hb hby at_85) rfl rfl (l' := #[.val (.int p0), .val (.int ((p0 &&& (2147483647 : Int32)) % (7 : Int32))), .val (.ref w_PROCESSING_INSTRUCTION), .unset, .unset]) rfl ?_
                show Steps p.tables e below (T27.setTop (mkF m 86 #[.val (.int p0), .val (.int ((p0 &&& (2147483647 : Int32)) % (7 : Int32))), .val (.ref w_PROCESSING_INSTRUCTION), .unset, .unset] [])) _
                refine XS.iconst X27.here hx rfl (hb hby at_86) ?_
                show Steps p.tables e below (T27.setTop (mkF m 87 #[.val (.int p0), .val (.int ((p0 &&& (2147483647 : Int32)) % (7 : Int32))), .val (.ref w_PROCESSING_INSTRUCTION), .unset, .unset] [(.int (1 : Int32))])) _
                refine XS.istoreN X27.here hx rfl (hb hby at_87) rfl (l' := #[.val (.int p0), .val (.int ((p0 &&& (2147483647 : Int32)) % (7 : Int32))), .val (.ref w_PROCESSING_INSTRUCTION), .val (.int (1 : Int32)), .unset]) rfl ?_
                show Steps p.tables e below (T27.setTop (mkF m 88 #[.val (.int p0), .val (.int ((p0 &&& (2147483647 : Int32)) % (7 : Int32))), .val (.ref w_PROCESSING_INSTRUCTION), .val (.int (1 : Int32)), .unset] [])) _
                refine XS.goto X27.here hx rfl (pc0 := 88) (pc' := 97) rfl (hb hby at_88) (by decide) (by decide) ?_
                show Steps p.tables e below (T27.setTop (mkF m 97 #[.val (.int p0), .val (.int ((p0 &&& (2147483647 : Int32)) % (7 : Int32))), .val (.ref w_PROCESSING_INSTRUCTION), .val (.int (1 : Int32)), .unset] [])) _
                refine XS.aloadN X27.here hx rfl (hb hby at_97) rfl rfl ?_
                show Steps p.tables e below (T27.setTop (mkF m 98 #[.val (.int p0), .val (.int ((p0 &&& (2147483647 : Int32)) % (7 : Int32))), .val (.ref w_PROCESSING_INSTRUCTION), .val (.int (1 : Int32)), .unset] [(.ref w_PROCESSING_INSTRUCTION)])) _
                refine st28.trans ?_
                show Steps p.tables e below (T28.setTop (mkF m 101 #[.val (.int p0), .val (.int ((p0 &&& (2147483647 : Int32)) % (7 : Int32))), .val (.ref w_PROCESSING_INSTRUCTION), .val (.int (1 : Int32)), .unset] [(.int (1 : Int32))])) _
                refine XS.istore X28.here hx rfl (hb hby at_101) rfl (l' := #[.val (.int p0), .val (.int ((p0 &&& (2147483647 : Int32)) % (7 : Int32))), .val (.ref w_PROCESSING_INSTRUCTION), .val (.int (1 : Int32)), .val (.int (1 : Int32))]) rfl ?_
                show Steps p.tables e below (T28.setTop (mkF m 103 #[.val (.int p0), .val (.int ((p0 &&& (2147483647 : Int32)) % (7 : Int32))), .val (.ref w_PROCESSING_INSTRUCTION), .val (.int (1 : Int32)), .val (.int (1 : Int32))] [])) _
                refine XS.iload X28.here hx rfl (hb hby at_103) rfl ?_
                show Steps p.tables e below (T28.setTop (mkF m 105 #[.val (.int p0), .val (.int ((p0 &&& (2147483647 : Int32)) % (7 : Int32))), .val (.ref w_PROCESSING_INSTRUCTION), .val (.int (1 : Int32)), .val (.int (1 : Int32))] [(.int (1 : Int32))])) _
                refine XS.iloadN X28.here hx rfl (hb hby at_105) rfl ?_
                show Steps p.tables e below (T28.setTop (mkF m 106 #[.val (.int p0), .val (.int ((p0 &&& (2147483647 : Int32)) % (7 : Int32))), .val (.ref w_PROCESSING_INSTRUCTION), .val (.int (1 : Int32)), .val (.int (1 : Int32))] [(.int (1 : Int32)), (.int (1 : Int32))])) _
                refine XS.icmpNo X28.here hx rfl (hb hby at_106) rfl (teq (by decide : (1 : Int32) = (1 : Int32))).2 ?_
                show Steps p.tables e below (T28.setTop (mkF m 109 #[.val (.int p0), .val (.int ((p0 &&& (2147483647 : Int32)) % (7 : Int32))), .val (.ref w_PROCESSING_INSTRUCTION), .val (.int (1 : Int32)), .val (.int (1 : Int32))] [])) _
                refine XS.aloadN X28.here hx rfl (hb hby at_109) rfl rfl ?_
                show Steps p.tables e below (T28.setTop (mkF m 110 #[.val (.int p0), .val (.int ((p0 &&& (2147483647 : Int32)) % (7 : Int32))), .val (.ref w_PROCESSING_INSTRUCTION), .val (.int (1 : Int32)), .val (.int (1 : Int32))] [(.ref w_PROCESSING_INSTRUCTION)])) _
                refine st29.trans ?_
                show Steps p.tables e below (T29.setTop (mkF m 113 #[.val (.int p0), .val (.int ((p0 &&& (2147483647 : Int32)) % (7 : Int32))), .val (.ref w_PROCESSING_INSTRUCTION), .val (.int (1 : Int32)), .val (.int (1 : Int32))] [(.int (0 : Int32))])) _
                refine XS.ifYes X29.here hx rfl (pc0 := 113) (pc' := 121) rfl (hb hby at_113) rfl ((if0 _ _).trans (teq (by decide : (0 : Int32) = (0 : Int32))).1) (by decide) (by decide) ?_
                show Steps p.tables e below (T29.setTop (mkF m 121 #[.val (.int p0), .val (.int ((p0 &&& (2147483647 : Int32)) % (7 : Int32))), .val (.ref w_PROCESSING_INSTRUCTION), .val (.int (1 : Int32)), .val (.int (1 : Int32))] [])) _
                refine XS.aloadN X29.here hx rfl (hb hby at_121) rfl rfl ?_
                show Steps p.tables e below (T29.setTop (mkF m 122 #[.val (.int p0), .val (.int ((p0 &&& (2147483647 : Int32)) % (7 : Int32))), .val (.ref w_PROCESSING_INSTRUCTION), .val (.int (1 : Int32)), .val (.int (1 : Int32))] [(.ref w_PROCESSING_INSTRUCTION)])) _
                refine st30.trans ?_
                show Steps p.tables e below (T30.setTop (mkF m 125 #[.val (.int p0), .val (.int ((p0 &&& (2147483647 : Int32)) % (7 : Int32))), .val (.ref w_PROCESSING_INSTRUCTION), .val (.int (1 : Int32)), .val (.int (1 : Int32))] [(.int (0 : Int32))])) _
                refine XS.ifYes X30.here hx rfl (pc0 := 125) (pc' := 133) rfl (hb hby at_125) rfl ((if0 _ _).trans (teq (by decide : (0 : Int32) = (0 : Int32))).1) (by decide) (by decide) ?_
                show Steps p.tables e below (T30.setTop (mkF m 133 #[.val (.int p0), .val (.int ((p0 &&& (2147483647 : Int32)) % (7 : Int32))), .val (.ref w_PROCESSING_INSTRUCTION), .val (.int (1 : Int32)), .val (.int (1 : Int32))] [])) _
                refine XS.iconst X30.here hx rfl (hb hby at_133) ?_
                show Steps p.tables e below (T30.setTop (mkF m 134 #[.val (.int p0), .val (.int ((p0 &&& (2147483647 : Int32)) % (7 : Int32))), .val (.ref w_PROCESSING_INSTRUCTION), .val (.int (1 : Int32)), .val (.int (1 : Int32))] [(.int (1 : Int32))])) _
                refine XS.goto X30.here hx rfl (pc0 := 134) (pc' := 138) rfl (hb hby at_134) (by decide) (by decide) ?_
                show Steps p.tables e below (T30.setTop (mkF m 138 #[.val (.int p0), .val (.int ((p0 &&& (2147483647 : Int32)) % (7 : Int32))), .val (.ref w_PROCESSING_INSTRUCTION), .val (.int (1 : Int32)), .val (.int (1 : Int32))] [(.int (1 : Int32))])) _
                exact retN X30 hx (t := .boolean) Bd.returns (by simp) (hb hby at_138) hr
              · show Q_rm_law Z p0 w_ELEMENT w_ATTRIBUTE w_TEXT w_PROCESSING_INSTRUCTION w_LIST_ITEM w_COMMENT w_CONTENT h0 n0 _ T30.heap _
                rw [e30]
                exact ⟨rfl, N30, rfl⟩
            · obtain ⟨T31, X31, e31, st31⟩ := getS2 X0 hx hZ hown (host := "") (Or.inl (hw _ (List.mem_of_getElem? (i := 28) rfl))) Via.refl e0 S_LIST_ITEM (g := (mkF m 91 #[.val (.int p0), .val (.int ((p0 &&& (2147483647 : Int32)) % (7 : Int32))), .unset, .unset, .unset] [])) rfl (hb hby at_91)
              obtain ⟨cq32, kq32, q32a, q32b, q32c⟩ := isOf hZ e31 E_LIST_ITEM
              obtain ⟨_, _, ⟨T32, L32, k32, n32⟩, -, X32, ⟨Lc32, hQ32, l32, y32, z32⟩, st32⟩ := X31.virtualBack hx (y := (⟨"com/example/albero/albero/mode/ColumnPath$Node", "isContent", "()Z"⟩ : MethodName)) (z := (⟨"com/example/albero/albero/mode/ColumnPath$Node", "isContent", "()Z"⟩ : MethodName)) hown (mvT hZ (hw _ (List.mem_of_getElem? (i := 4) rfl))) (mvT hZ (hw _ (List.mem_of_getElem? (i := 5) rfl))) (notFace_of_selects (args := #[]) (mvT hZ (hw _ (List.mem_of_getElem? (i := 7) rfl)))) (mvT hZ (hw _ (List.mem_of_getElem? (i := 7) rfl))) (mvT hZ (hw _ (List.mem_of_getElem? (i := 6) rfl))) (by decide) (backOf (W := 0) (rm_isO l Z a0 hw [] w_LIST_ITEM w_ATTRIBUTE h0 n0 Z0 S_ATTRIBUTE ne_LIST_ITEM_ATTRIBUTE) hZ (hw _ (List.mem_of_getElem? (i := 8) rfl)) (hw _ (List.mem_of_getElem? (i := 2) rfl)) (by decide) (by decide)) q32a q32c (g := (mkF m 98 #[.val (.int p0), .val (.int ((p0 &&& (2147483647 : Int32)) % (7 : Int32))), .val (.ref w_LIST_ITEM), .val (.int (1 : Int32)), .unset] [(.ref w_LIST_ITEM)])) rfl (by rw [hml]; rfl) (Steps.refl _) (argsL := []) (rest := []) (lenOf pd_0 rfl) rfl (by show 2 * 0 + _ ≤ _; exact Nat.le_of_eq rfl) (hb hby at_98) (fun _ _ => ⟨rfl, e31, (by decide : 0 + 0 ≤ _), (by decide : 0 + 0 ≤ _)⟩)
              dsimp only [Pt.U, Pt.locs, Pt.cells, Pt.slots] at X32 l32 y32 z32 st32 hQ32
              subst l32 y32 z32
              obtain ⟨rfl, N32q, e32⟩ := hQ32
              have N32 := Fr.app N0 N32q
              obtain ⟨cq33, kq33, q33a, q33b, q33c⟩ := isOf hZ e32 E_LIST_ITEM
              obtain ⟨_, _, ⟨T33, L33, k33, n33⟩, -, X33, ⟨Lc33, hQ33, l33, y33, z33⟩, st33⟩ := X32.virtualBack hx (y := (⟨"com/example/albero/albero/mode/ColumnPath$Node", "mayHoldXml", "()Z"⟩ : MethodName)) (z := (⟨"com/example/albero/albero/mode/ColumnPath$Node", "mayHoldXml", "()Z"⟩ : MethodName)) hown (mvT hZ (hw _ (List.mem_of_getElem? (i := 11) rfl))) (mvT hZ (hw _ (List.mem_of_getElem? (i := 12) rfl))) (notFace_of_selects (args := #[]) (mvT hZ (hw _ (List.mem_of_getElem? (i := 14) rfl)))) (mvT hZ (hw _ (List.mem_of_getElem? (i := 14) rfl))) (mvT hZ (hw _ (List.mem_of_getElem? (i := 13) rfl))) (by decide) (backOf (W := 0) (rm_hold l Z a0 hw [] w_LIST_ITEM (0 : Int32) h0 n0 Z0 F_LIST_ITEM_mayHoldXml) hZ (hw _ (List.mem_of_getElem? (i := 15) rfl)) (hw _ (List.mem_of_getElem? (i := 2) rfl)) (by decide) (by decide)) q33a q33c (g := (mkF m 110 #[.val (.int p0), .val (.int ((p0 &&& (2147483647 : Int32)) % (7 : Int32))), .val (.ref w_LIST_ITEM), .val (.int (1 : Int32)), .val (.int (1 : Int32))] [(.ref w_LIST_ITEM)])) rfl (by rw [hml]; rfl) (Steps.refl _) (argsL := []) (rest := []) (lenOf pd_0 rfl) rfl (by show 2 * 0 + _ ≤ _; exact Nat.le_of_eq rfl) (hb hby at_110) (fun _ _ => ⟨rfl, e32, (by decide : 0 + 0 ≤ _), (by decide : 0 + 0 ≤ _)⟩)
              dsimp only [Pt.U, Pt.locs, Pt.cells, Pt.slots] at X33 l33 y33 z33 st33 hQ33
              subst l33 y33 z33
              obtain ⟨rfl, N33q, e33⟩ := hQ33
              have N33 := Fr.app N32 N33q
              obtain ⟨cq34, kq34, q34a, q34b, q34c⟩ := isOf hZ e33 E_LIST_ITEM
              obtain ⟨_, _, ⟨T34, L34, k34, n34⟩, -, X34, ⟨Lc34, hQ34, l34, y34, z34⟩, st34⟩ := X33.virtualBack hx (y := (⟨"com/example/albero/albero/mode/ColumnPath$Node", "mayBeNil", "()Z"⟩ : MethodName)) (z := (⟨"com/example/albero/albero/mode/ColumnPath$Node", "mayBeNil", "()Z"⟩ : MethodName)) hown (mvT hZ (hw _ (List.mem_of_getElem? (i := 18) rfl))) (mvT hZ (hw _ (List.mem_of_getElem? (i := 19) rfl))) (notFace_of_selects (args := #[]) (mvT hZ (hw _ (List.mem_of_getElem? (i := 21) rfl)))) (mvT hZ (hw _ (List.mem_of_getElem? (i := 21) rfl))) (mvT hZ (hw _ (List.mem_of_getElem? (i := 20) rfl))) (by decide) (backOf (W := 0) (rm_nilO l Z a0 hw [] w_LIST_ITEM w_ELEMENT h0 n0 Z0 S_ELEMENT ne_LIST_ITEM_ELEMENT) hZ (hw _ (List.mem_of_getElem? (i := 22) rfl)) (hw _ (List.mem_of_getElem? (i := 2) rfl)) (by decide) (by decide)) q34a q34c (g := (mkF m 122 #[.val (.int p0), .val (.int ((p0 &&& (2147483647 : Int32)) % (7 : Int32))), .val (.ref w_LIST_ITEM), .val (.int (1 : Int32)), .val (.int (1 : Int32))] [(.ref w_LIST_ITEM)])) rfl (by rw [hml]; rfl) (Steps.refl _) (argsL := []) (rest := []) (lenOf pd_0 rfl) rfl (by show 2 * 0 + _ ≤ _; exact Nat.le_of_eq rfl) (hb hby at_122) (fun _ _ => ⟨rfl, e33, (by decide : 0 + 0 ≤ _), (by decide : 0 + 0 ≤ _)⟩)
              dsimp only [Pt.U, Pt.locs, Pt.cells, Pt.slots] at X34 l34 y34 z34 st34 hQ34
              subst l34 y34 z34
              obtain ⟨rfl, N34q, e34⟩ := hQ34
              have N34 := Fr.app N33 N34q
              obtain ⟨fs, hr, hrun, hended, hW, hsame⟩ := X34.leave (v := some (.int (1 : Int32))) (fun h => by rw [Bd.returns] at h; cases h)
              refine ⟨_, _, pre0 _ ?_, hrun, hended, _, _, rfl, ?_, ⟨_, rfl⟩, hW, hsame.mono (by decide) (by decide)⟩
              · refine k26 _ ?_
                show Steps p.tables e below (s₁.setTop (mkF m 79 #[.val (.int p0), .val (.int ((p0 &&& (2147483647 : Int32)) % (7 : Int32))), .unset, .unset, .unset] [(.int (5 : Int32)), (.int ((p0 &&& (2147483647 : Int32)) % (7 : Int32)))])) _
                refine XS.icmpYes X0.here hx rfl (pc0 := 79) (pc' := 91) rfl (hb hby at_79) rfl (feq hc79).2 (by decide) (by decide) ?_
                show Steps p.tables e below (s₁.setTop (mkF m 91 #[.val (.int p0), .val (.int ((p0 &&& (2147483647 : Int32)) % (7 : Int32))), .unset, .unset, .unset] [])) _
                refine st31 _ ?_
                show Steps p.tables e below (T31.setTop (mkF m 94 #[.val (.int p0), .val (.int ((p0 &&& (2147483647 : Int32)) % (7 : Int32))), .unset, .unset, .unset] [(.ref w_LIST_ITEM)])) _
                refine XS.astoreN X31.here hx rfl (hb hby at_94) rfl rfl (l' := #[.val (.int p0), .val (.int ((p0 &&& (2147483647 : Int32)) % (7 : Int32))), .val (.ref w_LIST_ITEM), .unset, .unset]) rfl ?_
                show Steps p.tables e below (T31.setTop (mkF m 95 #[.val (.int p0), .val (.int ((p0 &&& (2147483647 : Int32)) % (7 : Int32))), .val (.ref w_LIST_ITEM), .unset, .unset] [])) _
                refine XS.iconst X31.here hx rfl (hb hby at_95) ?_
                show Steps p.tables e below (T31.setTop (mkF m 96 #[.val (.int p0), .val (.int ((p0 &&& (2147483647 : Int32)) % (7 : Int32))), .val (.ref w_LIST_ITEM), .unset, .unset] [(.int (1 : Int32))])) _
                refine XS.istoreN X31.here hx rfl (hb hby at_96) rfl (l' := #[.val (.int p0), .val (.int ((p0 &&& (2147483647 : Int32)) % (7 : Int32))), .val (.ref w_LIST_ITEM), .val (.int (1 : Int32)), .unset]) rfl ?_
                show Steps p.tables e below (T31.setTop (mkF m 97 #[.val (.int p0), .val (.int ((p0 &&& (2147483647 : Int32)) % (7 : Int32))), .val (.ref w_LIST_ITEM), .val (.int (1 : Int32)), .unset] [])) _
                refine XS.aloadN X31.here hx rfl (hb hby at_97) rfl rfl ?_
                show Steps p.tables e below (T31.setTop (mkF m 98 #[.val (.int p0), .val (.int ((p0 &&& (2147483647 : Int32)) % (7 : Int32))), .val (.ref w_LIST_ITEM), .val (.int (1 : Int32)), .unset] [(.ref w_LIST_ITEM)])) _
                refine st32.trans ?_
                show Steps p.tables e below (T32.setTop (mkF m 101 #[.val (.int p0), .val (.int ((p0 &&& (2147483647 : Int32)) % (7 : Int32))), .val (.ref w_LIST_ITEM), .val (.int (1 : Int32)), .unset] [(.int (1 : Int32))])) _
                refine XS.istore X32.here hx rfl (hb hby at_101) rfl (l' := #[.val (.int p0), .val (.int ((p0 &&& (2147483647 : Int32)) % (7 : Int32))), .val (.ref w_LIST_ITEM), .val (.int (1 : Int32)), .val (.int (1 : Int32))]) rfl ?_
                show Steps p.tables e below (T32.setTop (mkF m 103 #[.val (.int p0), .val (.int ((p0 &&& (2147483647 : Int32)) % (7 : Int32))), .val (.ref w_LIST_ITEM), .val (.int (1 : Int32)), .val (.int (1 : Int32))] [])) _
                refine XS.iload X32.here hx rfl (hb hby at_103) rfl ?_
                show Steps p.tables e below (T32.setTop (mkF m 105 #[.val (.int p0), .val (.int ((p0 &&& (2147483647 : Int32)) % (7 : Int32))), .val (.ref w_LIST_ITEM), .val (.int (1 : Int32)), .val (.int (1 : Int32))] [(.int (1 : Int32))])) _
                refine XS.iloadN X32.here hx rfl (hb hby at_105) rfl ?_
                show Steps p.tables e below (T32.setTop (mkF m 106 #[.val (.int p0), .val (.int ((p0 &&& (2147483647 : Int32)) % (7 : Int32))), .val (.ref w_LIST_ITEM), .val (.int (1 : Int32)), .val (.int (1 : Int32))] [(.int (1 : Int32)), (.int (1 : Int32))])) _
                refine XS.icmpNo X32.here hx rfl (hb hby at_106) rfl (teq (by decide : (1 : Int32) = (1 : Int32))).2 ?_
                show Steps p.tables e below (T32.setTop (mkF m 109 #[.val (.int p0), .val (.int ((p0 &&& (2147483647 : Int32)) % (7 : Int32))), .val (.ref w_LIST_ITEM), .val (.int (1 : Int32)), .val (.int (1 : Int32))] [])) _
                refine XS.aloadN X32.here hx rfl (hb hby at_109) rfl rfl ?_
                show Steps p.tables e below (T32.setTop (mkF m 110 #[.val (.int p0), .val (.int ((p0 &&& (2147483647 : Int32)) % (7 : Int32))), .val (.ref w_LIST_ITEM), .val (.int (1 : Int32)), .val (.int (1 : Int32))] [(.ref w_LIST_ITEM)])) _
                refine st33.trans ?_
                show Steps p.tables e below (T33.setTop (mkF m 113 #[.val (.int p0), .val (.int ((p0 &&& (2147483647 : Int32)) % (7 : Int32))), .val (.ref w_LIST_ITEM), .val (.int (1 : Int32)), .val (.int (1 : Int32))] [(.int (0 : Int32))])) _
                refine XS.ifYes X33.here hx rfl (pc0 := 113) (pc' := 121) rfl (hb hby at_113) rfl ((if0 _ _).trans (teq (by decide : (0 : Int32) = (0 : Int32))).1) (by decide) (by decide) ?_
                show Steps p.tables e below (T33.setTop (mkF m 121 #[.val (.int p0), .val (.int ((p0 &&& (2147483647 : Int32)) % (7 : Int32))), .val (.ref w_LIST_ITEM), .val (.int (1 : Int32)), .val (.int (1 : Int32))] [])) _
                refine XS.aloadN X33.here hx rfl (hb hby at_121) rfl rfl ?_
                show Steps p.tables e below (T33.setTop (mkF m 122 #[.val (.int p0), .val (.int ((p0 &&& (2147483647 : Int32)) % (7 : Int32))), .val (.ref w_LIST_ITEM), .val (.int (1 : Int32)), .val (.int (1 : Int32))] [(.ref w_LIST_ITEM)])) _
                refine st34.trans ?_
                show Steps p.tables e below (T34.setTop (mkF m 125 #[.val (.int p0), .val (.int ((p0 &&& (2147483647 : Int32)) % (7 : Int32))), .val (.ref w_LIST_ITEM), .val (.int (1 : Int32)), .val (.int (1 : Int32))] [(.int (0 : Int32))])) _
                refine XS.ifYes X34.here hx rfl (pc0 := 125) (pc' := 133) rfl (hb hby at_125) rfl ((if0 _ _).trans (teq (by decide : (0 : Int32) = (0 : Int32))).1) (by decide) (by decide) ?_
                show Steps p.tables e below (T34.setTop (mkF m 133 #[.val (.int p0), .val (.int ((p0 &&& (2147483647 : Int32)) % (7 : Int32))), .val (.ref w_LIST_ITEM), .val (.int (1 : Int32)), .val (.int (1 : Int32))] [])) _
                refine XS.iconst X34.here hx rfl (hb hby at_133) ?_
                show Steps p.tables e below (T34.setTop (mkF m 134 #[.val (.int p0), .val (.int ((p0 &&& (2147483647 : Int32)) % (7 : Int32))), .val (.ref w_LIST_ITEM), .val (.int (1 : Int32)), .val (.int (1 : Int32))] [(.int (1 : Int32))])) _
                refine XS.goto X34.here hx rfl (pc0 := 134) (pc' := 138) rfl (hb hby at_134) (by decide) (by decide) ?_
                show Steps p.tables e below (T34.setTop (mkF m 138 #[.val (.int p0), .val (.int ((p0 &&& (2147483647 : Int32)) % (7 : Int32))), .val (.ref w_LIST_ITEM), .val (.int (1 : Int32)), .val (.int (1 : Int32))] [(.int (1 : Int32))])) _
                exact retN X34 hx (t := .boolean) Bd.returns (by simp) (hb hby at_138) hr
              · show Q_rm_law Z p0 w_ELEMENT w_ATTRIBUTE w_TEXT w_PROCESSING_INSTRUCTION w_LIST_ITEM w_COMMENT w_CONTENT h0 n0 _ T34.heap _
                rw [e34]
                exact ⟨rfl, N34, rfl⟩
set_option maxRecDepth 65536 in
set_option maxHeartbeats 40000000 in
theorem comes_1 {Post : Tables → Env → Array Value → State → Outcome → State → Prop} (hpost : ∀ tb e args s v u, (limb_1_1.after args s (.returned v) u = true ∧ limb_1_2.after args s (.returned v) u = true ∧ True) → FrameEnd s (.returned v) u (Jvm.fieldLocs frame_1_writes args s ++ Jvm.arrayLocs frame_1_arrays args s ++ Jvm.staticLocs frame_1_statics s) 0 0 → Post tb e args s (.returned v) u) :
    ArmFor flags0 classFile x code maxLocals ret World_1 tables_1 room_1 Calls_1 rest_1 Pre_1 Post := by
  intro l hfl _ _ p e ha hc hk s m args below hf hA hF happ hP
  obtain ⟨hcalls, hrest, hpre⟩ := hP
  obtain ⟨-, -, -, hnamed, -, -, -, hat⟩ := (Spec.applies_iff hf).mp happ
  obtain ⟨hg, hn⟩ := and_e (Cond.before_iff.mp (show (Jvm.Cond.and given_1 narrow_1).before args s = true from hpre))
  obtain ⟨hcnt, hgv0⟩ := and_e hg
  have hg0 := hgv0
  obtain ⟨w0, rfl⟩ : ∃ w0 : Value, args = #[w0] := by
    have hs : args.size = 1 := by simpa [Cond.value, given_1] using hcnt
    obtain ⟨L⟩ := args
    match L, hs with
    | [w0], _ => exact ⟨w0, rfl⟩
  have hw := fun d (hd : d ∈ tables_1) => atoms_spec (ws := Jvm.Cond.code x code maxLocals ret :: tables_1) hat d (List.mem_cons_of_mem _ hd)
  have hfit : Fit s := fun {y c} hc i hi => by
    obtain ⟨ha, rfl⟩ := Array.getElem?_eq_some_iff.mp hc
    have q := List.all_eq_true.mp ((Array.all_eq_true_iff_forall_mem.mp hF) _ (Array.getElem_mem ha)) i (List.mem_range.mpr hi)
    simpa [Array.getElem?_eq_getElem hi] using q
  obtain ⟨i0, ei0⟩ := is_v hg0
  obtain rfl : w0 = (.int i0) := Option.some.inj ei0
  obtain ⟨hn0, hnr0⟩ := and_e hn
  obtain ⟨hn1, hnr1⟩ := and_e hnr0
  obtain ⟨hn2, hnr2⟩ := and_e hnr1
  obtain ⟨hn3, hnr3⟩ := and_e hnr2
  obtain ⟨hn4, hnr4⟩ := and_e hnr3
  obtain ⟨hn5, hnr5⟩ := and_e hnr4
  obtain ⟨hn6, hnr6⟩ := and_e hnr5
  obtain ⟨hn7, hnr7⟩ := and_e hnr6
  obtain ⟨hn8, hnr8⟩ := and_e hnr7
  obtain ⟨hn9, hnr9⟩ := and_e hnr8
  obtain ⟨hn10, hnr10⟩ := and_e hnr9
  obtain ⟨hn11, hnr11⟩ := and_e hnr10
  obtain ⟨hn12, hnr12⟩ := and_e hnr11
  obtain ⟨hn13, hnr13⟩ := and_e hnr12
  obtain ⟨hn14, hnr14⟩ := and_e hnr13
  obtain ⟨hn15, hnr15⟩ := and_e hnr14
  obtain ⟨hn16, hnr16⟩ := and_e hnr15
  obtain ⟨hn17, hnr17⟩ := and_e hnr16
  obtain ⟨hn18, hnr18⟩ := and_e hnr17
  obtain ⟨hn19, hnr19⟩ := and_e hnr18
  have hn20 := hnr19
  obtain ⟨w_ELEMENT, ev_ELEMENT⟩ := exa_v hn0
  have E_ELEMENT := Exa.start ev_ELEMENT hn0
  have S_ELEMENT : Sta s s.heap "com/example/albero/albero/mode/ColumnPath$Node" "ELEMENT" "Lcom/example/albero/albero/mode/ColumnPath$Node;" (.ref w_ELEMENT) := Sta.start ev_ELEMENT (Or.inr ⟨(hw _ (List.mem_of_getElem? (i := 2) rfl)), (hw _ (List.mem_of_getElem? (i := 3) rfl))⟩)
  obtain ⟨w_ATTRIBUTE, ev_ATTRIBUTE⟩ := exa_v hn1
  have E_ATTRIBUTE := Exa.start ev_ATTRIBUTE hn1
  have S_ATTRIBUTE : Sta s s.heap "com/example/albero/albero/mode/ColumnPath$Node" "ATTRIBUTE" "Lcom/example/albero/albero/mode/ColumnPath$Node;" (.ref w_ATTRIBUTE) := Sta.start ev_ATTRIBUTE (Or.inr ⟨(hw _ (List.mem_of_getElem? (i := 2) rfl)), (hw _ (List.mem_of_getElem? (i := 10) rfl))⟩)
  obtain ⟨w_TEXT, ev_TEXT⟩ := exa_v hn5
  have E_TEXT := Exa.start ev_TEXT hn5
  have S_TEXT : Sta s s.heap "com/example/albero/albero/mode/ColumnPath$Node" "TEXT" "Lcom/example/albero/albero/mode/ColumnPath$Node;" (.ref w_TEXT) := Sta.start ev_TEXT (Or.inr ⟨(hw _ (List.mem_of_getElem? (i := 2) rfl)), (hw _ (List.mem_of_getElem? (i := 25) rfl))⟩)
  obtain ⟨w_PROCESSING_INSTRUCTION, ev_PROCESSING_INSTRUCTION⟩ := exa_v hn8
  have E_PROCESSING_INSTRUCTION := Exa.start ev_PROCESSING_INSTRUCTION hn8
  have S_PROCESSING_INSTRUCTION : Sta s s.heap "com/example/albero/albero/mode/ColumnPath$Node" "PROCESSING_INSTRUCTION" "Lcom/example/albero/albero/mode/ColumnPath$Node;" (.ref w_PROCESSING_INSTRUCTION) := Sta.start ev_PROCESSING_INSTRUCTION (Or.inr ⟨(hw _ (List.mem_of_getElem? (i := 2) rfl)), (hw _ (List.mem_of_getElem? (i := 27) rfl))⟩)
  obtain ⟨w_LIST_ITEM, ev_LIST_ITEM⟩ := exa_v hn11
  have E_LIST_ITEM := Exa.start ev_LIST_ITEM hn11
  have S_LIST_ITEM : Sta s s.heap "com/example/albero/albero/mode/ColumnPath$Node" "LIST_ITEM" "Lcom/example/albero/albero/mode/ColumnPath$Node;" (.ref w_LIST_ITEM) := Sta.start ev_LIST_ITEM (Or.inr ⟨(hw _ (List.mem_of_getElem? (i := 2) rfl)), (hw _ (List.mem_of_getElem? (i := 29) rfl))⟩)
  obtain ⟨w_COMMENT, ev_COMMENT⟩ := exa_v hn14
  have E_COMMENT := Exa.start ev_COMMENT hn14
  have S_COMMENT : Sta s s.heap "com/example/albero/albero/mode/ColumnPath$Node" "COMMENT" "Lcom/example/albero/albero/mode/ColumnPath$Node;" (.ref w_COMMENT) := Sta.start ev_COMMENT (Or.inr ⟨(hw _ (List.mem_of_getElem? (i := 2) rfl)), (hw _ (List.mem_of_getElem? (i := 31) rfl))⟩)
  obtain ⟨w_CONTENT, ev_CONTENT⟩ := exa_v hn17
  have E_CONTENT := Exa.start ev_CONTENT hn17
  have S_CONTENT : Sta s s.heap "com/example/albero/albero/mode/ColumnPath$Node" "CONTENT" "Lcom/example/albero/albero/mode/ColumnPath$Node;" (.ref w_CONTENT) := Sta.start ev_CONTENT (Or.inr ⟨(hw _ (List.mem_of_getElem? (i := 2) rfl)), (hw _ (List.mem_of_getElem? (i := 33) rfl))⟩)
  have F_ELEMENT_ordinal := own_fld ev_ELEMENT hn2
  have F_ATTRIBUTE_ordinal := own_fld ev_ATTRIBUTE hn3
  have F_ELEMENT_mayHoldXml := own_fld ev_ELEMENT hn4
  have F_TEXT_ordinal := own_fld ev_TEXT hn6
  have F_TEXT_mayHoldXml := own_fld ev_TEXT hn7
  have F_PROCESSING_INSTRUCTION_ordinal := own_fld ev_PROCESSING_INSTRUCTION hn9
  have F_PROCESSING_INSTRUCTION_mayHoldXml := own_fld ev_PROCESSING_INSTRUCTION hn10
  have F_LIST_ITEM_ordinal := own_fld ev_LIST_ITEM hn12
  have F_LIST_ITEM_mayHoldXml := own_fld ev_LIST_ITEM hn13
  have F_COMMENT_ordinal := own_fld ev_COMMENT hn15
  have F_COMMENT_mayHoldXml := own_fld ev_COMMENT hn16
  have F_CONTENT_ordinal := own_fld ev_CONTENT hn18
  have F_CONTENT_mayHoldXml := own_fld ev_CONTENT hn19
  have F_ATTRIBUTE_mayHoldXml := own_fld ev_ATTRIBUTE hn20
  obtain ⟨n, o, h1, h2, h3, _, L, rfl, hQL, hq⟩ := rm_law l s _ hw tables_1 i0 w_ELEMENT w_ATTRIBUTE w_TEXT w_PROCESSING_INSTRUCTION w_LIST_ITEM w_COMMENT w_CONTENT s.heap s.heap.size (Nat.le_refl _) S_ELEMENT S_ATTRIBUTE S_TEXT S_PROCESSING_INSTRUCTION S_LIST_ITEM S_COMMENT S_CONTENT E_ELEMENT E_ATTRIBUTE E_TEXT E_PROCESSING_INSTRUCTION E_LIST_ITEM E_COMMENT E_CONTENT F_ELEMENT_ordinal F_ELEMENT_mayHoldXml F_ATTRIBUTE_ordinal F_ATTRIBUTE_mayHoldXml F_TEXT_ordinal F_TEXT_mayHoldXml F_PROCESSING_INSTRUCTION_ordinal F_PROCESSING_INSTRUCTION_mayHoldXml F_LIST_ITEM_ordinal F_LIST_ITEM_mayHoldXml F_COMMENT_ordinal F_COMMENT_mayHoldXml F_CONTENT_ordinal F_CONTENT_mayHoldXml p e ha hc hk s m _ below hf ((Spec.applies_iff_loose hf).mp happ).1 ⟨rfl, State.Warmed39.refl s, rfl⟩ trivial
  obtain ⟨rfl, N, -⟩ := hQL
  refine ⟨n, _, h1, h2, h3, hpost _ _ _ _ _ _ ⟨Cond.after_iff.mpr rfl, Cond.after_iff.mpr (eq_i res_at (Term.int_eval (1)) rfl), trivial⟩ ⟨hq.1, hq.2.1, (hq.2.2.sift fun y hy => Or.inr (N y hy)).mono (by decide) (by decide)⟩⟩
theorem main_1_1 : Claimed_1_1 := comes_1 fun _ _ _ _ _ _ h hF => ⟨h.1, hF⟩
theorem main_1_2 : Claimed_1_2 := comes_1 fun _ _ _ _ _ _ h hF => ⟨h.2.1, hF⟩
end Jvm.Pilot.@@N@@
namespace Jvm.Pilot.@@N@@
open Jvm Jvm.ClassFile Sem Op Lib Jvm.Free Jvm.Stand Jvm.Pilot.@@N@@.Jvm.D
/-! MADE BY PROGRAM (witnessworld.py) out of the Statement's table words and the real class files: 12 classes; the members and pool entries that the words name. The judged class is class 1, her method 1. -/
namespace start1
open Jvm.ClassFile
def u (s : String) : CpInfo := .utf8 (stringToUtf16 s)
/-- a pool by its gaps: so many unusable entries, then the entry; so many at the end -/
def gap : Nat → List CpInfo → List CpInfo
  | 0, r => r
  | n + 1, r => .unusable :: gap n r
def poolList (es : List (Nat × CpInfo)) (last : Nat) : List CpInfo := es.foldr (fun e r => gap e.1 (e.2 :: r)) (gap last [])
def pool (es : List (Nat × CpInfo)) (last : Nat) : Array CpInfo := ⟨poolList es last⟩
def fileOf (pool : Array CpInfo) (this : Nat) (attrs : Array Attribute := #[]) (ms : Array MethodInfo := #[]) (fl : Nat := 33) (sup : Nat := 0) (ifs : Array Nat := #[]) (fds : Array FieldInfo := #[]) : ClassFile where
  minorVersion := 0
  majorVersion := 65
  constantPool := pool
  accessFlags := fl
  thisClass := this
  superClass := sup
  interfaces := ifs
  fields := fds
  methods := ms
  attributes := attrs
def plain (name : String) (sup : Option ClassId) : Class where
  name := name
  kind := .ordinary
  loader := none
  accessFlags := 33
  super := sup
  interfaces := #[]
  cf := none
  fields := #[]
  methods := #[]
  instanceTypes := #[]
  staticTypes := #[]
  resolved := #[]
  callSites := []
  init := .initialized
  statics := none
  mirror := none

def pool0 : Array CpInfo := pool [(5, u "<init>"), (0, u "()V"), (1, .class_ 10), (1, u "java/lang/Object")] 113

def k0m0 : Method := { name := "<init>", desc := "()V", sig := { parameters := [], returnType := none }, accessFlags := 1, code := none }
/-- java/lang/Object -/
def k0 : Class := { plain "java/lang/Object" none with
  accessFlags := 33
  interfaces := #[]
  cf := some (fileOf pool0 8 #[] #[{ accessFlags := 1, nameIndex := 5, descriptorIndex := 6, attributes := #[] }] 33 0 #[] #[])
  fields := #[]
  methods := #[k0m0]
  instanceTypes := #[]
  staticTypes := #[]
  resolved := Array.replicate 124 none
  statics := none }

def pool1 : Array CpInfo := pool [(2, .class_ 4), (1, u "java/lang/Object"), (0, u "<init>"), (0, u "()V"), (0, .integer 2147483647), (0, .fieldref 9 10), (0, .class_ 11), (0, .nameAndType 12 13), (0, u "com/example/albero/albero/mode/ColumnPath$Node"), (0, u "ELEMENT"), (0, u "Lcom/example/albero/albero/mode/ColumnPath$Node;"), (0, .fieldref 9 15), (0, .nameAndType 16 13), (0, u "ATTRIBUTE"), (0, .fieldref 9 18), (0, .nameAndType 19 13), (0, u "CONTENT"), (0, .fieldref 9 21), (0, .nameAndType 22 13), (0, u "TEXT"), (0, .fieldref 9 24), (0, .nameAndType 25 13), (0, u "COMMENT"), (0, .fieldref 9 27), (0, .nameAndType 28 13), (0, u "PROCESSING_INSTRUCTION"), (0, .fieldref 9 30), (0, .nameAndType 31 13), (0, u "LIST_ITEM"), (0, .methodref 9 33), (0, .nameAndType 34 35), (0, u "isContent"), (0, u "()Z"), (0, .methodref 9 37), (0, .nameAndType 38 35), (0, u "mayHoldXml"), (0, .methodref 9 40), (0, .nameAndType 41 35), (0, u "mayBeNil"), (0, .class_ 43), (0, u "com/example/albero/albero/mode/NodeIsContentPinLaw"), (2, u "law"), (0, u "(I)Z")] 7

def k1m0 : Method := { name := "<init>", desc := "()V", sig := { parameters := [], returnType := none }, accessFlags := 2, code := none }
def k1c1 : Code := { maxStack := 2, maxLocals := 5, code := code, exceptionTable := #[], attributes := #[] }
def k1m1 : Method := { name := "law", desc := "(I)Z", sig := { parameters := [.int], returnType := some .boolean }, accessFlags := 9, code := some k1c1 }
/-- com/example/albero/albero/mode/NodeIsContentPinLaw -/
def k1 : Class := { plain "com/example/albero/albero/mode/NodeIsContentPinLaw" (some 0) with
  accessFlags := 49
  interfaces := #[]
  cf := some (fileOf pool1 42 #[] #[{ accessFlags := 2, nameIndex := 5, descriptorIndex := 6, attributes := #[] }, { accessFlags := 9, nameIndex := 46, descriptorIndex := 47, attributes := #[] }] 49 2 #[] #[])
  fields := #[]
  methods := #[k1m0, k1m1]
  instanceTypes := #[]
  staticTypes := #[]
  resolved := Array.replicate 55 none
  statics := none }

def pool2 : Array CpInfo := pool [(1, .class_ 2), (0, u "java/lang/constant/Constable"), (0, .class_ 4), (0, u "java/lang/Object")] 6

/-- java/lang/constant/Constable -/
def k2 : Class := { plain "java/lang/constant/Constable" (some 0) with
  accessFlags := 1537
  interfaces := #[]
  cf := some (fileOf pool2 1 #[] #[] 1537 3 #[] #[])
  fields := #[]
  methods := #[]
  instanceTypes := #[]
  staticTypes := #[]
  resolved := Array.replicate 11 none
  statics := none }

def pool3 : Array CpInfo := pool [(1, .class_ 2), (0, u "java/lang/Comparable"), (0, .class_ 4), (0, u "java/lang/Object")] 7

/-- java/lang/Comparable -/
def k3 : Class := { plain "java/lang/Comparable" (some 0) with
  accessFlags := 1537
  interfaces := #[]
  cf := some (fileOf pool3 1 #[] #[] 1537 3 #[] #[])
  fields := #[]
  methods := #[]
  instanceTypes := #[]
  staticTypes := #[]
  resolved := Array.replicate 12 none
  statics := none }

def pool4 : Array CpInfo := pool [(1, .class_ 2), (0, u "java/io/Serializable"), (0, .class_ 4), (0, u "java/lang/Object")] 2

/-- java/io/Serializable -/
def k4 : Class := { plain "java/io/Serializable" (some 0) with
  accessFlags := 1537
  interfaces := #[]
  cf := some (fileOf pool4 1 #[] #[] 1537 3 #[] #[])
  fields := #[]
  methods := #[]
  instanceTypes := #[]
  staticTypes := #[]
  resolved := Array.replicate 7 none
  statics := none }

def pool5 : Array CpInfo := pool [(2, .class_ 4), (1, u "java/lang/Enum"), (0, u "name"), (0, u "Ljava/lang/String;"), (2, u "ordinal"), (0, u "I"), (1, .class_ 14), (1, u "java/lang/Object"), (4, u "hash"), (86, .class_ 108), (1, u "java/lang/Enum$EnumDesc"), (2, .class_ 112), (0, u "java/lang/constant/Constable"), (0, .class_ 114), (0, u "java/lang/Comparable"), (0, .class_ 116), (0, u "java/io/Serializable")] 87

/-- java/lang/Enum -/
def k5 : Class := { plain "java/lang/Enum" (some 0) with
  accessFlags := 1057
  interfaces := #[2, 3, 4]
  cf := some (fileOf pool5 2 #[.nestMembers #[106]] #[] 1057 12 #[111, 113, 115] #[{ accessFlags := 18, nameIndex := 5, descriptorIndex := 6, attributes := #[] }, { accessFlags := 18, nameIndex := 9, descriptorIndex := 10, attributes := #[] }, { accessFlags := 2, nameIndex := 19, descriptorIndex := 10, attributes := #[] }])
  fields := #[{ name := "name", type := (.object "java/lang/String"), accessFlags := 18, slot := 0, constantValue := 0 }, { name := "ordinal", type := .int, accessFlags := 18, slot := 1, constantValue := 0 }, { name := "hash", type := .int, accessFlags := 2, slot := 2, constantValue := 0 }]
  methods := #[]
  instanceTypes := #[(.object "java/lang/String"), .int, .int]
  staticTypes := #[]
  resolved := Array.replicate 204 none
  statics := none }

def pool6 : Array CpInfo := pool [(1, .class_ 2), (0, u "com/example/albero/albero/mode/ColumnPath$Node"), (0, .fieldref 1 4), (0, .nameAndType 5 6), (0, u "ELEMENT"), (0, u "Lcom/example/albero/albero/mode/ColumnPath$Node;"), (0, .fieldref 1 8), (0, .nameAndType 9 6), (0, u "ATTRIBUTE"), (2, u "CONTENT"), (2, u "TEXT"), (2, u "COMMENT"), (2, u "PROCESSING_INSTRUCTION"), (2, u "LIST_ITEM"), (2, u "$VALUES"), (0, u "[Lcom/example/albero/albero/mode/ColumnPath$Node;"), (6, .class_ 37), (1, u "java/lang/Enum"), (8, u "description"), (0, u "Ljava/lang/String;"), (0, .fieldref 1 49), (0, .nameAndType 50 51), (0, u "mayHoldXml"), (0, u "Z"), (37, u "()Z"), (0, u "isContent"), (1, u "mayBeNil"), (6, .class_ 100), (0, u "com/example/albero/albero/mode/ColumnPath")] 2

def k6c0 : Code := { maxStack := 1, maxLocals := 1, code := prog_46_method_5_code, exceptionTable := #[], attributes := #[] }
def k6m0 : Method := { name := "mayHoldXml", desc := "()Z", sig := { parameters := [], returnType := some .boolean }, accessFlags := 0, code := some k6c0 }
def k6c1 : Code := { maxStack := 2, maxLocals := 1, code := prog_46_method_6_code, exceptionTable := #[], attributes := #[] }
def k6m1 : Method := { name := "isContent", desc := "()Z", sig := { parameters := [], returnType := some .boolean }, accessFlags := 0, code := some k6c1 }
def k6c2 : Code := { maxStack := 2, maxLocals := 1, code := prog_46_method_7_code, exceptionTable := #[], attributes := #[] }
def k6m2 : Method := { name := "mayBeNil", desc := "()Z", sig := { parameters := [], returnType := some .boolean }, accessFlags := 0, code := some k6c2 }
/-- com/example/albero/albero/mode/ColumnPath$Node -/
def k6 : Class := { plain "com/example/albero/albero/mode/ColumnPath$Node" (some 5) with
  accessFlags := 16432
  interfaces := #[]
  cf := some (fileOf pool6 1 #[.nestHost 99] #[{ accessFlags := 0, nameIndex := 50, descriptorIndex := 89, attributes := #[] }, { accessFlags := 0, nameIndex := 90, descriptorIndex := 89, attributes := #[] }, { accessFlags := 0, nameIndex := 92, descriptorIndex := 89, attributes := #[] }] 16432 35 #[] #[{ accessFlags := 16409, nameIndex := 5, descriptorIndex := 6, attributes := #[] }, { accessFlags := 16409, nameIndex := 9, descriptorIndex := 6, attributes := #[] }, { accessFlags := 16409, nameIndex := 12, descriptorIndex := 6, attributes := #[] }, { accessFlags := 16409, nameIndex := 15, descriptorIndex := 6, attributes := #[] }, { accessFlags := 16409, nameIndex := 18, descriptorIndex := 6, attributes := #[] }, { accessFlags := 16409, nameIndex := 21, descriptorIndex := 6, attributes := #[] }, { accessFlags := 16409, nameIndex := 24, descriptorIndex := 6, attributes := #[] }, { accessFlags := 18, nameIndex := 46, descriptorIndex := 47, attributes := #[] }, { accessFlags := 18, nameIndex := 50, descriptorIndex := 51, attributes := #[] }, { accessFlags := 4122, nameIndex := 27, descriptorIndex := 28, attributes := #[] }])
  fields := #[{ name := "ELEMENT", type := (.object "com/example/albero/albero/mode/ColumnPath$Node"), accessFlags := 16409, slot := 0, constantValue := 0 }, { name := "ATTRIBUTE", type := (.object "com/example/albero/albero/mode/ColumnPath$Node"), accessFlags := 16409, slot := 1, constantValue := 0 }, { name := "CONTENT", type := (.object "com/example/albero/albero/mode/ColumnPath$Node"), accessFlags := 16409, slot := 2, constantValue := 0 }, { name := "TEXT", type := (.object "com/example/albero/albero/mode/ColumnPath$Node"), accessFlags := 16409, slot := 3, constantValue := 0 }, { name := "COMMENT", type := (.object "com/example/albero/albero/mode/ColumnPath$Node"), accessFlags := 16409, slot := 4, constantValue := 0 }, { name := "PROCESSING_INSTRUCTION", type := (.object "com/example/albero/albero/mode/ColumnPath$Node"), accessFlags := 16409, slot := 5, constantValue := 0 }, { name := "LIST_ITEM", type := (.object "com/example/albero/albero/mode/ColumnPath$Node"), accessFlags := 16409, slot := 6, constantValue := 0 }, { name := "description", type := (.object "java/lang/String"), accessFlags := 18, slot := 3, constantValue := 0 }, { name := "mayHoldXml", type := .boolean, accessFlags := 18, slot := 4, constantValue := 0 }, { name := "$VALUES", type := (.array (.object "com/example/albero/albero/mode/ColumnPath$Node")), accessFlags := 4122, slot := 7, constantValue := 0 }]
  methods := #[k6m0, k6m1, k6m2]
  instanceTypes := #[(.object "java/lang/String"), .int, .int, (.object "java/lang/String"), .boolean]
  staticTypes := #[(.object "com/example/albero/albero/mode/ColumnPath$Node"), (.object "com/example/albero/albero/mode/ColumnPath$Node"), (.object "com/example/albero/albero/mode/ColumnPath$Node"), (.object "com/example/albero/albero/mode/ColumnPath$Node"), (.object "com/example/albero/albero/mode/ColumnPath$Node"), (.object "com/example/albero/albero/mode/ColumnPath$Node"), (.object "com/example/albero/albero/mode/ColumnPath$Node"), (.array (.object "com/example/albero/albero/mode/ColumnPath$Node"))]
  resolved := Array.replicate 103 none
  statics := some 0 }

def pool7 : Array CpInfo := pool [(1, u "java/lang/Cloneable"), (0, .class_ 1), (0, u "java/lang/Object"), (0, .class_ 3)] 3

/-- java/lang/Cloneable -/
def k7 : Class := { plain "java/lang/Cloneable" (some 0) with
  accessFlags := 1537
  interfaces := #[]
  cf := some (fileOf pool7 2 #[] #[] 1537 4 #[] #[])
  fields := #[]
  methods := #[]
  instanceTypes := #[]
  staticTypes := #[]
  resolved := Array.replicate 8 none
  statics := none }

/-- the primitive byte -/
def k8 : Class := { plain "byte" none with kind := .primitive 'B', accessFlags := 0x411 }
/-- [B -/
def k9 : Class := { plain "[B" (some 0) with kind := .array 8 .byte, interfaces := #[7, 4], accessFlags := 1041 }

/-- the primitive int -/
def k10 : Class := { plain "int" none with kind := .primitive 'I', accessFlags := 0x411 }
/-- [I -/
def k11 : Class := { plain "[I" (some 0) with kind := .array 10 .int, interfaces := #[7, 4], accessFlags := 1041 }

def heap : Heap := #[{ cls := 6, slots := #[.ref 1, .ref 2, .ref 7, .ref 3, .ref 6, .ref 4, .ref 5, .null], vm := .statics 6 },
  { cls := 6, slots := #[.null, .int 0, .int 0, .null, .int 1], vm := .none },
  { cls := 6, slots := #[.null, .int 1, .int 0, .null, .int 0], vm := .none },
  { cls := 6, slots := #[.null, .int 3, .int 0, .null, .int 0], vm := .none },
  { cls := 6, slots := #[.null, .int 5, .int 0, .null, .int 0], vm := .none },
  { cls := 6, slots := #[.null, .int 6, .int 0, .null, .int 0], vm := .none },
  { cls := 6, slots := #[.null, .int 4, .int 0, .null, .int 0], vm := .none },
  { cls := 6, slots := #[.null, .int 2, .int 0, .null, .int 1], vm := .none }]
def classes : Array Class := #[k0, k1, k2, k3, k4, k5, k6, k7, k8, k9, k10, k11]
def interned : List (Array UInt16 × Addr) := []
def slotsUsed : Nat := 43
def theMethod : MethodId := ⟨1, 1⟩
def args0 : Array Value := #[.int 5]
def aboutOver (below : List Frame) : State where
  vm := { classes := classes, interned := interned.toArray }
  heap := heap
  slotsUsed := slotsUsed
  threads := #[{ frames := .invoking theMethod args0 :: below }]
def below0 : List Frame := [.native { method := ⟨0, 0⟩, args := #[] }]
def about1 : State := aboutOver below0
def p0 : Program := .bare "" "" ""
def e0 : Env := launch0.env 0 0 0
theorem w_frames : about1.frames = Frame.invoking theMethod args0 :: below0 := rfl
set_option maxRecDepth 65536 in
theorem w_args : argsFit about1.vm theMethod args0 = true := by decide +kernel
set_option maxRecDepth 65536 in
theorem w_heap : heapFits about1 = true := by decide +kernel
set_option maxRecDepth 65536 in
theorem w_runnable : about1.curStatus? = some .runnable := by decide +kernel
set_option maxRecDepth 65536 in
theorem w_alone : about1.alone = true := by decide +kernel
set_option maxRecDepth 65536 in
theorem w_named : about1.methodNamed? x = some theMethod := by decide +kernel
set_option maxRecDepth 65536 in
theorem w_hears : about1.hears theMethod below0 = true := by decide +kernel
set_option maxRecDepth 65536 in
theorem w_ripe : about1.ripe theMethod args0 below0 = true := by decide +kernel
theorem w_running : about1.status = .running := rfl
set_option maxRecDepth 65536 in
theorem w_room : about1.hasRoom e0.platform room_1 = true :=
  launch0.hasRoom_least _ room_1 (by decide +kernel) (by decide +kernel) (by decide +kernel) (by decide +kernel) (by decide +kernel) (by decide +kernel)
theorem allAtoms_all (ts : List Jvm.Cond) (a : Array Jvm.Value) (st : Jvm.State) : (allAtoms ts).before a st = ts.all (fun c => c.before a st) := by
  induction ts with
  | nil => rfl
  | cons c t ih =>
    show (Jvm.Cond.and c (allAtoms t)).before a st = _
    rw [Jvm.Cond.before_and, ih, List.all_cons]
def words1 : List Jvm.Cond := Jvm.Cond.code x code maxLocals ret :: tables_1
/-- a 'code' word, met by the world's own term for the bytes: nothing is compared byte by byte -/
theorem code_word {y : MethodName} {bytes : ByteArray} {mx : Nat} {rt : Option FieldType} {a : Array Value} {s : State} {m : MethodId} {meth : Method} {c : Code} (h1 : s.methodNamed? y = some m) (h2 : s.vm.method? m = some meth) (h3 : meth.code = some c) (h4 : c.code = bytes)
    (h5 : (c.maxLocals == mx && c.exceptionTable.isEmpty && decide (c.maxStack ≤ mostOperands) && decide (meth.sig.returnType = rt) && !meth.locks && decide (parseMethodDescriptor y.desc = some meth.sig)) = true) : (Jvm.Cond.code y bytes mx rt).before a s = true := by
  simp only [Bool.and_eq_true, beq_iff_eq, Bool.not_eq_true', decide_eq_true_eq] at h5
  obtain ⟨⟨⟨⟨⟨g1, g2⟩, g3⟩, g4⟩, g5⟩, g6⟩ := h5
  simp [Cond.before, Cond.holds, Cond.value, h1, h2, h3, h4, g1, g2, g3, g4, g5, g6]
def isCode : Jvm.Cond → Bool
  | .code _ _ _ _ => true
  | _ => false
theorem all_split {L : List Jvm.Cond} {P : Jvm.Cond → Bool} (h1 : L.all (fun c => isCode c || P c) = true) (h2 : ∀ c ∈ L.filter isCode, P c = true) : L.all P = true := by
  refine List.all_eq_true.mpr fun c hc => ?_
  have h := List.all_eq_true.mp h1 c hc
  rcases Bool.eq_false_or_eq_true (isCode c) with hi | hi
  · exact h2 c (List.mem_filter.mpr ⟨hc, hi⟩)
  · simpa [hi] using h
set_option maxRecDepth 65536 in
theorem w_c0 : (Jvm.Cond.code x code maxLocals ret).before args0 about1 = true := code_word (m := ⟨1, 1⟩) (meth := k1m1) (c := k1c1) (by decide +kernel) rfl rfl rfl (by decide +kernel)
set_option maxRecDepth 65536 in
theorem w_c1 : (Jvm.Cond.code ({ cls := "com/example/albero/albero/mode/ColumnPath$Node", name := "isContent", desc := "()Z" } : Jvm.MethodName) prog_46_method_6_code (1 : Nat) (Option.some Jvm.ClassFile.FieldType.boolean)).before args0 about1 = true := code_word (m := ⟨6, 1⟩) (meth := k6m1) (c := k6c1) (by decide +kernel) rfl rfl rfl (by decide +kernel)
set_option maxRecDepth 65536 in
theorem w_c2 : (Jvm.Cond.code ({ cls := "com/example/albero/albero/mode/ColumnPath$Node", name := "mayHoldXml", desc := "()Z" } : Jvm.MethodName) prog_46_method_5_code (1 : Nat) (Option.some Jvm.ClassFile.FieldType.boolean)).before args0 about1 = true := code_word (m := ⟨6, 0⟩) (meth := k6m0) (c := k6c0) (by decide +kernel) rfl rfl rfl (by decide +kernel)
set_option maxRecDepth 65536 in
theorem w_c3 : (Jvm.Cond.code ({ cls := "com/example/albero/albero/mode/ColumnPath$Node", name := "mayBeNil", desc := "()Z" } : Jvm.MethodName) prog_46_method_7_code (1 : Nat) (Option.some Jvm.ClassFile.FieldType.boolean)).before args0 about1 = true := code_word (m := ⟨6, 2⟩) (meth := k6m2) (c := k6c2) (by decide +kernel) rfl rfl rfl (by decide +kernel)
def codes1 : List Jvm.Cond := [Jvm.Cond.code x code maxLocals ret, Jvm.Cond.code ({ cls := "com/example/albero/albero/mode/ColumnPath$Node", name := "isContent", desc := "()Z" } : Jvm.MethodName) prog_46_method_6_code (1 : Nat) (Option.some Jvm.ClassFile.FieldType.boolean), Jvm.Cond.code ({ cls := "com/example/albero/albero/mode/ColumnPath$Node", name := "mayHoldXml", desc := "()Z" } : Jvm.MethodName) prog_46_method_5_code (1 : Nat) (Option.some Jvm.ClassFile.FieldType.boolean), Jvm.Cond.code ({ cls := "com/example/albero/albero/mode/ColumnPath$Node", name := "mayBeNil", desc := "()Z" } : Jvm.MethodName) prog_46_method_7_code (1 : Nat) (Option.some Jvm.ClassFile.FieldType.boolean)]
set_option maxRecDepth 65536 in
theorem codes_eq : words1.filter isCode = codes1 := rfl
theorem w_codes : ∀ c ∈ words1.filter isCode, c.before args0 about1 = true := by
  rw [codes_eq]
  intro c hc
  simp only [codes1, List.mem_cons, List.not_mem_nil, or_false] at hc
  rcases hc with rfl | rfl | rfl | rfl
  · exact w_c0
  · exact w_c1
  · exact w_c2
  · exact w_c3
set_option maxRecDepth 65536 in
theorem w_t1 : (words1.take 24).all (fun c => isCode c || c.before args0 about1) = true := by decide +kernel
set_option maxRecDepth 65536 in
theorem w_t2 : (words1.drop 24).all (fun c => isCode c || c.before args0 about1) = true := by decide +kernel
theorem w_tables : (allAtoms (Jvm.Cond.code x code maxLocals ret :: tables_1)).before args0 about1 = true := by
  rw [allAtoms_all]
  show words1.all (fun c => c.before args0 about1) = true
  refine all_split ?_ w_codes
  rw [← List.take_append_drop 24 words1, List.all_append, w_t1, w_t2]
  rfl
set_option maxRecDepth 65536 in
theorem w_case : (Jvm.Cond.and given_1 narrow_1).before args0 about1 = true := by decide +kernel
theorem w_applies : (headSpec (Jvm.Cond.code x code maxLocals ret :: tables_1) room_1).applies x e0.platform about1 = true :=
  (Spec.applies_iff w_frames).mpr ⟨w_running, w_runnable, w_alone, w_named, w_hears, w_ripe, w_room, w_tables⟩
theorem atStart : AtStart classFile x code maxLocals ret World_1 tables_1 room_1 Calls_1 rest_1 Pre_1 launch0 p0 e0 about1 theMethod args0 below0 :=
  ⟨lists_1, trivial, launch0.admits_env _ _ _, launch0.least_env, fairChoices_fair.cas, fairChoices_fair.clock, w_frames, w_args, w_heap, w_applies, trivial, trivial, w_case⟩
end start1
theorem witness_1 : WitnessClaimed_1 := ⟨start1.p0, start1.e0, start1.about1, start1.theMethod, start1.args0, start1.below0, start1.atStart⟩
end Jvm.Pilot.@@N@@
