import JvmDerived
import JvmDerived.Pilot.@@N@@Statement
import JvmDerived.Pilot.@@N@@Code
set_option linter.unusedVariables false
set_option linter.unusedSimpArgs false
@@BLOCK:NumsL.lean.txt@@
namespace Jvm.RoadKit
open Sem ClassFile Op Lib Jvm.Stand Jvm.Free Jvm.LawKit
section New
variable {p : Program} {l : Launch} {e : Env} {R : Room} {s : State} {m : MethodId} {args : Array Value} {below : List Frame} {meth : Method} {c : Code} {T : State} {locs : List Loc} {cells slots : Nat}
theorem retI (X : Stand p l e R s m args below meth c T locs cells slots) (hx : p.tables.exec = Jvm.exec) {pc : Nat} {Ls : Array Slot} {z : Int32} {rest : List Value} (hret : meth.sig.returnType = some .int) (hd : decode c.code pc = .ok (.ireturn, 1)) {fs : List Frame}
    (hl : ∀ (f : JFrame) (acts : List Action), f.method = m → f.locked = none → f.entered = [] → (doReturn e (T.setTop f) acts (some (.int z))).1 = T.setFrames fs) : Steps p.tables e below (T.setTop (mkF m pc Ls (.int z :: rest))) (T.setFrames fs) := by
  have hm' : T.vm.method? m = some meth := X.method'
  have hn : narrow .int (.int z) = .int z := rfl
  show Steps p.tables e below (T.setTop { method := m, pc := pc, locals := Ls, stack := _ :: rest, locked := none }) _
  jvm_step X.here [X.here.top, hx, hd, hm', hret, hn]
  first | (intro acts; rw [hl _ acts rfl rfl rfl]) | rw [hl _ _ rfl rfl rfl]
  exact Steps.refl _
end New
end Jvm.RoadKit

namespace Jvm.Pilot.@@N@@
open Jvm Jvm.ClassFile Sem Op Lib Jvm.Free Jvm.Stand Jvm.LawKit Jvm.RoadKit Bundle Jvm.Pilot.@@N@@.Jvm.D
theorem own_fld {args : Array Value} {Z : State} {t : Term} {C n d : String} {k : Int32} {a : Addr} (ht : t.eval args Z none [] Z = some (.ref a)) (h : (Jvm.Cond.eq (.field t C n d) (.int k)).value args Z none Z [] = some true) : Fld Z Z.heap a C n d (.int k) := by
  refine Fld.start ?_
  rw [← fld_at (args := args) (first := Z) (o := none) (idx := []) ht]
  cases hx : (Term.field t C n d).eval args Z none [] Z with
  | none => simp [Cond.value, hx] at h
  | some x => cases x <;> simp_all [Cond.value, Term.eval]
theorem own_mask (x : Int32) : 0 ≤ (x &&& (2147483647 : Int32)).toInt := by
  have e : (x &&& (2147483647 : Int32)).toInt = x.toInt % 2 ^ 31 := Jvm.Kit.i32_mask x 2147483647 (k := 31) (by decide) (by decide)
  rw [e]; exact Int.emod_nonneg _ (by decide)
theorem own_seven {x : Int32} (h0 : ¬ ((x &&& (2147483647 : Int32)) % (8 : Int32)) = (0 : Int32)) (h1 : ¬ ((x &&& (2147483647 : Int32)) % (8 : Int32)) = (1 : Int32)) (h2 : ¬ ((x &&& (2147483647 : Int32)) % (8 : Int32)) = (2 : Int32)) (h3 : ¬ ((x &&& (2147483647 : Int32)) % (8 : Int32)) = (3 : Int32)) (h4 : ¬ ((x &&& (2147483647 : Int32)) % (8 : Int32)) = (4 : Int32)) (h5 : ¬ ((x &&& (2147483647 : Int32)) % (8 : Int32)) = (5 : Int32)) (h6 : ¬ ((x &&& (2147483647 : Int32)) % (8 : Int32)) = (6 : Int32)) : ((x &&& (2147483647 : Int32)) % (8 : Int32)) = (7 : Int32) := by
  have h := own_mask x
  have e8 : (8 : Int32).toInt = 8 := rfl
  have e0 : (0 : Int32).toInt = 0 := rfl
  have e1 : (1 : Int32).toInt = 1 := rfl
  have e2 : (2 : Int32).toInt = 2 := rfl
  have e3 : (3 : Int32).toInt = 3 := rfl
  have e4 : (4 : Int32).toInt = 4 := rfl
  have e5 : (5 : Int32).toInt = 5 := rfl
  have e6 : (6 : Int32).toInt = 6 := rfl
  have e7 : (7 : Int32).toInt = 7 := rfl
  simp only [← Int32.toInt_inj, Int32.toInt_mod, e8, e0, e1, e2, e3, e4, e5, e6, e7] at *
  have := Int.tmod_nonneg (8 : Int) h
  have := Int.tmod_lt_of_pos (x &&& (2147483647 : Int32)).toInt (show (0 : Int) < 8 by decide)
  omega
theorem d1_0 : decode prog_22_method_2_code 0 = .ok (.aload_n 0, 1) := by decide +kernel
theorem d1_1 : decode prog_22_method_2_code 1 = .ok (.getstatic 7, 3) := by decide +kernel
theorem d1_4 : decode prog_22_method_2_code 4 = .ok (.if_acmp .eq 17, 3) := by decide +kernel
theorem d1_21 : decode prog_22_method_2_code 21 = .ok (.iconst 1, 1) := by decide +kernel
theorem d1_22 : decode prog_22_method_2_code 22 = .ok (.goto 4, 3) := by decide +kernel
theorem d1_26 : decode prog_22_method_2_code 26 = .ok (.ireturn, 1) := by decide +kernel
theorem pn_0 : plainName "com/example/rooam/rooam/roaming/EngineEvents" = true := by first | (simp [plainName, overriddenIn]; done) | decide +kernel
theorem ef_1 (m : MethodId) (x0 : Addr) : entryFrame m #[(.ref x0)] 1 = mkF m 0 #[.val (.ref x0)] [] := by first | (simp [entryFrame, mkF, argsToLocals, Value.category]; done) | rfl
def Q_rm_in0 (Z : State) (w_CONNECTED : Addr) (h0 : Heap) (n0 : Nat) (v : Option Value) (h : Heap) (L : List Loc) : Prop := v = some (.int (1 : Int32)) ∧ Fr n0 L ∧ h = h0
set_option maxRecDepth 65536 in
set_option maxHeartbeats 40000000 in
theorem rm_in0 (l : Launch) (Z : State) (a0 : Array Value) (hw : ∀ d ∈ tables_1, d.before a0 Z = true) (ws : List Jvm.Cond) (w_CONNECTED : Addr) (h0 : Heap) (n0 : Nat) (Z0 : n0 ≤ h0.size) (S_CONNECTED : Sta Z h0 "com/example/rooam/rooam/supplicant/SupplicantEvent$Kind" "CONNECTED" "Lcom/example/rooam/rooam/supplicant/SupplicantEvent$Kind;" (.ref w_CONNECTED)) :
    MetFree l (⟨"com/example/rooam/rooam/roaming/EngineEvents", "isInput", "(Lcom/example/rooam/rooam/supplicant/SupplicantEvent$Kind;)Z"⟩ : MethodName) (head1 (Jvm.Cond.code (⟨"com/example/rooam/rooam/roaming/EngineEvents", "isInput", "(Lcom/example/rooam/rooam/supplicant/SupplicantEvent$Kind;)Z"⟩ : MethodName) prog_22_method_2_code 1 (some .boolean) :: ws) ({ frames := 0, cells := 0, slots := 0, locals := 0 } : Room)) (fun a U => a = #[(.ref w_CONNECTED)] ∧ Z.Warmed39 U.vm ∧ U.heap = h0) (fun _ _ _ _ _ => True) (fun _ U o U' => ∃ v L, o = .returned v ∧ Q_rm_in0 Z w_CONNECTED h0 n0 v U'.heap L ∧ FrameEnd U o U' L ({ frames := 0, cells := 0, slots := 0, locals := 0 } : Room).cells ({ frames := 0, cells := 0, slots := 0, locals := 0 } : Room).slots) := by
  refine MetFree.of_bodySF (plainFor_of_name pn_0) hisR ?_
  intro p e s m args below meth c s₁ Bd hml0 hP hK
  obtain ⟨rfl, hZ, hh⟩ := hP
  have hx := Bd.exec
  have hby := Bd.bytes
  have hml : c.maxLocals = 1 := hml0
  have hown : s.vm.findClass "com/example/rooam/rooam/roaming/EngineEvents" = some m.cls := findClass_of_methodNamed Bd.named
  have hnm := (name_of_methodNamed Bd.named Bd.method).1
  have X0 : Stand p l e ({ frames := 0, cells := 0, slots := 0, locals := 0 } : Room) s m #[(.ref w_CONNECTED)] below meth c s₁ [] 0 0 := Stand.of_body Bd
  have e0 : s₁.heap = h0 := by rw [← hh, Bd.state]; rfl
  have N0 := Fr.nil n0
  have pre0 : ∀ t, Steps p.tables e below (s₁.setTop (mkF m 0 #[.val (.ref w_CONNECTED)] [])) t → Steps p.tables e below (s₁.setTop (entryFrame m #[(.ref w_CONNECTED)] 1)) t := fun t k => castTop (ef_1 m w_CONNECTED) k
  obtain ⟨T1, X1, e1, st1⟩ := getS2 X0 hx hZ hown (host := "") (Or.inl (hw _ (List.mem_of_getElem? (i := 25) rfl))) Via.refl e0 S_CONNECTED (g := (mkF m 1 #[.val (.ref w_CONNECTED)] [(.ref w_CONNECTED)])) rfl (hb hby d1_1)
  obtain ⟨fs, hr, hrun, hended, hW, hsame⟩ := X1.leave (v := some (.int (1 : Int32))) (fun h => by rw [Bd.returns] at h; cases h)
  refine ⟨_, _, pre0 _ ?_, hrun, hended, _, _, rfl, ?_, ⟨_, rfl⟩, hW, hsame.mono (by decide) (by decide)⟩
  · show Steps p.tables e below (s₁.setTop (mkF m 0 #[.val (.ref w_CONNECTED)] [])) _
    refine XS.aloadN X0.here hx rfl (hb hby d1_0) rfl rfl ?_
    show Steps p.tables e below (s₁.setTop (mkF m 1 #[.val (.ref w_CONNECTED)] [(.ref w_CONNECTED)])) _
    refine st1 _ ?_
    show Steps p.tables e below (T1.setTop (mkF m 4 #[.val (.ref w_CONNECTED)] [(.ref w_CONNECTED), (.ref w_CONNECTED)])) _
    refine Jvm.RoadKit.acmp (g := (mkF m 4 #[.val (.ref w_CONNECTED)] [(.ref w_CONNECTED), (.ref w_CONNECTED)])) X1 hx rfl rfl rfl (pc0 := 4) (pc' := 21) (same := true) rfl (hb hby d1_4) rfl (decide_eq_true rfl) (by decide) (by decide) ?_
    show Steps p.tables e below (T1.setTop (mkF m 21 #[.val (.ref w_CONNECTED)] [])) _
    refine XS.iconst X1.here hx rfl (hb hby d1_21) ?_
    show Steps p.tables e below (T1.setTop (mkF m 22 #[.val (.ref w_CONNECTED)] [(.int (1 : Int32))])) _
    refine XS.goto X1.here hx rfl (pc0 := 22) (pc' := 26) rfl (hb hby d1_22) (by decide) (by decide) ?_
    show Steps p.tables e below (T1.setTop (mkF m 26 #[.val (.ref w_CONNECTED)] [(.int (1 : Int32))])) _
    exact retN X1 hx (t := .boolean) Bd.returns (by simp) (hb hby d1_26) hr
  · show Q_rm_in0 Z w_CONNECTED h0 n0 _ T1.heap _
    rw [e1]
    exact ⟨rfl, N0, rfl⟩
theorem d1_7 : decode prog_22_method_2_code 7 = .ok (.aload_n 0, 1) := by decide +kernel
theorem d1_8 : decode prog_22_method_2_code 8 = .ok (.getstatic 13, 3) := by decide +kernel
theorem d1_11 : decode prog_22_method_2_code 11 = .ok (.if_acmp .eq 10, 3) := by decide +kernel
def Q_rm_in1 (Z : State) (w_DISCONNECTED : Addr) (w_CONNECTED : Addr) (h0 : Heap) (n0 : Nat) (v : Option Value) (h : Heap) (L : List Loc) : Prop := v = some (.int (1 : Int32)) ∧ Fr n0 L ∧ h = h0
set_option maxRecDepth 65536 in
set_option maxHeartbeats 40000000 in
theorem rm_in1 (l : Launch) (Z : State) (a0 : Array Value) (hw : ∀ d ∈ tables_1, d.before a0 Z = true) (ws : List Jvm.Cond) (w_DISCONNECTED : Addr) (w_CONNECTED : Addr) (h0 : Heap) (n0 : Nat) (Z0 : n0 ≤ h0.size) (S_CONNECTED : Sta Z h0 "com/example/rooam/rooam/supplicant/SupplicantEvent$Kind" "CONNECTED" "Lcom/example/rooam/rooam/supplicant/SupplicantEvent$Kind;" (.ref w_CONNECTED)) (S_DISCONNECTED : Sta Z h0 "com/example/rooam/rooam/supplicant/SupplicantEvent$Kind" "DISCONNECTED" "Lcom/example/rooam/rooam/supplicant/SupplicantEvent$Kind;" (.ref w_DISCONNECTED)) (ne_DISCONNECTED_CONNECTED : w_DISCONNECTED ≠ w_CONNECTED) :
    MetFree l (⟨"com/example/rooam/rooam/roaming/EngineEvents", "isInput", "(Lcom/example/rooam/rooam/supplicant/SupplicantEvent$Kind;)Z"⟩ : MethodName) (head1 (Jvm.Cond.code (⟨"com/example/rooam/rooam/roaming/EngineEvents", "isInput", "(Lcom/example/rooam/rooam/supplicant/SupplicantEvent$Kind;)Z"⟩ : MethodName) prog_22_method_2_code 1 (some .boolean) :: ws) ({ frames := 0, cells := 0, slots := 0, locals := 0 } : Room)) (fun a U => a = #[(.ref w_DISCONNECTED)] ∧ Z.Warmed39 U.vm ∧ U.heap = h0) (fun _ _ _ _ _ => True) (fun _ U o U' => ∃ v L, o = .returned v ∧ Q_rm_in1 Z w_DISCONNECTED w_CONNECTED h0 n0 v U'.heap L ∧ FrameEnd U o U' L ({ frames := 0, cells := 0, slots := 0, locals := 0 } : Room).cells ({ frames := 0, cells := 0, slots := 0, locals := 0 } : Room).slots) := by
  refine MetFree.of_bodySF (plainFor_of_name pn_0) hisR ?_
  intro p e s m args below meth c s₁ Bd hml0 hP hK
  obtain ⟨rfl, hZ, hh⟩ := hP
  have hx := Bd.exec
  have hby := Bd.bytes
  have hml : c.maxLocals = 1 := hml0
  have hown : s.vm.findClass "com/example/rooam/rooam/roaming/EngineEvents" = some m.cls := findClass_of_methodNamed Bd.named
  have hnm := (name_of_methodNamed Bd.named Bd.method).1
  have X0 : Stand p l e ({ frames := 0, cells := 0, slots := 0, locals := 0 } : Room) s m #[(.ref w_DISCONNECTED)] below meth c s₁ [] 0 0 := Stand.of_body Bd
  have e0 : s₁.heap = h0 := by rw [← hh, Bd.state]; rfl
  have N0 := Fr.nil n0
  have pre0 : ∀ t, Steps p.tables e below (s₁.setTop (mkF m 0 #[.val (.ref w_DISCONNECTED)] [])) t → Steps p.tables e below (s₁.setTop (entryFrame m #[(.ref w_DISCONNECTED)] 1)) t := fun t k => castTop (ef_1 m w_DISCONNECTED) k
  obtain ⟨T1, X1, e1, st1⟩ := getS2 X0 hx hZ hown (host := "") (Or.inl (hw _ (List.mem_of_getElem? (i := 25) rfl))) Via.refl e0 S_CONNECTED (g := (mkF m 1 #[.val (.ref w_DISCONNECTED)] [(.ref w_DISCONNECTED)])) rfl (hb hby d1_1)
  obtain ⟨T2, X2, e2, st2⟩ := getS2 X1 hx hZ hown (host := "") (Or.inl (hw _ (List.mem_of_getElem? (i := 26) rfl))) Via.refl e1 S_DISCONNECTED (g := (mkF m 8 #[.val (.ref w_DISCONNECTED)] [(.ref w_DISCONNECTED)])) rfl (hb hby d1_8)
  obtain ⟨fs, hr, hrun, hended, hW, hsame⟩ := X2.leave (v := some (.int (1 : Int32))) (fun h => by rw [Bd.returns] at h; cases h)
  refine ⟨_, _, pre0 _ ?_, hrun, hended, _, _, rfl, ?_, ⟨_, rfl⟩, hW, hsame.mono (by decide) (by decide)⟩
  · show Steps p.tables e below (s₁.setTop (mkF m 0 #[.val (.ref w_DISCONNECTED)] [])) _
    refine XS.aloadN X0.here hx rfl (hb hby d1_0) rfl rfl ?_
    show Steps p.tables e below (s₁.setTop (mkF m 1 #[.val (.ref w_DISCONNECTED)] [(.ref w_DISCONNECTED)])) _
    refine st1 _ ?_
    show Steps p.tables e below (T1.setTop (mkF m 4 #[.val (.ref w_DISCONNECTED)] [(.ref w_CONNECTED), (.ref w_DISCONNECTED)])) _
    refine Jvm.RoadKit.acmp (g := (mkF m 4 #[.val (.ref w_DISCONNECTED)] [(.ref w_CONNECTED), (.ref w_DISCONNECTED)])) X1 hx rfl rfl rfl (pc0 := 4) (pc' := 7) (same := false) rfl (hb hby d1_4) rfl (decide_eq_false fun q => ne_DISCONNECTED_CONNECTED (Value.ref.inj q)) (by decide) (by decide) ?_
    show Steps p.tables e below (T1.setTop (mkF m 7 #[.val (.ref w_DISCONNECTED)] [])) _
    refine XS.aloadN X1.here hx rfl (hb hby d1_7) rfl rfl ?_
    show Steps p.tables e below (T1.setTop (mkF m 8 #[.val (.ref w_DISCONNECTED)] [(.ref w_DISCONNECTED)])) _
    refine st2 _ ?_
    show Steps p.tables e below (T2.setTop (mkF m 11 #[.val (.ref w_DISCONNECTED)] [(.ref w_DISCONNECTED), (.ref w_DISCONNECTED)])) _
    refine Jvm.RoadKit.acmp (g := (mkF m 11 #[.val (.ref w_DISCONNECTED)] [(.ref w_DISCONNECTED), (.ref w_DISCONNECTED)])) X2 hx rfl rfl rfl (pc0 := 11) (pc' := 21) (same := true) rfl (hb hby d1_11) rfl (decide_eq_true rfl) (by decide) (by decide) ?_
    show Steps p.tables e below (T2.setTop (mkF m 21 #[.val (.ref w_DISCONNECTED)] [])) _
    refine XS.iconst X2.here hx rfl (hb hby d1_21) ?_
    show Steps p.tables e below (T2.setTop (mkF m 22 #[.val (.ref w_DISCONNECTED)] [(.int (1 : Int32))])) _
    refine XS.goto X2.here hx rfl (pc0 := 22) (pc' := 26) rfl (hb hby d1_22) (by decide) (by decide) ?_
    show Steps p.tables e below (T2.setTop (mkF m 26 #[.val (.ref w_DISCONNECTED)] [(.int (1 : Int32))])) _
    exact retN X2 hx (t := .boolean) Bd.returns (by simp) (hb hby d1_26) hr
  · show Q_rm_in1 Z w_DISCONNECTED w_CONNECTED h0 n0 _ T2.heap _
    rw [e2]
    exact ⟨rfl, N0, rfl⟩
theorem d1_14 : decode prog_22_method_2_code 14 = .ok (.aload_n 0, 1) := by decide +kernel
theorem d1_15 : decode prog_22_method_2_code 15 = .ok (.getstatic 16, 3) := by decide +kernel
theorem d1_18 : decode prog_22_method_2_code 18 = .ok (.if_acmp .ne 7, 3) := by decide +kernel
def Q_rm_in2 (Z : State) (w_ASSOC_REJECT : Addr) (w_CONNECTED : Addr) (w_DISCONNECTED : Addr) (h0 : Heap) (n0 : Nat) (v : Option Value) (h : Heap) (L : List Loc) : Prop := v = some (.int (1 : Int32)) ∧ Fr n0 L ∧ h = h0
set_option maxRecDepth 65536 in
set_option maxHeartbeats 40000000 in
theorem rm_in2 (l : Launch) (Z : State) (a0 : Array Value) (hw : ∀ d ∈ tables_1, d.before a0 Z = true) (ws : List Jvm.Cond) (w_ASSOC_REJECT : Addr) (w_CONNECTED : Addr) (w_DISCONNECTED : Addr) (h0 : Heap) (n0 : Nat) (Z0 : n0 ≤ h0.size) (S_CONNECTED : Sta Z h0 "com/example/rooam/rooam/supplicant/SupplicantEvent$Kind" "CONNECTED" "Lcom/example/rooam/rooam/supplicant/SupplicantEvent$Kind;" (.ref w_CONNECTED)) (S_DISCONNECTED : Sta Z h0 "com/example/rooam/rooam/supplicant/SupplicantEvent$Kind" "DISCONNECTED" "Lcom/example/rooam/rooam/supplicant/SupplicantEvent$Kind;" (.ref w_DISCONNECTED)) (S_ASSOC_REJECT : Sta Z h0 "com/example/rooam/rooam/supplicant/SupplicantEvent$Kind" "ASSOC_REJECT" "Lcom/example/rooam/rooam/supplicant/SupplicantEvent$Kind;" (.ref w_ASSOC_REJECT)) (ne_ASSOC_REJECT_CONNECTED : w_ASSOC_REJECT ≠ w_CONNECTED) (ne_ASSOC_REJECT_DISCONNECTED : w_ASSOC_REJECT ≠ w_DISCONNECTED) :
    MetFree l (⟨"com/example/rooam/rooam/roaming/EngineEvents", "isInput", "(Lcom/example/rooam/rooam/supplicant/SupplicantEvent$Kind;)Z"⟩ : MethodName) (head1 (Jvm.Cond.code (⟨"com/example/rooam/rooam/roaming/EngineEvents", "isInput", "(Lcom/example/rooam/rooam/supplicant/SupplicantEvent$Kind;)Z"⟩ : MethodName) prog_22_method_2_code 1 (some .boolean) :: ws) ({ frames := 0, cells := 0, slots := 0, locals := 0 } : Room)) (fun a U => a = #[(.ref w_ASSOC_REJECT)] ∧ Z.Warmed39 U.vm ∧ U.heap = h0) (fun _ _ _ _ _ => True) (fun _ U o U' => ∃ v L, o = .returned v ∧ Q_rm_in2 Z w_ASSOC_REJECT w_CONNECTED w_DISCONNECTED h0 n0 v U'.heap L ∧ FrameEnd U o U' L ({ frames := 0, cells := 0, slots := 0, locals := 0 } : Room).cells ({ frames := 0, cells := 0, slots := 0, locals := 0 } : Room).slots) := by
  refine MetFree.of_bodySF (plainFor_of_name pn_0) hisR ?_
  intro p e s m args below meth c s₁ Bd hml0 hP hK
  obtain ⟨rfl, hZ, hh⟩ := hP
  have hx := Bd.exec
  have hby := Bd.bytes
  have hml : c.maxLocals = 1 := hml0
  have hown : s.vm.findClass "com/example/rooam/rooam/roaming/EngineEvents" = some m.cls := findClass_of_methodNamed Bd.named
  have hnm := (name_of_methodNamed Bd.named Bd.method).1
  have X0 : Stand p l e ({ frames := 0, cells := 0, slots := 0, locals := 0 } : Room) s m #[(.ref w_ASSOC_REJECT)] below meth c s₁ [] 0 0 := Stand.of_body Bd
  have e0 : s₁.heap = h0 := by rw [← hh, Bd.state]; rfl
  have N0 := Fr.nil n0
  have pre0 : ∀ t, Steps p.tables e below (s₁.setTop (mkF m 0 #[.val (.ref w_ASSOC_REJECT)] [])) t → Steps p.tables e below (s₁.setTop (entryFrame m #[(.ref w_ASSOC_REJECT)] 1)) t := fun t k => castTop (ef_1 m w_ASSOC_REJECT) k
  obtain ⟨T1, X1, e1, st1⟩ := getS2 X0 hx hZ hown (host := "") (Or.inl (hw _ (List.mem_of_getElem? (i := 25) rfl))) Via.refl e0 S_CONNECTED (g := (mkF m 1 #[.val (.ref w_ASSOC_REJECT)] [(.ref w_ASSOC_REJECT)])) rfl (hb hby d1_1)
  obtain ⟨T2, X2, e2, st2⟩ := getS2 X1 hx hZ hown (host := "") (Or.inl (hw _ (List.mem_of_getElem? (i := 26) rfl))) Via.refl e1 S_DISCONNECTED (g := (mkF m 8 #[.val (.ref w_ASSOC_REJECT)] [(.ref w_ASSOC_REJECT)])) rfl (hb hby d1_8)
  obtain ⟨T3, X3, e3, st3⟩ := getS2 X2 hx hZ hown (host := "") (Or.inl (hw _ (List.mem_of_getElem? (i := 27) rfl))) Via.refl e2 S_ASSOC_REJECT (g := (mkF m 15 #[.val (.ref w_ASSOC_REJECT)] [(.ref w_ASSOC_REJECT)])) rfl (hb hby d1_15)
  obtain ⟨fs, hr, hrun, hended, hW, hsame⟩ := X3.leave (v := some (.int (1 : Int32))) (fun h => by rw [Bd.returns] at h; cases h)
  refine ⟨_, _, pre0 _ ?_, hrun, hended, _, _, rfl, ?_, ⟨_, rfl⟩, hW, hsame.mono (by decide) (by decide)⟩
  · show Steps p.tables e below (s₁.setTop (mkF m 0 #[.val (.ref w_ASSOC_REJECT)] [])) _
    refine XS.aloadN X0.here hx rfl (hb hby d1_0) rfl rfl ?_
    show Steps p.tables e below (s₁.setTop (mkF m 1 #[.val (.ref w_ASSOC_REJECT)] [(.ref w_ASSOC_REJECT)])) _
    refine st1 _ ?_
    show Steps p.tables e below (T1.setTop (mkF m 4 #[.val (.ref w_ASSOC_REJECT)] [(.ref w_CONNECTED), (.ref w_ASSOC_REJECT)])) _
    refine Jvm.RoadKit.acmp (g := (mkF m 4 #[.val (.ref w_ASSOC_REJECT)] [(.ref w_CONNECTED), (.ref w_ASSOC_REJECT)])) X1 hx rfl rfl rfl (pc0 := 4) (pc' := 7) (same := false) rfl (hb hby d1_4) rfl (decide_eq_false fun q => ne_ASSOC_REJECT_CONNECTED (Value.ref.inj q)) (by decide) (by decide) ?_
    show Steps p.tables e below (T1.setTop (mkF m 7 #[.val (.ref w_ASSOC_REJECT)] [])) _
    refine XS.aloadN X1.here hx rfl (hb hby d1_7) rfl rfl ?_
    show Steps p.tables e below (T1.setTop (mkF m 8 #[.val (.ref w_ASSOC_REJECT)] [(.ref w_ASSOC_REJECT)])) _
    refine st2 _ ?_
    show Steps p.tables e below (T2.setTop (mkF m 11 #[.val (.ref w_ASSOC_REJECT)] [(.ref w_DISCONNECTED), (.ref w_ASSOC_REJECT)])) _
    refine Jvm.RoadKit.acmp (g := (mkF m 11 #[.val (.ref w_ASSOC_REJECT)] [(.ref w_DISCONNECTED), (.ref w_ASSOC_REJECT)])) X2 hx rfl rfl rfl (pc0 := 11) (pc' := 14) (same := false) rfl (hb hby d1_11) rfl (decide_eq_false fun q => ne_ASSOC_REJECT_DISCONNECTED (Value.ref.inj q)) (by decide) (by decide) ?_
    show Steps p.tables e below (T2.setTop (mkF m 14 #[.val (.ref w_ASSOC_REJECT)] [])) _
    refine XS.aloadN X2.here hx rfl (hb hby d1_14) rfl rfl ?_
    show Steps p.tables e below (T2.setTop (mkF m 15 #[.val (.ref w_ASSOC_REJECT)] [(.ref w_ASSOC_REJECT)])) _
    refine st3 _ ?_
    show Steps p.tables e below (T3.setTop (mkF m 18 #[.val (.ref w_ASSOC_REJECT)] [(.ref w_ASSOC_REJECT), (.ref w_ASSOC_REJECT)])) _
    refine Jvm.RoadKit.acmp (g := (mkF m 18 #[.val (.ref w_ASSOC_REJECT)] [(.ref w_ASSOC_REJECT), (.ref w_ASSOC_REJECT)])) X3 hx rfl rfl rfl (pc0 := 18) (pc' := 21) (same := true) rfl (hb hby d1_18) rfl (decide_eq_true rfl) (by decide) (by decide) ?_
    show Steps p.tables e below (T3.setTop (mkF m 21 #[.val (.ref w_ASSOC_REJECT)] [])) _
    refine XS.iconst X3.here hx rfl (hb hby d1_21) ?_
    show Steps p.tables e below (T3.setTop (mkF m 22 #[.val (.ref w_ASSOC_REJECT)] [(.int (1 : Int32))])) _
    refine XS.goto X3.here hx rfl (pc0 := 22) (pc' := 26) rfl (hb hby d1_22) (by decide) (by decide) ?_
    show Steps p.tables e below (T3.setTop (mkF m 26 #[.val (.ref w_ASSOC_REJECT)] [(.int (1 : Int32))])) _
    exact retN X3 hx (t := .boolean) Bd.returns (by simp) (hb hby d1_26) hr
  · show Q_rm_in2 Z w_ASSOC_REJECT w_CONNECTED w_DISCONNECTED h0 n0 _ T3.heap _
    rw [e3]
    exact ⟨rfl, N0, rfl⟩
theorem d1_25 : decode prog_22_method_2_code 25 = .ok (.iconst 0, 1) := by decide +kernel
def Q_rm_out (Z : State) (a1 : Addr) (w_CONNECTED : Addr) (w_DISCONNECTED : Addr) (w_ASSOC_REJECT : Addr) (h0 : Heap) (n0 : Nat) (v : Option Value) (h : Heap) (L : List Loc) : Prop := v = some (.int (0 : Int32)) ∧ Fr n0 L ∧ h = h0
set_option maxRecDepth 65536 in
set_option maxHeartbeats 40000000 in
theorem rm_out (l : Launch) (Z : State) (a0 : Array Value) (hw : ∀ d ∈ tables_1, d.before a0 Z = true) (ws : List Jvm.Cond) (a1 : Addr) (w_CONNECTED : Addr) (w_DISCONNECTED : Addr) (w_ASSOC_REJECT : Addr) (h0 : Heap) (n0 : Nat) (Z0 : n0 ≤ h0.size) (S_CONNECTED : Sta Z h0 "com/example/rooam/rooam/supplicant/SupplicantEvent$Kind" "CONNECTED" "Lcom/example/rooam/rooam/supplicant/SupplicantEvent$Kind;" (.ref w_CONNECTED)) (S_DISCONNECTED : Sta Z h0 "com/example/rooam/rooam/supplicant/SupplicantEvent$Kind" "DISCONNECTED" "Lcom/example/rooam/rooam/supplicant/SupplicantEvent$Kind;" (.ref w_DISCONNECTED)) (S_ASSOC_REJECT : Sta Z h0 "com/example/rooam/rooam/supplicant/SupplicantEvent$Kind" "ASSOC_REJECT" "Lcom/example/rooam/rooam/supplicant/SupplicantEvent$Kind;" (.ref w_ASSOC_REJECT)) (ne1_CONNECTED : a1 ≠ w_CONNECTED) (ne1_DISCONNECTED : a1 ≠ w_DISCONNECTED) (ne1_ASSOC_REJECT : a1 ≠ w_ASSOC_REJECT) :
    MetFree l (⟨"com/example/rooam/rooam/roaming/EngineEvents", "isInput", "(Lcom/example/rooam/rooam/supplicant/SupplicantEvent$Kind;)Z"⟩ : MethodName) (head1 (Jvm.Cond.code (⟨"com/example/rooam/rooam/roaming/EngineEvents", "isInput", "(Lcom/example/rooam/rooam/supplicant/SupplicantEvent$Kind;)Z"⟩ : MethodName) prog_22_method_2_code 1 (some .boolean) :: ws) ({ frames := 0, cells := 0, slots := 0, locals := 0 } : Room)) (fun a U => a = #[(.ref a1)] ∧ Z.Warmed39 U.vm ∧ U.heap = h0) (fun _ _ _ _ _ => True) (fun _ U o U' => ∃ v L, o = .returned v ∧ Q_rm_out Z a1 w_CONNECTED w_DISCONNECTED w_ASSOC_REJECT h0 n0 v U'.heap L ∧ FrameEnd U o U' L ({ frames := 0, cells := 0, slots := 0, locals := 0 } : Room).cells ({ frames := 0, cells := 0, slots := 0, locals := 0 } : Room).slots) := by
  refine MetFree.of_bodySF (plainFor_of_name pn_0) hisR ?_
  intro p e s m args below meth c s₁ Bd hml0 hP hK
  obtain ⟨rfl, hZ, hh⟩ := hP
  have hx := Bd.exec
  have hby := Bd.bytes
  have hml : c.maxLocals = 1 := hml0
  have hown : s.vm.findClass "com/example/rooam/rooam/roaming/EngineEvents" = some m.cls := findClass_of_methodNamed Bd.named
  have hnm := (name_of_methodNamed Bd.named Bd.method).1
  have X0 : Stand p l e ({ frames := 0, cells := 0, slots := 0, locals := 0 } : Room) s m #[(.ref a1)] below meth c s₁ [] 0 0 := Stand.of_body Bd
  have e0 : s₁.heap = h0 := by rw [← hh, Bd.state]; rfl
  have N0 := Fr.nil n0
  have pre0 : ∀ t, Steps p.tables e below (s₁.setTop (mkF m 0 #[.val (.ref a1)] [])) t → Steps p.tables e below (s₁.setTop (entryFrame m #[(.ref a1)] 1)) t := fun t k => castTop (ef_1 m a1) k
  obtain ⟨T1, X1, e1, st1⟩ := getS2 X0 hx hZ hown (host := "") (Or.inl (hw _ (List.mem_of_getElem? (i := 25) rfl))) Via.refl e0 S_CONNECTED (g := (mkF m 1 #[.val (.ref a1)] [(.ref a1)])) rfl (hb hby d1_1)
  obtain ⟨T2, X2, e2, st2⟩ := getS2 X1 hx hZ hown (host := "") (Or.inl (hw _ (List.mem_of_getElem? (i := 26) rfl))) Via.refl e1 S_DISCONNECTED (g := (mkF m 8 #[.val (.ref a1)] [(.ref a1)])) rfl (hb hby d1_8)
  obtain ⟨T3, X3, e3, st3⟩ := getS2 X2 hx hZ hown (host := "") (Or.inl (hw _ (List.mem_of_getElem? (i := 27) rfl))) Via.refl e2 S_ASSOC_REJECT (g := (mkF m 15 #[.val (.ref a1)] [(.ref a1)])) rfl (hb hby d1_15)
  obtain ⟨fs, hr, hrun, hended, hW, hsame⟩ := X3.leave (v := some (.int (0 : Int32))) (fun h => by rw [Bd.returns] at h; cases h)
  refine ⟨_, _, pre0 _ ?_, hrun, hended, _, _, rfl, ?_, ⟨_, rfl⟩, hW, hsame.mono (by decide) (by decide)⟩
  · show Steps p.tables e below (s₁.setTop (mkF m 0 #[.val (.ref a1)] [])) _
    refine XS.aloadN X0.here hx rfl (hb hby d1_0) rfl rfl ?_
    show Steps p.tables e below (s₁.setTop (mkF m 1 #[.val (.ref a1)] [(.ref a1)])) _
    refine st1 _ ?_
    show Steps p.tables e below (T1.setTop (mkF m 4 #[.val (.ref a1)] [(.ref w_CONNECTED), (.ref a1)])) _
    refine Jvm.RoadKit.acmp (g := (mkF m 4 #[.val (.ref a1)] [(.ref w_CONNECTED), (.ref a1)])) X1 hx rfl rfl rfl (pc0 := 4) (pc' := 7) (same := false) rfl (hb hby d1_4) rfl (decide_eq_false fun q => ne1_CONNECTED (Value.ref.inj q)) (by decide) (by decide) ?_
    show Steps p.tables e below (T1.setTop (mkF m 7 #[.val (.ref a1)] [])) _
    refine XS.aloadN X1.here hx rfl (hb hby d1_7) rfl rfl ?_
    show Steps p.tables e below (T1.setTop (mkF m 8 #[.val (.ref a1)] [(.ref a1)])) _
    refine st2 _ ?_
    show Steps p.tables e below (T2.setTop (mkF m 11 #[.val (.ref a1)] [(.ref w_DISCONNECTED), (.ref a1)])) _
    refine Jvm.RoadKit.acmp (g := (mkF m 11 #[.val (.ref a1)] [(.ref w_DISCONNECTED), (.ref a1)])) X2 hx rfl rfl rfl (pc0 := 11) (pc' := 14) (same := false) rfl (hb hby d1_11) rfl (decide_eq_false fun q => ne1_DISCONNECTED (Value.ref.inj q)) (by decide) (by decide) ?_
    show Steps p.tables e below (T2.setTop (mkF m 14 #[.val (.ref a1)] [])) _
    refine XS.aloadN X2.here hx rfl (hb hby d1_14) rfl rfl ?_
    show Steps p.tables e below (T2.setTop (mkF m 15 #[.val (.ref a1)] [(.ref a1)])) _
    refine st3 _ ?_
    show Steps p.tables e below (T3.setTop (mkF m 18 #[.val (.ref a1)] [(.ref w_ASSOC_REJECT), (.ref a1)])) _
    refine Jvm.RoadKit.acmp (g := (mkF m 18 #[.val (.ref a1)] [(.ref w_ASSOC_REJECT), (.ref a1)])) X3 hx rfl rfl rfl (pc0 := 18) (pc' := 25) (same := false) rfl (hb hby d1_18) rfl (decide_eq_false fun q => ne1_ASSOC_REJECT (Value.ref.inj q)) (by decide) (by decide) ?_
    show Steps p.tables e below (T3.setTop (mkF m 25 #[.val (.ref a1)] [])) _
    refine XS.iconst X3.here hx rfl (hb hby d1_25) ?_
    show Steps p.tables e below (T3.setTop (mkF m 26 #[.val (.ref a1)] [(.int (0 : Int32))])) _
    exact retN X3 hx (t := .boolean) Bd.returns (by simp) (hb hby d1_26) hr
  · show Q_rm_out Z a1 w_CONNECTED w_DISCONNECTED w_ASSOC_REJECT h0 n0 _ T3.heap _
    rw [e3]
    exact ⟨rfl, N0, rfl⟩
theorem pd_0 : parseMethodDescriptor "(Lcom/example/rooam/rooam/supplicant/SupplicantEvent$Kind;)Z" = some ⟨[(.object "com/example/rooam/rooam/supplicant/SupplicantEvent$Kind")], some .boolean⟩ := by decide +kernel
theorem pn_1 : plainName "com/example/rooam/rooam/roaming/EngineEventsIsInputPinLaw" = true := by first | (simp [plainName, overriddenIn]; done) | decide +kernel
theorem ef_0 (m : MethodId) (x0 : Int32) : entryFrame m #[(.int x0)] maxLocals = mkF m 0 #[.val (.int x0), .unset, .unset, .unset] [] := by first | (simp [entryFrame, mkF, argsToLocals, Value.category, maxLocals]; done) | rfl
def Q_rm_law (Z : State) (p0 : Int32) (w_CONNECTED : Addr) (w_DISCONNECTED : Addr) (w_ASSOC_REJECT : Addr) (w_NETWORK_REMOVED : Addr) (w_TERMINATING : Addr) (w_SCAN_RESULTS : Addr) (w_SCAN_FAILED : Addr) (w_SCAN_STARTED : Addr) (h0 : Heap) (n0 : Nat) (v : Option Value) (h : Heap) (L : List Loc) : Prop := v = some (.int (1 : Int32)) ∧ Fr n0 L ∧ True
set_option maxRecDepth 65536 in
set_option maxHeartbeats 40000000 in
theorem rm_law (l : Launch) (Z : State) (a0 : Array Value) (hw : ∀ d ∈ tables_1, d.before a0 Z = true) (ws : List Jvm.Cond) (p0 : Int32) (w_CONNECTED : Addr) (w_DISCONNECTED : Addr) (w_ASSOC_REJECT : Addr) (w_NETWORK_REMOVED : Addr) (w_TERMINATING : Addr) (w_SCAN_RESULTS : Addr) (w_SCAN_FAILED : Addr) (w_SCAN_STARTED : Addr) (h0 : Heap) (n0 : Nat) (Z0 : n0 ≤ h0.size) (S_CONNECTED : Sta Z h0 "com/example/rooam/rooam/supplicant/SupplicantEvent$Kind" "CONNECTED" "Lcom/example/rooam/rooam/supplicant/SupplicantEvent$Kind;" (.ref w_CONNECTED)) (S_DISCONNECTED : Sta Z h0 "com/example/rooam/rooam/supplicant/SupplicantEvent$Kind" "DISCONNECTED" "Lcom/example/rooam/rooam/supplicant/SupplicantEvent$Kind;" (.ref w_DISCONNECTED)) (S_ASSOC_REJECT : Sta Z h0 "com/example/rooam/rooam/supplicant/SupplicantEvent$Kind" "ASSOC_REJECT" "Lcom/example/rooam/rooam/supplicant/SupplicantEvent$Kind;" (.ref w_ASSOC_REJECT)) (S_NETWORK_REMOVED : Sta Z h0 "com/example/rooam/rooam/supplicant/SupplicantEvent$Kind" "NETWORK_REMOVED" "Lcom/example/rooam/rooam/supplicant/SupplicantEvent$Kind;" (.ref w_NETWORK_REMOVED)) (S_TERMINATING : Sta Z h0 "com/example/rooam/rooam/supplicant/SupplicantEvent$Kind" "TERMINATING" "Lcom/example/rooam/rooam/supplicant/SupplicantEvent$Kind;" (.ref w_TERMINATING)) (S_SCAN_RESULTS : Sta Z h0 "com/example/rooam/rooam/supplicant/SupplicantEvent$Kind" "SCAN_RESULTS" "Lcom/example/rooam/rooam/supplicant/SupplicantEvent$Kind;" (.ref w_SCAN_RESULTS)) (S_SCAN_FAILED : Sta Z h0 "com/example/rooam/rooam/supplicant/SupplicantEvent$Kind" "SCAN_FAILED" "Lcom/example/rooam/rooam/supplicant/SupplicantEvent$Kind;" (.ref w_SCAN_FAILED)) (S_SCAN_STARTED : Sta Z h0 "com/example/rooam/rooam/supplicant/SupplicantEvent$Kind" "SCAN_STARTED" "Lcom/example/rooam/rooam/supplicant/SupplicantEvent$Kind;" (.ref w_SCAN_STARTED)) (E_CONNECTED : Exa Z h0 w_CONNECTED "com/example/rooam/rooam/supplicant/SupplicantEvent$Kind") (E_DISCONNECTED : Exa Z h0 w_DISCONNECTED "com/example/rooam/rooam/supplicant/SupplicantEvent$Kind") (E_ASSOC_REJECT : Exa Z h0 w_ASSOC_REJECT "com/example/rooam/rooam/supplicant/SupplicantEvent$Kind") (E_NETWORK_REMOVED : Exa Z h0 w_NETWORK_REMOVED "com/example/rooam/rooam/supplicant/SupplicantEvent$Kind") (E_TERMINATING : Exa Z h0 w_TERMINATING "com/example/rooam/rooam/supplicant/SupplicantEvent$Kind") (E_SCAN_RESULTS : Exa Z h0 w_SCAN_RESULTS "com/example/rooam/rooam/supplicant/SupplicantEvent$Kind") (E_SCAN_FAILED : Exa Z h0 w_SCAN_FAILED "com/example/rooam/rooam/supplicant/SupplicantEvent$Kind") (E_SCAN_STARTED : Exa Z h0 w_SCAN_STARTED "com/example/rooam/rooam/supplicant/SupplicantEvent$Kind") (F_CONNECTED_ordinal : Fld Z h0 w_CONNECTED "java/lang/Enum" "ordinal" "I" (.int (0 : Int32))) (F_DISCONNECTED_ordinal : Fld Z h0 w_DISCONNECTED "java/lang/Enum" "ordinal" "I" (.int (1 : Int32))) (F_ASSOC_REJECT_ordinal : Fld Z h0 w_ASSOC_REJECT "java/lang/Enum" "ordinal" "I" (.int (2 : Int32))) (F_NETWORK_REMOVED_ordinal : Fld Z h0 w_NETWORK_REMOVED "java/lang/Enum" "ordinal" "I" (.int (3 : Int32))) (F_TERMINATING_ordinal : Fld Z h0 w_TERMINATING "java/lang/Enum" "ordinal" "I" (.int (4 : Int32))) (F_SCAN_RESULTS_ordinal : Fld Z h0 w_SCAN_RESULTS "java/lang/Enum" "ordinal" "I" (.int (5 : Int32))) (F_SCAN_FAILED_ordinal : Fld Z h0 w_SCAN_FAILED "java/lang/Enum" "ordinal" "I" (.int (6 : Int32))) (F_SCAN_STARTED_ordinal : Fld Z h0 w_SCAN_STARTED "java/lang/Enum" "ordinal" "I" (.int (7 : Int32))) :
    MetFree l x (head1 (Jvm.Cond.code x code maxLocals ret :: ws) room_1) (fun a U => a = #[(.int p0)] ∧ Z.Warmed39 U.vm ∧ U.heap = h0) (fun _ _ _ _ _ => True) (fun _ U o U' => ∃ v L, o = .returned v ∧ Q_rm_law Z p0 w_CONNECTED w_DISCONNECTED w_ASSOC_REJECT w_NETWORK_REMOVED w_TERMINATING w_SCAN_RESULTS w_SCAN_FAILED w_SCAN_STARTED h0 n0 v U'.heap L ∧ FrameEnd U o U' L room_1.cells room_1.slots) := by
  refine MetFree.of_bodySF (plainFor_of_name pn_1) hisR ?_
  intro p e s m args below meth c s₁ Bd hml0 hP hK
  obtain ⟨rfl, hZ, hh⟩ := hP
  have hx := Bd.exec
  have hby := Bd.bytes
  have hml : c.maxLocals = 4 := hml0
  have hown : s.vm.findClass "com/example/rooam/rooam/roaming/EngineEventsIsInputPinLaw" = some m.cls := findClass_of_methodNamed Bd.named
  have hnm := (name_of_methodNamed Bd.named Bd.method).1
  have X0 : Stand p l e room_1 s m #[(.int p0)] below meth c s₁ [] 0 0 := Stand.of_body Bd
  have e0 : s₁.heap = h0 := by rw [← hh, Bd.state]; rfl
  have N0 := Fr.nil n0
  have pre0 : ∀ t, Steps p.tables e below (s₁.setTop (mkF m 0 #[.val (.int p0), .unset, .unset, .unset] [])) t → Steps p.tables e below (s₁.setTop (entryFrame m #[(.int p0)] maxLocals)) t := fun t k => castTop (ef_0 m p0) k
  have ne_DISCONNECTED_CONNECTED : w_DISCONNECTED ≠ w_CONNECTED := Fld.ne F_DISCONNECTED_ordinal F_CONNECTED_ordinal (by intro q; injection q with q; exact absurd q (by decide))
  have ne_ASSOC_REJECT_CONNECTED : w_ASSOC_REJECT ≠ w_CONNECTED := Fld.ne F_ASSOC_REJECT_ordinal F_CONNECTED_ordinal (by intro q; injection q with q; exact absurd q (by decide))
  have ne_ASSOC_REJECT_DISCONNECTED : w_ASSOC_REJECT ≠ w_DISCONNECTED := Fld.ne F_ASSOC_REJECT_ordinal F_DISCONNECTED_ordinal (by intro q; injection q with q; exact absurd q (by decide))
  have ne_NETWORK_REMOVED_CONNECTED : w_NETWORK_REMOVED ≠ w_CONNECTED := Fld.ne F_NETWORK_REMOVED_ordinal F_CONNECTED_ordinal (by intro q; injection q with q; exact absurd q (by decide))
  have ne_NETWORK_REMOVED_DISCONNECTED : w_NETWORK_REMOVED ≠ w_DISCONNECTED := Fld.ne F_NETWORK_REMOVED_ordinal F_DISCONNECTED_ordinal (by intro q; injection q with q; exact absurd q (by decide))
  have ne_NETWORK_REMOVED_ASSOC_REJECT : w_NETWORK_REMOVED ≠ w_ASSOC_REJECT := Fld.ne F_NETWORK_REMOVED_ordinal F_ASSOC_REJECT_ordinal (by intro q; injection q with q; exact absurd q (by decide))
  have ne_TERMINATING_CONNECTED : w_TERMINATING ≠ w_CONNECTED := Fld.ne F_TERMINATING_ordinal F_CONNECTED_ordinal (by intro q; injection q with q; exact absurd q (by decide))
  have ne_TERMINATING_DISCONNECTED : w_TERMINATING ≠ w_DISCONNECTED := Fld.ne F_TERMINATING_ordinal F_DISCONNECTED_ordinal (by intro q; injection q with q; exact absurd q (by decide))
  have ne_TERMINATING_ASSOC_REJECT : w_TERMINATING ≠ w_ASSOC_REJECT := Fld.ne F_TERMINATING_ordinal F_ASSOC_REJECT_ordinal (by intro q; injection q with q; exact absurd q (by decide))
  have ne_SCAN_RESULTS_CONNECTED : w_SCAN_RESULTS ≠ w_CONNECTED := Fld.ne F_SCAN_RESULTS_ordinal F_CONNECTED_ordinal (by intro q; injection q with q; exact absurd q (by decide))
  have ne_SCAN_RESULTS_DISCONNECTED : w_SCAN_RESULTS ≠ w_DISCONNECTED := Fld.ne F_SCAN_RESULTS_ordinal F_DISCONNECTED_ordinal (by intro q; injection q with q; exact absurd q (by decide))
  have ne_SCAN_RESULTS_ASSOC_REJECT : w_SCAN_RESULTS ≠ w_ASSOC_REJECT := Fld.ne F_SCAN_RESULTS_ordinal F_ASSOC_REJECT_ordinal (by intro q; injection q with q; exact absurd q (by decide))
  have ne_SCAN_FAILED_CONNECTED : w_SCAN_FAILED ≠ w_CONNECTED := Fld.ne F_SCAN_FAILED_ordinal F_CONNECTED_ordinal (by intro q; injection q with q; exact absurd q (by decide))
  have ne_SCAN_FAILED_DISCONNECTED : w_SCAN_FAILED ≠ w_DISCONNECTED := Fld.ne F_SCAN_FAILED_ordinal F_DISCONNECTED_ordinal (by intro q; injection q with q; exact absurd q (by decide))
  have ne_SCAN_FAILED_ASSOC_REJECT : w_SCAN_FAILED ≠ w_ASSOC_REJECT := Fld.ne F_SCAN_FAILED_ordinal F_ASSOC_REJECT_ordinal (by intro q; injection q with q; exact absurd q (by decide))
  have ne_SCAN_STARTED_CONNECTED : w_SCAN_STARTED ≠ w_CONNECTED := Fld.ne F_SCAN_STARTED_ordinal F_CONNECTED_ordinal (by intro q; injection q with q; exact absurd q (by decide))
  have ne_SCAN_STARTED_DISCONNECTED : w_SCAN_STARTED ≠ w_DISCONNECTED := Fld.ne F_SCAN_STARTED_ordinal F_DISCONNECTED_ordinal (by intro q; injection q with q; exact absurd q (by decide))
  have ne_SCAN_STARTED_ASSOC_REJECT : w_SCAN_STARTED ≠ w_ASSOC_REJECT := Fld.ne F_SCAN_STARTED_ordinal F_ASSOC_REJECT_ordinal (by intro q; injection q with q; exact absurd q (by decide))
  obtain ⟨T1, h1, k1, X1, e1, E1, A1, O1, st1⟩ := newR X0 hx hZ hown (hw _ (List.mem_of_getElem? (i := 0) rfl)) (hw _ (List.mem_of_getElem? (i := 1) rfl)) e0 (g := (mkF m 2 #[.val (.int p0), .unset, .unset, .unset] [(.int (8 : Int32))])) rfl (hb hby at_2) rfl (by decide) (cap := 8) (by decide) (by decide) (by decide) (by decide)
  obtain ⟨b1, g1⟩ : ∃ z, z = h0.size := ⟨_, rfl⟩
  rw [← g1] at A1 st1
  have ne_w_CONNECTED_b1 : w_CONNECTED ≠ b1 := Nat.ne_of_lt (Nat.lt_of_lt_of_le E_CONNECTED.lt (Nat.le_of_eq g1.symm))
  have ne_w_DISCONNECTED_b1 : w_DISCONNECTED ≠ b1 := Nat.ne_of_lt (Nat.lt_of_lt_of_le E_DISCONNECTED.lt (Nat.le_of_eq g1.symm))
  have ne_w_ASSOC_REJECT_b1 : w_ASSOC_REJECT ≠ b1 := Nat.ne_of_lt (Nat.lt_of_lt_of_le E_ASSOC_REJECT.lt (Nat.le_of_eq g1.symm))
  have ne_w_NETWORK_REMOVED_b1 : w_NETWORK_REMOVED ≠ b1 := Nat.ne_of_lt (Nat.lt_of_lt_of_le E_NETWORK_REMOVED.lt (Nat.le_of_eq g1.symm))
  have ne_w_TERMINATING_b1 : w_TERMINATING ≠ b1 := Nat.ne_of_lt (Nat.lt_of_lt_of_le E_TERMINATING.lt (Nat.le_of_eq g1.symm))
  have ne_w_SCAN_RESULTS_b1 : w_SCAN_RESULTS ≠ b1 := Nat.ne_of_lt (Nat.lt_of_lt_of_le E_SCAN_RESULTS.lt (Nat.le_of_eq g1.symm))
  have ne_w_SCAN_FAILED_b1 : w_SCAN_FAILED ≠ b1 := Nat.ne_of_lt (Nat.lt_of_lt_of_le E_SCAN_FAILED.lt (Nat.le_of_eq g1.symm))
  have ne_w_SCAN_STARTED_b1 : w_SCAN_STARTED ≠ b1 := Nat.ne_of_lt (Nat.lt_of_lt_of_le E_SCAN_STARTED.lt (Nat.le_of_eq g1.symm))
  have g_b1 : n0 ≤ b1 := Nat.le_trans Z0 (Nat.le_of_eq g1.symm)
  have S_CONNECTED_1 : Sta Z h1 "com/example/rooam/rooam/supplicant/SupplicantEvent$Kind" "CONNECTED" "Lcom/example/rooam/rooam/supplicant/SupplicantEvent$Kind;" (.ref w_CONNECTED) := S_CONNECTED.ext E1
  have S_DISCONNECTED_1 : Sta Z h1 "com/example/rooam/rooam/supplicant/SupplicantEvent$Kind" "DISCONNECTED" "Lcom/example/rooam/rooam/supplicant/SupplicantEvent$Kind;" (.ref w_DISCONNECTED) := S_DISCONNECTED.ext E1
  have S_ASSOC_REJECT_1 : Sta Z h1 "com/example/rooam/rooam/supplicant/SupplicantEvent$Kind" "ASSOC_REJECT" "Lcom/example/rooam/rooam/supplicant/SupplicantEvent$Kind;" (.ref w_ASSOC_REJECT) := S_ASSOC_REJECT.ext E1
  have S_NETWORK_REMOVED_1 : Sta Z h1 "com/example/rooam/rooam/supplicant/SupplicantEvent$Kind" "NETWORK_REMOVED" "Lcom/example/rooam/rooam/supplicant/SupplicantEvent$Kind;" (.ref w_NETWORK_REMOVED) := S_NETWORK_REMOVED.ext E1
  have S_TERMINATING_1 : Sta Z h1 "com/example/rooam/rooam/supplicant/SupplicantEvent$Kind" "TERMINATING" "Lcom/example/rooam/rooam/supplicant/SupplicantEvent$Kind;" (.ref w_TERMINATING) := S_TERMINATING.ext E1
  have S_SCAN_RESULTS_1 : Sta Z h1 "com/example/rooam/rooam/supplicant/SupplicantEvent$Kind" "SCAN_RESULTS" "Lcom/example/rooam/rooam/supplicant/SupplicantEvent$Kind;" (.ref w_SCAN_RESULTS) := S_SCAN_RESULTS.ext E1
  have S_SCAN_FAILED_1 : Sta Z h1 "com/example/rooam/rooam/supplicant/SupplicantEvent$Kind" "SCAN_FAILED" "Lcom/example/rooam/rooam/supplicant/SupplicantEvent$Kind;" (.ref w_SCAN_FAILED) := S_SCAN_FAILED.ext E1
  have S_SCAN_STARTED_1 : Sta Z h1 "com/example/rooam/rooam/supplicant/SupplicantEvent$Kind" "SCAN_STARTED" "Lcom/example/rooam/rooam/supplicant/SupplicantEvent$Kind;" (.ref w_SCAN_STARTED) := S_SCAN_STARTED.ext E1
  have E_CONNECTED_1 : Exa Z h1 w_CONNECTED "com/example/rooam/rooam/supplicant/SupplicantEvent$Kind" := E_CONNECTED.ext E1
  have E_DISCONNECTED_1 : Exa Z h1 w_DISCONNECTED "com/example/rooam/rooam/supplicant/SupplicantEvent$Kind" := E_DISCONNECTED.ext E1
  have E_ASSOC_REJECT_1 : Exa Z h1 w_ASSOC_REJECT "com/example/rooam/rooam/supplicant/SupplicantEvent$Kind" := E_ASSOC_REJECT.ext E1
  have E_NETWORK_REMOVED_1 : Exa Z h1 w_NETWORK_REMOVED "com/example/rooam/rooam/supplicant/SupplicantEvent$Kind" := E_NETWORK_REMOVED.ext E1
  have E_TERMINATING_1 : Exa Z h1 w_TERMINATING "com/example/rooam/rooam/supplicant/SupplicantEvent$Kind" := E_TERMINATING.ext E1
  have E_SCAN_RESULTS_1 : Exa Z h1 w_SCAN_RESULTS "com/example/rooam/rooam/supplicant/SupplicantEvent$Kind" := E_SCAN_RESULTS.ext E1
  have E_SCAN_FAILED_1 : Exa Z h1 w_SCAN_FAILED "com/example/rooam/rooam/supplicant/SupplicantEvent$Kind" := E_SCAN_FAILED.ext E1
  have E_SCAN_STARTED_1 : Exa Z h1 w_SCAN_STARTED "com/example/rooam/rooam/supplicant/SupplicantEvent$Kind" := E_SCAN_STARTED.ext E1
  have Z1 : n0 ≤ h1.size := Nat.le_trans Z0 E1.1
  have V_b1 : Arv Z h1 b1 k1 (.object "com/example/rooam/rooam/supplicant/SupplicantEvent$Kind") (8 : Int32) [.null, .null, .null, .null, .null, .null, .null, .null] .null := (Arv.new A1 (by decide)).pad (pad_rep [] .null 8)
  obtain ⟨T2, X2, e2, st2⟩ := getS2 X1 hx hZ hown (host := "") (Or.inl (hw _ (List.mem_of_getElem? (i := 2) rfl))) Via.refl e1 S_CONNECTED_1 (g := (mkF m 7 #[.val (.int p0), .unset, .unset, .unset] [(.int (0 : Int32)), (.ref b1), (.ref b1)])) rfl (hb hby at_7)
  obtain ⟨cl3, Ar3, q3, S3, N3', H3, G3⟩ := (id V_b1)
  have hin3 : ¬ ((0 : Int32) < 0 ∨ cl3.slots.size ≤ ((0 : Int32)).toNatClampNeg) := inb_of S3 ⟨by decide, by decide⟩
  obtain ⟨T4, h4, X4, e4, W4, st4⟩ := stR X2 hx hZ e2 Ar3 (j := (0 : Int32)) hin3 rfl (Sto.ofV Ar3 q3 O1 (Ins.self E_CONNECTED_1)) (g := (mkF m 10 #[.val (.int p0), .unset, .unset, .unset] [(.ref w_CONNECTED), (.int (0 : Int32)), (.ref b1), (.ref b1)])) rfl rfl (hb hby at_10)
  have V4 : Arv Z h4 b1 k1 (.object "com/example/rooam/rooam/supplicant/SupplicantEvent$Kind") (8 : Int32) [(.ref w_CONNECTED), .null, .null, .null, .null, .null, .null, .null] .null := Arv.set Ar3 q3 S3 N3' H3 G3 rfl W4 0 rfl (Nat.le_of_ble_eq_true rfl)
  have N4 := Fr.snoc X4 N0 g_b1
  have S_CONNECTED_4 : Sta Z h4 "com/example/rooam/rooam/supplicant/SupplicantEvent$Kind" "CONNECTED" "Lcom/example/rooam/rooam/supplicant/SupplicantEvent$Kind;" (.ref w_CONNECTED) := S_CONNECTED_1.wr W4
  have S_DISCONNECTED_4 : Sta Z h4 "com/example/rooam/rooam/supplicant/SupplicantEvent$Kind" "DISCONNECTED" "Lcom/example/rooam/rooam/supplicant/SupplicantEvent$Kind;" (.ref w_DISCONNECTED) := S_DISCONNECTED_1.wr W4
  have S_ASSOC_REJECT_4 : Sta Z h4 "com/example/rooam/rooam/supplicant/SupplicantEvent$Kind" "ASSOC_REJECT" "Lcom/example/rooam/rooam/supplicant/SupplicantEvent$Kind;" (.ref w_ASSOC_REJECT) := S_ASSOC_REJECT_1.wr W4
  have S_NETWORK_REMOVED_4 : Sta Z h4 "com/example/rooam/rooam/supplicant/SupplicantEvent$Kind" "NETWORK_REMOVED" "Lcom/example/rooam/rooam/supplicant/SupplicantEvent$Kind;" (.ref w_NETWORK_REMOVED) := S_NETWORK_REMOVED_1.wr W4
  have S_TERMINATING_4 : Sta Z h4 "com/example/rooam/rooam/supplicant/SupplicantEvent$Kind" "TERMINATING" "Lcom/example/rooam/rooam/supplicant/SupplicantEvent$Kind;" (.ref w_TERMINATING) := S_TERMINATING_1.wr W4
  have S_SCAN_RESULTS_4 : Sta Z h4 "com/example/rooam/rooam/supplicant/SupplicantEvent$Kind" "SCAN_RESULTS" "Lcom/example/rooam/rooam/supplicant/SupplicantEvent$Kind;" (.ref w_SCAN_RESULTS) := S_SCAN_RESULTS_1.wr W4
  have S_SCAN_FAILED_4 : Sta Z h4 "com/example/rooam/rooam/supplicant/SupplicantEvent$Kind" "SCAN_FAILED" "Lcom/example/rooam/rooam/supplicant/SupplicantEvent$Kind;" (.ref w_SCAN_FAILED) := S_SCAN_FAILED_1.wr W4
  have S_SCAN_STARTED_4 : Sta Z h4 "com/example/rooam/rooam/supplicant/SupplicantEvent$Kind" "SCAN_STARTED" "Lcom/example/rooam/rooam/supplicant/SupplicantEvent$Kind;" (.ref w_SCAN_STARTED) := S_SCAN_STARTED_1.wr W4
  have E_CONNECTED_4 : Exa Z h4 w_CONNECTED "com/example/rooam/rooam/supplicant/SupplicantEvent$Kind" := E_CONNECTED_1.wr W4
  have E_DISCONNECTED_4 : Exa Z h4 w_DISCONNECTED "com/example/rooam/rooam/supplicant/SupplicantEvent$Kind" := E_DISCONNECTED_1.wr W4
  have E_ASSOC_REJECT_4 : Exa Z h4 w_ASSOC_REJECT "com/example/rooam/rooam/supplicant/SupplicantEvent$Kind" := E_ASSOC_REJECT_1.wr W4
  have E_NETWORK_REMOVED_4 : Exa Z h4 w_NETWORK_REMOVED "com/example/rooam/rooam/supplicant/SupplicantEvent$Kind" := E_NETWORK_REMOVED_1.wr W4
  have E_TERMINATING_4 : Exa Z h4 w_TERMINATING "com/example/rooam/rooam/supplicant/SupplicantEvent$Kind" := E_TERMINATING_1.wr W4
  have E_SCAN_RESULTS_4 : Exa Z h4 w_SCAN_RESULTS "com/example/rooam/rooam/supplicant/SupplicantEvent$Kind" := E_SCAN_RESULTS_1.wr W4
  have E_SCAN_FAILED_4 : Exa Z h4 w_SCAN_FAILED "com/example/rooam/rooam/supplicant/SupplicantEvent$Kind" := E_SCAN_FAILED_1.wr W4
  have E_SCAN_STARTED_4 : Exa Z h4 w_SCAN_STARTED "com/example/rooam/rooam/supplicant/SupplicantEvent$Kind" := E_SCAN_STARTED_1.wr W4
  have Z4 : n0 ≤ h4.size := Nat.le_trans Z1 (Keep.of_wr W4).1
  obtain ⟨T5, X5, e5, st5⟩ := getS2 X4 hx hZ hown (host := "") (Or.inl (hw _ (List.mem_of_getElem? (i := 6) rfl))) Via.refl e4 S_DISCONNECTED_4 (g := (mkF m 13 #[.val (.int p0), .unset, .unset, .unset] [(.int (1 : Int32)), (.ref b1), (.ref b1)])) rfl (hb hby at_13)
  obtain ⟨cl6, Ar6, q6, S6, N6', H6, G6⟩ := (id V4)
  have hin6 : ¬ ((1 : Int32) < 0 ∨ cl6.slots.size ≤ ((1 : Int32)).toNatClampNeg) := inb_of S6 ⟨by decide, by decide⟩
  obtain ⟨T7, h7, X7, e7, W7, st7⟩ := stR X5 hx hZ e5 Ar6 (j := (1 : Int32)) hin6 rfl (Sto.ofV Ar6 q6 O1 (Ins.self E_DISCONNECTED_4)) (g := (mkF m 16 #[.val (.int p0), .unset, .unset, .unset] [(.ref w_DISCONNECTED), (.int (1 : Int32)), (.ref b1), (.ref b1)])) rfl rfl (hb hby at_16)
  have V7 : Arv Z h7 b1 k1 (.object "com/example/rooam/rooam/supplicant/SupplicantEvent$Kind") (8 : Int32) [(.ref w_CONNECTED), (.ref w_DISCONNECTED), .null, .null, .null, .null, .null, .null] .null := Arv.set Ar6 q6 S6 N6' H6 G6 rfl W7 1 rfl (Nat.le_of_ble_eq_true rfl)
  have N7 := Fr.snoc X7 N4 g_b1
  have S_CONNECTED_7 : Sta Z h7 "com/example/rooam/rooam/supplicant/SupplicantEvent$Kind" "CONNECTED" "Lcom/example/rooam/rooam/supplicant/SupplicantEvent$Kind;" (.ref w_CONNECTED) := S_CONNECTED_4.wr W7
  have S_DISCONNECTED_7 : Sta Z h7 "com/example/rooam/rooam/supplicant/SupplicantEvent$Kind" "DISCONNECTED" "Lcom/example/rooam/rooam/supplicant/SupplicantEvent$Kind;" (.ref w_DISCONNECTED) := S_DISCONNECTED_4.wr W7
  have S_ASSOC_REJECT_7 : Sta Z h7 "com/example/rooam/rooam/supplicant/SupplicantEvent$Kind" "ASSOC_REJECT" "Lcom/example/rooam/rooam/supplicant/SupplicantEvent$Kind;" (.ref w_ASSOC_REJECT) := S_ASSOC_REJECT_4.wr W7
  have S_NETWORK_REMOVED_7 : Sta Z h7 "com/example/rooam/rooam/supplicant/SupplicantEvent$Kind" "NETWORK_REMOVED" "Lcom/example/rooam/rooam/supplicant/SupplicantEvent$Kind;" (.ref w_NETWORK_REMOVED) := S_NETWORK_REMOVED_4.wr W7
  have S_TERMINATING_7 : Sta Z h7 "com/example/rooam/rooam/supplicant/SupplicantEvent$Kind" "TERMINATING" "Lcom/example/rooam/rooam/supplicant/SupplicantEvent$Kind;" (.ref w_TERMINATING) := S_TERMINATING_4.wr W7
  have S_SCAN_RESULTS_7 : Sta Z h7 "com/example/rooam/rooam/supplicant/SupplicantEvent$Kind" "SCAN_RESULTS" "Lcom/example/rooam/rooam/supplicant/SupplicantEvent$Kind;" (.ref w_SCAN_RESULTS) := S_SCAN_RESULTS_4.wr W7
  have S_SCAN_FAILED_7 : Sta Z h7 "com/example/rooam/rooam/supplicant/SupplicantEvent$Kind" "SCAN_FAILED" "Lcom/example/rooam/rooam/supplicant/SupplicantEvent$Kind;" (.ref w_SCAN_FAILED) := S_SCAN_FAILED_4.wr W7
  have S_SCAN_STARTED_7 : Sta Z h7 "com/example/rooam/rooam/supplicant/SupplicantEvent$Kind" "SCAN_STARTED" "Lcom/example/rooam/rooam/supplicant/SupplicantEvent$Kind;" (.ref w_SCAN_STARTED) := S_SCAN_STARTED_4.wr W7
  have E_CONNECTED_7 : Exa Z h7 w_CONNECTED "com/example/rooam/rooam/supplicant/SupplicantEvent$Kind" := E_CONNECTED_4.wr W7
  have E_DISCONNECTED_7 : Exa Z h7 w_DISCONNECTED "com/example/rooam/rooam/supplicant/SupplicantEvent$Kind" := E_DISCONNECTED_4.wr W7
  have E_ASSOC_REJECT_7 : Exa Z h7 w_ASSOC_REJECT "com/example/rooam/rooam/supplicant/SupplicantEvent$Kind" := E_ASSOC_REJECT_4.wr W7
  have E_NETWORK_REMOVED_7 : Exa Z h7 w_NETWORK_REMOVED "com/example/rooam/rooam/supplicant/SupplicantEvent$Kind" := E_NETWORK_REMOVED_4.wr W7
  have E_TERMINATING_7 : Exa Z h7 w_TERMINATING "com/example/rooam/rooam/supplicant/SupplicantEvent$Kind" := E_TERMINATING_4.wr W7
  have E_SCAN_RESULTS_7 : Exa Z h7 w_SCAN_RESULTS "com/example/rooam/rooam/supplicant/SupplicantEvent$Kind" := E_SCAN_RESULTS_4.wr W7
  have E_SCAN_FAILED_7 : Exa Z h7 w_SCAN_FAILED "com/example/rooam/rooam/supplicant/SupplicantEvent$Kind" := E_SCAN_FAILED_4.wr W7
  have E_SCAN_STARTED_7 : Exa Z h7 w_SCAN_STARTED "com/example/rooam/rooam/supplicant/SupplicantEvent$Kind" := E_SCAN_STARTED_4.wr W7
  have Z7 : n0 ≤ h7.size := Nat.le_trans Z4 (Keep.of_wr W7).1
  obtain ⟨T8, X8, e8, st8⟩ := getS2 X7 hx hZ hown (host := "") (Or.inl (hw _ (List.mem_of_getElem? (i := 8) rfl))) Via.refl e7 S_ASSOC_REJECT_7 (g := (mkF m 19 #[.val (.int p0), .unset, .unset, .unset] [(.int (2 : Int32)), (.ref b1), (.ref b1)])) rfl (hb hby at_19)
  obtain ⟨cl9, Ar9, q9, S9, N9', H9, G9⟩ := (id V7)
  have hin9 : ¬ ((2 : Int32) < 0 ∨ cl9.slots.size ≤ ((2 : Int32)).toNatClampNeg) := inb_of S9 ⟨by decide, by decide⟩
  obtain ⟨T10, h10, X10, e10, W10, st10⟩ := stR X8 hx hZ e8 Ar9 (j := (2 : Int32)) hin9 rfl (Sto.ofV Ar9 q9 O1 (Ins.self E_ASSOC_REJECT_7)) (g := (mkF m 22 #[.val (.int p0), .unset, .unset, .unset] [(.ref w_ASSOC_REJECT), (.int (2 : Int32)), (.ref b1), (.ref b1)])) rfl rfl (hb hby at_22)
  have V10 : Arv Z h10 b1 k1 (.object "com/example/rooam/rooam/supplicant/SupplicantEvent$Kind") (8 : Int32) [(.ref w_CONNECTED), (.ref w_DISCONNECTED), (.ref w_ASSOC_REJECT), .null, .null, .null, .null, .null] .null := Arv.set Ar9 q9 S9 N9' H9 G9 rfl W10 2 rfl (Nat.le_of_ble_eq_true rfl)
  have N10 := Fr.snoc X10 N7 g_b1
  have S_CONNECTED_10 : Sta Z h10 "com/example/rooam/rooam/supplicant/SupplicantEvent$Kind" "CONNECTED" "Lcom/example/rooam/rooam/supplicant/SupplicantEvent$Kind;" (.ref w_CONNECTED) := S_CONNECTED_7.wr W10
  have S_DISCONNECTED_10 : Sta Z h10 "com/example/rooam/rooam/supplicant/SupplicantEvent$Kind" "DISCONNECTED" "Lcom/example/rooam/rooam/supplicant/SupplicantEvent$Kind;" (.ref w_DISCONNECTED) := S_DISCONNECTED_7.wr W10
  have S_ASSOC_REJECT_10 : Sta Z h10 "com/example/rooam/rooam/supplicant/SupplicantEvent$Kind" "ASSOC_REJECT" "Lcom/example/rooam/rooam/supplicant/SupplicantEvent$Kind;" (.ref w_ASSOC_REJECT) := S_ASSOC_REJECT_7.wr W10
  have S_NETWORK_REMOVED_10 : Sta Z h10 "com/example/rooam/rooam/supplicant/SupplicantEvent$Kind" "NETWORK_REMOVED" "Lcom/example/rooam/rooam/supplicant/SupplicantEvent$Kind;" (.ref w_NETWORK_REMOVED) := S_NETWORK_REMOVED_7.wr W10
  have S_TERMINATING_10 : Sta Z h10 "com/example/rooam/rooam/supplicant/SupplicantEvent$Kind" "TERMINATING" "Lcom/example/rooam/rooam/supplicant/SupplicantEvent$Kind;" (.ref w_TERMINATING) := S_TERMINATING_7.wr W10
  have S_SCAN_RESULTS_10 : Sta Z h10 "com/example/rooam/rooam/supplicant/SupplicantEvent$Kind" "SCAN_RESULTS" "Lcom/example/rooam/rooam/supplicant/SupplicantEvent$Kind;" (.ref w_SCAN_RESULTS) := S_SCAN_RESULTS_7.wr W10
  have S_SCAN_FAILED_10 : Sta Z h10 "com/example/rooam/rooam/supplicant/SupplicantEvent$Kind" "SCAN_FAILED" "Lcom/example/rooam/rooam/supplicant/SupplicantEvent$Kind;" (.ref w_SCAN_FAILED) := S_SCAN_FAILED_7.wr W10
  have S_SCAN_STARTED_10 : Sta Z h10 "com/example/rooam/rooam/supplicant/SupplicantEvent$Kind" "SCAN_STARTED" "Lcom/example/rooam/rooam/supplicant/SupplicantEvent$Kind;" (.ref w_SCAN_STARTED) := S_SCAN_STARTED_7.wr W10
  have E_CONNECTED_10 : Exa Z h10 w_CONNECTED "com/example/rooam/rooam/supplicant/SupplicantEvent$Kind" := E_CONNECTED_7.wr W10
  have E_DISCONNECTED_10 : Exa Z h10 w_DISCONNECTED "com/example/rooam/rooam/supplicant/SupplicantEvent$Kind" := E_DISCONNECTED_7.wr W10
  have E_ASSOC_REJECT_10 : Exa Z h10 w_ASSOC_REJECT "com/example/rooam/rooam/supplicant/SupplicantEvent$Kind" := E_ASSOC_REJECT_7.wr W10
  have E_NETWORK_REMOVED_10 : Exa Z h10 w_NETWORK_REMOVED "com/example/rooam/rooam/supplicant/SupplicantEvent$Kind" := E_NETWORK_REMOVED_7.wr W10
  have E_TERMINATING_10 : Exa Z h10 w_TERMINATING "com/example/rooam/rooam/supplicant/SupplicantEvent$Kind" := E_TERMINATING_7.wr W10
  have E_SCAN_RESULTS_10 : Exa Z h10 w_SCAN_RESULTS "com/example/rooam/rooam/supplicant/SupplicantEvent$Kind" := E_SCAN_RESULTS_7.wr W10
  have E_SCAN_FAILED_10 : Exa Z h10 w_SCAN_FAILED "com/example/rooam/rooam/supplicant/SupplicantEvent$Kind" := E_SCAN_FAILED_7.wr W10
  have E_SCAN_STARTED_10 : Exa Z h10 w_SCAN_STARTED "com/example/rooam/rooam/supplicant/SupplicantEvent$Kind" := E_SCAN_STARTED_7.wr W10
  have Z10 : n0 ≤ h10.size := Nat.le_trans Z7 (Keep.of_wr W10).1
  obtain ⟨T11, X11, e11, st11⟩ := getS2 X10 hx hZ hown (host := "") (Or.inl (hw _ (List.mem_of_getElem? (i := 10) rfl))) Via.refl e10 S_NETWORK_REMOVED_10 (g := (mkF m 25 #[.val (.int p0), .unset, .unset, .unset] [(.int (3 : Int32)), (.ref b1), (.ref b1)])) rfl (hb hby at_25)
  obtain ⟨cl12, Ar12, q12, S12, N12', H12, G12⟩ := (id V10)
  have hin12 : ¬ ((3 : Int32) < 0 ∨ cl12.slots.size ≤ ((3 : Int32)).toNatClampNeg) := inb_of S12 ⟨by decide, by decide⟩
  obtain ⟨T13, h13, X13, e13, W13, st13⟩ := stR X11 hx hZ e11 Ar12 (j := (3 : Int32)) hin12 rfl (Sto.ofV Ar12 q12 O1 (Ins.self E_NETWORK_REMOVED_10)) (g := (mkF m 28 #[.val (.int p0), .unset, .unset, .unset] [(.ref w_NETWORK_REMOVED), (.int (3 : Int32)), (.ref b1), (.ref b1)])) rfl rfl (hb hby at_28)
  have V13 : Arv Z h13 b1 k1 (.object "com/example/rooam/rooam/supplicant/SupplicantEvent$Kind") (8 : Int32) [(.ref w_CONNECTED), (.ref w_DISCONNECTED), (.ref w_ASSOC_REJECT), (.ref w_NETWORK_REMOVED), .null, .null, .null, .null] .null := Arv.set Ar12 q12 S12 N12' H12 G12 rfl W13 3 rfl (Nat.le_of_ble_eq_true rfl)
  have N13 := Fr.snoc X13 N10 g_b1
  have S_CONNECTED_13 : Sta Z h13 "com/example/rooam/rooam/supplicant/SupplicantEvent$Kind" "CONNECTED" "Lcom/example/rooam/rooam/supplicant/SupplicantEvent$Kind;" (.ref w_CONNECTED) := S_CONNECTED_10.wr W13
  have S_DISCONNECTED_13 : Sta Z h13 "com/example/rooam/rooam/supplicant/SupplicantEvent$Kind" "DISCONNECTED" "Lcom/example/rooam/rooam/supplicant/SupplicantEvent$Kind;" (.ref w_DISCONNECTED) := S_DISCONNECTED_10.wr W13
  have S_ASSOC_REJECT_13 : Sta Z h13 "com/example/rooam/rooam/supplicant/SupplicantEvent$Kind" "ASSOC_REJECT" "Lcom/example/rooam/rooam/supplicant/SupplicantEvent$Kind;" (.ref w_ASSOC_REJECT) := S_ASSOC_REJECT_10.wr W13
  have S_NETWORK_REMOVED_13 : Sta Z h13 "com/example/rooam/rooam/supplicant/SupplicantEvent$Kind" "NETWORK_REMOVED" "Lcom/example/rooam/rooam/supplicant/SupplicantEvent$Kind;" (.ref w_NETWORK_REMOVED) := S_NETWORK_REMOVED_10.wr W13
  have S_TERMINATING_13 : Sta Z h13 "com/example/rooam/rooam/supplicant/SupplicantEvent$Kind" "TERMINATING" "Lcom/example/rooam/rooam/supplicant/SupplicantEvent$Kind;" (.ref w_TERMINATING) := S_TERMINATING_10.wr W13
  have S_SCAN_RESULTS_13 : Sta Z h13 "com/example/rooam/rooam/supplicant/SupplicantEvent$Kind" "SCAN_RESULTS" "Lcom/example/rooam/rooam/supplicant/SupplicantEvent$Kind;" (.ref w_SCAN_RESULTS) := S_SCAN_RESULTS_10.wr W13
  have S_SCAN_FAILED_13 : Sta Z h13 "com/example/rooam/rooam/supplicant/SupplicantEvent$Kind" "SCAN_FAILED" "Lcom/example/rooam/rooam/supplicant/SupplicantEvent$Kind;" (.ref w_SCAN_FAILED) := S_SCAN_FAILED_10.wr W13
  have S_SCAN_STARTED_13 : Sta Z h13 "com/example/rooam/rooam/supplicant/SupplicantEvent$Kind" "SCAN_STARTED" "Lcom/example/rooam/rooam/supplicant/SupplicantEvent$Kind;" (.ref w_SCAN_STARTED) := S_SCAN_STARTED_10.wr W13
  have E_CONNECTED_13 : Exa Z h13 w_CONNECTED "com/example/rooam/rooam/supplicant/SupplicantEvent$Kind" := E_CONNECTED_10.wr W13
  have E_DISCONNECTED_13 : Exa Z h13 w_DISCONNECTED "com/example/rooam/rooam/supplicant/SupplicantEvent$Kind" := E_DISCONNECTED_10.wr W13
  have E_ASSOC_REJECT_13 : Exa Z h13 w_ASSOC_REJECT "com/example/rooam/rooam/supplicant/SupplicantEvent$Kind" := E_ASSOC_REJECT_10.wr W13
  have E_NETWORK_REMOVED_13 : Exa Z h13 w_NETWORK_REMOVED "com/example/rooam/rooam/supplicant/SupplicantEvent$Kind" := E_NETWORK_REMOVED_10.wr W13
  have E_TERMINATING_13 : Exa Z h13 w_TERMINATING "com/example/rooam/rooam/supplicant/SupplicantEvent$Kind" := E_TERMINATING_10.wr W13
  have E_SCAN_RESULTS_13 : Exa Z h13 w_SCAN_RESULTS "com/example/rooam/rooam/supplicant/SupplicantEvent$Kind" := E_SCAN_RESULTS_10.wr W13
  have E_SCAN_FAILED_13 : Exa Z h13 w_SCAN_FAILED "com/example/rooam/rooam/supplicant/SupplicantEvent$Kind" := E_SCAN_FAILED_10.wr W13
  have E_SCAN_STARTED_13 : Exa Z h13 w_SCAN_STARTED "com/example/rooam/rooam/supplicant/SupplicantEvent$Kind" := E_SCAN_STARTED_10.wr W13
  have Z13 : n0 ≤ h13.size := Nat.le_trans Z10 (Keep.of_wr W13).1
  obtain ⟨T14, X14, e14, st14⟩ := getS2 X13 hx hZ hown (host := "") (Or.inl (hw _ (List.mem_of_getElem? (i := 12) rfl))) Via.refl e13 S_TERMINATING_13 (g := (mkF m 31 #[.val (.int p0), .unset, .unset, .unset] [(.int (4 : Int32)), (.ref b1), (.ref b1)])) rfl (hb hby at_31)
  obtain ⟨cl15, Ar15, q15, S15, N15', H15, G15⟩ := (id V13)
  have hin15 : ¬ ((4 : Int32) < 0 ∨ cl15.slots.size ≤ ((4 : Int32)).toNatClampNeg) := inb_of S15 ⟨by decide, by decide⟩
  obtain ⟨T16, h16, X16, e16, W16, st16⟩ := stR X14 hx hZ e14 Ar15 (j := (4 : Int32)) hin15 rfl (Sto.ofV Ar15 q15 O1 (Ins.self E_TERMINATING_13)) (g := (mkF m 34 #[.val (.int p0), .unset, .unset, .unset] [(.ref w_TERMINATING), (.int (4 : Int32)), (.ref b1), (.ref b1)])) rfl rfl (hb hby at_34)
  have V16 : Arv Z h16 b1 k1 (.object "com/example/rooam/rooam/supplicant/SupplicantEvent$Kind") (8 : Int32) [(.ref w_CONNECTED), (.ref w_DISCONNECTED), (.ref w_ASSOC_REJECT), (.ref w_NETWORK_REMOVED), (.ref w_TERMINATING), .null, .null, .null] .null := Arv.set Ar15 q15 S15 N15' H15 G15 rfl W16 4 rfl (Nat.le_of_ble_eq_true rfl)
  have N16 := Fr.snoc X16 N13 g_b1
  have S_CONNECTED_16 : Sta Z h16 "com/example/rooam/rooam/supplicant/SupplicantEvent$Kind" "CONNECTED" "Lcom/example/rooam/rooam/supplicant/SupplicantEvent$Kind;" (.ref w_CONNECTED) := S_CONNECTED_13.wr W16
  have S_DISCONNECTED_16 : Sta Z h16 "com/example/rooam/rooam/supplicant/SupplicantEvent$Kind" "DISCONNECTED" "Lcom/example/rooam/rooam/supplicant/SupplicantEvent$Kind;" (.ref w_DISCONNECTED) := S_DISCONNECTED_13.wr W16
  have S_ASSOC_REJECT_16 : Sta Z h16 "com/example/rooam/rooam/supplicant/SupplicantEvent$Kind" "ASSOC_REJECT" "Lcom/example/rooam/rooam/supplicant/SupplicantEvent$Kind;" (.ref w_ASSOC_REJECT) := S_ASSOC_REJECT_13.wr W16
  have S_NETWORK_REMOVED_16 : Sta Z h16 "com/example/rooam/rooam/supplicant/SupplicantEvent$Kind" "NETWORK_REMOVED" "Lcom/example/rooam/rooam/supplicant/SupplicantEvent$Kind;" (.ref w_NETWORK_REMOVED) := S_NETWORK_REMOVED_13.wr W16
  have S_TERMINATING_16 : Sta Z h16 "com/example/rooam/rooam/supplicant/SupplicantEvent$Kind" "TERMINATING" "Lcom/example/rooam/rooam/supplicant/SupplicantEvent$Kind;" (.ref w_TERMINATING) := S_TERMINATING_13.wr W16
  have S_SCAN_RESULTS_16 : Sta Z h16 "com/example/rooam/rooam/supplicant/SupplicantEvent$Kind" "SCAN_RESULTS" "Lcom/example/rooam/rooam/supplicant/SupplicantEvent$Kind;" (.ref w_SCAN_RESULTS) := S_SCAN_RESULTS_13.wr W16
  have S_SCAN_FAILED_16 : Sta Z h16 "com/example/rooam/rooam/supplicant/SupplicantEvent$Kind" "SCAN_FAILED" "Lcom/example/rooam/rooam/supplicant/SupplicantEvent$Kind;" (.ref w_SCAN_FAILED) := S_SCAN_FAILED_13.wr W16
  have S_SCAN_STARTED_16 : Sta Z h16 "com/example/rooam/rooam/supplicant/SupplicantEvent$Kind" "SCAN_STARTED" "Lcom/example/rooam/rooam/supplicant/SupplicantEvent$Kind;" (.ref w_SCAN_STARTED) := S_SCAN_STARTED_13.wr W16
  have E_CONNECTED_16 : Exa Z h16 w_CONNECTED "com/example/rooam/rooam/supplicant/SupplicantEvent$Kind" := E_CONNECTED_13.wr W16
  have E_DISCONNECTED_16 : Exa Z h16 w_DISCONNECTED "com/example/rooam/rooam/supplicant/SupplicantEvent$Kind" := E_DISCONNECTED_13.wr W16
  have E_ASSOC_REJECT_16 : Exa Z h16 w_ASSOC_REJECT "com/example/rooam/rooam/supplicant/SupplicantEvent$Kind" := E_ASSOC_REJECT_13.wr W16
  have E_NETWORK_REMOVED_16 : Exa Z h16 w_NETWORK_REMOVED "com/example/rooam/rooam/supplicant/SupplicantEvent$Kind" := E_NETWORK_REMOVED_13.wr W16
  have E_TERMINATING_16 : Exa Z h16 w_TERMINATING "com/example/rooam/rooam/supplicant/SupplicantEvent$Kind" := E_TERMINATING_13.wr W16
  have E_SCAN_RESULTS_16 : Exa Z h16 w_SCAN_RESULTS "com/example/rooam/rooam/supplicant/SupplicantEvent$Kind" := E_SCAN_RESULTS_13.wr W16
  have E_SCAN_FAILED_16 : Exa Z h16 w_SCAN_FAILED "com/example/rooam/rooam/supplicant/SupplicantEvent$Kind" := E_SCAN_FAILED_13.wr W16
  have E_SCAN_STARTED_16 : Exa Z h16 w_SCAN_STARTED "com/example/rooam/rooam/supplicant/SupplicantEvent$Kind" := E_SCAN_STARTED_13.wr W16
  have Z16 : n0 ≤ h16.size := Nat.le_trans Z13 (Keep.of_wr W16).1
  obtain ⟨T17, X17, e17, st17⟩ := getS2 X16 hx hZ hown (host := "") (Or.inl (hw _ (List.mem_of_getElem? (i := 14) rfl))) Via.refl e16 S_SCAN_RESULTS_16 (g := (mkF m 37 #[.val (.int p0), .unset, .unset, .unset] [(.int (5 : Int32)), (.ref b1), (.ref b1)])) rfl (hb hby at_37)
  obtain ⟨cl18, Ar18, q18, S18, N18', H18, G18⟩ := (id V16)
  have hin18 : ¬ ((5 : Int32) < 0 ∨ cl18.slots.size ≤ ((5 : Int32)).toNatClampNeg) := inb_of S18 ⟨by decide, by decide⟩
  obtain ⟨T19, h19, X19, e19, W19, st19⟩ := stR X17 hx hZ e17 Ar18 (j := (5 : Int32)) hin18 rfl (Sto.ofV Ar18 q18 O1 (Ins.self E_SCAN_RESULTS_16)) (g := (mkF m 40 #[.val (.int p0), .unset, .unset, .unset] [(.ref w_SCAN_RESULTS), (.int (5 : Int32)), (.ref b1), (.ref b1)])) rfl rfl (hb hby at_40)
  have V19 : Arv Z h19 b1 k1 (.object "com/example/rooam/rooam/supplicant/SupplicantEvent$Kind") (8 : Int32) [(.ref w_CONNECTED), (.ref w_DISCONNECTED), (.ref w_ASSOC_REJECT), (.ref w_NETWORK_REMOVED), (.ref w_TERMINATING), (.ref w_SCAN_RESULTS), .null, .null] .null := Arv.set Ar18 q18 S18 N18' H18 G18 rfl W19 5 rfl (Nat.le_of_ble_eq_true rfl)
  have N19 := Fr.snoc X19 N16 g_b1
  have S_CONNECTED_19 : Sta Z h19 "com/example/rooam/rooam/supplicant/SupplicantEvent$Kind" "CONNECTED" "Lcom/example/rooam/rooam/supplicant/SupplicantEvent$Kind;" (.ref w_CONNECTED) := S_CONNECTED_16.wr W19
  have S_DISCONNECTED_19 : Sta Z h19 "com/example/rooam/rooam/supplicant/SupplicantEvent$Kind" "DISCONNECTED" "Lcom/example/rooam/rooam/supplicant/SupplicantEvent$Kind;" (.ref w_DISCONNECTED) := S_DISCONNECTED_16.wr W19
  have S_ASSOC_REJECT_19 : Sta Z h19 "com/example/rooam/rooam/supplicant/SupplicantEvent$Kind" "ASSOC_REJECT" "Lcom/example/rooam/rooam/supplicant/SupplicantEvent$Kind;" (.ref w_ASSOC_REJECT) := S_ASSOC_REJECT_16.wr W19
  have S_NETWORK_REMOVED_19 : Sta Z h19 "com/example/rooam/rooam/supplicant/SupplicantEvent$Kind" "NETWORK_REMOVED" "Lcom/example/rooam/rooam/supplicant/SupplicantEvent$Kind;" (.ref w_NETWORK_REMOVED) := S_NETWORK_REMOVED_16.wr W19
  have S_TERMINATING_19 : Sta Z h19 "com/example/rooam/rooam/supplicant/SupplicantEvent$Kind" "TERMINATING" "Lcom/example/rooam/rooam/supplicant/SupplicantEvent$Kind;" (.ref w_TERMINATING) := S_TERMINATING_16.wr W19
  have S_SCAN_RESULTS_19 : Sta Z h19 "com/example/rooam/rooam/supplicant/SupplicantEvent$Kind" "SCAN_RESULTS" "Lcom/example/rooam/rooam/supplicant/SupplicantEvent$Kind;" (.ref w_SCAN_RESULTS) := S_SCAN_RESULTS_16.wr W19
  have S_SCAN_FAILED_19 : Sta Z h19 "com/example/rooam/rooam/supplicant/SupplicantEvent$Kind" "SCAN_FAILED" "Lcom/example/rooam/rooam/supplicant/SupplicantEvent$Kind;" (.ref w_SCAN_FAILED) := S_SCAN_FAILED_16.wr W19
  have S_SCAN_STARTED_19 : Sta Z h19 "com/example/rooam/rooam/supplicant/SupplicantEvent$Kind" "SCAN_STARTED" "Lcom/example/rooam/rooam/supplicant/SupplicantEvent$Kind;" (.ref w_SCAN_STARTED) := S_SCAN_STARTED_16.wr W19
  have E_CONNECTED_19 : Exa Z h19 w_CONNECTED "com/example/rooam/rooam/supplicant/SupplicantEvent$Kind" := E_CONNECTED_16.wr W19
  have E_DISCONNECTED_19 : Exa Z h19 w_DISCONNECTED "com/example/rooam/rooam/supplicant/SupplicantEvent$Kind" := E_DISCONNECTED_16.wr W19
  have E_ASSOC_REJECT_19 : Exa Z h19 w_ASSOC_REJECT "com/example/rooam/rooam/supplicant/SupplicantEvent$Kind" := E_ASSOC_REJECT_16.wr W19
  have E_NETWORK_REMOVED_19 : Exa Z h19 w_NETWORK_REMOVED "com/example/rooam/rooam/supplicant/SupplicantEvent$Kind" := E_NETWORK_REMOVED_16.wr W19
  have E_TERMINATING_19 : Exa Z h19 w_TERMINATING "com/example/rooam/rooam/supplicant/SupplicantEvent$Kind" := E_TERMINATING_16.wr W19
  have E_SCAN_RESULTS_19 : Exa Z h19 w_SCAN_RESULTS "com/example/rooam/rooam/supplicant/SupplicantEvent$Kind" := E_SCAN_RESULTS_16.wr W19
  have E_SCAN_FAILED_19 : Exa Z h19 w_SCAN_FAILED "com/example/rooam/rooam/supplicant/SupplicantEvent$Kind" := E_SCAN_FAILED_16.wr W19
  have E_SCAN_STARTED_19 : Exa Z h19 w_SCAN_STARTED "com/example/rooam/rooam/supplicant/SupplicantEvent$Kind" := E_SCAN_STARTED_16.wr W19
  have Z19 : n0 ≤ h19.size := Nat.le_trans Z16 (Keep.of_wr W19).1
  obtain ⟨T20, X20, e20, st20⟩ := getS2 X19 hx hZ hown (host := "") (Or.inl (hw _ (List.mem_of_getElem? (i := 16) rfl))) Via.refl e19 S_SCAN_FAILED_19 (g := (mkF m 44 #[.val (.int p0), .unset, .unset, .unset] [(.int (6 : Int32)), (.ref b1), (.ref b1)])) rfl (hb hby at_44)
  obtain ⟨cl21, Ar21, q21, S21, N21', H21, G21⟩ := (id V19)
  have hin21 : ¬ ((6 : Int32) < 0 ∨ cl21.slots.size ≤ ((6 : Int32)).toNatClampNeg) := inb_of S21 ⟨by decide, by decide⟩
  obtain ⟨T22, h22, X22, e22, W22, st22⟩ := stR X20 hx hZ e20 Ar21 (j := (6 : Int32)) hin21 rfl (Sto.ofV Ar21 q21 O1 (Ins.self E_SCAN_FAILED_19)) (g := (mkF m 47 #[.val (.int p0), .unset, .unset, .unset] [(.ref w_SCAN_FAILED), (.int (6 : Int32)), (.ref b1), (.ref b1)])) rfl rfl (hb hby at_47)
  have V22 : Arv Z h22 b1 k1 (.object "com/example/rooam/rooam/supplicant/SupplicantEvent$Kind") (8 : Int32) [(.ref w_CONNECTED), (.ref w_DISCONNECTED), (.ref w_ASSOC_REJECT), (.ref w_NETWORK_REMOVED), (.ref w_TERMINATING), (.ref w_SCAN_RESULTS), (.ref w_SCAN_FAILED), .null] .null := Arv.set Ar21 q21 S21 N21' H21 G21 rfl W22 6 rfl (Nat.le_of_ble_eq_true rfl)
  have N22 := Fr.snoc X22 N19 g_b1
  have S_CONNECTED_22 : Sta Z h22 "com/example/rooam/rooam/supplicant/SupplicantEvent$Kind" "CONNECTED" "Lcom/example/rooam/rooam/supplicant/SupplicantEvent$Kind;" (.ref w_CONNECTED) := S_CONNECTED_19.wr W22
  have S_DISCONNECTED_22 : Sta Z h22 "com/example/rooam/rooam/supplicant/SupplicantEvent$Kind" "DISCONNECTED" "Lcom/example/rooam/rooam/supplicant/SupplicantEvent$Kind;" (.ref w_DISCONNECTED) := S_DISCONNECTED_19.wr W22
  have S_ASSOC_REJECT_22 : Sta Z h22 "com/example/rooam/rooam/supplicant/SupplicantEvent$Kind" "ASSOC_REJECT" "Lcom/example/rooam/rooam/supplicant/SupplicantEvent$Kind;" (.ref w_ASSOC_REJECT) := S_ASSOC_REJECT_19.wr W22
  have S_NETWORK_REMOVED_22 : Sta Z h22 "com/example/rooam/rooam/supplicant/SupplicantEvent$Kind" "NETWORK_REMOVED" "Lcom/example/rooam/rooam/supplicant/SupplicantEvent$Kind;" (.ref w_NETWORK_REMOVED) := S_NETWORK_REMOVED_19.wr W22
  have S_TERMINATING_22 : Sta Z h22 "com/example/rooam/rooam/supplicant/SupplicantEvent$Kind" "TERMINATING" "Lcom/example/rooam/rooam/supplicant/SupplicantEvent$Kind;" (.ref w_TERMINATING) := S_TERMINATING_19.wr W22
  have S_SCAN_RESULTS_22 : Sta Z h22 "com/example/rooam/rooam/supplicant/SupplicantEvent$Kind" "SCAN_RESULTS" "Lcom/example/rooam/rooam/supplicant/SupplicantEvent$Kind;" (.ref w_SCAN_RESULTS) := S_SCAN_RESULTS_19.wr W22
  have S_SCAN_FAILED_22 : Sta Z h22 "com/example/rooam/rooam/supplicant/SupplicantEvent$Kind" "SCAN_FAILED" "Lcom/example/rooam/rooam/supplicant/SupplicantEvent$Kind;" (.ref w_SCAN_FAILED) := S_SCAN_FAILED_19.wr W22
  have S_SCAN_STARTED_22 : Sta Z h22 "com/example/rooam/rooam/supplicant/SupplicantEvent$Kind" "SCAN_STARTED" "Lcom/example/rooam/rooam/supplicant/SupplicantEvent$Kind;" (.ref w_SCAN_STARTED) := S_SCAN_STARTED_19.wr W22
  have E_CONNECTED_22 : Exa Z h22 w_CONNECTED "com/example/rooam/rooam/supplicant/SupplicantEvent$Kind" := E_CONNECTED_19.wr W22
  have E_DISCONNECTED_22 : Exa Z h22 w_DISCONNECTED "com/example/rooam/rooam/supplicant/SupplicantEvent$Kind" := E_DISCONNECTED_19.wr W22
  have E_ASSOC_REJECT_22 : Exa Z h22 w_ASSOC_REJECT "com/example/rooam/rooam/supplicant/SupplicantEvent$Kind" := E_ASSOC_REJECT_19.wr W22
  have E_NETWORK_REMOVED_22 : Exa Z h22 w_NETWORK_REMOVED "com/example/rooam/rooam/supplicant/SupplicantEvent$Kind" := E_NETWORK_REMOVED_19.wr W22
  have E_TERMINATING_22 : Exa Z h22 w_TERMINATING "com/example/rooam/rooam/supplicant/SupplicantEvent$Kind" := E_TERMINATING_19.wr W22
  have E_SCAN_RESULTS_22 : Exa Z h22 w_SCAN_RESULTS "com/example/rooam/rooam/supplicant/SupplicantEvent$Kind" := E_SCAN_RESULTS_19.wr W22
  have E_SCAN_FAILED_22 : Exa Z h22 w_SCAN_FAILED "com/example/rooam/rooam/supplicant/SupplicantEvent$Kind" := E_SCAN_FAILED_19.wr W22
  have E_SCAN_STARTED_22 : Exa Z h22 w_SCAN_STARTED "com/example/rooam/rooam/supplicant/SupplicantEvent$Kind" := E_SCAN_STARTED_19.wr W22
  have Z22 : n0 ≤ h22.size := Nat.le_trans Z19 (Keep.of_wr W22).1
  obtain ⟨T23, X23, e23, st23⟩ := getS2 X22 hx hZ hown (host := "") (Or.inl (hw _ (List.mem_of_getElem? (i := 18) rfl))) Via.refl e22 S_SCAN_STARTED_22 (g := (mkF m 51 #[.val (.int p0), .unset, .unset, .unset] [(.int (7 : Int32)), (.ref b1), (.ref b1)])) rfl (hb hby at_51)
  obtain ⟨cl24, Ar24, q24, S24, N24', H24, G24⟩ := (id V22)
  have hin24 : ¬ ((7 : Int32) < 0 ∨ cl24.slots.size ≤ ((7 : Int32)).toNatClampNeg) := inb_of S24 ⟨by decide, by decide⟩
  obtain ⟨T25, h25, X25, e25, W25, st25⟩ := stR X23 hx hZ e23 Ar24 (j := (7 : Int32)) hin24 rfl (Sto.ofV Ar24 q24 O1 (Ins.self E_SCAN_STARTED_22)) (g := (mkF m 54 #[.val (.int p0), .unset, .unset, .unset] [(.ref w_SCAN_STARTED), (.int (7 : Int32)), (.ref b1), (.ref b1)])) rfl rfl (hb hby at_54)
  have V25 : Arv Z h25 b1 k1 (.object "com/example/rooam/rooam/supplicant/SupplicantEvent$Kind") (8 : Int32) [(.ref w_CONNECTED), (.ref w_DISCONNECTED), (.ref w_ASSOC_REJECT), (.ref w_NETWORK_REMOVED), (.ref w_TERMINATING), (.ref w_SCAN_RESULTS), (.ref w_SCAN_FAILED), (.ref w_SCAN_STARTED)] .null := Arv.set Ar24 q24 S24 N24' H24 G24 rfl W25 7 rfl (Nat.le_of_ble_eq_true rfl)
  have N25 := Fr.snoc X25 N22 g_b1
  have S_CONNECTED_25 : Sta Z h25 "com/example/rooam/rooam/supplicant/SupplicantEvent$Kind" "CONNECTED" "Lcom/example/rooam/rooam/supplicant/SupplicantEvent$Kind;" (.ref w_CONNECTED) := S_CONNECTED_22.wr W25
  have S_DISCONNECTED_25 : Sta Z h25 "com/example/rooam/rooam/supplicant/SupplicantEvent$Kind" "DISCONNECTED" "Lcom/example/rooam/rooam/supplicant/SupplicantEvent$Kind;" (.ref w_DISCONNECTED) := S_DISCONNECTED_22.wr W25
  have S_ASSOC_REJECT_25 : Sta Z h25 "com/example/rooam/rooam/supplicant/SupplicantEvent$Kind" "ASSOC_REJECT" "Lcom/example/rooam/rooam/supplicant/SupplicantEvent$Kind;" (.ref w_ASSOC_REJECT) := S_ASSOC_REJECT_22.wr W25
  have S_NETWORK_REMOVED_25 : Sta Z h25 "com/example/rooam/rooam/supplicant/SupplicantEvent$Kind" "NETWORK_REMOVED" "Lcom/example/rooam/rooam/supplicant/SupplicantEvent$Kind;" (.ref w_NETWORK_REMOVED) := S_NETWORK_REMOVED_22.wr W25
  have S_TERMINATING_25 : Sta Z h25 "com/example/rooam/rooam/supplicant/SupplicantEvent$Kind" "TERMINATING" "Lcom/example/rooam/rooam/supplicant/SupplicantEvent$Kind;" (.ref w_TERMINATING) := S_TERMINATING_22.wr W25
  have S_SCAN_RESULTS_25 : Sta Z h25 "com/example/rooam/rooam/supplicant/SupplicantEvent$Kind" "SCAN_RESULTS" "Lcom/example/rooam/rooam/supplicant/SupplicantEvent$Kind;" (.ref w_SCAN_RESULTS) := S_SCAN_RESULTS_22.wr W25
  have S_SCAN_FAILED_25 : Sta Z h25 "com/example/rooam/rooam/supplicant/SupplicantEvent$Kind" "SCAN_FAILED" "Lcom/example/rooam/rooam/supplicant/SupplicantEvent$Kind;" (.ref w_SCAN_FAILED) := S_SCAN_FAILED_22.wr W25
  have S_SCAN_STARTED_25 : Sta Z h25 "com/example/rooam/rooam/supplicant/SupplicantEvent$Kind" "SCAN_STARTED" "Lcom/example/rooam/rooam/supplicant/SupplicantEvent$Kind;" (.ref w_SCAN_STARTED) := S_SCAN_STARTED_22.wr W25
  have E_CONNECTED_25 : Exa Z h25 w_CONNECTED "com/example/rooam/rooam/supplicant/SupplicantEvent$Kind" := E_CONNECTED_22.wr W25
  have E_DISCONNECTED_25 : Exa Z h25 w_DISCONNECTED "com/example/rooam/rooam/supplicant/SupplicantEvent$Kind" := E_DISCONNECTED_22.wr W25
  have E_ASSOC_REJECT_25 : Exa Z h25 w_ASSOC_REJECT "com/example/rooam/rooam/supplicant/SupplicantEvent$Kind" := E_ASSOC_REJECT_22.wr W25
  have E_NETWORK_REMOVED_25 : Exa Z h25 w_NETWORK_REMOVED "com/example/rooam/rooam/supplicant/SupplicantEvent$Kind" := E_NETWORK_REMOVED_22.wr W25
  have E_TERMINATING_25 : Exa Z h25 w_TERMINATING "com/example/rooam/rooam/supplicant/SupplicantEvent$Kind" := E_TERMINATING_22.wr W25
  have E_SCAN_RESULTS_25 : Exa Z h25 w_SCAN_RESULTS "com/example/rooam/rooam/supplicant/SupplicantEvent$Kind" := E_SCAN_RESULTS_22.wr W25
  have E_SCAN_FAILED_25 : Exa Z h25 w_SCAN_FAILED "com/example/rooam/rooam/supplicant/SupplicantEvent$Kind" := E_SCAN_FAILED_22.wr W25
  have E_SCAN_STARTED_25 : Exa Z h25 w_SCAN_STARTED "com/example/rooam/rooam/supplicant/SupplicantEvent$Kind" := E_SCAN_STARTED_22.wr W25
  have Z25 : n0 ≤ h25.size := Nat.le_trans Z22 (Keep.of_wr W25).1
  have k26 : ∀ target, Steps p.tables e below (T25.setTop (mkF m 64 #[.val (.int p0), .val (.ref b1), .val (.int ((p0 &&& (2147483647 : Int32)) % (8 : Int32))), .unset] [])) target → Steps p.tables e below (s₁.setTop (mkF m 0 #[.val (.int p0), .unset, .unset, .unset] [])) target := by
    intro target kt
    show Steps p.tables e below (s₁.setTop (mkF m 0 #[.val (.int p0), .unset, .unset, .unset] [])) _
    refine XS.bipush X0.here hx rfl (hb hby at_0) ?_
    show Steps p.tables e below (s₁.setTop (mkF m 2 #[.val (.int p0), .unset, .unset, .unset] [(.int (8 : Int32))])) _
    refine st1 _ ?_
    show Steps p.tables e below (T1.setTop (mkF m 5 #[.val (.int p0), .unset, .unset, .unset] [(.ref b1)])) _
    refine XS.dup X1.here hx rfl (hb hby at_5) rfl rfl ?_
    show Steps p.tables e below (T1.setTop (mkF m 6 #[.val (.int p0), .unset, .unset, .unset] [(.ref b1), (.ref b1)])) _
    refine XS.iconst X1.here hx rfl (hb hby at_6) ?_
    show Steps p.tables e below (T1.setTop (mkF m 7 #[.val (.int p0), .unset, .unset, .unset] [(.int (0 : Int32)), (.ref b1), (.ref b1)])) _
    refine st2 _ ?_
    show Steps p.tables e below (T2.setTop (mkF m 10 #[.val (.int p0), .unset, .unset, .unset] [(.ref w_CONNECTED), (.int (0 : Int32)), (.ref b1), (.ref b1)])) _
    refine st4 _ ?_
    show Steps p.tables e below (T4.setTop (mkF m 11 #[.val (.int p0), .unset, .unset, .unset] [(.ref b1)])) _
    refine XS.dup X4.here hx rfl (hb hby at_11) rfl rfl ?_
    show Steps p.tables e below (T4.setTop (mkF m 12 #[.val (.int p0), .unset, .unset, .unset] [(.ref b1), (.ref b1)])) _
    refine XS.iconst X4.here hx rfl (hb hby at_12) ?_
    show Steps p.tables e below (T4.setTop (mkF m 13 #[.val (.int p0), .unset, .unset, .unset] [(.int (1 : Int32)), (.ref b1), (.ref b1)])) _
    refine st5 _ ?_
    show Steps p.tables e below (T5.setTop (mkF m 16 #[.val (.int p0), .unset, .unset, .unset] [(.ref w_DISCONNECTED), (.int (1 : Int32)), (.ref b1), (.ref b1)])) _
    refine st7 _ ?_
    show Steps p.tables e below (T7.setTop (mkF m 17 #[.val (.int p0), .unset, .unset, .unset] [(.ref b1)])) _
    refine XS.dup X7.here hx rfl (hb hby at_17) rfl rfl ?_
    show Steps p.tables e below (T7.setTop (mkF m 18 #[.val (.int p0), .unset, .unset, .unset] [(.ref b1), (.ref b1)])) _
    refine XS.iconst X7.here hx rfl (hb hby at_18) ?_
    show Steps p.tables e below (T7.setTop (mkF m 19 #[.val (.int p0), .unset, .unset, .unset] [(.int (2 : Int32)), (.ref b1), (.ref b1)])) _
    refine st8 _ ?_
    show Steps p.tables e below (T8.setTop (mkF m 22 #[.val (.int p0), .unset, .unset, .unset] [(.ref w_ASSOC_REJECT), (.int (2 : Int32)), (.ref b1), (.ref b1)])) _
    refine st10 _ ?_
    show Steps p.tables e below (T10.setTop (mkF m 23 #[.val (.int p0), .unset, .unset, .unset] [(.ref b1)])) _
    refine XS.dup X10.here hx rfl (hb hby at_23) rfl rfl ?_
    show Steps p.tables e below (T10.setTop (mkF m 24 #[.val (.int p0), .unset, .unset, .unset] [(.ref b1), (.ref b1)])) _
    refine XS.iconst X10.here hx rfl (hb hby at_24) ?_
    show Steps p.tables e below (T10.setTop (mkF m 25 #[.val (.int p0), .unset, .unset, .unset] [(.int (3 : Int32)), (.ref b1), (.ref b1)])) _
    refine st11 _ ?_
    show Steps p.tables e below (T11.setTop (mkF m 28 #[.val (.int p0), .unset, .unset, .unset] [(.ref w_NETWORK_REMOVED), (.int (3 : Int32)), (.ref b1), (.ref b1)])) _
    refine st13 _ ?_
    show Steps p.tables e below (T13.setTop (mkF m 29 #[.val (.int p0), .unset, .unset, .unset] [(.ref b1)])) _
    refine XS.dup X13.here hx rfl (hb hby at_29) rfl rfl ?_
    show Steps p.tables e below (T13.setTop (mkF m 30 #[.val (.int p0), .unset, .unset, .unset] [(.ref b1), (.ref b1)])) _
    refine XS.iconst X13.here hx rfl (hb hby at_30) ?_
    show Steps p.tables e below (T13.setTop (mkF m 31 #[.val (.int p0), .unset, .unset, .unset] [(.int (4 : Int32)), (.ref b1), (.ref b1)])) _
    refine st14 _ ?_
    show Steps p.tables e below (T14.setTop (mkF m 34 #[.val (.int p0), .unset, .unset, .unset] [(.ref w_TERMINATING), (.int (4 : Int32)), (.ref b1), (.ref b1)])) _
    refine st16 _ ?_
    show Steps p.tables e below (T16.setTop (mkF m 35 #[.val (.int p0), .unset, .unset, .unset] [(.ref b1)])) _
    refine XS.dup X16.here hx rfl (hb hby at_35) rfl rfl ?_
    show Steps p.tables e below (T16.setTop (mkF m 36 #[.val (.int p0), .unset, .unset, .unset] [(.ref b1), (.ref b1)])) _
    refine XS.iconst X16.here hx rfl (hb hby at_36) ?_
    show Steps p.tables e below (T16.setTop (mkF m 37 #[.val (.int p0), .unset, .unset, .unset] [(.int (5 : Int32)), (.ref b1), (.ref b1)])) _
    refine st17 _ ?_
    show Steps p.tables e below (T17.setTop (mkF m 40 #[.val (.int p0), .unset, .unset, .unset] [(.ref w_SCAN_RESULTS), (.int (5 : Int32)), (.ref b1), (.ref b1)])) _
    refine st19 _ ?_
    show Steps p.tables e below (T19.setTop (mkF m 41 #[.val (.int p0), .unset, .unset, .unset] [(.ref b1)])) _
    refine XS.dup X19.here hx rfl (hb hby at_41) rfl rfl ?_
    show Steps p.tables e below (T19.setTop (mkF m 42 #[.val (.int p0), .unset, .unset, .unset] [(.ref b1), (.ref b1)])) _
    refine XS.bipush X19.here hx rfl (hb hby at_42) ?_
    show Steps p.tables e below (T19.setTop (mkF m 44 #[.val (.int p0), .unset, .unset, .unset] [(.int (6 : Int32)), (.ref b1), (.ref b1)])) _
    refine st20 _ ?_
    show Steps p.tables e below (T20.setTop (mkF m 47 #[.val (.int p0), .unset, .unset, .unset] [(.ref w_SCAN_FAILED), (.int (6 : Int32)), (.ref b1), (.ref b1)])) _
    refine st22 _ ?_
    show Steps p.tables e below (T22.setTop (mkF m 48 #[.val (.int p0), .unset, .unset, .unset] [(.ref b1)])) _
    refine XS.dup X22.here hx rfl (hb hby at_48) rfl rfl ?_
    show Steps p.tables e below (T22.setTop (mkF m 49 #[.val (.int p0), .unset, .unset, .unset] [(.ref b1), (.ref b1)])) _
    refine XS.bipush X22.here hx rfl (hb hby at_49) ?_
    show Steps p.tables e below (T22.setTop (mkF m 51 #[.val (.int p0), .unset, .unset, .unset] [(.int (7 : Int32)), (.ref b1), (.ref b1)])) _
    refine st23 _ ?_
    show Steps p.tables e below (T23.setTop (mkF m 54 #[.val (.int p0), .unset, .unset, .unset] [(.ref w_SCAN_STARTED), (.int (7 : Int32)), (.ref b1), (.ref b1)])) _
    refine st25 _ ?_
    show Steps p.tables e below (T25.setTop (mkF m 55 #[.val (.int p0), .unset, .unset, .unset] [(.ref b1)])) _
    refine XS.astoreN X25.here hx rfl (hb hby at_55) rfl rfl (l' := #[.val (.int p0), .val (.ref b1), .unset, .unset]) rfl ?_
    show Steps p.tables e below (T25.setTop (mkF m 56 #[.val (.int p0), .val (.ref b1), .unset, .unset] [])) _
    refine XS.iloadN X25.here hx rfl (hb hby at_56) rfl ?_
    show Steps p.tables e below (T25.setTop (mkF m 57 #[.val (.int p0), .val (.ref b1), .unset, .unset] [(.int p0)])) _
    refine X25.ldcInt hx hown (mvT hZ (hw _ (List.mem_of_getElem? (i := 20) rfl))) (g := (mkF m 57 #[.val (.int p0), .val (.ref b1), .unset, .unset] [(.int p0)])) rfl (hb hby at_57) _ ?_
    show Steps p.tables e below (T25.setTop (mkF m 59 #[.val (.int p0), .val (.ref b1), .unset, .unset] [(.int (2147483647 : Int32)), (.int p0)])) _
    refine XS.iand X25.here hx rfl (hb hby at_59) rfl ?_
    show Steps p.tables e below (T25.setTop (mkF m 60 #[.val (.int p0), .val (.ref b1), .unset, .unset] [(.int (p0 &&& (2147483647 : Int32)))])) _
    refine XS.bipush X25.here hx rfl (hb hby at_60) ?_
    show Steps p.tables e below (T25.setTop (mkF m 62 #[.val (.int p0), .val (.ref b1), .unset, .unset] [(.int (8 : Int32)), (.int (p0 &&& (2147483647 : Int32)))])) _
    refine iremM X25 hx rfl (hb hby at_62) rfl (by decide) ?_
    show Steps p.tables e below (T25.setTop (mkF m 63 #[.val (.int p0), .val (.ref b1), .unset, .unset] [(.int ((p0 &&& (2147483647 : Int32)) % (8 : Int32)))])) _
    refine XS.istoreN X25.here hx rfl (hb hby at_63) rfl (l' := #[.val (.int p0), .val (.ref b1), .val (.int ((p0 &&& (2147483647 : Int32)) % (8 : Int32))), .unset]) rfl ?_
    exact kt
  by_cases hk0 : ((p0 &&& (2147483647 : Int32)) % (8 : Int32)) = (0 : Int32)
  · obtain ⟨cl27, Ar27, q27, S27, N27', H27, G27⟩ := (id V25)
    have hin27 : ¬ ((0 : Int32) < 0 ∨ cl27.slots.size ≤ ((0 : Int32)).toNatClampNeg) := inb_of S27 ⟨by decide, by decide⟩
    have hat27 : cl27.slots[((0 : Int32)).toNatClampNeg]? = some (.ref w_CONNECTED) := Has.at H27 hin27 rfl
    obtain ⟨_, _, ⟨T28, L28, k28, n28⟩, -, X28, ⟨Lc28, hQ28, l28, y28, z28⟩, st28⟩ := Jvm.LawKit.callS X25 hx (y := (⟨"com/example/rooam/rooam/roaming/EngineEvents", "isInput", "(Lcom/example/rooam/rooam/supplicant/SupplicantEvent$Kind;)Z"⟩ : MethodName)) hown (mvT hZ (hw _ (List.mem_of_getElem? (i := 21) rfl))) (mvT hZ (hw _ (List.mem_of_getElem? (i := 22) rfl))) (mvT hZ (hw _ (List.mem_of_getElem? (i := 23) rfl))) (mvT hZ (hw _ (List.mem_of_getElem? (i := 24) rfl))) (by decide) (backOf (W := 0) (rm_in0 l Z a0 hw [] w_CONNECTED h25 n0 Z25 S_CONNECTED_25) hZ (hw _ (List.mem_of_getElem? (i := 24) rfl)) (hw _ (List.mem_of_getElem? (i := 23) rfl)) (by decide) (by decide)) (g := (mkF m 78 #[.val (.int p0), .val (.ref b1), .val (.int (0 : Int32)), .val (.int (1 : Int32))] [(.ref w_CONNECTED)])) rfl (by rw [hml]; rfl) (argsL := [(.ref w_CONNECTED)]) (rest := []) (lenOf pd_0 rfl) rfl (by show 2 * 0 + _ ≤ _; exact Nat.le_of_eq rfl) (hb hby at_78) (fun _ _ => ⟨rfl, e25, (by decide : 1 + 0 ≤ _), (by decide : 8 + 0 ≤ _)⟩)
    dsimp only [Pt.U, Pt.locs, Pt.cells, Pt.slots] at X28 l28 y28 z28 st28 hQ28
    subst l28 y28 z28
    obtain ⟨rfl, N28q, e28⟩ := hQ28
    have N28 := Fr.app N25 N28q
    obtain ⟨fs, hr, hrun, hended, hW, hsame⟩ := X28.leave (v := some (.int (1 : Int32))) (fun h => by rw [Bd.returns] at h; cases h)
    refine ⟨_, _, pre0 _ ?_, hrun, hended, _, _, rfl, ?_, ⟨_, rfl⟩, hW, hsame.mono (by decide) (by decide)⟩
    · refine k26 _ ?_
      show Steps p.tables e below (T25.setTop (mkF m 64 #[.val (.int p0), .val (.ref b1), .val (.int ((p0 &&& (2147483647 : Int32)) % (8 : Int32))), .unset] [])) _
      rw [hk0]
      show Steps p.tables e below (T25.setTop (mkF m 64 #[.val (.int p0), .val (.ref b1), .val (.int (0 : Int32)), .unset] [])) _
      refine XS.iloadN X25.here hx rfl (hb hby at_64) rfl ?_
      show Steps p.tables e below (T25.setTop (mkF m 65 #[.val (.int p0), .val (.ref b1), .val (.int (0 : Int32)), .unset] [(.int (0 : Int32))])) _
      refine XS.iconst X25.here hx rfl (hb hby at_65) ?_
      show Steps p.tables e below (T25.setTop (mkF m 66 #[.val (.int p0), .val (.ref b1), .val (.int (0 : Int32)), .unset] [(.int (3 : Int32)), (.int (0 : Int32))])) _
      refine XS.icmpNo X25.here hx rfl (hb hby at_66) rfl (tlt (by decide : (0 : Int32) < (3 : Int32))).2.1 ?_
      show Steps p.tables e below (T25.setTop (mkF m 69 #[.val (.int p0), .val (.ref b1), .val (.int (0 : Int32)), .unset] [])) _
      refine XS.iconst X25.here hx rfl (hb hby at_69) ?_
      show Steps p.tables e below (T25.setTop (mkF m 70 #[.val (.int p0), .val (.ref b1), .val (.int (0 : Int32)), .unset] [(.int (1 : Int32))])) _
      refine XS.goto X25.here hx rfl (pc0 := 70) (pc' := 74) rfl (hb hby at_70) (by decide) (by decide) ?_
      show Steps p.tables e below (T25.setTop (mkF m 74 #[.val (.int p0), .val (.ref b1), .val (.int (0 : Int32)), .unset] [(.int (1 : Int32))])) _
      refine XS.istoreN X25.here hx rfl (hb hby at_74) rfl (l' := #[.val (.int p0), .val (.ref b1), .val (.int (0 : Int32)), .val (.int (1 : Int32))]) rfl ?_
      show Steps p.tables e below (T25.setTop (mkF m 75 #[.val (.int p0), .val (.ref b1), .val (.int (0 : Int32)), .val (.int (1 : Int32))] [])) _
      refine XS.aloadN X25.here hx rfl (hb hby at_75) rfl rfl ?_
      show Steps p.tables e below (T25.setTop (mkF m 76 #[.val (.int p0), .val (.ref b1), .val (.int (0 : Int32)), .val (.int (1 : Int32))] [(.ref b1)])) _
      refine XS.iloadN X25.here hx rfl (hb hby at_76) rfl ?_
      show Steps p.tables e below (T25.setTop (mkF m 77 #[.val (.int p0), .val (.ref b1), .val (.int (0 : Int32)), .val (.int (1 : Int32))] [(.int (0 : Int32)), (.ref b1)])) _
      refine X25.aaload hx (j := (0 : Int32)) (v := (.ref w_CONNECTED)) (by rw [e25]; exact Ar27.1) (State.isArrayOf_alike hZ.alike Ar27.2.1) rfl Ar27.2.2 hin27 hat27 (g := (mkF m 77 #[.val (.int p0), .val (.ref b1), .val (.int (0 : Int32)), .val (.int (1 : Int32))] [(.int (0 : Int32)), (.ref b1)])) rfl rfl (hb hby at_77) _ ?_
      show Steps p.tables e below (T25.setTop (mkF m 78 #[.val (.int p0), .val (.ref b1), .val (.int (0 : Int32)), .val (.int (1 : Int32))] [(.ref w_CONNECTED)])) _
      refine st28 _ ?_
      show Steps p.tables e below (T28.setTop (mkF m 81 #[.val (.int p0), .val (.ref b1), .val (.int (0 : Int32)), .val (.int (1 : Int32))] [(.int (1 : Int32))])) _
      refine XS.iloadN X28.here hx rfl (hb hby at_81) rfl ?_
      show Steps p.tables e below (T28.setTop (mkF m 82 #[.val (.int p0), .val (.ref b1), .val (.int (0 : Int32)), .val (.int (1 : Int32))] [(.int (1 : Int32)), (.int (1 : Int32))])) _
      refine XS.icmpNo X28.here hx rfl (hb hby at_82) rfl (teq (by decide : (1 : Int32) = (1 : Int32))).2 ?_
      show Steps p.tables e below (T28.setTop (mkF m 85 #[.val (.int p0), .val (.ref b1), .val (.int (0 : Int32)), .val (.int (1 : Int32))] [])) _
      refine XS.iconst X28.here hx rfl (hb hby at_85) ?_
      show Steps p.tables e below (T28.setTop (mkF m 86 #[.val (.int p0), .val (.ref b1), .val (.int (0 : Int32)), .val (.int (1 : Int32))] [(.int (1 : Int32))])) _
      refine XS.goto X28.here hx rfl (pc0 := 86) (pc' := 90) rfl (hb hby at_86) (by decide) (by decide) ?_
      show Steps p.tables e below (T28.setTop (mkF m 90 #[.val (.int p0), .val (.ref b1), .val (.int (0 : Int32)), .val (.int (1 : Int32))] [(.int (1 : Int32))])) _
      exact retN X28 hx (t := .boolean) Bd.returns (by simp) (hb hby at_90) hr
    · show Q_rm_law Z p0 w_CONNECTED w_DISCONNECTED w_ASSOC_REJECT w_NETWORK_REMOVED w_TERMINATING w_SCAN_RESULTS w_SCAN_FAILED w_SCAN_STARTED h0 n0 _ T28.heap _
      rw [e28]
      exact ⟨rfl, N28, trivial⟩
  · have k29 : ∀ target, Steps p.tables e below (T25.setTop (mkF m 64 #[.val (.int p0), .val (.ref b1), .val (.int ((p0 &&& (2147483647 : Int32)) % (8 : Int32))), .unset] [])) target → Steps p.tables e below (s₁.setTop (mkF m 0 #[.val (.int p0), .unset, .unset, .unset] [])) target := by
      intro target kt
      refine k26 _ ?_
      exact kt
    by_cases hk1 : ((p0 &&& (2147483647 : Int32)) % (8 : Int32)) = (1 : Int32)
    · obtain ⟨cl30, Ar30, q30, S30, N30', H30, G30⟩ := (id V25)
      have hin30 : ¬ ((1 : Int32) < 0 ∨ cl30.slots.size ≤ ((1 : Int32)).toNatClampNeg) := inb_of S30 ⟨by decide, by decide⟩
      have hat30 : cl30.slots[((1 : Int32)).toNatClampNeg]? = some (.ref w_DISCONNECTED) := Has.at H30 hin30 rfl
      obtain ⟨_, _, ⟨T31, L31, k31, n31⟩, -, X31, ⟨Lc31, hQ31, l31, y31, z31⟩, st31⟩ := Jvm.LawKit.callS X25 hx (y := (⟨"com/example/rooam/rooam/roaming/EngineEvents", "isInput", "(Lcom/example/rooam/rooam/supplicant/SupplicantEvent$Kind;)Z"⟩ : MethodName)) hown (mvT hZ (hw _ (List.mem_of_getElem? (i := 21) rfl))) (mvT hZ (hw _ (List.mem_of_getElem? (i := 22) rfl))) (mvT hZ (hw _ (List.mem_of_getElem? (i := 23) rfl))) (mvT hZ (hw _ (List.mem_of_getElem? (i := 24) rfl))) (by decide) (backOf (W := 0) (rm_in1 l Z a0 hw [] w_DISCONNECTED w_CONNECTED h25 n0 Z25 S_CONNECTED_25 S_DISCONNECTED_25 ne_DISCONNECTED_CONNECTED) hZ (hw _ (List.mem_of_getElem? (i := 24) rfl)) (hw _ (List.mem_of_getElem? (i := 23) rfl)) (by decide) (by decide)) (g := (mkF m 78 #[.val (.int p0), .val (.ref b1), .val (.int (1 : Int32)), .val (.int (1 : Int32))] [(.ref w_DISCONNECTED)])) rfl (by rw [hml]; rfl) (argsL := [(.ref w_DISCONNECTED)]) (rest := []) (lenOf pd_0 rfl) rfl (by show 2 * 0 + _ ≤ _; exact Nat.le_of_eq rfl) (hb hby at_78) (fun _ _ => ⟨rfl, e25, (by decide : 1 + 0 ≤ _), (by decide : 8 + 0 ≤ _)⟩)
      dsimp only [Pt.U, Pt.locs, Pt.cells, Pt.slots] at X31 l31 y31 z31 st31 hQ31
      subst l31 y31 z31
      obtain ⟨rfl, N31q, e31⟩ := hQ31
      have N31 := Fr.app N25 N31q
      obtain ⟨fs, hr, hrun, hended, hW, hsame⟩ := X31.leave (v := some (.int (1 : Int32))) (fun h => by rw [Bd.returns] at h; cases h)
      refine ⟨_, _, pre0 _ ?_, hrun, hended, _, _, rfl, ?_, ⟨_, rfl⟩, hW, hsame.mono (by decide) (by decide)⟩
      · refine k29 _ ?_
        show Steps p.tables e below (T25.setTop (mkF m 64 #[.val (.int p0), .val (.ref b1), .val (.int ((p0 &&& (2147483647 : Int32)) % (8 : Int32))), .unset] [])) _
        rw [hk1]
        show Steps p.tables e below (T25.setTop (mkF m 64 #[.val (.int p0), .val (.ref b1), .val (.int (1 : Int32)), .unset] [])) _
        refine XS.iloadN X25.here hx rfl (hb hby at_64) rfl ?_
        show Steps p.tables e below (T25.setTop (mkF m 65 #[.val (.int p0), .val (.ref b1), .val (.int (1 : Int32)), .unset] [(.int (1 : Int32))])) _
        refine XS.iconst X25.here hx rfl (hb hby at_65) ?_
        show Steps p.tables e below (T25.setTop (mkF m 66 #[.val (.int p0), .val (.ref b1), .val (.int (1 : Int32)), .unset] [(.int (3 : Int32)), (.int (1 : Int32))])) _
        refine XS.icmpNo X25.here hx rfl (hb hby at_66) rfl (tlt (by decide : (1 : Int32) < (3 : Int32))).2.1 ?_
        show Steps p.tables e below (T25.setTop (mkF m 69 #[.val (.int p0), .val (.ref b1), .val (.int (1 : Int32)), .unset] [])) _
        refine XS.iconst X25.here hx rfl (hb hby at_69) ?_
        show Steps p.tables e below (T25.setTop (mkF m 70 #[.val (.int p0), .val (.ref b1), .val (.int (1 : Int32)), .unset] [(.int (1 : Int32))])) _
        refine XS.goto X25.here hx rfl (pc0 := 70) (pc' := 74) rfl (hb hby at_70) (by decide) (by decide) ?_
        show Steps p.tables e below (T25.setTop (mkF m 74 #[.val (.int p0), .val (.ref b1), .val (.int (1 : Int32)), .unset] [(.int (1 : Int32))])) _
        refine XS.istoreN X25.here hx rfl (hb hby at_74) rfl (l' := #[.val (.int p0), .val (.ref b1), .val (.int (1 : Int32)), .val (.int (1 : Int32))]) rfl ?_
        show Steps p.tables e below (T25.setTop (mkF m 75 #[.val (.int p0), .val (.ref b1), .val (.int (1 : Int32)), .val (.int (1 : Int32))] [])) _
        refine XS.aloadN X25.here hx rfl (hb hby at_75) rfl rfl ?_
        show Steps p.tables e below (T25.setTop (mkF m 76 #[.val (.int p0), .val (.ref b1), .val (.int (1 : Int32)), .val (.int (1 : Int32))] [(.ref b1)])) _
        refine XS.iloadN X25.here hx rfl (hb hby at_76) rfl ?_
        show Steps p.tables e below (T25.setTop (mkF m 77 #[.val (.int p0), .val (.ref b1), .val (.int (1 : Int32)), .val (.int (1 : Int32))] [(.int (1 : Int32)), (.ref b1)])) _
        refine X25.aaload hx (j := (1 : Int32)) (v := (.ref w_DISCONNECTED)) (by rw [e25]; exact Ar30.1) (State.isArrayOf_alike hZ.alike Ar30.2.1) rfl Ar30.2.2 hin30 hat30 (g := (mkF m 77 #[.val (.int p0), .val (.ref b1), .val (.int (1 : Int32)), .val (.int (1 : Int32))] [(.int (1 : Int32)), (.ref b1)])) rfl rfl (hb hby at_77) _ ?_
        show Steps p.tables e below (T25.setTop (mkF m 78 #[.val (.int p0), .val (.ref b1), .val (.int (1 : Int32)), .val (.int (1 : Int32))] [(.ref w_DISCONNECTED)])) _
        refine st31 _ ?_
        show Steps p.tables e below (T31.setTop (mkF m 81 #[.val (.int p0), .val (.ref b1), .val (.int (1 : Int32)), .val (.int (1 : Int32))] [(.int (1 : Int32))])) _
        refine XS.iloadN X31.here hx rfl (hb hby at_81) rfl ?_
        show Steps p.tables e below (T31.setTop (mkF m 82 #[.val (.int p0), .val (.ref b1), .val (.int (1 : Int32)), .val (.int (1 : Int32))] [(.int (1 : Int32)), (.int (1 : Int32))])) _
        refine XS.icmpNo X31.here hx rfl (hb hby at_82) rfl (teq (by decide : (1 : Int32) = (1 : Int32))).2 ?_
        show Steps p.tables e below (T31.setTop (mkF m 85 #[.val (.int p0), .val (.ref b1), .val (.int (1 : Int32)), .val (.int (1 : Int32))] [])) _
        refine XS.iconst X31.here hx rfl (hb hby at_85) ?_
        show Steps p.tables e below (T31.setTop (mkF m 86 #[.val (.int p0), .val (.ref b1), .val (.int (1 : Int32)), .val (.int (1 : Int32))] [(.int (1 : Int32))])) _
        refine XS.goto X31.here hx rfl (pc0 := 86) (pc' := 90) rfl (hb hby at_86) (by decide) (by decide) ?_
        show Steps p.tables e below (T31.setTop (mkF m 90 #[.val (.int p0), .val (.ref b1), .val (.int (1 : Int32)), .val (.int (1 : Int32))] [(.int (1 : Int32))])) _
        exact retN X31 hx (t := .boolean) Bd.returns (by simp) (hb hby at_90) hr
      · show Q_rm_law Z p0 w_CONNECTED w_DISCONNECTED w_ASSOC_REJECT w_NETWORK_REMOVED w_TERMINATING w_SCAN_RESULTS w_SCAN_FAILED w_SCAN_STARTED h0 n0 _ T31.heap _
        rw [e31]
        exact ⟨rfl, N31, trivial⟩
    · have k32 : ∀ target, Steps p.tables e below (T25.setTop (mkF m 64 #[.val (.int p0), .val (.ref b1), .val (.int ((p0 &&& (2147483647 : Int32)) % (8 : Int32))), .unset] [])) target → Steps p.tables e below (s₁.setTop (mkF m 0 #[.val (.int p0), .unset, .unset, .unset] [])) target := by
        intro target kt
        refine k29 _ ?_
        exact kt
      by_cases hk2 : ((p0 &&& (2147483647 : Int32)) % (8 : Int32)) = (2 : Int32)
      · obtain ⟨cl33, Ar33, q33, S33, N33', H33, G33⟩ := (id V25)
        have hin33 : ¬ ((2 : Int32) < 0 ∨ cl33.slots.size ≤ ((2 : Int32)).toNatClampNeg) := inb_of S33 ⟨by decide, by decide⟩
        have hat33 : cl33.slots[((2 : Int32)).toNatClampNeg]? = some (.ref w_ASSOC_REJECT) := Has.at H33 hin33 rfl
        obtain ⟨_, _, ⟨T34, L34, k34, n34⟩, -, X34, ⟨Lc34, hQ34, l34, y34, z34⟩, st34⟩ := Jvm.LawKit.callS X25 hx (y := (⟨"com/example/rooam/rooam/roaming/EngineEvents", "isInput", "(Lcom/example/rooam/rooam/supplicant/SupplicantEvent$Kind;)Z"⟩ : MethodName)) hown (mvT hZ (hw _ (List.mem_of_getElem? (i := 21) rfl))) (mvT hZ (hw _ (List.mem_of_getElem? (i := 22) rfl))) (mvT hZ (hw _ (List.mem_of_getElem? (i := 23) rfl))) (mvT hZ (hw _ (List.mem_of_getElem? (i := 24) rfl))) (by decide) (backOf (W := 0) (rm_in2 l Z a0 hw [] w_ASSOC_REJECT w_CONNECTED w_DISCONNECTED h25 n0 Z25 S_CONNECTED_25 S_DISCONNECTED_25 S_ASSOC_REJECT_25 ne_ASSOC_REJECT_CONNECTED ne_ASSOC_REJECT_DISCONNECTED) hZ (hw _ (List.mem_of_getElem? (i := 24) rfl)) (hw _ (List.mem_of_getElem? (i := 23) rfl)) (by decide) (by decide)) (g := (mkF m 78 #[.val (.int p0), .val (.ref b1), .val (.int (2 : Int32)), .val (.int (1 : Int32))] [(.ref w_ASSOC_REJECT)])) rfl (by rw [hml]; rfl) (argsL := [(.ref w_ASSOC_REJECT)]) (rest := []) (lenOf pd_0 rfl) rfl (by show 2 * 0 + _ ≤ _; exact Nat.le_of_eq rfl) (hb hby at_78) (fun _ _ => ⟨rfl, e25, (by decide : 1 + 0 ≤ _), (by decide : 8 + 0 ≤ _)⟩)
        dsimp only [Pt.U, Pt.locs, Pt.cells, Pt.slots] at X34 l34 y34 z34 st34 hQ34
        subst l34 y34 z34
        obtain ⟨rfl, N34q, e34⟩ := hQ34
        have N34 := Fr.app N25 N34q
        obtain ⟨fs, hr, hrun, hended, hW, hsame⟩ := X34.leave (v := some (.int (1 : Int32))) (fun h => by rw [Bd.returns] at h; cases h)
        refine ⟨_, _, pre0 _ ?_, hrun, hended, _, _, rfl, ?_, ⟨_, rfl⟩, hW, hsame.mono (by decide) (by decide)⟩
        · refine k32 _ ?_
          show Steps p.tables e below (T25.setTop (mkF m 64 #[.val (.int p0), .val (.ref b1), .val (.int ((p0 &&& (2147483647 : Int32)) % (8 : Int32))), .unset] [])) _
          rw [hk2]
          show Steps p.tables e below (T25.setTop (mkF m 64 #[.val (.int p0), .val (.ref b1), .val (.int (2 : Int32)), .unset] [])) _
          refine XS.iloadN X25.here hx rfl (hb hby at_64) rfl ?_
          show Steps p.tables e below (T25.setTop (mkF m 65 #[.val (.int p0), .val (.ref b1), .val (.int (2 : Int32)), .unset] [(.int (2 : Int32))])) _
          refine XS.iconst X25.here hx rfl (hb hby at_65) ?_
          show Steps p.tables e below (T25.setTop (mkF m 66 #[.val (.int p0), .val (.ref b1), .val (.int (2 : Int32)), .unset] [(.int (3 : Int32)), (.int (2 : Int32))])) _
          refine XS.icmpNo X25.here hx rfl (hb hby at_66) rfl (tlt (by decide : (2 : Int32) < (3 : Int32))).2.1 ?_
          show Steps p.tables e below (T25.setTop (mkF m 69 #[.val (.int p0), .val (.ref b1), .val (.int (2 : Int32)), .unset] [])) _
          refine XS.iconst X25.here hx rfl (hb hby at_69) ?_
          show Steps p.tables e below (T25.setTop (mkF m 70 #[.val (.int p0), .val (.ref b1), .val (.int (2 : Int32)), .unset] [(.int (1 : Int32))])) _
          refine XS.goto X25.here hx rfl (pc0 := 70) (pc' := 74) rfl (hb hby at_70) (by decide) (by decide) ?_
          show Steps p.tables e below (T25.setTop (mkF m 74 #[.val (.int p0), .val (.ref b1), .val (.int (2 : Int32)), .unset] [(.int (1 : Int32))])) _
          refine XS.istoreN X25.here hx rfl (hb hby at_74) rfl (l' := #[.val (.int p0), .val (.ref b1), .val (.int (2 : Int32)), .val (.int (1 : Int32))]) rfl ?_
          show Steps p.tables e below (T25.setTop (mkF m 75 #[.val (.int p0), .val (.ref b1), .val (.int (2 : Int32)), .val (.int (1 : Int32))] [])) _
          refine XS.aloadN X25.here hx rfl (hb hby at_75) rfl rfl ?_
          show Steps p.tables e below (T25.setTop (mkF m 76 #[.val (.int p0), .val (.ref b1), .val (.int (2 : Int32)), .val (.int (1 : Int32))] [(.ref b1)])) _
          refine XS.iloadN X25.here hx rfl (hb hby at_76) rfl ?_
          show Steps p.tables e below (T25.setTop (mkF m 77 #[.val (.int p0), .val (.ref b1), .val (.int (2 : Int32)), .val (.int (1 : Int32))] [(.int (2 : Int32)), (.ref b1)])) _
          refine X25.aaload hx (j := (2 : Int32)) (v := (.ref w_ASSOC_REJECT)) (by rw [e25]; exact Ar33.1) (State.isArrayOf_alike hZ.alike Ar33.2.1) rfl Ar33.2.2 hin33 hat33 (g := (mkF m 77 #[.val (.int p0), .val (.ref b1), .val (.int (2 : Int32)), .val (.int (1 : Int32))] [(.int (2 : Int32)), (.ref b1)])) rfl rfl (hb hby at_77) _ ?_
          show Steps p.tables e below (T25.setTop (mkF m 78 #[.val (.int p0), .val (.ref b1), .val (.int (2 : Int32)), .val (.int (1 : Int32))] [(.ref w_ASSOC_REJECT)])) _
          refine st34 _ ?_
          show Steps p.tables e below (T34.setTop (mkF m 81 #[.val (.int p0), .val (.ref b1), .val (.int (2 : Int32)), .val (.int (1 : Int32))] [(.int (1 : Int32))])) _
          refine XS.iloadN X34.here hx rfl (hb hby at_81) rfl ?_
          show Steps p.tables e below (T34.setTop (mkF m 82 #[.val (.int p0), .val (.ref b1), .val (.int (2 : Int32)), .val (.int (1 : Int32))] [(.int (1 : Int32)), (.int (1 : Int32))])) _
          refine XS.icmpNo X34.here hx rfl (hb hby at_82) rfl (teq (by decide : (1 : Int32) = (1 : Int32))).2 ?_
          show Steps p.tables e below (T34.setTop (mkF m 85 #[.val (.int p0), .val (.ref b1), .val (.int (2 : Int32)), .val (.int (1 : Int32))] [])) _
          refine XS.iconst X34.here hx rfl (hb hby at_85) ?_
          show Steps p.tables e below (T34.setTop (mkF m 86 #[.val (.int p0), .val (.ref b1), .val (.int (2 : Int32)), .val (.int (1 : Int32))] [(.int (1 : Int32))])) _
          refine XS.goto X34.here hx rfl (pc0 := 86) (pc' := 90) rfl (hb hby at_86) (by decide) (by decide) ?_
          show Steps p.tables e below (T34.setTop (mkF m 90 #[.val (.int p0), .val (.ref b1), .val (.int (2 : Int32)), .val (.int (1 : Int32))] [(.int (1 : Int32))])) _
          exact retN X34 hx (t := .boolean) Bd.returns (by simp) (hb hby at_90) hr
        · show Q_rm_law Z p0 w_CONNECTED w_DISCONNECTED w_ASSOC_REJECT w_NETWORK_REMOVED w_TERMINATING w_SCAN_RESULTS w_SCAN_FAILED w_SCAN_STARTED h0 n0 _ T34.heap _
          rw [e34]
          exact ⟨rfl, N34, trivial⟩
      · have k35 : ∀ target, Steps p.tables e below (T25.setTop (mkF m 64 #[.val (.int p0), .val (.ref b1), .val (.int ((p0 &&& (2147483647 : Int32)) % (8 : Int32))), .unset] [])) target → Steps p.tables e below (s₁.setTop (mkF m 0 #[.val (.int p0), .unset, .unset, .unset] [])) target := by
          intro target kt
          refine k32 _ ?_
          exact kt
        by_cases hk3 : ((p0 &&& (2147483647 : Int32)) % (8 : Int32)) = (3 : Int32)
        · obtain ⟨cl36, Ar36, q36, S36, N36', H36, G36⟩ := (id V25)
          have hin36 : ¬ ((3 : Int32) < 0 ∨ cl36.slots.size ≤ ((3 : Int32)).toNatClampNeg) := inb_of S36 ⟨by decide, by decide⟩
          have hat36 : cl36.slots[((3 : Int32)).toNatClampNeg]? = some (.ref w_NETWORK_REMOVED) := Has.at H36 hin36 rfl
          obtain ⟨_, _, ⟨T37, L37, k37, n37⟩, -, X37, ⟨Lc37, hQ37, l37, y37, z37⟩, st37⟩ := Jvm.LawKit.callS X25 hx (y := (⟨"com/example/rooam/rooam/roaming/EngineEvents", "isInput", "(Lcom/example/rooam/rooam/supplicant/SupplicantEvent$Kind;)Z"⟩ : MethodName)) hown (mvT hZ (hw _ (List.mem_of_getElem? (i := 21) rfl))) (mvT hZ (hw _ (List.mem_of_getElem? (i := 22) rfl))) (mvT hZ (hw _ (List.mem_of_getElem? (i := 23) rfl))) (mvT hZ (hw _ (List.mem_of_getElem? (i := 24) rfl))) (by decide) (backOf (W := 0) (rm_out l Z a0 hw [] w_NETWORK_REMOVED w_CONNECTED w_DISCONNECTED w_ASSOC_REJECT h25 n0 Z25 S_CONNECTED_25 S_DISCONNECTED_25 S_ASSOC_REJECT_25 ne_NETWORK_REMOVED_CONNECTED ne_NETWORK_REMOVED_DISCONNECTED ne_NETWORK_REMOVED_ASSOC_REJECT) hZ (hw _ (List.mem_of_getElem? (i := 24) rfl)) (hw _ (List.mem_of_getElem? (i := 23) rfl)) (by decide) (by decide)) (g := (mkF m 78 #[.val (.int p0), .val (.ref b1), .val (.int (3 : Int32)), .val (.int (0 : Int32))] [(.ref w_NETWORK_REMOVED)])) rfl (by rw [hml]; rfl) (argsL := [(.ref w_NETWORK_REMOVED)]) (rest := []) (lenOf pd_0 rfl) rfl (by show 2 * 0 + _ ≤ _; exact Nat.le_of_eq rfl) (hb hby at_78) (fun _ _ => ⟨rfl, e25, (by decide : 1 + 0 ≤ _), (by decide : 8 + 0 ≤ _)⟩)
          dsimp only [Pt.U, Pt.locs, Pt.cells, Pt.slots] at X37 l37 y37 z37 st37 hQ37
          subst l37 y37 z37
          obtain ⟨rfl, N37q, e37⟩ := hQ37
          have N37 := Fr.app N25 N37q
          obtain ⟨fs, hr, hrun, hended, hW, hsame⟩ := X37.leave (v := some (.int (1 : Int32))) (fun h => by rw [Bd.returns] at h; cases h)
          refine ⟨_, _, pre0 _ ?_, hrun, hended, _, _, rfl, ?_, ⟨_, rfl⟩, hW, hsame.mono (by decide) (by decide)⟩
          · refine k35 _ ?_
            show Steps p.tables e below (T25.setTop (mkF m 64 #[.val (.int p0), .val (.ref b1), .val (.int ((p0 &&& (2147483647 : Int32)) % (8 : Int32))), .unset] [])) _
            rw [hk3]
            show Steps p.tables e below (T25.setTop (mkF m 64 #[.val (.int p0), .val (.ref b1), .val (.int (3 : Int32)), .unset] [])) _
            refine XS.iloadN X25.here hx rfl (hb hby at_64) rfl ?_
            show Steps p.tables e below (T25.setTop (mkF m 65 #[.val (.int p0), .val (.ref b1), .val (.int (3 : Int32)), .unset] [(.int (3 : Int32))])) _
            refine XS.iconst X25.here hx rfl (hb hby at_65) ?_
            show Steps p.tables e below (T25.setTop (mkF m 66 #[.val (.int p0), .val (.ref b1), .val (.int (3 : Int32)), .unset] [(.int (3 : Int32)), (.int (3 : Int32))])) _
            refine XS.icmpYes X25.here hx rfl (pc0 := 66) (pc' := 73) rfl (hb hby at_66) rfl (flt (by decide : ¬ ((3 : Int32) < (3 : Int32)))).2.1 (by decide) (by decide) ?_
            show Steps p.tables e below (T25.setTop (mkF m 73 #[.val (.int p0), .val (.ref b1), .val (.int (3 : Int32)), .unset] [])) _
            refine XS.iconst X25.here hx rfl (hb hby at_73) ?_
            show Steps p.tables e below (T25.setTop (mkF m 74 #[.val (.int p0), .val (.ref b1), .val (.int (3 : Int32)), .unset] [(.int (0 : Int32))])) _
            refine XS.istoreN X25.here hx rfl (hb hby at_74) rfl (l' := #[.val (.int p0), .val (.ref b1), .val (.int (3 : Int32)), .val (.int (0 : Int32))]) rfl ?_
            show Steps p.tables e below (T25.setTop (mkF m 75 #[.val (.int p0), .val (.ref b1), .val (.int (3 : Int32)), .val (.int (0 : Int32))] [])) _
            refine XS.aloadN X25.here hx rfl (hb hby at_75) rfl rfl ?_
            show Steps p.tables e below (T25.setTop (mkF m 76 #[.val (.int p0), .val (.ref b1), .val (.int (3 : Int32)), .val (.int (0 : Int32))] [(.ref b1)])) _
            refine XS.iloadN X25.here hx rfl (hb hby at_76) rfl ?_
            show Steps p.tables e below (T25.setTop (mkF m 77 #[.val (.int p0), .val (.ref b1), .val (.int (3 : Int32)), .val (.int (0 : Int32))] [(.int (3 : Int32)), (.ref b1)])) _
            refine X25.aaload hx (j := (3 : Int32)) (v := (.ref w_NETWORK_REMOVED)) (by rw [e25]; exact Ar36.1) (State.isArrayOf_alike hZ.alike Ar36.2.1) rfl Ar36.2.2 hin36 hat36 (g := (mkF m 77 #[.val (.int p0), .val (.ref b1), .val (.int (3 : Int32)), .val (.int (0 : Int32))] [(.int (3 : Int32)), (.ref b1)])) rfl rfl (hb hby at_77) _ ?_
            show Steps p.tables e below (T25.setTop (mkF m 78 #[.val (.int p0), .val (.ref b1), .val (.int (3 : Int32)), .val (.int (0 : Int32))] [(.ref w_NETWORK_REMOVED)])) _
            refine st37 _ ?_
            show Steps p.tables e below (T37.setTop (mkF m 81 #[.val (.int p0), .val (.ref b1), .val (.int (3 : Int32)), .val (.int (0 : Int32))] [(.int (0 : Int32))])) _
            refine XS.iloadN X37.here hx rfl (hb hby at_81) rfl ?_
            show Steps p.tables e below (T37.setTop (mkF m 82 #[.val (.int p0), .val (.ref b1), .val (.int (3 : Int32)), .val (.int (0 : Int32))] [(.int (0 : Int32)), (.int (0 : Int32))])) _
            refine XS.icmpNo X37.here hx rfl (hb hby at_82) rfl (teq (by decide : (0 : Int32) = (0 : Int32))).2 ?_
            show Steps p.tables e below (T37.setTop (mkF m 85 #[.val (.int p0), .val (.ref b1), .val (.int (3 : Int32)), .val (.int (0 : Int32))] [])) _
            refine XS.iconst X37.here hx rfl (hb hby at_85) ?_
            show Steps p.tables e below (T37.setTop (mkF m 86 #[.val (.int p0), .val (.ref b1), .val (.int (3 : Int32)), .val (.int (0 : Int32))] [(.int (1 : Int32))])) _
            refine XS.goto X37.here hx rfl (pc0 := 86) (pc' := 90) rfl (hb hby at_86) (by decide) (by decide) ?_
            show Steps p.tables e below (T37.setTop (mkF m 90 #[.val (.int p0), .val (.ref b1), .val (.int (3 : Int32)), .val (.int (0 : Int32))] [(.int (1 : Int32))])) _
            exact retN X37 hx (t := .boolean) Bd.returns (by simp) (hb hby at_90) hr
          · show Q_rm_law Z p0 w_CONNECTED w_DISCONNECTED w_ASSOC_REJECT w_NETWORK_REMOVED w_TERMINATING w_SCAN_RESULTS w_SCAN_FAILED w_SCAN_STARTED h0 n0 _ T37.heap _
            rw [e37]
            exact ⟨rfl, N37, trivial⟩
        · have k38 : ∀ target, Steps p.tables e below (T25.setTop (mkF m 64 #[.val (.int p0), .val (.ref b1), .val (.int ((p0 &&& (2147483647 : Int32)) % (8 : Int32))), .unset] [])) target → Steps p.tables e below (s₁.setTop (mkF m 0 #[.val (.int p0), .unset, .unset, .unset] [])) target := by
            intro target kt
            refine k35 _ ?_
            exact kt
          by_cases hk4 : ((p0 &&& (2147483647 : Int32)) % (8 : Int32)) = (4 : Int32)
          · obtain ⟨cl39, Ar39, q39, S39, N39', H39, G39⟩ := (id V25)
            have hin39 : ¬ ((4 : Int32) < 0 ∨ cl39.slots.size ≤ ((4 : Int32)).toNatClampNeg) := inb_of S39 ⟨by decide, by decide⟩
            have hat39 : cl39.slots[((4 : Int32)).toNatClampNeg]? = some (.ref w_TERMINATING) := Has.at H39 hin39 rfl
            obtain ⟨_, _, ⟨T40, L40, k40, n40⟩, -, X40, ⟨Lc40, hQ40, l40, y40, z40⟩, st40⟩ := Jvm.LawKit.callS X25 hx (y := (⟨"com/example/rooam/rooam/roaming/EngineEvents", "isInput", "(Lcom/example/rooam/rooam/supplicant/SupplicantEvent$Kind;)Z"⟩ : MethodName)) hown (mvT hZ (hw _ (List.mem_of_getElem? (i := 21) rfl))) (mvT hZ (hw _ (List.mem_of_getElem? (i := 22) rfl))) (mvT hZ (hw _ (List.mem_of_getElem? (i := 23) rfl))) (mvT hZ (hw _ (List.mem_of_getElem? (i := 24) rfl))) (by decide) (backOf (W := 0) (rm_out l Z a0 hw [] w_TERMINATING w_CONNECTED w_DISCONNECTED w_ASSOC_REJECT h25 n0 Z25 S_CONNECTED_25 S_DISCONNECTED_25 S_ASSOC_REJECT_25 ne_TERMINATING_CONNECTED ne_TERMINATING_DISCONNECTED ne_TERMINATING_ASSOC_REJECT) hZ (hw _ (List.mem_of_getElem? (i := 24) rfl)) (hw _ (List.mem_of_getElem? (i := 23) rfl)) (by decide) (by decide)) (g := (mkF m 78 #[.val (.int p0), .val (.ref b1), .val (.int (4 : Int32)), .val (.int (0 : Int32))] [(.ref w_TERMINATING)])) rfl (by rw [hml]; rfl) (argsL := [(.ref w_TERMINATING)]) (rest := []) (lenOf pd_0 rfl) rfl (by show 2 * 0 + _ ≤ _; exact Nat.le_of_eq rfl) (hb hby at_78) (fun _ _ => ⟨rfl, e25, (by decide : 1 + 0 ≤ _), (by decide : 8 + 0 ≤ _)⟩)
            dsimp only [Pt.U, Pt.locs, Pt.cells, Pt.slots] at X40 l40 y40 z40 st40 hQ40
            subst l40 y40 z40
            obtain ⟨rfl, N40q, e40⟩ := hQ40
            have N40 := Fr.app N25 N40q
            obtain ⟨fs, hr, hrun, hended, hW, hsame⟩ := X40.leave (v := some (.int (1 : Int32))) (fun h => by rw [Bd.returns] at h; cases h)
            refine ⟨_, _, pre0 _ ?_, hrun, hended, _, _, rfl, ?_, ⟨_, rfl⟩, hW, hsame.mono (by decide) (by decide)⟩
            · refine k38 _ ?_
              show Steps p.tables e below (T25.setTop (mkF m 64 #[.val (.int p0), .val (.ref b1), .val (.int ((p0 &&& (2147483647 : Int32)) % (8 : Int32))), .unset] [])) _
              rw [hk4]
              show Steps p.tables e below (T25.setTop (mkF m 64 #[.val (.int p0), .val (.ref b1), .val (.int (4 : Int32)), .unset] [])) _
              refine XS.iloadN X25.here hx rfl (hb hby at_64) rfl ?_
              show Steps p.tables e below (T25.setTop (mkF m 65 #[.val (.int p0), .val (.ref b1), .val (.int (4 : Int32)), .unset] [(.int (4 : Int32))])) _
              refine XS.iconst X25.here hx rfl (hb hby at_65) ?_
              show Steps p.tables e below (T25.setTop (mkF m 66 #[.val (.int p0), .val (.ref b1), .val (.int (4 : Int32)), .unset] [(.int (3 : Int32)), (.int (4 : Int32))])) _
              refine XS.icmpYes X25.here hx rfl (pc0 := 66) (pc' := 73) rfl (hb hby at_66) rfl (flt (by decide : ¬ ((4 : Int32) < (3 : Int32)))).2.1 (by decide) (by decide) ?_
              show Steps p.tables e below (T25.setTop (mkF m 73 #[.val (.int p0), .val (.ref b1), .val (.int (4 : Int32)), .unset] [])) _
              refine XS.iconst X25.here hx rfl (hb hby at_73) ?_
              show Steps p.tables e below (T25.setTop (mkF m 74 #[.val (.int p0), .val (.ref b1), .val (.int (4 : Int32)), .unset] [(.int (0 : Int32))])) _
              refine XS.istoreN X25.here hx rfl (hb hby at_74) rfl (l' := #[.val (.int p0), .val (.ref b1), .val (.int (4 : Int32)), .val (.int (0 : Int32))]) rfl ?_
              show Steps p.tables e below (T25.setTop (mkF m 75 #[.val (.int p0), .val (.ref b1), .val (.int (4 : Int32)), .val (.int (0 : Int32))] [])) _
              refine XS.aloadN X25.here hx rfl (hb hby at_75) rfl rfl ?_
              show Steps p.tables e below (T25.setTop (mkF m 76 #[.val (.int p0), .val (.ref b1), .val (.int (4 : Int32)), .val (.int (0 : Int32))] [(.ref b1)])) _
              refine XS.iloadN X25.here hx rfl (hb hby at_76) rfl ?_
              show Steps p.tables e below (T25.setTop (mkF m 77 #[.val (.int p0), .val (.ref b1), .val (.int (4 : Int32)), .val (.int (0 : Int32))] [(.int (4 : Int32)), (.ref b1)])) _
              refine X25.aaload hx (j := (4 : Int32)) (v := (.ref w_TERMINATING)) (by rw [e25]; exact Ar39.1) (State.isArrayOf_alike hZ.alike Ar39.2.1) rfl Ar39.2.2 hin39 hat39 (g := (mkF m 77 #[.val (.int p0), .val (.ref b1), .val (.int (4 : Int32)), .val (.int (0 : Int32))] [(.int (4 : Int32)), (.ref b1)])) rfl rfl (hb hby at_77) _ ?_
              show Steps p.tables e below (T25.setTop (mkF m 78 #[.val (.int p0), .val (.ref b1), .val (.int (4 : Int32)), .val (.int (0 : Int32))] [(.ref w_TERMINATING)])) _
              refine st40 _ ?_
              show Steps p.tables e below (T40.setTop (mkF m 81 #[.val (.int p0), .val (.ref b1), .val (.int (4 : Int32)), .val (.int (0 : Int32))] [(.int (0 : Int32))])) _
              refine XS.iloadN X40.here hx rfl (hb hby at_81) rfl ?_
              show Steps p.tables e below (T40.setTop (mkF m 82 #[.val (.int p0), .val (.ref b1), .val (.int (4 : Int32)), .val (.int (0 : Int32))] [(.int (0 : Int32)), (.int (0 : Int32))])) _
              refine XS.icmpNo X40.here hx rfl (hb hby at_82) rfl (teq (by decide : (0 : Int32) = (0 : Int32))).2 ?_
              show Steps p.tables e below (T40.setTop (mkF m 85 #[.val (.int p0), .val (.ref b1), .val (.int (4 : Int32)), .val (.int (0 : Int32))] [])) _
              refine XS.iconst X40.here hx rfl (hb hby at_85) ?_
              show Steps p.tables e below (T40.setTop (mkF m 86 #[.val (.int p0), .val (.ref b1), .val (.int (4 : Int32)), .val (.int (0 : Int32))] [(.int (1 : Int32))])) _
              refine XS.goto X40.here hx rfl (pc0 := 86) (pc' := 90) rfl (hb hby at_86) (by decide) (by decide) ?_
              show Steps p.tables e below (T40.setTop (mkF m 90 #[.val (.int p0), .val (.ref b1), .val (.int (4 : Int32)), .val (.int (0 : Int32))] [(.int (1 : Int32))])) _
              exact retN X40 hx (t := .boolean) Bd.returns (by simp) (hb hby at_90) hr
            · show Q_rm_law Z p0 w_CONNECTED w_DISCONNECTED w_ASSOC_REJECT w_NETWORK_REMOVED w_TERMINATING w_SCAN_RESULTS w_SCAN_FAILED w_SCAN_STARTED h0 n0 _ T40.heap _
              rw [e40]
              exact ⟨rfl, N40, trivial⟩
          · have k41 : ∀ target, Steps p.tables e below (T25.setTop (mkF m 64 #[.val (.int p0), .val (.ref b1), .val (.int ((p0 &&& (2147483647 : Int32)) % (8 : Int32))), .unset] [])) target → Steps p.tables e below (s₁.setTop (mkF m 0 #[.val (.int p0), .unset, .unset, .unset] [])) target := by
              intro target kt
              refine k38 _ ?_
              exact kt
            by_cases hk5 : ((p0 &&& (2147483647 : Int32)) % (8 : Int32)) = (5 : Int32)
            · obtain ⟨cl42, Ar42, q42, S42, N42', H42, G42⟩ := (id V25)
              have hin42 : ¬ ((5 : Int32) < 0 ∨ cl42.slots.size ≤ ((5 : Int32)).toNatClampNeg) := inb_of S42 ⟨by decide, by decide⟩
              have hat42 : cl42.slots[((5 : Int32)).toNatClampNeg]? = some (.ref w_SCAN_RESULTS) := Has.at H42 hin42 rfl
              obtain ⟨_, _, ⟨T43, L43, k43, n43⟩, -, X43, ⟨Lc43, hQ43, l43, y43, z43⟩, st43⟩ := Jvm.LawKit.callS X25 hx (y := (⟨"com/example/rooam/rooam/roaming/EngineEvents", "isInput", "(Lcom/example/rooam/rooam/supplicant/SupplicantEvent$Kind;)Z"⟩ : MethodName)) hown (mvT hZ (hw _ (List.mem_of_getElem? (i := 21) rfl))) (mvT hZ (hw _ (List.mem_of_getElem? (i := 22) rfl))) (mvT hZ (hw _ (List.mem_of_getElem? (i := 23) rfl))) (mvT hZ (hw _ (List.mem_of_getElem? (i := 24) rfl))) (by decide) (backOf (W := 0) (rm_out l Z a0 hw [] w_SCAN_RESULTS w_CONNECTED w_DISCONNECTED w_ASSOC_REJECT h25 n0 Z25 S_CONNECTED_25 S_DISCONNECTED_25 S_ASSOC_REJECT_25 ne_SCAN_RESULTS_CONNECTED ne_SCAN_RESULTS_DISCONNECTED ne_SCAN_RESULTS_ASSOC_REJECT) hZ (hw _ (List.mem_of_getElem? (i := 24) rfl)) (hw _ (List.mem_of_getElem? (i := 23) rfl)) (by decide) (by decide)) (g := (mkF m 78 #[.val (.int p0), .val (.ref b1), .val (.int (5 : Int32)), .val (.int (0 : Int32))] [(.ref w_SCAN_RESULTS)])) rfl (by rw [hml]; rfl) (argsL := [(.ref w_SCAN_RESULTS)]) (rest := []) (lenOf pd_0 rfl) rfl (by show 2 * 0 + _ ≤ _; exact Nat.le_of_eq rfl) (hb hby at_78) (fun _ _ => ⟨rfl, e25, (by decide : 1 + 0 ≤ _), (by decide : 8 + 0 ≤ _)⟩)
              dsimp only [Pt.U, Pt.locs, Pt.cells, Pt.slots] at X43 l43 y43 z43 st43 hQ43
              subst l43 y43 z43
              obtain ⟨rfl, N43q, e43⟩ := hQ43
              have N43 := Fr.app N25 N43q
              obtain ⟨fs, hr, hrun, hended, hW, hsame⟩ := X43.leave (v := some (.int (1 : Int32))) (fun h => by rw [Bd.returns] at h; cases h)
              refine ⟨_, _, pre0 _ ?_, hrun, hended, _, _, rfl, ?_, ⟨_, rfl⟩, hW, hsame.mono (by decide) (by decide)⟩
              · refine k41 _ ?_
                show Steps p.tables e below (T25.setTop (mkF m 64 #[.val (.int p0), .val (.ref b1), .val (.int ((p0 &&& (2147483647 : Int32)) % (8 : Int32))), .unset] [])) _
                rw [hk5]
                show Steps p.tables e below (T25.setTop (mkF m 64 #[.val (.int p0), .val (.ref b1), .val (.int (5 : Int32)), .unset] [])) _
                refine XS.iloadN X25.here hx rfl (hb hby at_64) rfl ?_
                show Steps p.tables e below (T25.setTop (mkF m 65 #[.val (.int p0), .val (.ref b1), .val (.int (5 : Int32)), .unset] [(.int (5 : Int32))])) _
                refine XS.iconst X25.here hx rfl (hb hby at_65) ?_
                show Steps p.tables e below (T25.setTop (mkF m 66 #[.val (.int p0), .val (.ref b1), .val (.int (5 : Int32)), .unset] [(.int (3 : Int32)), (.int (5 : Int32))])) _
                refine XS.icmpYes X25.here hx rfl (pc0 := 66) (pc' := 73) rfl (hb hby at_66) rfl (flt (by decide : ¬ ((5 : Int32) < (3 : Int32)))).2.1 (by decide) (by decide) ?_
                show Steps p.tables e below (T25.setTop (mkF m 73 #[.val (.int p0), .val (.ref b1), .val (.int (5 : Int32)), .unset] [])) _
                refine XS.iconst X25.here hx rfl (hb hby at_73) ?_
                show Steps p.tables e below (T25.setTop (mkF m 74 #[.val (.int p0), .val (.ref b1), .val (.int (5 : Int32)), .unset] [(.int (0 : Int32))])) _
                refine XS.istoreN X25.here hx rfl (hb hby at_74) rfl (l' := #[.val (.int p0), .val (.ref b1), .val (.int (5 : Int32)), .val (.int (0 : Int32))]) rfl ?_
                show Steps p.tables e below (T25.setTop (mkF m 75 #[.val (.int p0), .val (.ref b1), .val (.int (5 : Int32)), .val (.int (0 : Int32))] [])) _
                refine XS.aloadN X25.here hx rfl (hb hby at_75) rfl rfl ?_
                show Steps p.tables e below (T25.setTop (mkF m 76 #[.val (.int p0), .val (.ref b1), .val (.int (5 : Int32)), .val (.int (0 : Int32))] [(.ref b1)])) _
                refine XS.iloadN X25.here hx rfl (hb hby at_76) rfl ?_
                show Steps p.tables e below (T25.setTop (mkF m 77 #[.val (.int p0), .val (.ref b1), .val (.int (5 : Int32)), .val (.int (0 : Int32))] [(.int (5 : Int32)), (.ref b1)])) _
                refine X25.aaload hx (j := (5 : Int32)) (v := (.ref w_SCAN_RESULTS)) (by rw [e25]; exact Ar42.1) (State.isArrayOf_alike hZ.alike Ar42.2.1) rfl Ar42.2.2 hin42 hat42 (g := (mkF m 77 #[.val (.int p0), .val (.ref b1), .val (.int (5 : Int32)), .val (.int (0 : Int32))] [(.int (5 : Int32)), (.ref b1)])) rfl rfl (hb hby at_77) _ ?_
                show Steps p.tables e below (T25.setTop (mkF m 78 #[.val (.int p0), .val (.ref b1), .val (.int (5 : Int32)), .val (.int (0 : Int32))] [(.ref w_SCAN_RESULTS)])) _
                refine st43 _ ?_
                show Steps p.tables e below (T43.setTop (mkF m 81 #[.val (.int p0), .val (.ref b1), .val (.int (5 : Int32)), .val (.int (0 : Int32))] [(.int (0 : Int32))])) _
                refine XS.iloadN X43.here hx rfl (hb hby at_81) rfl ?_
                show Steps p.tables e below (T43.setTop (mkF m 82 #[.val (.int p0), .val (.ref b1), .val (.int (5 : Int32)), .val (.int (0 : Int32))] [(.int (0 : Int32)), (.int (0 : Int32))])) _
                refine XS.icmpNo X43.here hx rfl (hb hby at_82) rfl (teq (by decide : (0 : Int32) = (0 : Int32))).2 ?_
                show Steps p.tables e below (T43.setTop (mkF m 85 #[.val (.int p0), .val (.ref b1), .val (.int (5 : Int32)), .val (.int (0 : Int32))] [])) _
                refine XS.iconst X43.here hx rfl (hb hby at_85) ?_
                show Steps p.tables e below (T43.setTop (mkF m 86 #[.val (.int p0), .val (.ref b1), .val (.int (5 : Int32)), .val (.int (0 : Int32))] [(.int (1 : Int32))])) _
                refine XS.goto X43.here hx rfl (pc0 := 86) (pc' := 90) rfl (hb hby at_86) (by decide) (by decide) ?_
                show Steps p.tables e below (T43.setTop (mkF m 90 #[.val (.int p0), .val (.ref b1), .val (.int (5 : Int32)), .val (.int (0 : Int32))] [(.int (1 : Int32))])) _
                exact retN X43 hx (t := .boolean) Bd.returns (by simp) (hb hby at_90) hr
              · show Q_rm_law Z p0 w_CONNECTED w_DISCONNECTED w_ASSOC_REJECT w_NETWORK_REMOVED w_TERMINATING w_SCAN_RESULTS w_SCAN_FAILED w_SCAN_STARTED h0 n0 _ T43.heap _
                rw [e43]
                exact ⟨rfl, N43, trivial⟩
            · have k44 : ∀ target, Steps p.tables e below (T25.setTop (mkF m 64 #[.val (.int p0), .val (.ref b1), .val (.int ((p0 &&& (2147483647 : Int32)) % (8 : Int32))), .unset] [])) target → Steps p.tables e below (s₁.setTop (mkF m 0 #[.val (.int p0), .unset, .unset, .unset] [])) target := by
                intro target kt
                refine k41 _ ?_
                exact kt
              by_cases hk6 : ((p0 &&& (2147483647 : Int32)) % (8 : Int32)) = (6 : Int32)
              · obtain ⟨cl45, Ar45, q45, S45, N45', H45, G45⟩ := (id V25)
                have hin45 : ¬ ((6 : Int32) < 0 ∨ cl45.slots.size ≤ ((6 : Int32)).toNatClampNeg) := inb_of S45 ⟨by decide, by decide⟩
                have hat45 : cl45.slots[((6 : Int32)).toNatClampNeg]? = some (.ref w_SCAN_FAILED) := Has.at H45 hin45 rfl
                obtain ⟨_, _, ⟨T46, L46, k46, n46⟩, -, X46, ⟨Lc46, hQ46, l46, y46, z46⟩, st46⟩ := Jvm.LawKit.callS X25 hx (y := (⟨"com/example/rooam/rooam/roaming/EngineEvents", "isInput", "(Lcom/example/rooam/rooam/supplicant/SupplicantEvent$Kind;)Z"⟩ : MethodName)) hown (mvT hZ (hw _ (List.mem_of_getElem? (i := 21) rfl))) (mvT hZ (hw _ (List.mem_of_getElem? (i := 22) rfl))) (mvT hZ (hw _ (List.mem_of_getElem? (i := 23) rfl))) (mvT hZ (hw _ (List.mem_of_getElem? (i := 24) rfl))) (by decide) (backOf (W := 0) (rm_out l Z a0 hw [] w_SCAN_FAILED w_CONNECTED w_DISCONNECTED w_ASSOC_REJECT h25 n0 Z25 S_CONNECTED_25 S_DISCONNECTED_25 S_ASSOC_REJECT_25 ne_SCAN_FAILED_CONNECTED ne_SCAN_FAILED_DISCONNECTED ne_SCAN_FAILED_ASSOC_REJECT) hZ (hw _ (List.mem_of_getElem? (i := 24) rfl)) (hw _ (List.mem_of_getElem? (i := 23) rfl)) (by decide) (by decide)) (g := (mkF m 78 #[.val (.int p0), .val (.ref b1), .val (.int (6 : Int32)), .val (.int (0 : Int32))] [(.ref w_SCAN_FAILED)])) rfl (by rw [hml]; rfl) (argsL := [(.ref w_SCAN_FAILED)]) (rest := []) (lenOf pd_0 rfl) rfl (by show 2 * 0 + _ ≤ _; exact Nat.le_of_eq rfl) (hb hby at_78) (fun _ _ => ⟨rfl, e25, (by decide : 1 + 0 ≤ _), (by decide : 8 + 0 ≤ _)⟩)
                dsimp only [Pt.U, Pt.locs, Pt.cells, Pt.slots] at X46 l46 y46 z46 st46 hQ46
                subst l46 y46 z46
                obtain ⟨rfl, N46q, e46⟩ := hQ46
                have N46 := Fr.app N25 N46q
                obtain ⟨fs, hr, hrun, hended, hW, hsame⟩ := X46.leave (v := some (.int (1 : Int32))) (fun h => by rw [Bd.returns] at h; cases h)
                refine ⟨_, _, pre0 _ ?_, hrun, hended, _, _, rfl, ?_, ⟨_, rfl⟩, hW, hsame.mono (by decide) (by decide)⟩
                · refine k44 _ ?_
                  show Steps p.tables e below (T25.setTop (mkF m 64 #[.val (.int p0), .val (.ref b1), .val (.int ((p0 &&& (2147483647 : Int32)) % (8 : Int32))), .unset] [])) _
                  rw [hk6]
                  show Steps p.tables e below (T25.setTop (mkF m 64 #[.val (.int p0), .val (.ref b1), .val (.int (6 : Int32)), .unset] [])) _
                  refine XS.iloadN X25.here hx rfl (hb hby at_64) rfl ?_
                  show Steps p.tables e below (T25.setTop (mkF m 65 #[.val (.int p0), .val (.ref b1), .val (.int (6 : Int32)), .unset] [(.int (6 : Int32))])) _
                  refine XS.iconst X25.here hx rfl (hb hby at_65) ?_
                  show Steps p.tables e below (T25.setTop (mkF m 66 #[.val (.int p0), .val (.ref b1), .val (.int (6 : Int32)), .unset] [(.int (3 : Int32)), (.int (6 : Int32))])) _
                  refine XS.icmpYes X25.here hx rfl (pc0 := 66) (pc' := 73) rfl (hb hby at_66) rfl (flt (by decide : ¬ ((6 : Int32) < (3 : Int32)))).2.1 (by decide) (by decide) ?_
                  show Steps p.tables e below (T25.setTop (mkF m 73 #[.val (.int p0), .val (.ref b1), .val (.int (6 : Int32)), .unset] [])) _
                  refine XS.iconst X25.here hx rfl (hb hby at_73) ?_
                  show Steps p.tables e below (T25.setTop (mkF m 74 #[.val (.int p0), .val (.ref b1), .val (.int (6 : Int32)), .unset] [(.int (0 : Int32))])) _
                  refine XS.istoreN X25.here hx rfl (hb hby at_74) rfl (l' := #[.val (.int p0), .val (.ref b1), .val (.int (6 : Int32)), .val (.int (0 : Int32))]) rfl ?_
                  show Steps p.tables e below (T25.setTop (mkF m 75 #[.val (.int p0), .val (.ref b1), .val (.int (6 : Int32)), .val (.int (0 : Int32))] [])) _
                  refine XS.aloadN X25.here hx rfl (hb hby at_75) rfl rfl ?_
                  show Steps p.tables e below (T25.setTop (mkF m 76 #[.val (.int p0), .val (.ref b1), .val (.int (6 : Int32)), .val (.int (0 : Int32))] [(.ref b1)])) _
                  refine XS.iloadN X25.here hx rfl (hb hby at_76) rfl ?_
                  show Steps p.tables e below (T25.setTop (mkF m 77 #[.val (.int p0), .val (.ref b1), .val (.int (6 : Int32)), .val (.int (0 : Int32))] [(.int (6 : Int32)), (.ref b1)])) _
                  refine X25.aaload hx (j := (6 : Int32)) (v := (.ref w_SCAN_FAILED)) (by rw [e25]; exact Ar45.1) (State.isArrayOf_alike hZ.alike Ar45.2.1) rfl Ar45.2.2 hin45 hat45 (g := (mkF m 77 #[.val (.int p0), .val (.ref b1), .val (.int (6 : Int32)), .val (.int (0 : Int32))] [(.int (6 : Int32)), (.ref b1)])) rfl rfl (hb hby at_77) _ ?_
                  show Steps p.tables e below (T25.setTop (mkF m 78 #[.val (.int p0), .val (.ref b1), .val (.int (6 : Int32)), .val (.int (0 : Int32))] [(.ref w_SCAN_FAILED)])) _
                  refine st46 _ ?_
                  show Steps p.tables e below (T46.setTop (mkF m 81 #[.val (.int p0), .val (.ref b1), .val (.int (6 : Int32)), .val (.int (0 : Int32))] [(.int (0 : Int32))])) _
                  refine XS.iloadN X46.here hx rfl (hb hby at_81) rfl ?_
                  show Steps p.tables e below (T46.setTop (mkF m 82 #[.val (.int p0), .val (.ref b1), .val (.int (6 : Int32)), .val (.int (0 : Int32))] [(.int (0 : Int32)), (.int (0 : Int32))])) _
                  refine XS.icmpNo X46.here hx rfl (hb hby at_82) rfl (teq (by decide : (0 : Int32) = (0 : Int32))).2 ?_
                  show Steps p.tables e below (T46.setTop (mkF m 85 #[.val (.int p0), .val (.ref b1), .val (.int (6 : Int32)), .val (.int (0 : Int32))] [])) _
                  refine XS.iconst X46.here hx rfl (hb hby at_85) ?_
                  show Steps p.tables e below (T46.setTop (mkF m 86 #[.val (.int p0), .val (.ref b1), .val (.int (6 : Int32)), .val (.int (0 : Int32))] [(.int (1 : Int32))])) _
                  refine XS.goto X46.here hx rfl (pc0 := 86) (pc' := 90) rfl (hb hby at_86) (by decide) (by decide) ?_
                  show Steps p.tables e below (T46.setTop (mkF m 90 #[.val (.int p0), .val (.ref b1), .val (.int (6 : Int32)), .val (.int (0 : Int32))] [(.int (1 : Int32))])) _
                  exact retN X46 hx (t := .boolean) Bd.returns (by simp) (hb hby at_90) hr
                · show Q_rm_law Z p0 w_CONNECTED w_DISCONNECTED w_ASSOC_REJECT w_NETWORK_REMOVED w_TERMINATING w_SCAN_RESULTS w_SCAN_FAILED w_SCAN_STARTED h0 n0 _ T46.heap _
                  rw [e46]
                  exact ⟨rfl, N46, trivial⟩
              · have hk7 : ((p0 &&& (2147483647 : Int32)) % (8 : Int32)) = (7 : Int32) := own_seven hk0 hk1 hk2 hk3 hk4 hk5 hk6
                obtain ⟨cl47, Ar47, q47, S47, N47', H47, G47⟩ := (id V25)
                have hin47 : ¬ ((7 : Int32) < 0 ∨ cl47.slots.size ≤ ((7 : Int32)).toNatClampNeg) := inb_of S47 ⟨by decide, by decide⟩
                have hat47 : cl47.slots[((7 : Int32)).toNatClampNeg]? = some (.ref w_SCAN_STARTED) := Has.at H47 hin47 rfl
                obtain ⟨_, _, ⟨T48, L48, k48, n48⟩, -, X48, ⟨Lc48, hQ48, l48, y48, z48⟩, st48⟩ := Jvm.LawKit.callS X25 hx (y := (⟨"com/example/rooam/rooam/roaming/EngineEvents", "isInput", "(Lcom/example/rooam/rooam/supplicant/SupplicantEvent$Kind;)Z"⟩ : MethodName)) hown (mvT hZ (hw _ (List.mem_of_getElem? (i := 21) rfl))) (mvT hZ (hw _ (List.mem_of_getElem? (i := 22) rfl))) (mvT hZ (hw _ (List.mem_of_getElem? (i := 23) rfl))) (mvT hZ (hw _ (List.mem_of_getElem? (i := 24) rfl))) (by decide) (backOf (W := 0) (rm_out l Z a0 hw [] w_SCAN_STARTED w_CONNECTED w_DISCONNECTED w_ASSOC_REJECT h25 n0 Z25 S_CONNECTED_25 S_DISCONNECTED_25 S_ASSOC_REJECT_25 ne_SCAN_STARTED_CONNECTED ne_SCAN_STARTED_DISCONNECTED ne_SCAN_STARTED_ASSOC_REJECT) hZ (hw _ (List.mem_of_getElem? (i := 24) rfl)) (hw _ (List.mem_of_getElem? (i := 23) rfl)) (by decide) (by decide)) (g := (mkF m 78 #[.val (.int p0), .val (.ref b1), .val (.int (7 : Int32)), .val (.int (0 : Int32))] [(.ref w_SCAN_STARTED)])) rfl (by rw [hml]; rfl) (argsL := [(.ref w_SCAN_STARTED)]) (rest := []) (lenOf pd_0 rfl) rfl (by show 2 * 0 + _ ≤ _; exact Nat.le_of_eq rfl) (hb hby at_78) (fun _ _ => ⟨rfl, e25, (by decide : 1 + 0 ≤ _), (by decide : 8 + 0 ≤ _)⟩)
                dsimp only [Pt.U, Pt.locs, Pt.cells, Pt.slots] at X48 l48 y48 z48 st48 hQ48
                subst l48 y48 z48
                obtain ⟨rfl, N48q, e48⟩ := hQ48
                have N48 := Fr.app N25 N48q
                obtain ⟨fs, hr, hrun, hended, hW, hsame⟩ := X48.leave (v := some (.int (1 : Int32))) (fun h => by rw [Bd.returns] at h; cases h)
                refine ⟨_, _, pre0 _ ?_, hrun, hended, _, _, rfl, ?_, ⟨_, rfl⟩, hW, hsame.mono (by decide) (by decide)⟩
                · refine k44 _ ?_
                  show Steps p.tables e below (T25.setTop (mkF m 64 #[.val (.int p0), .val (.ref b1), .val (.int ((p0 &&& (2147483647 : Int32)) % (8 : Int32))), .unset] [])) _
                  rw [hk7]
                  show Steps p.tables e below (T25.setTop (mkF m 64 #[.val (.int p0), .val (.ref b1), .val (.int (7 : Int32)), .unset] [])) _
                  refine XS.iloadN X25.here hx rfl (hb hby at_64) rfl ?_
                  show Steps p.tables e below (T25.setTop (mkF m 65 #[.val (.int p0), .val (.ref b1), .val (.int (7 : Int32)), .unset] [(.int (7 : Int32))])) _
                  refine XS.iconst X25.here hx rfl (hb hby at_65) ?_
                  show Steps p.tables e below (T25.setTop (mkF m 66 #[.val (.int p0), .val (.ref b1), .val (.int (7 : Int32)), .unset] [(.int (3 : Int32)), (.int (7 : Int32))])) _
                  refine XS.icmpYes X25.here hx rfl (pc0 := 66) (pc' := 73) rfl (hb hby at_66) rfl (flt (by decide : ¬ ((7 : Int32) < (3 : Int32)))).2.1 (by decide) (by decide) ?_
                  show Steps p.tables e below (T25.setTop (mkF m 73 #[.val (.int p0), .val (.ref b1), .val (.int (7 : Int32)), .unset] [])) _
                  refine XS.iconst X25.here hx rfl (hb hby at_73) ?_
                  show Steps p.tables e below (T25.setTop (mkF m 74 #[.val (.int p0), .val (.ref b1), .val (.int (7 : Int32)), .unset] [(.int (0 : Int32))])) _
                  refine XS.istoreN X25.here hx rfl (hb hby at_74) rfl (l' := #[.val (.int p0), .val (.ref b1), .val (.int (7 : Int32)), .val (.int (0 : Int32))]) rfl ?_
                  show Steps p.tables e below (T25.setTop (mkF m 75 #[.val (.int p0), .val (.ref b1), .val (.int (7 : Int32)), .val (.int (0 : Int32))] [])) _
                  refine XS.aloadN X25.here hx rfl (hb hby at_75) rfl rfl ?_
                  show Steps p.tables e below (T25.setTop (mkF m 76 #[.val (.int p0), .val (.ref b1), .val (.int (7 : Int32)), .val (.int (0 : Int32))] [(.ref b1)])) _
                  refine XS.iloadN X25.here hx rfl (hb hby at_76) rfl ?_
                  show Steps p.tables e below (T25.setTop (mkF m 77 #[.val (.int p0), .val (.ref b1), .val (.int (7 : Int32)), .val (.int (0 : Int32))] [(.int (7 : Int32)), (.ref b1)])) _
                  refine X25.aaload hx (j := (7 : Int32)) (v := (.ref w_SCAN_STARTED)) (by rw [e25]; exact Ar47.1) (State.isArrayOf_alike hZ.alike Ar47.2.1) rfl Ar47.2.2 hin47 hat47 (g := (mkF m 77 #[.val (.int p0), .val (.ref b1), .val (.int (7 : Int32)), .val (.int (0 : Int32))] [(.int (7 : Int32)), (.ref b1)])) rfl rfl (hb hby at_77) _ ?_
                  show Steps p.tables e below (T25.setTop (mkF m 78 #[.val (.int p0), .val (.ref b1), .val (.int (7 : Int32)), .val (.int (0 : Int32))] [(.ref w_SCAN_STARTED)])) _
                  refine st48 _ ?_
                  show Steps p.tables e below (T48.setTop (mkF m 81 #[.val (.int p0), .val (.ref b1), .val (.int (7 : Int32)), .val (.int (0 : Int32))] [(.int (0 : Int32))])) _
                  refine XS.iloadN X48.here hx rfl (hb hby at_81) rfl ?_
                  show Steps p.tables e below (T48.setTop (mkF m 82 #[.val (.int p0), .val (.ref b1), .val (.int (7 : Int32)), .val (.int (0 : Int32))] [(.int (0 : Int32)), (.int (0 : Int32))])) _
                  refine XS.icmpNo X48.here hx rfl (hb hby at_82) rfl (teq (by decide : (0 : Int32) = (0 : Int32))).2 ?_
                  show Steps p.tables e below (T48.setTop (mkF m 85 #[.val (.int p0), .val (.ref b1), .val (.int (7 : Int32)), .val (.int (0 : Int32))] [])) _
                  refine XS.iconst X48.here hx rfl (hb hby at_85) ?_
                  show Steps p.tables e below (T48.setTop (mkF m 86 #[.val (.int p0), .val (.ref b1), .val (.int (7 : Int32)), .val (.int (0 : Int32))] [(.int (1 : Int32))])) _
                  refine XS.goto X48.here hx rfl (pc0 := 86) (pc' := 90) rfl (hb hby at_86) (by decide) (by decide) ?_
                  show Steps p.tables e below (T48.setTop (mkF m 90 #[.val (.int p0), .val (.ref b1), .val (.int (7 : Int32)), .val (.int (0 : Int32))] [(.int (1 : Int32))])) _
                  exact retN X48 hx (t := .boolean) Bd.returns (by simp) (hb hby at_90) hr
                · show Q_rm_law Z p0 w_CONNECTED w_DISCONNECTED w_ASSOC_REJECT w_NETWORK_REMOVED w_TERMINATING w_SCAN_RESULTS w_SCAN_FAILED w_SCAN_STARTED h0 n0 _ T48.heap _
                  rw [e48]
                  exact ⟨rfl, N48, trivial⟩
set_option maxRecDepth 65536 in
set_option maxHeartbeats 40000000 in
theorem comes_1 {Post : Tables → Env → Array Value → State → Outcome → State → Prop} (hpost : ∀ tb e args s v u, (limb_1_1.after args s (.returned v) u = true ∧ limb_1_2.after args s (.returned v) u = true ∧ True) → FrameEnd s (.returned v) u (Jvm.fieldLocs frame_1_writes args s ++ Jvm.arrayLocs frame_1_arrays args s ++ Jvm.staticLocs frame_1_statics s) 16 128 → Post tb e args s (.returned v) u) :
    ArmFor flags0 classFile x code maxLocals ret World_1 tables_1 room_1 Calls_1 rest_1 Pre_1 Post := by
  intro l hfl _ _ p e ha hc hk s m args below hf hA hF happ hP
  obtain ⟨hcalls, hrest, hpre⟩ := hP
  obtain ⟨-, -, -, hnamed, -, -, -, hat⟩ := (Spec.applies_iff hf).mp happ
  obtain ⟨hg, hn⟩ := and_e (Cond.before_iff.mp (show (Jvm.Cond.and given_1 narrow_1).before args s = true from hpre))
  obtain ⟨hcnt, hgv0⟩ := and_e hg
  have hg0 := hgv0
  obtain ⟨w0, rfl⟩ : ∃ w0 : Value, args = #[w0] := by
    have hs : args.size = 1 := by simpa [Cond.value, given_1] using hcnt
    obtain ⟨L⟩ := args
    match L, hs with
    | [w0], _ => exact ⟨w0, rfl⟩
  have hw := fun d (hd : d ∈ tables_1) => atoms_spec (ws := Jvm.Cond.code x code maxLocals ret :: tables_1) hat d (List.mem_cons_of_mem _ hd)
  have hfit : Fit s := fun {y c} hc i hi => by
    obtain ⟨ha, rfl⟩ := Array.getElem?_eq_some_iff.mp hc
    have q := List.all_eq_true.mp ((Array.all_eq_true_iff_forall_mem.mp hF) _ (Array.getElem_mem ha)) i (List.mem_range.mpr hi)
    simpa [Array.getElem?_eq_getElem hi] using q
  obtain ⟨i0, ei0⟩ := is_v hg0
  obtain rfl : w0 = (.int i0) := Option.some.inj ei0
  obtain ⟨hn0, hnr0⟩ := and_e hn
  obtain ⟨hn1, hnr1⟩ := and_e hnr0
  obtain ⟨hn2, hnr2⟩ := and_e hnr1
  obtain ⟨hn3, hnr3⟩ := and_e hnr2
  obtain ⟨hn4, hnr4⟩ := and_e hnr3
  obtain ⟨hn5, hnr5⟩ := and_e hnr4
  obtain ⟨hn6, hnr6⟩ := and_e hnr5
  obtain ⟨hn7, hnr7⟩ := and_e hnr6
  obtain ⟨hn8, hnr8⟩ := and_e hnr7
  obtain ⟨hn9, hnr9⟩ := and_e hnr8
  obtain ⟨hn10, hnr10⟩ := and_e hnr9
  obtain ⟨hn11, hnr11⟩ := and_e hnr10
  obtain ⟨hn12, hnr12⟩ := and_e hnr11
  obtain ⟨hn13, hnr13⟩ := and_e hnr12
  obtain ⟨hn14, hnr14⟩ := and_e hnr13
  have hn15 := hnr14
  obtain ⟨w_CONNECTED, ev_CONNECTED⟩ := exa_v hn0
  have E_CONNECTED := Exa.start ev_CONNECTED hn0
  have S_CONNECTED : Sta s s.heap "com/example/rooam/rooam/supplicant/SupplicantEvent$Kind" "CONNECTED" "Lcom/example/rooam/rooam/supplicant/SupplicantEvent$Kind;" (.ref w_CONNECTED) := Sta.start ev_CONNECTED (Or.inr ⟨(hw _ (List.mem_of_getElem? (i := 3) rfl)), (hw _ (List.mem_of_getElem? (i := 4) rfl))⟩)
  obtain ⟨w_DISCONNECTED, ev_DISCONNECTED⟩ := exa_v hn1
  have E_DISCONNECTED := Exa.start ev_DISCONNECTED hn1
  have S_DISCONNECTED : Sta s s.heap "com/example/rooam/rooam/supplicant/SupplicantEvent$Kind" "DISCONNECTED" "Lcom/example/rooam/rooam/supplicant/SupplicantEvent$Kind;" (.ref w_DISCONNECTED) := Sta.start ev_DISCONNECTED (Or.inr ⟨(hw _ (List.mem_of_getElem? (i := 3) rfl)), (hw _ (List.mem_of_getElem? (i := 7) rfl))⟩)
  obtain ⟨w_ASSOC_REJECT, ev_ASSOC_REJECT⟩ := exa_v hn2
  have E_ASSOC_REJECT := Exa.start ev_ASSOC_REJECT hn2
  have S_ASSOC_REJECT : Sta s s.heap "com/example/rooam/rooam/supplicant/SupplicantEvent$Kind" "ASSOC_REJECT" "Lcom/example/rooam/rooam/supplicant/SupplicantEvent$Kind;" (.ref w_ASSOC_REJECT) := Sta.start ev_ASSOC_REJECT (Or.inr ⟨(hw _ (List.mem_of_getElem? (i := 3) rfl)), (hw _ (List.mem_of_getElem? (i := 9) rfl))⟩)
  obtain ⟨w_NETWORK_REMOVED, ev_NETWORK_REMOVED⟩ := exa_v hn3
  have E_NETWORK_REMOVED := Exa.start ev_NETWORK_REMOVED hn3
  have S_NETWORK_REMOVED : Sta s s.heap "com/example/rooam/rooam/supplicant/SupplicantEvent$Kind" "NETWORK_REMOVED" "Lcom/example/rooam/rooam/supplicant/SupplicantEvent$Kind;" (.ref w_NETWORK_REMOVED) := Sta.start ev_NETWORK_REMOVED (Or.inr ⟨(hw _ (List.mem_of_getElem? (i := 3) rfl)), (hw _ (List.mem_of_getElem? (i := 11) rfl))⟩)
  obtain ⟨w_TERMINATING, ev_TERMINATING⟩ := exa_v hn4
  have E_TERMINATING := Exa.start ev_TERMINATING hn4
  have S_TERMINATING : Sta s s.heap "com/example/rooam/rooam/supplicant/SupplicantEvent$Kind" "TERMINATING" "Lcom/example/rooam/rooam/supplicant/SupplicantEvent$Kind;" (.ref w_TERMINATING) := Sta.start ev_TERMINATING (Or.inr ⟨(hw _ (List.mem_of_getElem? (i := 3) rfl)), (hw _ (List.mem_of_getElem? (i := 13) rfl))⟩)
  obtain ⟨w_SCAN_RESULTS, ev_SCAN_RESULTS⟩ := exa_v hn5
  have E_SCAN_RESULTS := Exa.start ev_SCAN_RESULTS hn5
  have S_SCAN_RESULTS : Sta s s.heap "com/example/rooam/rooam/supplicant/SupplicantEvent$Kind" "SCAN_RESULTS" "Lcom/example/rooam/rooam/supplicant/SupplicantEvent$Kind;" (.ref w_SCAN_RESULTS) := Sta.start ev_SCAN_RESULTS (Or.inr ⟨(hw _ (List.mem_of_getElem? (i := 3) rfl)), (hw _ (List.mem_of_getElem? (i := 15) rfl))⟩)
  obtain ⟨w_SCAN_FAILED, ev_SCAN_FAILED⟩ := exa_v hn6
  have E_SCAN_FAILED := Exa.start ev_SCAN_FAILED hn6
  have S_SCAN_FAILED : Sta s s.heap "com/example/rooam/rooam/supplicant/SupplicantEvent$Kind" "SCAN_FAILED" "Lcom/example/rooam/rooam/supplicant/SupplicantEvent$Kind;" (.ref w_SCAN_FAILED) := Sta.start ev_SCAN_FAILED (Or.inr ⟨(hw _ (List.mem_of_getElem? (i := 3) rfl)), (hw _ (List.mem_of_getElem? (i := 17) rfl))⟩)
  obtain ⟨w_SCAN_STARTED, ev_SCAN_STARTED⟩ := exa_v hn7
  have E_SCAN_STARTED := Exa.start ev_SCAN_STARTED hn7
  have S_SCAN_STARTED : Sta s s.heap "com/example/rooam/rooam/supplicant/SupplicantEvent$Kind" "SCAN_STARTED" "Lcom/example/rooam/rooam/supplicant/SupplicantEvent$Kind;" (.ref w_SCAN_STARTED) := Sta.start ev_SCAN_STARTED (Or.inr ⟨(hw _ (List.mem_of_getElem? (i := 3) rfl)), (hw _ (List.mem_of_getElem? (i := 19) rfl))⟩)
  have F_NETWORK_REMOVED_ordinal := own_fld ev_NETWORK_REMOVED hn8
  have F_CONNECTED_ordinal := own_fld ev_CONNECTED hn9
  have F_DISCONNECTED_ordinal := own_fld ev_DISCONNECTED hn10
  have F_ASSOC_REJECT_ordinal := own_fld ev_ASSOC_REJECT hn11
  have F_SCAN_FAILED_ordinal := own_fld ev_SCAN_FAILED hn12
  have F_SCAN_STARTED_ordinal := own_fld ev_SCAN_STARTED hn13
  have F_TERMINATING_ordinal := own_fld ev_TERMINATING hn14
  have F_SCAN_RESULTS_ordinal := own_fld ev_SCAN_RESULTS hn15
  obtain ⟨n, o, h1, h2, h3, _, L, rfl, hQL, hq⟩ := rm_law l s _ hw tables_1 i0 w_CONNECTED w_DISCONNECTED w_ASSOC_REJECT w_NETWORK_REMOVED w_TERMINATING w_SCAN_RESULTS w_SCAN_FAILED w_SCAN_STARTED s.heap s.heap.size (Nat.le_refl _) S_CONNECTED S_DISCONNECTED S_ASSOC_REJECT S_NETWORK_REMOVED S_TERMINATING S_SCAN_RESULTS S_SCAN_FAILED S_SCAN_STARTED E_CONNECTED E_DISCONNECTED E_ASSOC_REJECT E_NETWORK_REMOVED E_TERMINATING E_SCAN_RESULTS E_SCAN_FAILED E_SCAN_STARTED F_CONNECTED_ordinal F_DISCONNECTED_ordinal F_ASSOC_REJECT_ordinal F_NETWORK_REMOVED_ordinal F_TERMINATING_ordinal F_SCAN_RESULTS_ordinal F_SCAN_FAILED_ordinal F_SCAN_STARTED_ordinal p e ha hc hk s m _ below hf ((Spec.applies_iff_loose hf).mp happ).1 ⟨rfl, State.Warmed39.refl s, rfl⟩ trivial
  obtain ⟨rfl, N, -⟩ := hQL
  refine ⟨n, _, h1, h2, h3, hpost _ _ _ _ _ _ ⟨Cond.after_iff.mpr rfl, Cond.after_iff.mpr (eq_i res_at (Term.int_eval (1)) rfl), trivial⟩ ⟨hq.1, hq.2.1, (hq.2.2.sift fun y hy => Or.inr (N y hy)).mono (by decide) (by decide)⟩⟩
theorem main_1_1 : Claimed_1_1 := comes_1 fun _ _ _ _ _ _ h hF => ⟨h.1, hF⟩
theorem main_1_2 : Claimed_1_2 := comes_1 fun _ _ _ _ _ _ h hF => ⟨h.2.1, hF⟩
end Jvm.Pilot.@@N@@
namespace Jvm.Pilot.@@N@@
open Jvm Jvm.ClassFile Sem Op Lib Jvm.Free Jvm.Stand Jvm.Pilot.@@N@@.Jvm.D
/-! MADE BY PROGRAM (witnessworld.py) out of the Statement's table words and the real class files: 14 classes; the members and pool entries that the words name. The judged class is class 1, her method 1. -/
namespace start1
open Jvm.ClassFile
def u (s : String) : CpInfo := .utf8 (stringToUtf16 s)
/-- a pool by its gaps: so many unusable entries, then the entry; so many at the end -/
def gap : Nat → List CpInfo → List CpInfo
  | 0, r => r
  | n + 1, r => .unusable :: gap n r
def poolList (es : List (Nat × CpInfo)) (last : Nat) : List CpInfo := es.foldr (fun e r => gap e.1 (e.2 :: r)) (gap last [])
def pool (es : List (Nat × CpInfo)) (last : Nat) : Array CpInfo := ⟨poolList es last⟩
def fileOf (pool : Array CpInfo) (this : Nat) (attrs : Array Attribute := #[]) (ms : Array MethodInfo := #[]) (fl : Nat := 33) (sup : Nat := 0) (ifs : Array Nat := #[]) (fds : Array FieldInfo := #[]) : ClassFile where
  minorVersion := 0
  majorVersion := 65
  constantPool := pool
  accessFlags := fl
  thisClass := this
  superClass := sup
  interfaces := ifs
  fields := fds
  methods := ms
  attributes := attrs
def plain (name : String) (sup : Option ClassId) : Class where
  name := name
  kind := .ordinary
  loader := none
  accessFlags := 33
  super := sup
  interfaces := #[]
  cf := none
  fields := #[]
  methods := #[]
  instanceTypes := #[]
  staticTypes := #[]
  resolved := #[]
  callSites := []
  init := .initialized
  statics := none
  mirror := none

def pool0 : Array CpInfo := pool [(5, u "<init>"), (0, u "()V"), (1, .class_ 10), (1, u "java/lang/Object")] 113

def k0m0 : Method := { name := "<init>", desc := "()V", sig := { parameters := [], returnType := none }, accessFlags := 1, code := none }
/-- java/lang/Object -/
def k0 : Class := { plain "java/lang/Object" none with
  accessFlags := 33
  interfaces := #[]
  cf := some (fileOf pool0 8 #[] #[{ accessFlags := 1, nameIndex := 5, descriptorIndex := 6, attributes := #[] }] 33 0 #[] #[])
  fields := #[]
  methods := #[k0m0]
  instanceTypes := #[]
  staticTypes := #[]
  resolved := Array.replicate 124 none
  statics := none }

def pool1 : Array CpInfo := pool [(2, .class_ 4), (1, u "java/lang/Object"), (0, u "<init>"), (0, u "()V"), (0, .class_ 8), (0, u "com/example/rooam/rooam/supplicant/SupplicantEvent$Kind"), (0, .fieldref 7 10), (0, .nameAndType 11 12), (0, u "CONNECTED"), (0, u "Lcom/example/rooam/rooam/supplicant/SupplicantEvent$Kind;"), (0, .fieldref 7 14), (0, .nameAndType 15 12), (0, u "DISCONNECTED"), (0, .fieldref 7 17), (0, .nameAndType 18 12), (0, u "ASSOC_REJECT"), (0, .fieldref 7 20), (0, .nameAndType 21 12), (0, u "NETWORK_REMOVED"), (0, .fieldref 7 23), (0, .nameAndType 24 12), (0, u "TERMINATING"), (0, .fieldref 7 26), (0, .nameAndType 27 12), (0, u "SCAN_RESULTS"), (0, .fieldref 7 29), (0, .nameAndType 30 12), (0, u "SCAN_FAILED"), (0, .fieldref 7 32), (0, .nameAndType 33 12), (0, u "SCAN_STARTED"), (0, .integer 2147483647), (0, .methodref 36 37), (0, .class_ 38), (0, .nameAndType 39 40), (0, u "com/example/rooam/rooam/roaming/EngineEvents"), (0, u "isInput"), (0, u "(Lcom/example/rooam/rooam/supplicant/SupplicantEvent$Kind;)Z"), (0, .class_ 42), (0, u "com/example/rooam/rooam/roaming/EngineEventsIsInputPinLaw"), (2, u "law"), (0, u "(I)Z")] 9

def k1m0 : Method := { name := "<init>", desc := "()V", sig := { parameters := [], returnType := none }, accessFlags := 2, code := none }
def k1c1 : Code := { maxStack := 4, maxLocals := 4, code := code, exceptionTable := #[], attributes := #[] }
def k1m1 : Method := { name := "law", desc := "(I)Z", sig := { parameters := [.int], returnType := some .boolean }, accessFlags := 9, code := some k1c1 }
/-- com/example/rooam/rooam/roaming/EngineEventsIsInputPinLaw -/
def k1 : Class := { plain "com/example/rooam/rooam/roaming/EngineEventsIsInputPinLaw" (some 0) with
  accessFlags := 49
  interfaces := #[]
  cf := some (fileOf pool1 41 #[] #[{ accessFlags := 2, nameIndex := 5, descriptorIndex := 6, attributes := #[] }, { accessFlags := 9, nameIndex := 45, descriptorIndex := 46, attributes := #[] }] 49 2 #[] #[])
  fields := #[]
  methods := #[k1m0, k1m1]
  instanceTypes := #[]
  staticTypes := #[]
  resolved := Array.replicate 56 none
  statics := none }

def pool2 : Array CpInfo := pool [(1, .class_ 2), (0, u "java/lang/constant/Constable"), (0, .class_ 4), (0, u "java/lang/Object")] 6

/-- java/lang/constant/Constable -/
def k2 : Class := { plain "java/lang/constant/Constable" (some 0) with
  accessFlags := 1537
  interfaces := #[]
  cf := some (fileOf pool2 1 #[] #[] 1537 3 #[] #[])
  fields := #[]
  methods := #[]
  instanceTypes := #[]
  staticTypes := #[]
  resolved := Array.replicate 11 none
  statics := none }

def pool3 : Array CpInfo := pool [(1, .class_ 2), (0, u "java/lang/Comparable"), (0, .class_ 4), (0, u "java/lang/Object")] 7

/-- java/lang/Comparable -/
def k3 : Class := { plain "java/lang/Comparable" (some 0) with
  accessFlags := 1537
  interfaces := #[]
  cf := some (fileOf pool3 1 #[] #[] 1537 3 #[] #[])
  fields := #[]
  methods := #[]
  instanceTypes := #[]
  staticTypes := #[]
  resolved := Array.replicate 12 none
  statics := none }

def pool4 : Array CpInfo := pool [(1, .class_ 2), (0, u "java/io/Serializable"), (0, .class_ 4), (0, u "java/lang/Object")] 2

/-- java/io/Serializable -/
def k4 : Class := { plain "java/io/Serializable" (some 0) with
  accessFlags := 1537
  interfaces := #[]
  cf := some (fileOf pool4 1 #[] #[] 1537 3 #[] #[])
  fields := #[]
  methods := #[]
  instanceTypes := #[]
  staticTypes := #[]
  resolved := Array.replicate 7 none
  statics := none }

def pool5 : Array CpInfo := pool [(2, .class_ 4), (1, u "java/lang/Enum"), (0, u "name"), (0, u "Ljava/lang/String;"), (2, u "ordinal"), (0, u "I"), (1, .class_ 14), (1, u "java/lang/Object"), (4, u "hash"), (86, .class_ 108), (1, u "java/lang/Enum$EnumDesc"), (2, .class_ 112), (0, u "java/lang/constant/Constable"), (0, .class_ 114), (0, u "java/lang/Comparable"), (0, .class_ 116), (0, u "java/io/Serializable")] 87

/-- java/lang/Enum -/
def k5 : Class := { plain "java/lang/Enum" (some 0) with
  accessFlags := 1057
  interfaces := #[2, 3, 4]
  cf := some (fileOf pool5 2 #[.nestMembers #[106]] #[] 1057 12 #[111, 113, 115] #[{ accessFlags := 18, nameIndex := 5, descriptorIndex := 6, attributes := #[] }, { accessFlags := 18, nameIndex := 9, descriptorIndex := 10, attributes := #[] }, { accessFlags := 2, nameIndex := 19, descriptorIndex := 10, attributes := #[] }])
  fields := #[{ name := "name", type := (.object "java/lang/String"), accessFlags := 18, slot := 0, constantValue := 0 }, { name := "ordinal", type := .int, accessFlags := 18, slot := 1, constantValue := 0 }, { name := "hash", type := .int, accessFlags := 2, slot := 2, constantValue := 0 }]
  methods := #[]
  instanceTypes := #[(.object "java/lang/String"), .int, .int]
  staticTypes := #[]
  resolved := Array.replicate 204 none
  statics := none }

def pool6 : Array CpInfo := pool [(1, .class_ 2), (0, u "com/example/rooam/rooam/supplicant/SupplicantEvent$Kind"), (2, u "CONNECTED"), (0, u "Lcom/example/rooam/rooam/supplicant/SupplicantEvent$Kind;"), (2, u "DISCONNECTED"), (2, u "ASSOC_REJECT"), (2, u "NETWORK_REMOVED"), (2, u "TERMINATING"), (2, u "SCAN_RESULTS"), (2, u "SCAN_FAILED"), (2, u "SCAN_STARTED"), (2, u "$VALUES"), (0, u "[Lcom/example/rooam/rooam/supplicant/SupplicantEvent$Kind;"), (6, .class_ 40), (1, u "java/lang/Enum"), (31, .class_ 73), (0, u "com/example/rooam/rooam/supplicant/SupplicantEvent")] 2

/-- com/example/rooam/rooam/supplicant/SupplicantEvent$Kind -/
def k6 : Class := { plain "com/example/rooam/rooam/supplicant/SupplicantEvent$Kind" (some 5) with
  accessFlags := 16433
  interfaces := #[]
  cf := some (fileOf pool6 1 #[.nestHost 72] #[] 16433 38 #[] #[{ accessFlags := 16409, nameIndex := 5, descriptorIndex := 6, attributes := #[] }, { accessFlags := 16409, nameIndex := 9, descriptorIndex := 6, attributes := #[] }, { accessFlags := 16409, nameIndex := 12, descriptorIndex := 6, attributes := #[] }, { accessFlags := 16409, nameIndex := 15, descriptorIndex := 6, attributes := #[] }, { accessFlags := 16409, nameIndex := 18, descriptorIndex := 6, attributes := #[] }, { accessFlags := 16409, nameIndex := 21, descriptorIndex := 6, attributes := #[] }, { accessFlags := 16409, nameIndex := 24, descriptorIndex := 6, attributes := #[] }, { accessFlags := 16409, nameIndex := 27, descriptorIndex := 6, attributes := #[] }, { accessFlags := 4122, nameIndex := 30, descriptorIndex := 31, attributes := #[] }])
  fields := #[{ name := "CONNECTED", type := (.object "com/example/rooam/rooam/supplicant/SupplicantEvent$Kind"), accessFlags := 16409, slot := 0, constantValue := 0 }, { name := "DISCONNECTED", type := (.object "com/example/rooam/rooam/supplicant/SupplicantEvent$Kind"), accessFlags := 16409, slot := 1, constantValue := 0 }, { name := "ASSOC_REJECT", type := (.object "com/example/rooam/rooam/supplicant/SupplicantEvent$Kind"), accessFlags := 16409, slot := 2, constantValue := 0 }, { name := "NETWORK_REMOVED", type := (.object "com/example/rooam/rooam/supplicant/SupplicantEvent$Kind"), accessFlags := 16409, slot := 3, constantValue := 0 }, { name := "TERMINATING", type := (.object "com/example/rooam/rooam/supplicant/SupplicantEvent$Kind"), accessFlags := 16409, slot := 4, constantValue := 0 }, { name := "SCAN_RESULTS", type := (.object "com/example/rooam/rooam/supplicant/SupplicantEvent$Kind"), accessFlags := 16409, slot := 5, constantValue := 0 }, { name := "SCAN_FAILED", type := (.object "com/example/rooam/rooam/supplicant/SupplicantEvent$Kind"), accessFlags := 16409, slot := 6, constantValue := 0 }, { name := "SCAN_STARTED", type := (.object "com/example/rooam/rooam/supplicant/SupplicantEvent$Kind"), accessFlags := 16409, slot := 7, constantValue := 0 }, { name := "$VALUES", type := (.array (.object "com/example/rooam/rooam/supplicant/SupplicantEvent$Kind")), accessFlags := 4122, slot := 8, constantValue := 0 }]
  methods := #[]
  instanceTypes := #[(.object "java/lang/String"), .int, .int]
  staticTypes := #[(.object "com/example/rooam/rooam/supplicant/SupplicantEvent$Kind"), (.object "com/example/rooam/rooam/supplicant/SupplicantEvent$Kind"), (.object "com/example/rooam/rooam/supplicant/SupplicantEvent$Kind"), (.object "com/example/rooam/rooam/supplicant/SupplicantEvent$Kind"), (.object "com/example/rooam/rooam/supplicant/SupplicantEvent$Kind"), (.object "com/example/rooam/rooam/supplicant/SupplicantEvent$Kind"), (.object "com/example/rooam/rooam/supplicant/SupplicantEvent$Kind"), (.object "com/example/rooam/rooam/supplicant/SupplicantEvent$Kind"), (.array (.object "com/example/rooam/rooam/supplicant/SupplicantEvent$Kind"))]
  resolved := Array.replicate 76 none
  statics := some 0 }

def pool7 : Array CpInfo := pool [(2, .class_ 4), (1, u "java/lang/Object"), (0, u "<init>"), (0, u "()V"), (0, .fieldref 8 9), (0, .class_ 10), (0, .nameAndType 11 12), (0, u "com/example/rooam/rooam/supplicant/SupplicantEvent$Kind"), (0, u "CONNECTED"), (0, u "Lcom/example/rooam/rooam/supplicant/SupplicantEvent$Kind;"), (0, .fieldref 8 14), (0, .nameAndType 15 12), (0, u "DISCONNECTED"), (0, .fieldref 8 17), (0, .nameAndType 18 12), (0, u "ASSOC_REJECT"), (41, .class_ 61), (0, u "com/example/rooam/rooam/roaming/EngineEvents"), (2, u "isInput"), (0, u "(Lcom/example/rooam/rooam/supplicant/SupplicantEvent$Kind;)Z")] 9

def k7m0 : Method := { name := "<init>", desc := "()V", sig := { parameters := [], returnType := none }, accessFlags := 2, code := none }
def k7c1 : Code := { maxStack := 2, maxLocals := 1, code := prog_22_method_2_code, exceptionTable := #[], attributes := #[] }
def k7m1 : Method := { name := "isInput", desc := "(Lcom/example/rooam/rooam/supplicant/SupplicantEvent$Kind;)Z", sig := { parameters := [(.object "com/example/rooam/rooam/supplicant/SupplicantEvent$Kind")], returnType := some .boolean }, accessFlags := 8, code := some k7c1 }
/-- com/example/rooam/rooam/roaming/EngineEvents -/
def k7 : Class := { plain "com/example/rooam/rooam/roaming/EngineEvents" (some 0) with
  accessFlags := 48
  interfaces := #[]
  cf := some (fileOf pool7 60 #[] #[{ accessFlags := 2, nameIndex := 5, descriptorIndex := 6, attributes := #[] }, { accessFlags := 8, nameIndex := 64, descriptorIndex := 65, attributes := #[] }] 48 2 #[] #[])
  fields := #[]
  methods := #[k7m0, k7m1]
  instanceTypes := #[]
  staticTypes := #[]
  resolved := Array.replicate 75 none
  statics := none }

def pool8 : Array CpInfo := pool [(1, u "java/lang/Cloneable"), (0, .class_ 1), (0, u "java/lang/Object"), (0, .class_ 3)] 3

/-- java/lang/Cloneable -/
def k8 : Class := { plain "java/lang/Cloneable" (some 0) with
  accessFlags := 1537
  interfaces := #[]
  cf := some (fileOf pool8 2 #[] #[] 1537 4 #[] #[])
  fields := #[]
  methods := #[]
  instanceTypes := #[]
  staticTypes := #[]
  resolved := Array.replicate 8 none
  statics := none }

/-- the primitive byte -/
def k9 : Class := { plain "byte" none with kind := .primitive 'B', accessFlags := 0x411 }
/-- [B -/
def k10 : Class := { plain "[B" (some 0) with kind := .array 9 .byte, interfaces := #[8, 4], accessFlags := 1041 }

/-- the primitive int -/
def k11 : Class := { plain "int" none with kind := .primitive 'I', accessFlags := 0x411 }
/-- [I -/
def k12 : Class := { plain "[I" (some 0) with kind := .array 11 .int, interfaces := #[8, 4], accessFlags := 1041 }

/-- [Lcom/example/rooam/rooam/supplicant/SupplicantEvent$Kind; -/
def k13 : Class := { plain "[Lcom/example/rooam/rooam/supplicant/SupplicantEvent$Kind;" (some 0) with kind := .array 6 (.object "com/example/rooam/rooam/supplicant/SupplicantEvent$Kind"), interfaces := #[8, 4], accessFlags := 1041 }

def heap : Heap := #[{ cls := 6, slots := #[.ref 1, .ref 2, .ref 3, .ref 4, .ref 5, .ref 6, .ref 7, .ref 8, .null], vm := .statics 6 },
  { cls := 6, slots := #[.null, .int 0, .int 0], vm := .none },
  { cls := 6, slots := #[.null, .int 1, .int 0], vm := .none },
  { cls := 6, slots := #[.null, .int 2, .int 0], vm := .none },
  { cls := 6, slots := #[.null, .int 3, .int 0], vm := .none },
  { cls := 6, slots := #[.null, .int 4, .int 0], vm := .none },
  { cls := 6, slots := #[.null, .int 5, .int 0], vm := .none },
  { cls := 6, slots := #[.null, .int 6, .int 0], vm := .none },
  { cls := 6, slots := #[.null, .int 7, .int 0], vm := .none }]
def classes : Array Class := #[k0, k1, k2, k3, k4, k5, k6, k7, k8, k9, k10, k11, k12, k13]
def interned : List (Array UInt16 × Addr) := []
def slotsUsed : Nat := 33
def theMethod : MethodId := ⟨1, 1⟩
def args0 : Array Value := #[.int 5]
def aboutOver (below : List Frame) : State where
  vm := { classes := classes, interned := interned.toArray }
  heap := heap
  slotsUsed := slotsUsed
  threads := #[{ frames := .invoking theMethod args0 :: below }]
def below0 : List Frame := [.native { method := ⟨0, 0⟩, args := #[] }]
def about1 : State := aboutOver below0
def p0 : Program := .bare "" "" ""
def e0 : Env := launch0.env 0 0 0
theorem w_frames : about1.frames = Frame.invoking theMethod args0 :: below0 := rfl
set_option maxRecDepth 65536 in
theorem w_args : argsFit about1.vm theMethod args0 = true := by decide +kernel
set_option maxRecDepth 65536 in
theorem w_heap : heapFits about1 = true := by decide +kernel
set_option maxRecDepth 65536 in
theorem w_runnable : about1.curStatus? = some .runnable := by decide +kernel
set_option maxRecDepth 65536 in
theorem w_alone : about1.alone = true := by decide +kernel
set_option maxRecDepth 65536 in
theorem w_named : about1.methodNamed? x = some theMethod := by decide +kernel
set_option maxRecDepth 65536 in
theorem w_hears : about1.hears theMethod below0 = true := by decide +kernel
set_option maxRecDepth 65536 in
theorem w_ripe : about1.ripe theMethod args0 below0 = true := by decide +kernel
theorem w_running : about1.status = .running := rfl
set_option maxRecDepth 65536 in
theorem w_room : about1.hasRoom e0.platform room_1 = true :=
  launch0.hasRoom_least _ room_1 (by decide +kernel) (by decide +kernel) (by decide +kernel) (by decide +kernel) (by decide +kernel) (by decide +kernel)
theorem allAtoms_all (ts : List Jvm.Cond) (a : Array Jvm.Value) (st : Jvm.State) : (allAtoms ts).before a st = ts.all (fun c => c.before a st) := by
  induction ts with
  | nil => rfl
  | cons c t ih =>
    show (Jvm.Cond.and c (allAtoms t)).before a st = _
    rw [Jvm.Cond.before_and, ih, List.all_cons]
def words1 : List Jvm.Cond := Jvm.Cond.code x code maxLocals ret :: tables_1
/-- a 'code' word, met by the world's own term for the bytes: nothing is compared byte by byte -/
theorem code_word {y : MethodName} {bytes : ByteArray} {mx : Nat} {rt : Option FieldType} {a : Array Value} {s : State} {m : MethodId} {meth : Method} {c : Code} (h1 : s.methodNamed? y = some m) (h2 : s.vm.method? m = some meth) (h3 : meth.code = some c) (h4 : c.code = bytes)
    (h5 : (c.maxLocals == mx && c.exceptionTable.isEmpty && decide (c.maxStack ≤ mostOperands) && decide (meth.sig.returnType = rt) && !meth.locks && decide (parseMethodDescriptor y.desc = some meth.sig)) = true) : (Jvm.Cond.code y bytes mx rt).before a s = true := by
  simp only [Bool.and_eq_true, beq_iff_eq, Bool.not_eq_true', decide_eq_true_eq] at h5
  obtain ⟨⟨⟨⟨⟨g1, g2⟩, g3⟩, g4⟩, g5⟩, g6⟩ := h5
  simp [Cond.before, Cond.holds, Cond.value, h1, h2, h3, h4, g1, g2, g3, g4, g5, g6]
def isCode : Jvm.Cond → Bool
  | .code _ _ _ _ => true
  | _ => false
theorem all_split {L : List Jvm.Cond} {P : Jvm.Cond → Bool} (h1 : L.all (fun c => isCode c || P c) = true) (h2 : ∀ c ∈ L.filter isCode, P c = true) : L.all P = true := by
  refine List.all_eq_true.mpr fun c hc => ?_
  have h := List.all_eq_true.mp h1 c hc
  rcases Bool.eq_false_or_eq_true (isCode c) with hi | hi
  · exact h2 c (List.mem_filter.mpr ⟨hc, hi⟩)
  · simpa [hi] using h
set_option maxRecDepth 65536 in
theorem w_c0 : (Jvm.Cond.code x code maxLocals ret).before args0 about1 = true := code_word (m := ⟨1, 1⟩) (meth := k1m1) (c := k1c1) (by decide +kernel) rfl rfl rfl (by decide +kernel)
set_option maxRecDepth 65536 in
theorem w_c1 : (Jvm.Cond.code ({ cls := "com/example/rooam/rooam/roaming/EngineEvents", name := "isInput", desc := "(Lcom/example/rooam/rooam/supplicant/SupplicantEvent$Kind;)Z" } : Jvm.MethodName) prog_22_method_2_code (1 : Nat) (Option.some Jvm.ClassFile.FieldType.boolean)).before args0 about1 = true := code_word (m := ⟨7, 1⟩) (meth := k7m1) (c := k7c1) (by decide +kernel) rfl rfl rfl (by decide +kernel)
def codes1 : List Jvm.Cond := [Jvm.Cond.code x code maxLocals ret, Jvm.Cond.code ({ cls := "com/example/rooam/rooam/roaming/EngineEvents", name := "isInput", desc := "(Lcom/example/rooam/rooam/supplicant/SupplicantEvent$Kind;)Z" } : Jvm.MethodName) prog_22_method_2_code (1 : Nat) (Option.some Jvm.ClassFile.FieldType.boolean)]
set_option maxRecDepth 65536 in
theorem codes_eq : words1.filter isCode = codes1 := rfl
theorem w_codes : ∀ c ∈ words1.filter isCode, c.before args0 about1 = true := by
  rw [codes_eq]
  intro c hc
  simp only [codes1, List.mem_cons, List.not_mem_nil, or_false] at hc
  rcases hc with rfl | rfl
  · exact w_c0
  · exact w_c1
set_option maxRecDepth 65536 in
theorem w_t1 : (words1.take 24).all (fun c => isCode c || c.before args0 about1) = true := by decide +kernel
set_option maxRecDepth 65536 in
theorem w_t2 : (words1.drop 24).all (fun c => isCode c || c.before args0 about1) = true := by decide +kernel
theorem w_tables : (allAtoms (Jvm.Cond.code x code maxLocals ret :: tables_1)).before args0 about1 = true := by
  rw [allAtoms_all]
  show words1.all (fun c => c.before args0 about1) = true
  refine all_split ?_ w_codes
  rw [← List.take_append_drop 24 words1, List.all_append, w_t1, w_t2]
  rfl
set_option maxRecDepth 65536 in
theorem w_case : (Jvm.Cond.and given_1 narrow_1).before args0 about1 = true := by decide +kernel
theorem w_applies : (headSpec (Jvm.Cond.code x code maxLocals ret :: tables_1) room_1).applies x e0.platform about1 = true :=
  (Spec.applies_iff w_frames).mpr ⟨w_running, w_runnable, w_alone, w_named, w_hears, w_ripe, w_room, w_tables⟩
theorem atStart : AtStart classFile x code maxLocals ret World_1 tables_1 room_1 Calls_1 rest_1 Pre_1 launch0 p0 e0 about1 theMethod args0 below0 :=
  ⟨lists_1, trivial, launch0.admits_env _ _ _, launch0.least_env, fairChoices_fair.cas, fairChoices_fair.clock, w_frames, w_args, w_heap, w_applies, trivial, trivial, w_case⟩
end start1
theorem witness_1 : WitnessClaimed_1 := ⟨start1.p0, start1.e0, start1.about1, start1.theMethod, start1.args0, start1.below0, start1.atStart⟩
end Jvm.Pilot.@@N@@
