import JvmDerived
import JvmDerived.Pilot.@@N@@Statement
import JvmDerived.Pilot.@@N@@Code
set_option linter.unusedVariables false
set_option linter.unusedSimpArgs false

namespace Jvm.RoadKit
open Sem ClassFile Op Lib Jvm.Stand Jvm.Free Jvm.LawKit
section New
variable {p : Program} {l : Launch} {e : Env} {R : Room} {s : State} {m : MethodId} {args : Array Value} {below : List Frame} {meth : Method} {c : Code} {T : State} {locs : List Loc} {cells slots : Nat}
theorem retI (X : Stand p l e R s m args below meth c T locs cells slots) (hx : p.tables.exec = Jvm.exec) {pc : Nat} {Ls : Array Slot} {z : Int32} {rest : List Value} (hret : meth.sig.returnType = some .int) (hd : decode c.code pc = .ok (.ireturn, 1)) {fs : List Frame}
    (hl : ∀ (f : JFrame) (acts : List Action), f.method = m → f.locked = none → f.entered = [] → (doReturn e (T.setTop f) acts (some (.int z))).1 = T.setFrames fs) : Steps p.tables e below (T.setTop (mkF m pc Ls (.int z :: rest))) (T.setFrames fs) := by
  have hm' : T.vm.method? m = some meth := X.method'
  have hn : narrow .int (.int z) = .int z := rfl
  show Steps p.tables e below (T.setTop { method := m, pc := pc, locals := Ls, stack := _ :: rest, locked := none }) _
  jvm_step X.here [X.here.top, hx, hd, hm', hret, hn]
  first | (intro acts; rw [hl _ acts rfl rfl rfl]) | rw [hl _ _ rfl rfl rfl]
  exact Steps.refl _
end New
end Jvm.RoadKit

namespace Jvm.Pilot.@@N@@
open Jvm Jvm.ClassFile Sem Op Lib Jvm.Free Jvm.Stand Jvm.LawKit Jvm.RoadKit Bundle Jvm.Pilot.@@N@@.Jvm.D
theorem own_fld {args : Array Value} {Z : State} {t : Term} {C n d : String} {k : Int32} {a : Addr} (ht : t.eval args Z none [] Z = some (.ref a)) (h : (Jvm.Cond.eq (.field t C n d) (.int k)).value args Z none Z [] = some true) : Fld Z Z.heap a C n d (.int k) := by
  refine Fld.start ?_
  rw [← fld_at (args := args) (first := Z) (o := none) (idx := []) ht]
  cases hx : (Term.field t C n d).eval args Z none [] Z with
  | none => simp [Cond.value, hx] at h
  | some x => cases x <;> simp_all [Cond.value, Term.eval]
def own_num (p : Int32) (a0 a1 a2 a3 a4 a5 a6 : Addr) : Addr := if ((p &&& (2147483647 : Int32)) % (7 : Int32)) = 0 then a0 else if ((p &&& (2147483647 : Int32)) % (7 : Int32)) = 1 then a1 else if ((p &&& (2147483647 : Int32)) % (7 : Int32)) = 2 then a2 else if ((p &&& (2147483647 : Int32)) % (7 : Int32)) = 3 then a3 else if ((p &&& (2147483647 : Int32)) % (7 : Int32)) = 4 then a4 else if ((p &&& (2147483647 : Int32)) % (7 : Int32)) = 5 then a5 else a6
def own_pro (l r wI wL wF wD : Addr) : Addr := if l = wD then wD else if r = wD then wD else if l = wF then wF else if r = wF then wF else if l = wL then wL else if r = wL then wL else wI
def own_rank (a wL wF wD : Addr) : Int32 := if a = wD then 3 else if a = wF then 2 else if a = wL then 1 else 0
def own_max (a b : Int32) : Int32 := if a < b then b else a
def own_of (k : Int32) (wI wL wF wD : Addr) : Addr := if k = 3 then wD else if k = 2 then wF else if k = 1 then wL else wI
theorem own_max_of (a b : Int32) (wI wL wF wD : Addr) (ha : a = 0 ∨ a = 1 ∨ a = 2 ∨ a = 3) (hb : b = 0 ∨ b = 1 ∨ b = 2 ∨ b = 3) :
    own_of (own_max a b) wI wL wF wD = if a = 3 ∨ b = 3 then wD else if a = 2 ∨ b = 2 then wF else if a = 1 ∨ b = 1 then wL else wI := by
  rcases ha with rfl | rfl | rfl | rfl <;> rcases hb with rfl | rfl | rfl | rfl <;> rfl
theorem own_rank_c (a wL wF wD : Addr) : own_rank a wL wF wD = 0 ∨ own_rank a wL wF wD = 1 ∨ own_rank a wL wF wD = 2 ∨ own_rank a wL wF wD = 3 := by
  unfold own_rank; repeat' split
  all_goals simp
theorem own_r3 (a wL wF wD : Addr) : own_rank a wL wF wD = 3 ↔ a = wD := by
  unfold own_rank
  by_cases h1 : a = wD
  · simp [h1]
  · by_cases h2 : a = wF <;> by_cases h3 : a = wL <;> simp_all
theorem own_r2 (a wL wF wD : Addr) : own_rank a wL wF wD = 2 ↔ a ≠ wD ∧ a = wF := by
  unfold own_rank
  by_cases h1 : a = wD
  · simp [h1]
  · by_cases h2 : a = wF <;> by_cases h3 : a = wL <;> simp_all
theorem own_r1 (a wL wF wD : Addr) : own_rank a wL wF wD = 1 ↔ a ≠ wD ∧ a ≠ wF ∧ a = wL := by
  unfold own_rank
  by_cases h1 : a = wD
  · simp [h1]
  · by_cases h2 : a = wF <;> by_cases h3 : a = wL <;> simp_all
theorem own_pq (l r wI wL wF wD : Addr) : own_pro l r wI wL wF wD = own_of (own_max (own_rank l wL wF wD) (own_rank r wL wF wD)) wI wL wF wD := by
  rw [own_max_of _ _ _ _ _ _ (own_rank_c _ _ _ _) (own_rank_c _ _ _ _)]
  simp only [own_r3, own_r2, own_r1]
  unfold own_pro
  by_cases h1 : l = wD <;> by_cases h2 : r = wD <;> by_cases h3 : l = wF <;> by_cases h4 : r = wF <;> by_cases h5 : l = wL <;> by_cases h6 : r = wL <;> simp_all
theorem own_qq (l r wI wL wF wD : Addr) : own_pro r l wI wL wF wD = own_of (own_max (own_rank l wL wF wD) (own_rank r wL wF wD)) wI wL wF wD := by
  rw [← own_pq]
  unfold own_pro
  by_cases h1 : l = wD <;> by_cases h2 : r = wD <;> by_cases h3 : l = wF <;> by_cases h4 : r = wF <;> by_cases h5 : l = wL <;> by_cases h6 : r = wL <;> simp_all
theorem d1_0 : decode method_2_code 0 = .ok (.iload_n 0, 1) := by decide +kernel
theorem d1_1 : decode method_2_code 1 = .ok (.ldc 7, 2) := by decide +kernel
theorem d1_3 : decode method_2_code 3 = .ok (.iand, 1) := by decide +kernel
theorem d1_4 : decode method_2_code 4 = .ok (.bipush 7, 2) := by decide +kernel
theorem d1_6 : decode method_2_code 6 = .ok (.irem, 1) := by decide +kernel
theorem d1_7 : decode method_2_code 7 = .ok (.istore_n 1, 1) := by decide +kernel
theorem d1_8 : decode method_2_code 8 = .ok (.iload_n 1, 1) := by decide +kernel
theorem d1_9 : decode method_2_code 9 = .ok (.ifCond .ne 7, 3) := by decide +kernel
theorem d1_12 : decode method_2_code 12 = .ok (.getstatic 8, 3) := by decide +kernel
theorem d1_15 : decode method_2_code 15 = .ok (.areturn, 1) := by decide +kernel
theorem d1_16 : decode method_2_code 16 = .ok (.iload_n 1, 1) := by decide +kernel
theorem d1_17 : decode method_2_code 17 = .ok (.iconst 1, 1) := by decide +kernel
theorem d1_18 : decode method_2_code 18 = .ok (.if_icmp .ne 7, 3) := by decide +kernel
theorem d1_21 : decode method_2_code 21 = .ok (.getstatic 14, 3) := by decide +kernel
theorem d1_24 : decode method_2_code 24 = .ok (.areturn, 1) := by decide +kernel
theorem d1_25 : decode method_2_code 25 = .ok (.iload_n 1, 1) := by decide +kernel
theorem d1_26 : decode method_2_code 26 = .ok (.iconst 2, 1) := by decide +kernel
theorem d1_27 : decode method_2_code 27 = .ok (.if_icmp .ne 7, 3) := by decide +kernel
theorem d1_30 : decode method_2_code 30 = .ok (.getstatic 17, 3) := by decide +kernel
theorem d1_33 : decode method_2_code 33 = .ok (.areturn, 1) := by decide +kernel
theorem d1_34 : decode method_2_code 34 = .ok (.iload_n 1, 1) := by decide +kernel
theorem d1_35 : decode method_2_code 35 = .ok (.iconst 3, 1) := by decide +kernel
theorem d1_36 : decode method_2_code 36 = .ok (.if_icmp .ne 7, 3) := by decide +kernel
theorem d1_39 : decode method_2_code 39 = .ok (.getstatic 20, 3) := by decide +kernel
theorem d1_42 : decode method_2_code 42 = .ok (.areturn, 1) := by decide +kernel
theorem d1_43 : decode method_2_code 43 = .ok (.iload_n 1, 1) := by decide +kernel
theorem d1_44 : decode method_2_code 44 = .ok (.iconst 4, 1) := by decide +kernel
theorem d1_45 : decode method_2_code 45 = .ok (.if_icmp .ne 7, 3) := by decide +kernel
theorem d1_48 : decode method_2_code 48 = .ok (.getstatic 23, 3) := by decide +kernel
theorem d1_51 : decode method_2_code 51 = .ok (.areturn, 1) := by decide +kernel
theorem d1_52 : decode method_2_code 52 = .ok (.iload_n 1, 1) := by decide +kernel
theorem d1_53 : decode method_2_code 53 = .ok (.iconst 5, 1) := by decide +kernel
theorem d1_54 : decode method_2_code 54 = .ok (.if_icmp .ne 7, 3) := by decide +kernel
theorem d1_57 : decode method_2_code 57 = .ok (.getstatic 26, 3) := by decide +kernel
theorem d1_60 : decode method_2_code 60 = .ok (.areturn, 1) := by decide +kernel
theorem d1_61 : decode method_2_code 61 = .ok (.getstatic 29, 3) := by decide +kernel
theorem d1_64 : decode method_2_code 64 = .ok (.areturn, 1) := by decide +kernel
theorem pn_0 : plainName "com/example/ambit/ambit/TypePromotedPinLaw" = true := by first | (simp [plainName, overriddenIn]; done) | decide +kernel
theorem ef_1 (m : MethodId) (x0 : Int32) : entryFrame m #[(.int x0)] 2 = mkF m 0 #[.val (.int x0), .unset] [] := by first | (simp [entryFrame, mkF, argsToLocals, Value.category]; done) | rfl
def Q_rm_num (Z : State) (p0 : Int32) (w_CHAR : Addr) (w_BYTE : Addr) (w_SHORT : Addr) (w_INT : Addr) (w_LONG : Addr) (w_FLOAT : Addr) (w_DOUBLE : Addr) (h0 : Heap) (n0 : Nat) (v : Option Value) (h : Heap) (L : List Loc) : Prop := v = some (.ref (own_num p0 w_CHAR w_BYTE w_SHORT w_INT w_LONG w_FLOAT w_DOUBLE)) ∧ Fr n0 L ∧ h = h0
set_option maxRecDepth 65536 in
set_option maxHeartbeats 40000000 in
theorem rm_num (l : Launch) (Z : State) (a0 : Array Value) (hw : ∀ d ∈ tables_1, d.before a0 Z = true) (ws : List Jvm.Cond) (p0 : Int32) (w_CHAR : Addr) (w_BYTE : Addr) (w_SHORT : Addr) (w_INT : Addr) (w_LONG : Addr) (w_FLOAT : Addr) (w_DOUBLE : Addr) (h0 : Heap) (n0 : Nat) (Z0 : n0 ≤ h0.size) (S_CHAR : Sta Z h0 "com/example/ambit/ambit/Constant$Type" "CHAR" "Lcom/example/ambit/ambit/Constant$Type;" (.ref w_CHAR)) (S_BYTE : Sta Z h0 "com/example/ambit/ambit/Constant$Type" "BYTE" "Lcom/example/ambit/ambit/Constant$Type;" (.ref w_BYTE)) (S_SHORT : Sta Z h0 "com/example/ambit/ambit/Constant$Type" "SHORT" "Lcom/example/ambit/ambit/Constant$Type;" (.ref w_SHORT)) (S_INT : Sta Z h0 "com/example/ambit/ambit/Constant$Type" "INT" "Lcom/example/ambit/ambit/Constant$Type;" (.ref w_INT)) (S_LONG : Sta Z h0 "com/example/ambit/ambit/Constant$Type" "LONG" "Lcom/example/ambit/ambit/Constant$Type;" (.ref w_LONG)) (S_FLOAT : Sta Z h0 "com/example/ambit/ambit/Constant$Type" "FLOAT" "Lcom/example/ambit/ambit/Constant$Type;" (.ref w_FLOAT)) (S_DOUBLE : Sta Z h0 "com/example/ambit/ambit/Constant$Type" "DOUBLE" "Lcom/example/ambit/ambit/Constant$Type;" (.ref w_DOUBLE)) :
    MetFree l (⟨"com/example/ambit/ambit/TypePromotedPinLaw", "numeric", "(I)Lcom/example/ambit/ambit/Constant$Type;"⟩ : MethodName) (head1 (Jvm.Cond.code (⟨"com/example/ambit/ambit/TypePromotedPinLaw", "numeric", "(I)Lcom/example/ambit/ambit/Constant$Type;"⟩ : MethodName) method_2_code 2 (some (.object "com/example/ambit/ambit/Constant$Type")) :: ws) ({ frames := 0, cells := 0, slots := 0, locals := 0 } : Room)) (fun a U => a = #[(.int p0)] ∧ Z.Warmed39 U.vm ∧ U.heap = h0) (fun _ _ _ _ _ => True) (fun _ U o U' => ∃ v L, o = .returned v ∧ Q_rm_num Z p0 w_CHAR w_BYTE w_SHORT w_INT w_LONG w_FLOAT w_DOUBLE h0 n0 v U'.heap L ∧ FrameEnd U o U' L ({ frames := 0, cells := 0, slots := 0, locals := 0 } : Room).cells ({ frames := 0, cells := 0, slots := 0, locals := 0 } : Room).slots) := by
  refine MetFree.of_bodySF (plainFor_of_name pn_0) hisR ?_
  intro p e s m args below meth c s₁ Bd hml0 hP hK
  obtain ⟨rfl, hZ, hh⟩ := hP
  have hx := Bd.exec
  have hby := Bd.bytes
  have hml : c.maxLocals = 2 := hml0
  have hown : s.vm.findClass "com/example/ambit/ambit/TypePromotedPinLaw" = some m.cls := findClass_of_methodNamed Bd.named
  have hnm := (name_of_methodNamed Bd.named Bd.method).1
  have X0 : Stand p l e ({ frames := 0, cells := 0, slots := 0, locals := 0 } : Room) s m #[(.int p0)] below meth c s₁ [] 0 0 := Stand.of_body Bd
  have e0 : s₁.heap = h0 := by rw [← hh, Bd.state]; rfl
  have N0 := Fr.nil n0
  have pre0 : ∀ t, Steps p.tables e below (s₁.setTop (mkF m 0 #[.val (.int p0), .unset] [])) t → Steps p.tables e below (s₁.setTop (entryFrame m #[(.int p0)] 2)) t := fun t k => castTop (ef_1 m p0) k
  have k1 : ∀ target, Steps p.tables e below (s₁.setTop (mkF m 9 #[.val (.int p0), .val (.int ((p0 &&& (2147483647 : Int32)) % (7 : Int32)))] [(.int ((p0 &&& (2147483647 : Int32)) % (7 : Int32)))])) target → Steps p.tables e below (s₁.setTop (mkF m 0 #[.val (.int p0), .unset] [])) target := by
    intro target kt
    show Steps p.tables e below (s₁.setTop (mkF m 0 #[.val (.int p0), .unset] [])) _
    refine XS.iloadN X0.here hx rfl (hb hby d1_0) rfl ?_
    show Steps p.tables e below (s₁.setTop (mkF m 1 #[.val (.int p0), .unset] [(.int p0)])) _
    refine X0.ldcInt hx hown (mvT hZ (hw _ (List.mem_of_getElem? (i := 4) rfl))) (g := (mkF m 1 #[.val (.int p0), .unset] [(.int p0)])) rfl (hb hby d1_1) _ ?_
    show Steps p.tables e below (s₁.setTop (mkF m 3 #[.val (.int p0), .unset] [(.int (2147483647 : Int32)), (.int p0)])) _
    refine XS.iand X0.here hx rfl (hb hby d1_3) rfl ?_
    show Steps p.tables e below (s₁.setTop (mkF m 4 #[.val (.int p0), .unset] [(.int (p0 &&& (2147483647 : Int32)))])) _
    refine XS.bipush X0.here hx rfl (hb hby d1_4) ?_
    show Steps p.tables e below (s₁.setTop (mkF m 6 #[.val (.int p0), .unset] [(.int (7 : Int32)), (.int (p0 &&& (2147483647 : Int32)))])) _
    refine iremM X0 hx rfl (hb hby d1_6) rfl (by decide) ?_
    show Steps p.tables e below (s₁.setTop (mkF m 7 #[.val (.int p0), .unset] [(.int ((p0 &&& (2147483647 : Int32)) % (7 : Int32)))])) _
    refine XS.istoreN X0.here hx rfl (hb hby d1_7) rfl (l' := #[.val (.int p0), .val (.int ((p0 &&& (2147483647 : Int32)) % (7 : Int32)))]) rfl ?_
    show Steps p.tables e below (s₁.setTop (mkF m 8 #[.val (.int p0), .val (.int ((p0 &&& (2147483647 : Int32)) % (7 : Int32)))] [])) _
    refine XS.iloadN X0.here hx rfl (hb hby d1_8) rfl ?_
    exact kt
  by_cases hc9 : ((p0 &&& (2147483647 : Int32)) % (7 : Int32)) = (0 : Int32)
  · obtain ⟨T2, X2, e2, st2⟩ := getS2 X0 hx hZ hown (host := "") (Or.inl (hw _ (List.mem_of_getElem? (i := 5) rfl))) Via.refl e0 S_CHAR (g := (mkF m 12 #[.val (.int p0), .val (.int ((p0 &&& (2147483647 : Int32)) % (7 : Int32)))] [])) rfl (hb hby d1_12)
    obtain ⟨fs, hr, hrun, hended, hW, hsame⟩ := X2.leave (v := some (.ref w_CHAR)) (fun h => by rw [Bd.returns] at h; cases h)
    refine ⟨_, _, pre0 _ ?_, hrun, hended, _, _, rfl, ?_, ⟨_, rfl⟩, hW, hsame.mono (by decide) (by decide)⟩
    · refine k1 _ ?_
      show Steps p.tables e below (s₁.setTop (mkF m 9 #[.val (.int p0), .val (.int ((p0 &&& (2147483647 : Int32)) % (7 : Int32)))] [(.int ((p0 &&& (2147483647 : Int32)) % (7 : Int32)))])) _
      refine XS.ifNo X0.here hx rfl (hb hby d1_9) rfl ((if0 _ _).trans (teq hc9).2) ?_
      show Steps p.tables e below (s₁.setTop (mkF m 12 #[.val (.int p0), .val (.int ((p0 &&& (2147483647 : Int32)) % (7 : Int32)))] [])) _
      refine st2 _ ?_
      show Steps p.tables e below (T2.setTop (mkF m 15 #[.val (.int p0), .val (.int ((p0 &&& (2147483647 : Int32)) % (7 : Int32)))] [(.ref w_CHAR)])) _
      exact retOut X2 hx Bd.returns (by rfl) (Or.inr (Or.inr (Or.inr (Or.inr ⟨rfl, rfl, rfl⟩)))) (hb hby d1_15) hr
    · show Q_rm_num Z p0 w_CHAR w_BYTE w_SHORT w_INT w_LONG w_FLOAT w_DOUBLE h0 n0 _ T2.heap _
      rw [e2]
      exact ⟨(by unfold own_num; rw [if_pos hc9]), N0, rfl⟩
  · have k3 : ∀ target, Steps p.tables e below (s₁.setTop (mkF m 18 #[.val (.int p0), .val (.int ((p0 &&& (2147483647 : Int32)) % (7 : Int32)))] [(.int (1 : Int32)), (.int ((p0 &&& (2147483647 : Int32)) % (7 : Int32)))])) target → Steps p.tables e below (s₁.setTop (mkF m 0 #[.val (.int p0), .unset] [])) target := by
      intro target kt
      refine k1 _ ?_
      show Steps p.tables e below (s₁.setTop (mkF m 9 #[.val (.int p0), .val (.int ((p0 &&& (2147483647 : Int32)) % (7 : Int32)))] [(.int ((p0 &&& (2147483647 : Int32)) % (7 : Int32)))])) _
      refine XS.ifYes X0.here hx rfl (pc0 := 9) (pc' := 16) rfl (hb hby d1_9) rfl ((if0 _ _).trans (feq hc9).2) (by decide) (by decide) ?_
      show Steps p.tables e below (s₁.setTop (mkF m 16 #[.val (.int p0), .val (.int ((p0 &&& (2147483647 : Int32)) % (7 : Int32)))] [])) _
      refine XS.iloadN X0.here hx rfl (hb hby d1_16) rfl ?_
      show Steps p.tables e below (s₁.setTop (mkF m 17 #[.val (.int p0), .val (.int ((p0 &&& (2147483647 : Int32)) % (7 : Int32)))] [(.int ((p0 &&& (2147483647 : Int32)) % (7 : Int32)))])) _
      refine XS.iconst X0.here hx rfl (hb hby d1_17) ?_
      exact kt
    by_cases hc18 : ((p0 &&& (2147483647 : Int32)) % (7 : Int32)) = (1 : Int32)
    · obtain ⟨T4, X4, e4, st4⟩ := getS2 X0 hx hZ hown (host := "") (Or.inl (hw _ (List.mem_of_getElem? (i := 33) rfl))) Via.refl e0 S_BYTE (g := (mkF m 21 #[.val (.int p0), .val (.int ((p0 &&& (2147483647 : Int32)) % (7 : Int32)))] [])) rfl (hb hby d1_21)
      obtain ⟨fs, hr, hrun, hended, hW, hsame⟩ := X4.leave (v := some (.ref w_BYTE)) (fun h => by rw [Bd.returns] at h; cases h)
      refine ⟨_, _, pre0 _ ?_, hrun, hended, _, _, rfl, ?_, ⟨_, rfl⟩, hW, hsame.mono (by decide) (by decide)⟩
      · refine k3 _ ?_
        show Steps p.tables e below (s₁.setTop (mkF m 18 #[.val (.int p0), .val (.int ((p0 &&& (2147483647 : Int32)) % (7 : Int32)))] [(.int (1 : Int32)), (.int ((p0 &&& (2147483647 : Int32)) % (7 : Int32)))])) _
        refine XS.icmpNo X0.here hx rfl (hb hby d1_18) rfl (teq hc18).2 ?_
        show Steps p.tables e below (s₁.setTop (mkF m 21 #[.val (.int p0), .val (.int ((p0 &&& (2147483647 : Int32)) % (7 : Int32)))] [])) _
        refine st4 _ ?_
        show Steps p.tables e below (T4.setTop (mkF m 24 #[.val (.int p0), .val (.int ((p0 &&& (2147483647 : Int32)) % (7 : Int32)))] [(.ref w_BYTE)])) _
        exact retOut X4 hx Bd.returns (by rfl) (Or.inr (Or.inr (Or.inr (Or.inr ⟨rfl, rfl, rfl⟩)))) (hb hby d1_24) hr
      · show Q_rm_num Z p0 w_CHAR w_BYTE w_SHORT w_INT w_LONG w_FLOAT w_DOUBLE h0 n0 _ T4.heap _
        rw [e4]
        exact ⟨(by unfold own_num; rw [if_neg hc9, if_pos hc18]), N0, rfl⟩
    · have k5 : ∀ target, Steps p.tables e below (s₁.setTop (mkF m 27 #[.val (.int p0), .val (.int ((p0 &&& (2147483647 : Int32)) % (7 : Int32)))] [(.int (2 : Int32)), (.int ((p0 &&& (2147483647 : Int32)) % (7 : Int32)))])) target → Steps p.tables e below (s₁.setTop (mkF m 0 #[.val (.int p0), .unset] [])) target := by
        intro target kt
        refine k3 _ ?_
        show Steps p.tables e below (s₁.setTop (mkF m 18 #[.val (.int p0), .val (.int ((p0 &&& (2147483647 : Int32)) % (7 : Int32)))] [(.int (1 : Int32)), (.int ((p0 &&& (2147483647 : Int32)) % (7 : Int32)))])) _
        refine XS.icmpYes X0.here hx rfl (pc0 := 18) (pc' := 25) rfl (hb hby d1_18) rfl (feq hc18).2 (by decide) (by decide) ?_
        show Steps p.tables e below (s₁.setTop (mkF m 25 #[.val (.int p0), .val (.int ((p0 &&& (2147483647 : Int32)) % (7 : Int32)))] [])) _
        refine XS.iloadN X0.here hx rfl (hb hby d1_25) rfl ?_
        show Steps p.tables e below (s₁.setTop (mkF m 26 #[.val (.int p0), .val (.int ((p0 &&& (2147483647 : Int32)) % (7 : Int32)))] [(.int ((p0 &&& (2147483647 : Int32)) % (7 : Int32)))])) _
        refine XS.iconst X0.here hx rfl (hb hby d1_26) ?_
        exact kt
      by_cases hc27 : ((p0 &&& (2147483647 : Int32)) % (7 : Int32)) = (2 : Int32)
      · obtain ⟨T6, X6, e6, st6⟩ := getS2 X0 hx hZ hown (host := "") (Or.inl (hw _ (List.mem_of_getElem? (i := 35) rfl))) Via.refl e0 S_SHORT (g := (mkF m 30 #[.val (.int p0), .val (.int ((p0 &&& (2147483647 : Int32)) % (7 : Int32)))] [])) rfl (hb hby d1_30)
        obtain ⟨fs, hr, hrun, hended, hW, hsame⟩ := X6.leave (v := some (.ref w_SHORT)) (fun h => by rw [Bd.returns] at h; cases h)
        refine ⟨_, _, pre0 _ ?_, hrun, hended, _, _, rfl, ?_, ⟨_, rfl⟩, hW, hsame.mono (by decide) (by decide)⟩
        · refine k5 _ ?_
          show Steps p.tables e below (s₁.setTop (mkF m 27 #[.val (.int p0), .val (.int ((p0 &&& (2147483647 : Int32)) % (7 : Int32)))] [(.int (2 : Int32)), (.int ((p0 &&& (2147483647 : Int32)) % (7 : Int32)))])) _
          refine XS.icmpNo X0.here hx rfl (hb hby d1_27) rfl (teq hc27).2 ?_
          show Steps p.tables e below (s₁.setTop (mkF m 30 #[.val (.int p0), .val (.int ((p0 &&& (2147483647 : Int32)) % (7 : Int32)))] [])) _
          refine st6 _ ?_
          show Steps p.tables e below (T6.setTop (mkF m 33 #[.val (.int p0), .val (.int ((p0 &&& (2147483647 : Int32)) % (7 : Int32)))] [(.ref w_SHORT)])) _
          exact retOut X6 hx Bd.returns (by rfl) (Or.inr (Or.inr (Or.inr (Or.inr ⟨rfl, rfl, rfl⟩)))) (hb hby d1_33) hr
        · show Q_rm_num Z p0 w_CHAR w_BYTE w_SHORT w_INT w_LONG w_FLOAT w_DOUBLE h0 n0 _ T6.heap _
          rw [e6]
          exact ⟨(by unfold own_num; rw [if_neg hc9, if_neg hc18, if_pos hc27]), N0, rfl⟩
      · have k7 : ∀ target, Steps p.tables e below (s₁.setTop (mkF m 36 #[.val (.int p0), .val (.int ((p0 &&& (2147483647 : Int32)) % (7 : Int32)))] [(.int (3 : Int32)), (.int ((p0 &&& (2147483647 : Int32)) % (7 : Int32)))])) target → Steps p.tables e below (s₁.setTop (mkF m 0 #[.val (.int p0), .unset] [])) target := by
          intro target kt
          refine k5 _ ?_
          show Steps p.tables e below (s₁.setTop (mkF m 27 #[.val (.int p0), .val (.int ((p0 &&& (2147483647 : Int32)) % (7 : Int32)))] [(.int (2 : Int32)), (.int ((p0 &&& (2147483647 : Int32)) % (7 : Int32)))])) _
          refine XS.icmpYes X0.here hx rfl (pc0 := 27) (pc' := 34) rfl (hb hby d1_27) rfl (feq hc27).2 (by decide) (by decide) ?_
          show Steps p.tables e below (s₁.setTop (mkF m 34 #[.val (.int p0), .val (.int ((p0 &&& (2147483647 : Int32)) % (7 : Int32)))] [])) _
          refine XS.iloadN X0.here hx rfl (hb hby d1_34) rfl ?_
          show Steps p.tables e below (s₁.setTop (mkF m 35 #[.val (.int p0), .val (.int ((p0 &&& (2147483647 : Int32)) % (7 : Int32)))] [(.int ((p0 &&& (2147483647 : Int32)) % (7 : Int32)))])) _
          refine XS.iconst X0.here hx rfl (hb hby d1_35) ?_
          exact kt
        by_cases hc36 : ((p0 &&& (2147483647 : Int32)) % (7 : Int32)) = (3 : Int32)
        · obtain ⟨T8, X8, e8, st8⟩ := getS2 X0 hx hZ hown (host := "") (Or.inl (hw _ (List.mem_of_getElem? (i := 8) rfl))) Via.refl e0 S_INT (g := (mkF m 39 #[.val (.int p0), .val (.int ((p0 &&& (2147483647 : Int32)) % (7 : Int32)))] [])) rfl (hb hby d1_39)
          obtain ⟨fs, hr, hrun, hended, hW, hsame⟩ := X8.leave (v := some (.ref w_INT)) (fun h => by rw [Bd.returns] at h; cases h)
          refine ⟨_, _, pre0 _ ?_, hrun, hended, _, _, rfl, ?_, ⟨_, rfl⟩, hW, hsame.mono (by decide) (by decide)⟩
          · refine k7 _ ?_
            show Steps p.tables e below (s₁.setTop (mkF m 36 #[.val (.int p0), .val (.int ((p0 &&& (2147483647 : Int32)) % (7 : Int32)))] [(.int (3 : Int32)), (.int ((p0 &&& (2147483647 : Int32)) % (7 : Int32)))])) _
            refine XS.icmpNo X0.here hx rfl (hb hby d1_36) rfl (teq hc36).2 ?_
            show Steps p.tables e below (s₁.setTop (mkF m 39 #[.val (.int p0), .val (.int ((p0 &&& (2147483647 : Int32)) % (7 : Int32)))] [])) _
            refine st8 _ ?_
            show Steps p.tables e below (T8.setTop (mkF m 42 #[.val (.int p0), .val (.int ((p0 &&& (2147483647 : Int32)) % (7 : Int32)))] [(.ref w_INT)])) _
            exact retOut X8 hx Bd.returns (by rfl) (Or.inr (Or.inr (Or.inr (Or.inr ⟨rfl, rfl, rfl⟩)))) (hb hby d1_42) hr
          · show Q_rm_num Z p0 w_CHAR w_BYTE w_SHORT w_INT w_LONG w_FLOAT w_DOUBLE h0 n0 _ T8.heap _
            rw [e8]
            exact ⟨(by unfold own_num; rw [if_neg hc9, if_neg hc18, if_neg hc27, if_pos hc36]), N0, rfl⟩
        · have k9 : ∀ target, Steps p.tables e below (s₁.setTop (mkF m 45 #[.val (.int p0), .val (.int ((p0 &&& (2147483647 : Int32)) % (7 : Int32)))] [(.int (4 : Int32)), (.int ((p0 &&& (2147483647 : Int32)) % (7 : Int32)))])) target → Steps p.tables e below (s₁.setTop (mkF m 0 #[.val (.int p0), .unset] [])) target := by
            intro target kt
            refine k7 _ ?_
            show Steps p.tables e below (s₁.setTop (mkF m 36 #[.val (.int p0), .val (.int ((p0 &&& (2147483647 : Int32)) % (7 : Int32)))] [(.int (3 : Int32)), (.int ((p0 &&& (2147483647 : Int32)) % (7 : Int32)))])) _
            refine XS.icmpYes X0.here hx rfl (pc0 := 36) (pc' := 43) rfl (hb hby d1_36) rfl (feq hc36).2 (by decide) (by decide) ?_
            show Steps p.tables e below (s₁.setTop (mkF m 43 #[.val (.int p0), .val (.int ((p0 &&& (2147483647 : Int32)) % (7 : Int32)))] [])) _
            refine XS.iloadN X0.here hx rfl (hb hby d1_43) rfl ?_
            show Steps p.tables e below (s₁.setTop (mkF m 44 #[.val (.int p0), .val (.int ((p0 &&& (2147483647 : Int32)) % (7 : Int32)))] [(.int ((p0 &&& (2147483647 : Int32)) % (7 : Int32)))])) _
            refine XS.iconst X0.here hx rfl (hb hby d1_44) ?_
            exact kt
          by_cases hc45 : ((p0 &&& (2147483647 : Int32)) % (7 : Int32)) = (4 : Int32)
          · obtain ⟨T10, X10, e10, st10⟩ := getS2 X0 hx hZ hown (host := "") (Or.inl (hw _ (List.mem_of_getElem? (i := 25) rfl))) Via.refl e0 S_LONG (g := (mkF m 48 #[.val (.int p0), .val (.int ((p0 &&& (2147483647 : Int32)) % (7 : Int32)))] [])) rfl (hb hby d1_48)
            obtain ⟨fs, hr, hrun, hended, hW, hsame⟩ := X10.leave (v := some (.ref w_LONG)) (fun h => by rw [Bd.returns] at h; cases h)
            refine ⟨_, _, pre0 _ ?_, hrun, hended, _, _, rfl, ?_, ⟨_, rfl⟩, hW, hsame.mono (by decide) (by decide)⟩
            · refine k9 _ ?_
              show Steps p.tables e below (s₁.setTop (mkF m 45 #[.val (.int p0), .val (.int ((p0 &&& (2147483647 : Int32)) % (7 : Int32)))] [(.int (4 : Int32)), (.int ((p0 &&& (2147483647 : Int32)) % (7 : Int32)))])) _
              refine XS.icmpNo X0.here hx rfl (hb hby d1_45) rfl (teq hc45).2 ?_
              show Steps p.tables e below (s₁.setTop (mkF m 48 #[.val (.int p0), .val (.int ((p0 &&& (2147483647 : Int32)) % (7 : Int32)))] [])) _
              refine st10 _ ?_
              show Steps p.tables e below (T10.setTop (mkF m 51 #[.val (.int p0), .val (.int ((p0 &&& (2147483647 : Int32)) % (7 : Int32)))] [(.ref w_LONG)])) _
              exact retOut X10 hx Bd.returns (by rfl) (Or.inr (Or.inr (Or.inr (Or.inr ⟨rfl, rfl, rfl⟩)))) (hb hby d1_51) hr
            · show Q_rm_num Z p0 w_CHAR w_BYTE w_SHORT w_INT w_LONG w_FLOAT w_DOUBLE h0 n0 _ T10.heap _
              rw [e10]
              exact ⟨(by unfold own_num; rw [if_neg hc9, if_neg hc18, if_neg hc27, if_neg hc36, if_pos hc45]), N0, rfl⟩
          · have k11 : ∀ target, Steps p.tables e below (s₁.setTop (mkF m 54 #[.val (.int p0), .val (.int ((p0 &&& (2147483647 : Int32)) % (7 : Int32)))] [(.int (5 : Int32)), (.int ((p0 &&& (2147483647 : Int32)) % (7 : Int32)))])) target → Steps p.tables e below (s₁.setTop (mkF m 0 #[.val (.int p0), .unset] [])) target := by
              intro target kt
              refine k9 _ ?_
              show Steps p.tables e below (s₁.setTop (mkF m 45 #[.val (.int p0), .val (.int ((p0 &&& (2147483647 : Int32)) % (7 : Int32)))] [(.int (4 : Int32)), (.int ((p0 &&& (2147483647 : Int32)) % (7 : Int32)))])) _
              refine XS.icmpYes X0.here hx rfl (pc0 := 45) (pc' := 52) rfl (hb hby d1_45) rfl (feq hc45).2 (by decide) (by decide) ?_
              show Steps p.tables e below (s₁.setTop (mkF m 52 #[.val (.int p0), .val (.int ((p0 &&& (2147483647 : Int32)) % (7 : Int32)))] [])) _
              refine XS.iloadN X0.here hx rfl (hb hby d1_52) rfl ?_
              show Steps p.tables e below (s₁.setTop (mkF m 53 #[.val (.int p0), .val (.int ((p0 &&& (2147483647 : Int32)) % (7 : Int32)))] [(.int ((p0 &&& (2147483647 : Int32)) % (7 : Int32)))])) _
              refine XS.iconst X0.here hx rfl (hb hby d1_53) ?_
              exact kt
            by_cases hc54 : ((p0 &&& (2147483647 : Int32)) % (7 : Int32)) = (5 : Int32)
            · obtain ⟨T12, X12, e12, st12⟩ := getS2 X0 hx hZ hown (host := "") (Or.inl (hw _ (List.mem_of_getElem? (i := 24) rfl))) Via.refl e0 S_FLOAT (g := (mkF m 57 #[.val (.int p0), .val (.int ((p0 &&& (2147483647 : Int32)) % (7 : Int32)))] [])) rfl (hb hby d1_57)
              obtain ⟨fs, hr, hrun, hended, hW, hsame⟩ := X12.leave (v := some (.ref w_FLOAT)) (fun h => by rw [Bd.returns] at h; cases h)
              refine ⟨_, _, pre0 _ ?_, hrun, hended, _, _, rfl, ?_, ⟨_, rfl⟩, hW, hsame.mono (by decide) (by decide)⟩
              · refine k11 _ ?_
                show Steps p.tables e below (s₁.setTop (mkF m 54 #[.val (.int p0), .val (.int ((p0 &&& (2147483647 : Int32)) % (7 : Int32)))] [(.int (5 : Int32)), (.int ((p0 &&& (2147483647 : Int32)) % (7 : Int32)))])) _
                refine XS.icmpNo X0.here hx rfl (hb hby d1_54) rfl (teq hc54).2 ?_
                show Steps p.tables e below (s₁.setTop (mkF m 57 #[.val (.int p0), .val (.int ((p0 &&& (2147483647 : Int32)) % (7 : Int32)))] [])) _
                refine st12 _ ?_
                show Steps p.tables e below (T12.setTop (mkF m 60 #[.val (.int p0), .val (.int ((p0 &&& (2147483647 : Int32)) % (7 : Int32)))] [(.ref w_FLOAT)])) _
                exact retOut X12 hx Bd.returns (by rfl) (Or.inr (Or.inr (Or.inr (Or.inr ⟨rfl, rfl, rfl⟩)))) (hb hby d1_60) hr
              · show Q_rm_num Z p0 w_CHAR w_BYTE w_SHORT w_INT w_LONG w_FLOAT w_DOUBLE h0 n0 _ T12.heap _
                rw [e12]
                exact ⟨(by unfold own_num; rw [if_neg hc9, if_neg hc18, if_neg hc27, if_neg hc36, if_neg hc45, if_pos hc54]), N0, rfl⟩
            · obtain ⟨T13, X13, e13, st13⟩ := getS2 X0 hx hZ hown (host := "") (Or.inl (hw _ (List.mem_of_getElem? (i := 23) rfl))) Via.refl e0 S_DOUBLE (g := (mkF m 61 #[.val (.int p0), .val (.int ((p0 &&& (2147483647 : Int32)) % (7 : Int32)))] [])) rfl (hb hby d1_61)
              obtain ⟨fs, hr, hrun, hended, hW, hsame⟩ := X13.leave (v := some (.ref w_DOUBLE)) (fun h => by rw [Bd.returns] at h; cases h)
              refine ⟨_, _, pre0 _ ?_, hrun, hended, _, _, rfl, ?_, ⟨_, rfl⟩, hW, hsame.mono (by decide) (by decide)⟩
              · refine k11 _ ?_
                show Steps p.tables e below (s₁.setTop (mkF m 54 #[.val (.int p0), .val (.int ((p0 &&& (2147483647 : Int32)) % (7 : Int32)))] [(.int (5 : Int32)), (.int ((p0 &&& (2147483647 : Int32)) % (7 : Int32)))])) _
                refine XS.icmpYes X0.here hx rfl (pc0 := 54) (pc' := 61) rfl (hb hby d1_54) rfl (feq hc54).2 (by decide) (by decide) ?_
                show Steps p.tables e below (s₁.setTop (mkF m 61 #[.val (.int p0), .val (.int ((p0 &&& (2147483647 : Int32)) % (7 : Int32)))] [])) _
                refine st13 _ ?_
                show Steps p.tables e below (T13.setTop (mkF m 64 #[.val (.int p0), .val (.int ((p0 &&& (2147483647 : Int32)) % (7 : Int32)))] [(.ref w_DOUBLE)])) _
                exact retOut X13 hx Bd.returns (by rfl) (Or.inr (Or.inr (Or.inr (Or.inr ⟨rfl, rfl, rfl⟩)))) (hb hby d1_64) hr
              · show Q_rm_num Z p0 w_CHAR w_BYTE w_SHORT w_INT w_LONG w_FLOAT w_DOUBLE h0 n0 _ T13.heap _
                rw [e13]
                exact ⟨(by unfold own_num; rw [if_neg hc9, if_neg hc18, if_neg hc27, if_neg hc36, if_neg hc45, if_neg hc54]), N0, rfl⟩
theorem d2_0 : decode prog_12_method_8_code 0 = .ok (.getstatic 16, 3) := by decide +kernel
theorem d2_3 : decode prog_12_method_8_code 3 = .ok (.astore_n 2, 1) := by decide +kernel
theorem d2_4 : decode prog_12_method_8_code 4 = .ok (.aload_n 0, 1) := by decide +kernel
theorem d2_5 : decode prog_12_method_8_code 5 = .ok (.getstatic 25, 3) := by decide +kernel
theorem d2_8 : decode prog_12_method_8_code 8 = .ok (.if_acmp .eq 10, 3) := by decide +kernel
theorem d2_18 : decode prog_12_method_8_code 18 = .ok (.getstatic 25, 3) := by decide +kernel
theorem d2_21 : decode prog_12_method_8_code 21 = .ok (.astore_n 2, 1) := by decide +kernel
theorem d2_22 : decode prog_12_method_8_code 22 = .ok (.goto 42, 3) := by decide +kernel
theorem d2_64 : decode prog_12_method_8_code 64 = .ok (.aload_n 2, 1) := by decide +kernel
theorem d2_65 : decode prog_12_method_8_code 65 = .ok (.areturn, 1) := by decide +kernel
theorem d2_11 : decode prog_12_method_8_code 11 = .ok (.aload_n 1, 1) := by decide +kernel
theorem d2_12 : decode prog_12_method_8_code 12 = .ok (.getstatic 25, 3) := by decide +kernel
theorem d2_15 : decode prog_12_method_8_code 15 = .ok (.if_acmp .ne 10, 3) := by decide +kernel
theorem d2_25 : decode prog_12_method_8_code 25 = .ok (.aload_n 0, 1) := by decide +kernel
theorem d2_26 : decode prog_12_method_8_code 26 = .ok (.getstatic 22, 3) := by decide +kernel
theorem d2_29 : decode prog_12_method_8_code 29 = .ok (.if_acmp .eq 10, 3) := by decide +kernel
theorem d2_39 : decode prog_12_method_8_code 39 = .ok (.getstatic 22, 3) := by decide +kernel
theorem d2_42 : decode prog_12_method_8_code 42 = .ok (.astore_n 2, 1) := by decide +kernel
theorem d2_43 : decode prog_12_method_8_code 43 = .ok (.goto 21, 3) := by decide +kernel
theorem d2_32 : decode prog_12_method_8_code 32 = .ok (.aload_n 1, 1) := by decide +kernel
theorem d2_33 : decode prog_12_method_8_code 33 = .ok (.getstatic 22, 3) := by decide +kernel
theorem d2_36 : decode prog_12_method_8_code 36 = .ok (.if_acmp .ne 10, 3) := by decide +kernel
theorem d2_46 : decode prog_12_method_8_code 46 = .ok (.aload_n 0, 1) := by decide +kernel
theorem d2_47 : decode prog_12_method_8_code 47 = .ok (.getstatic 19, 3) := by decide +kernel
theorem d2_50 : decode prog_12_method_8_code 50 = .ok (.if_acmp .eq 10, 3) := by decide +kernel
theorem d2_60 : decode prog_12_method_8_code 60 = .ok (.getstatic 19, 3) := by decide +kernel
theorem d2_63 : decode prog_12_method_8_code 63 = .ok (.astore_n 2, 1) := by decide +kernel
theorem d2_53 : decode prog_12_method_8_code 53 = .ok (.aload_n 1, 1) := by decide +kernel
theorem d2_54 : decode prog_12_method_8_code 54 = .ok (.getstatic 19, 3) := by decide +kernel
theorem d2_57 : decode prog_12_method_8_code 57 = .ok (.if_acmp .ne 7, 3) := by decide +kernel
theorem pn_1 : plainName "com/example/ambit/ambit/Constant$Type" = true := by first | (simp [plainName, overriddenIn]; done) | decide +kernel
theorem ef_2 (m : MethodId) (x0 : Addr) (x1 : Addr) : entryFrame m #[(.ref x0), (.ref x1)] 3 = mkF m 0 #[.val (.ref x0), .val (.ref x1), .unset] [] := by first | (simp [entryFrame, mkF, argsToLocals, Value.category]; done) | rfl
def Q_rm_pro (Z : State) (a1 : Addr) (a2 : Addr) (w_INT : Addr) (w_LONG : Addr) (w_FLOAT : Addr) (w_DOUBLE : Addr) (h0 : Heap) (n0 : Nat) (v : Option Value) (h : Heap) (L : List Loc) : Prop := v = some (.ref (own_pro a1 a2 w_INT w_LONG w_FLOAT w_DOUBLE)) ∧ Fr n0 L ∧ h = h0
set_option maxRecDepth 65536 in
set_option maxHeartbeats 40000000 in
theorem rm_pro (l : Launch) (Z : State) (a0 : Array Value) (hw : ∀ d ∈ tables_1, d.before a0 Z = true) (ws : List Jvm.Cond) (a1 : Addr) (a2 : Addr) (w_INT : Addr) (w_LONG : Addr) (w_FLOAT : Addr) (w_DOUBLE : Addr) (h0 : Heap) (n0 : Nat) (Z0 : n0 ≤ h0.size) (S_INT : Sta Z h0 "com/example/ambit/ambit/Constant$Type" "INT" "Lcom/example/ambit/ambit/Constant$Type;" (.ref w_INT)) (S_LONG : Sta Z h0 "com/example/ambit/ambit/Constant$Type" "LONG" "Lcom/example/ambit/ambit/Constant$Type;" (.ref w_LONG)) (S_FLOAT : Sta Z h0 "com/example/ambit/ambit/Constant$Type" "FLOAT" "Lcom/example/ambit/ambit/Constant$Type;" (.ref w_FLOAT)) (S_DOUBLE : Sta Z h0 "com/example/ambit/ambit/Constant$Type" "DOUBLE" "Lcom/example/ambit/ambit/Constant$Type;" (.ref w_DOUBLE)) :
    MetFree l (⟨"com/example/ambit/ambit/Constant$Type", "promoted", "(Lcom/example/ambit/ambit/Constant$Type;Lcom/example/ambit/ambit/Constant$Type;)Lcom/example/ambit/ambit/Constant$Type;"⟩ : MethodName) (head1 (Jvm.Cond.code (⟨"com/example/ambit/ambit/Constant$Type", "promoted", "(Lcom/example/ambit/ambit/Constant$Type;Lcom/example/ambit/ambit/Constant$Type;)Lcom/example/ambit/ambit/Constant$Type;"⟩ : MethodName) prog_12_method_8_code 3 (some (.object "com/example/ambit/ambit/Constant$Type")) :: ws) ({ frames := 0, cells := 0, slots := 0, locals := 0 } : Room)) (fun a U => a = #[(.ref a1), (.ref a2)] ∧ Z.Warmed39 U.vm ∧ U.heap = h0) (fun _ _ _ _ _ => True) (fun _ U o U' => ∃ v L, o = .returned v ∧ Q_rm_pro Z a1 a2 w_INT w_LONG w_FLOAT w_DOUBLE h0 n0 v U'.heap L ∧ FrameEnd U o U' L ({ frames := 0, cells := 0, slots := 0, locals := 0 } : Room).cells ({ frames := 0, cells := 0, slots := 0, locals := 0 } : Room).slots) := by
  refine MetFree.of_bodySF (plainFor_of_name pn_1) hisR ?_
  intro p e s m args below meth c s₁ Bd hml0 hP hK
  obtain ⟨rfl, hZ, hh⟩ := hP
  have hx := Bd.exec
  have hby := Bd.bytes
  have hml : c.maxLocals = 3 := hml0
  have hown : s.vm.findClass "com/example/ambit/ambit/Constant$Type" = some m.cls := findClass_of_methodNamed Bd.named
  have hnm := (name_of_methodNamed Bd.named Bd.method).1
  have X0 : Stand p l e ({ frames := 0, cells := 0, slots := 0, locals := 0 } : Room) s m #[(.ref a1), (.ref a2)] below meth c s₁ [] 0 0 := Stand.of_body Bd
  have e0 : s₁.heap = h0 := by rw [← hh, Bd.state]; rfl
  have N0 := Fr.nil n0
  have pre0 : ∀ t, Steps p.tables e below (s₁.setTop (mkF m 0 #[.val (.ref a1), .val (.ref a2), .unset] [])) t → Steps p.tables e below (s₁.setTop (entryFrame m #[(.ref a1), (.ref a2)] 3)) t := fun t k => castTop (ef_2 m a1 a2) k
  obtain ⟨T1, X1, e1, st1⟩ := getS2 X0 hx hZ hown (host := "") (Or.inl (hw _ (List.mem_of_getElem? (i := 13) rfl))) Via.refl e0 S_INT (g := (mkF m 0 #[.val (.ref a1), .val (.ref a2), .unset] [])) rfl (hb hby d2_0)
  obtain ⟨T2, X2, e2, st2⟩ := getS2 X1 hx hZ hown (host := "") (Or.inl (hw _ (List.mem_of_getElem? (i := 14) rfl))) Via.refl e1 S_DOUBLE (g := (mkF m 5 #[.val (.ref a1), .val (.ref a2), .val (.ref w_INT)] [(.ref a1)])) rfl (hb hby d2_5)
  have k3 : ∀ target, Steps p.tables e below (T2.setTop (mkF m 8 #[.val (.ref a1), .val (.ref a2), .val (.ref w_INT)] [(.ref w_DOUBLE), (.ref a1)])) target → Steps p.tables e below (s₁.setTop (mkF m 0 #[.val (.ref a1), .val (.ref a2), .unset] [])) target := by
    intro target kt
    show Steps p.tables e below (s₁.setTop (mkF m 0 #[.val (.ref a1), .val (.ref a2), .unset] [])) _
    refine st1 _ ?_
    show Steps p.tables e below (T1.setTop (mkF m 3 #[.val (.ref a1), .val (.ref a2), .unset] [(.ref w_INT)])) _
    refine XS.astoreN X1.here hx rfl (hb hby d2_3) rfl rfl (l' := #[.val (.ref a1), .val (.ref a2), .val (.ref w_INT)]) rfl ?_
    show Steps p.tables e below (T1.setTop (mkF m 4 #[.val (.ref a1), .val (.ref a2), .val (.ref w_INT)] [])) _
    refine XS.aloadN X1.here hx rfl (hb hby d2_4) rfl rfl ?_
    show Steps p.tables e below (T1.setTop (mkF m 5 #[.val (.ref a1), .val (.ref a2), .val (.ref w_INT)] [(.ref a1)])) _
    refine st2 _ ?_
    exact kt
  by_cases ha8 : a1 = w_DOUBLE
  · obtain ⟨T4, X4, e4, st4⟩ := getS2 X2 hx hZ hown (host := "") (Or.inl (hw _ (List.mem_of_getElem? (i := 14) rfl))) Via.refl e2 S_DOUBLE (g := (mkF m 18 #[.val (.ref a1), .val (.ref a2), .val (.ref w_INT)] [])) rfl (hb hby d2_18)
    obtain ⟨fs, hr, hrun, hended, hW, hsame⟩ := X4.leave (v := some (.ref w_DOUBLE)) (fun h => by rw [Bd.returns] at h; cases h)
    refine ⟨_, _, pre0 _ ?_, hrun, hended, _, _, rfl, ?_, ⟨_, rfl⟩, hW, hsame.mono (by decide) (by decide)⟩
    · refine k3 _ ?_
      show Steps p.tables e below (T2.setTop (mkF m 8 #[.val (.ref a1), .val (.ref a2), .val (.ref w_INT)] [(.ref w_DOUBLE), (.ref a1)])) _
      refine Jvm.RoadKit.acmp (g := (mkF m 8 #[.val (.ref a1), .val (.ref a2), .val (.ref w_INT)] [(.ref w_DOUBLE), (.ref a1)])) X2 hx rfl rfl rfl (pc0 := 8) (pc' := 18) (same := true) rfl (hb hby d2_8) rfl (decide_eq_true (congrArg Value.ref ha8)) (by decide) (by decide) ?_
      show Steps p.tables e below (T2.setTop (mkF m 18 #[.val (.ref a1), .val (.ref a2), .val (.ref w_INT)] [])) _
      refine st4 _ ?_
      show Steps p.tables e below (T4.setTop (mkF m 21 #[.val (.ref a1), .val (.ref a2), .val (.ref w_INT)] [(.ref w_DOUBLE)])) _
      refine XS.astoreN X4.here hx rfl (hb hby d2_21) rfl rfl (l' := #[.val (.ref a1), .val (.ref a2), .val (.ref w_DOUBLE)]) rfl ?_
      show Steps p.tables e below (T4.setTop (mkF m 22 #[.val (.ref a1), .val (.ref a2), .val (.ref w_DOUBLE)] [])) _
      refine XS.goto X4.here hx rfl (pc0 := 22) (pc' := 64) rfl (hb hby d2_22) (by decide) (by decide) ?_
      show Steps p.tables e below (T4.setTop (mkF m 64 #[.val (.ref a1), .val (.ref a2), .val (.ref w_DOUBLE)] [])) _
      refine XS.aloadN X4.here hx rfl (hb hby d2_64) rfl rfl ?_
      show Steps p.tables e below (T4.setTop (mkF m 65 #[.val (.ref a1), .val (.ref a2), .val (.ref w_DOUBLE)] [(.ref w_DOUBLE)])) _
      exact retOut X4 hx Bd.returns (by rfl) (Or.inr (Or.inr (Or.inr (Or.inr ⟨rfl, rfl, rfl⟩)))) (hb hby d2_65) hr
    · show Q_rm_pro Z a1 a2 w_INT w_LONG w_FLOAT w_DOUBLE h0 n0 _ T4.heap _
      rw [e4]
      exact ⟨(by unfold own_pro; rw [if_pos ha8]), N0, rfl⟩
  · obtain ⟨T5, X5, e5, st5⟩ := getS2 X2 hx hZ hown (host := "") (Or.inl (hw _ (List.mem_of_getElem? (i := 14) rfl))) Via.refl e2 S_DOUBLE (g := (mkF m 12 #[.val (.ref a1), .val (.ref a2), .val (.ref w_INT)] [(.ref a2)])) rfl (hb hby d2_12)
    have k6 : ∀ target, Steps p.tables e below (T5.setTop (mkF m 15 #[.val (.ref a1), .val (.ref a2), .val (.ref w_INT)] [(.ref w_DOUBLE), (.ref a2)])) target → Steps p.tables e below (s₁.setTop (mkF m 0 #[.val (.ref a1), .val (.ref a2), .unset] [])) target := by
      intro target kt
      refine k3 _ ?_
      show Steps p.tables e below (T2.setTop (mkF m 8 #[.val (.ref a1), .val (.ref a2), .val (.ref w_INT)] [(.ref w_DOUBLE), (.ref a1)])) _
      refine Jvm.RoadKit.acmp (g := (mkF m 8 #[.val (.ref a1), .val (.ref a2), .val (.ref w_INT)] [(.ref w_DOUBLE), (.ref a1)])) X2 hx rfl rfl rfl (pc0 := 8) (pc' := 11) (same := false) rfl (hb hby d2_8) rfl (decide_eq_false fun q => ha8 (Value.ref.inj q)) (by decide) (by decide) ?_
      show Steps p.tables e below (T2.setTop (mkF m 11 #[.val (.ref a1), .val (.ref a2), .val (.ref w_INT)] [])) _
      refine XS.aloadN X2.here hx rfl (hb hby d2_11) rfl rfl ?_
      show Steps p.tables e below (T2.setTop (mkF m 12 #[.val (.ref a1), .val (.ref a2), .val (.ref w_INT)] [(.ref a2)])) _
      refine st5 _ ?_
      exact kt
    by_cases ha15 : a2 = w_DOUBLE
    · obtain ⟨T7, X7, e7, st7⟩ := getS2 X5 hx hZ hown (host := "") (Or.inl (hw _ (List.mem_of_getElem? (i := 14) rfl))) Via.refl e5 S_DOUBLE (g := (mkF m 18 #[.val (.ref a1), .val (.ref a2), .val (.ref w_INT)] [])) rfl (hb hby d2_18)
      obtain ⟨fs, hr, hrun, hended, hW, hsame⟩ := X7.leave (v := some (.ref w_DOUBLE)) (fun h => by rw [Bd.returns] at h; cases h)
      refine ⟨_, _, pre0 _ ?_, hrun, hended, _, _, rfl, ?_, ⟨_, rfl⟩, hW, hsame.mono (by decide) (by decide)⟩
      · refine k6 _ ?_
        show Steps p.tables e below (T5.setTop (mkF m 15 #[.val (.ref a1), .val (.ref a2), .val (.ref w_INT)] [(.ref w_DOUBLE), (.ref a2)])) _
        refine Jvm.RoadKit.acmp (g := (mkF m 15 #[.val (.ref a1), .val (.ref a2), .val (.ref w_INT)] [(.ref w_DOUBLE), (.ref a2)])) X5 hx rfl rfl rfl (pc0 := 15) (pc' := 18) (same := true) rfl (hb hby d2_15) rfl (decide_eq_true (congrArg Value.ref ha15)) (by decide) (by decide) ?_
        show Steps p.tables e below (T5.setTop (mkF m 18 #[.val (.ref a1), .val (.ref a2), .val (.ref w_INT)] [])) _
        refine st7 _ ?_
        show Steps p.tables e below (T7.setTop (mkF m 21 #[.val (.ref a1), .val (.ref a2), .val (.ref w_INT)] [(.ref w_DOUBLE)])) _
        refine XS.astoreN X7.here hx rfl (hb hby d2_21) rfl rfl (l' := #[.val (.ref a1), .val (.ref a2), .val (.ref w_DOUBLE)]) rfl ?_
        show Steps p.tables e below (T7.setTop (mkF m 22 #[.val (.ref a1), .val (.ref a2), .val (.ref w_DOUBLE)] [])) _
        refine XS.goto X7.here hx rfl (pc0 := 22) (pc' := 64) rfl (hb hby d2_22) (by decide) (by decide) ?_
        show Steps p.tables e below (T7.setTop (mkF m 64 #[.val (.ref a1), .val (.ref a2), .val (.ref w_DOUBLE)] [])) _
        refine XS.aloadN X7.here hx rfl (hb hby d2_64) rfl rfl ?_
        show Steps p.tables e below (T7.setTop (mkF m 65 #[.val (.ref a1), .val (.ref a2), .val (.ref w_DOUBLE)] [(.ref w_DOUBLE)])) _
        exact retOut X7 hx Bd.returns (by rfl) (Or.inr (Or.inr (Or.inr (Or.inr ⟨rfl, rfl, rfl⟩)))) (hb hby d2_65) hr
      · show Q_rm_pro Z a1 a2 w_INT w_LONG w_FLOAT w_DOUBLE h0 n0 _ T7.heap _
        rw [e7]
        exact ⟨(by unfold own_pro; rw [if_neg ha8, if_pos ha15]), N0, rfl⟩
    · obtain ⟨T8, X8, e8, st8⟩ := getS2 X5 hx hZ hown (host := "") (Or.inl (hw _ (List.mem_of_getElem? (i := 16) rfl))) Via.refl e5 S_FLOAT (g := (mkF m 26 #[.val (.ref a1), .val (.ref a2), .val (.ref w_INT)] [(.ref a1)])) rfl (hb hby d2_26)
      have k9 : ∀ target, Steps p.tables e below (T8.setTop (mkF m 29 #[.val (.ref a1), .val (.ref a2), .val (.ref w_INT)] [(.ref w_FLOAT), (.ref a1)])) target → Steps p.tables e below (s₁.setTop (mkF m 0 #[.val (.ref a1), .val (.ref a2), .unset] [])) target := by
        intro target kt
        refine k6 _ ?_
        show Steps p.tables e below (T5.setTop (mkF m 15 #[.val (.ref a1), .val (.ref a2), .val (.ref w_INT)] [(.ref w_DOUBLE), (.ref a2)])) _
        refine Jvm.RoadKit.acmp (g := (mkF m 15 #[.val (.ref a1), .val (.ref a2), .val (.ref w_INT)] [(.ref w_DOUBLE), (.ref a2)])) X5 hx rfl rfl rfl (pc0 := 15) (pc' := 25) (same := false) rfl (hb hby d2_15) rfl (decide_eq_false fun q => ha15 (Value.ref.inj q)) (by decide) (by decide) ?_
        show Steps p.tables e below (T5.setTop (mkF m 25 #[.val (.ref a1), .val (.ref a2), .val (.ref w_INT)] [])) _
        refine XS.aloadN X5.here hx rfl (hb hby d2_25) rfl rfl ?_
        show Steps p.tables e below (T5.setTop (mkF m 26 #[.val (.ref a1), .val (.ref a2), .val (.ref w_INT)] [(.ref a1)])) _
        refine st8 _ ?_
        exact kt
      by_cases ha29 : a1 = w_FLOAT
      · obtain ⟨T10, X10, e10, st10⟩ := getS2 X8 hx hZ hown (host := "") (Or.inl (hw _ (List.mem_of_getElem? (i := 16) rfl))) Via.refl e8 S_FLOAT (g := (mkF m 39 #[.val (.ref a1), .val (.ref a2), .val (.ref w_INT)] [])) rfl (hb hby d2_39)
        obtain ⟨fs, hr, hrun, hended, hW, hsame⟩ := X10.leave (v := some (.ref w_FLOAT)) (fun h => by rw [Bd.returns] at h; cases h)
        refine ⟨_, _, pre0 _ ?_, hrun, hended, _, _, rfl, ?_, ⟨_, rfl⟩, hW, hsame.mono (by decide) (by decide)⟩
        · refine k9 _ ?_
          show Steps p.tables e below (T8.setTop (mkF m 29 #[.val (.ref a1), .val (.ref a2), .val (.ref w_INT)] [(.ref w_FLOAT), (.ref a1)])) _
          refine Jvm.RoadKit.acmp (g := (mkF m 29 #[.val (.ref a1), .val (.ref a2), .val (.ref w_INT)] [(.ref w_FLOAT), (.ref a1)])) X8 hx rfl rfl rfl (pc0 := 29) (pc' := 39) (same := true) rfl (hb hby d2_29) rfl (decide_eq_true (congrArg Value.ref ha29)) (by decide) (by decide) ?_
          show Steps p.tables e below (T8.setTop (mkF m 39 #[.val (.ref a1), .val (.ref a2), .val (.ref w_INT)] [])) _
          refine st10 _ ?_
          show Steps p.tables e below (T10.setTop (mkF m 42 #[.val (.ref a1), .val (.ref a2), .val (.ref w_INT)] [(.ref w_FLOAT)])) _
          refine XS.astoreN X10.here hx rfl (hb hby d2_42) rfl rfl (l' := #[.val (.ref a1), .val (.ref a2), .val (.ref w_FLOAT)]) rfl ?_
          show Steps p.tables e below (T10.setTop (mkF m 43 #[.val (.ref a1), .val (.ref a2), .val (.ref w_FLOAT)] [])) _
          refine XS.goto X10.here hx rfl (pc0 := 43) (pc' := 64) rfl (hb hby d2_43) (by decide) (by decide) ?_
          show Steps p.tables e below (T10.setTop (mkF m 64 #[.val (.ref a1), .val (.ref a2), .val (.ref w_FLOAT)] [])) _
          refine XS.aloadN X10.here hx rfl (hb hby d2_64) rfl rfl ?_
          show Steps p.tables e below (T10.setTop (mkF m 65 #[.val (.ref a1), .val (.ref a2), .val (.ref w_FLOAT)] [(.ref w_FLOAT)])) _
          exact retOut X10 hx Bd.returns (by rfl) (Or.inr (Or.inr (Or.inr (Or.inr ⟨rfl, rfl, rfl⟩)))) (hb hby d2_65) hr
        · show Q_rm_pro Z a1 a2 w_INT w_LONG w_FLOAT w_DOUBLE h0 n0 _ T10.heap _
          rw [e10]
          exact ⟨(by unfold own_pro; rw [if_neg ha8, if_neg ha15, if_pos ha29]), N0, rfl⟩
      · obtain ⟨T11, X11, e11, st11⟩ := getS2 X8 hx hZ hown (host := "") (Or.inl (hw _ (List.mem_of_getElem? (i := 16) rfl))) Via.refl e8 S_FLOAT (g := (mkF m 33 #[.val (.ref a1), .val (.ref a2), .val (.ref w_INT)] [(.ref a2)])) rfl (hb hby d2_33)
        have k12 : ∀ target, Steps p.tables e below (T11.setTop (mkF m 36 #[.val (.ref a1), .val (.ref a2), .val (.ref w_INT)] [(.ref w_FLOAT), (.ref a2)])) target → Steps p.tables e below (s₁.setTop (mkF m 0 #[.val (.ref a1), .val (.ref a2), .unset] [])) target := by
          intro target kt
          refine k9 _ ?_
          show Steps p.tables e below (T8.setTop (mkF m 29 #[.val (.ref a1), .val (.ref a2), .val (.ref w_INT)] [(.ref w_FLOAT), (.ref a1)])) _
          refine Jvm.RoadKit.acmp (g := (mkF m 29 #[.val (.ref a1), .val (.ref a2), .val (.ref w_INT)] [(.ref w_FLOAT), (.ref a1)])) X8 hx rfl rfl rfl (pc0 := 29) (pc' := 32) (same := false) rfl (hb hby d2_29) rfl (decide_eq_false fun q => ha29 (Value.ref.inj q)) (by decide) (by decide) ?_
          show Steps p.tables e below (T8.setTop (mkF m 32 #[.val (.ref a1), .val (.ref a2), .val (.ref w_INT)] [])) _
          refine XS.aloadN X8.here hx rfl (hb hby d2_32) rfl rfl ?_
          show Steps p.tables e below (T8.setTop (mkF m 33 #[.val (.ref a1), .val (.ref a2), .val (.ref w_INT)] [(.ref a2)])) _
          refine st11 _ ?_
          exact kt
        by_cases ha36 : a2 = w_FLOAT
        · obtain ⟨T13, X13, e13, st13⟩ := getS2 X11 hx hZ hown (host := "") (Or.inl (hw _ (List.mem_of_getElem? (i := 16) rfl))) Via.refl e11 S_FLOAT (g := (mkF m 39 #[.val (.ref a1), .val (.ref a2), .val (.ref w_INT)] [])) rfl (hb hby d2_39)
          obtain ⟨fs, hr, hrun, hended, hW, hsame⟩ := X13.leave (v := some (.ref w_FLOAT)) (fun h => by rw [Bd.returns] at h; cases h)
          refine ⟨_, _, pre0 _ ?_, hrun, hended, _, _, rfl, ?_, ⟨_, rfl⟩, hW, hsame.mono (by decide) (by decide)⟩
          · refine k12 _ ?_
            show Steps p.tables e below (T11.setTop (mkF m 36 #[.val (.ref a1), .val (.ref a2), .val (.ref w_INT)] [(.ref w_FLOAT), (.ref a2)])) _
            refine Jvm.RoadKit.acmp (g := (mkF m 36 #[.val (.ref a1), .val (.ref a2), .val (.ref w_INT)] [(.ref w_FLOAT), (.ref a2)])) X11 hx rfl rfl rfl (pc0 := 36) (pc' := 39) (same := true) rfl (hb hby d2_36) rfl (decide_eq_true (congrArg Value.ref ha36)) (by decide) (by decide) ?_
            show Steps p.tables e below (T11.setTop (mkF m 39 #[.val (.ref a1), .val (.ref a2), .val (.ref w_INT)] [])) _
            refine st13 _ ?_
            show Steps p.tables e below (T13.setTop (mkF m 42 #[.val (.ref a1), .val (.ref a2), .val (.ref w_INT)] [(.ref w_FLOAT)])) _
            refine XS.astoreN X13.here hx rfl (hb hby d2_42) rfl rfl (l' := #[.val (.ref a1), .val (.ref a2), .val (.ref w_FLOAT)]) rfl ?_
            show Steps p.tables e below (T13.setTop (mkF m 43 #[.val (.ref a1), .val (.ref a2), .val (.ref w_FLOAT)] [])) _
            refine XS.goto X13.here hx rfl (pc0 := 43) (pc' := 64) rfl (hb hby d2_43) (by decide) (by decide) ?_
            show Steps p.tables e below (T13.setTop (mkF m 64 #[.val (.ref a1), .val (.ref a2), .val (.ref w_FLOAT)] [])) _
            refine XS.aloadN X13.here hx rfl (hb hby d2_64) rfl rfl ?_
            show Steps p.tables e below (T13.setTop (mkF m 65 #[.val (.ref a1), .val (.ref a2), .val (.ref w_FLOAT)] [(.ref w_FLOAT)])) _
            exact retOut X13 hx Bd.returns (by rfl) (Or.inr (Or.inr (Or.inr (Or.inr ⟨rfl, rfl, rfl⟩)))) (hb hby d2_65) hr
          · show Q_rm_pro Z a1 a2 w_INT w_LONG w_FLOAT w_DOUBLE h0 n0 _ T13.heap _
            rw [e13]
            exact ⟨(by unfold own_pro; rw [if_neg ha8, if_neg ha15, if_neg ha29, if_pos ha36]), N0, rfl⟩
        · obtain ⟨T14, X14, e14, st14⟩ := getS2 X11 hx hZ hown (host := "") (Or.inl (hw _ (List.mem_of_getElem? (i := 18) rfl))) Via.refl e11 S_LONG (g := (mkF m 47 #[.val (.ref a1), .val (.ref a2), .val (.ref w_INT)] [(.ref a1)])) rfl (hb hby d2_47)
          have k15 : ∀ target, Steps p.tables e below (T14.setTop (mkF m 50 #[.val (.ref a1), .val (.ref a2), .val (.ref w_INT)] [(.ref w_LONG), (.ref a1)])) target → Steps p.tables e below (s₁.setTop (mkF m 0 #[.val (.ref a1), .val (.ref a2), .unset] [])) target := by
            intro target kt
            refine k12 _ ?_
            show Steps p.tables e below (T11.setTop (mkF m 36 #[.val (.ref a1), .val (.ref a2), .val (.ref w_INT)] [(.ref w_FLOAT), (.ref a2)])) _
            refine Jvm.RoadKit.acmp (g := (mkF m 36 #[.val (.ref a1), .val (.ref a2), .val (.ref w_INT)] [(.ref w_FLOAT), (.ref a2)])) X11 hx rfl rfl rfl (pc0 := 36) (pc' := 46) (same := false) rfl (hb hby d2_36) rfl (decide_eq_false fun q => ha36 (Value.ref.inj q)) (by decide) (by decide) ?_
            show Steps p.tables e below (T11.setTop (mkF m 46 #[.val (.ref a1), .val (.ref a2), .val (.ref w_INT)] [])) _
            refine XS.aloadN X11.here hx rfl (hb hby d2_46) rfl rfl ?_
            show Steps p.tables e below (T11.setTop (mkF m 47 #[.val (.ref a1), .val (.ref a2), .val (.ref w_INT)] [(.ref a1)])) _
            refine st14 _ ?_
            exact kt
          by_cases ha50 : a1 = w_LONG
          · obtain ⟨T16, X16, e16, st16⟩ := getS2 X14 hx hZ hown (host := "") (Or.inl (hw _ (List.mem_of_getElem? (i := 18) rfl))) Via.refl e14 S_LONG (g := (mkF m 60 #[.val (.ref a1), .val (.ref a2), .val (.ref w_INT)] [])) rfl (hb hby d2_60)
            obtain ⟨fs, hr, hrun, hended, hW, hsame⟩ := X16.leave (v := some (.ref w_LONG)) (fun h => by rw [Bd.returns] at h; cases h)
            refine ⟨_, _, pre0 _ ?_, hrun, hended, _, _, rfl, ?_, ⟨_, rfl⟩, hW, hsame.mono (by decide) (by decide)⟩
            · refine k15 _ ?_
              show Steps p.tables e below (T14.setTop (mkF m 50 #[.val (.ref a1), .val (.ref a2), .val (.ref w_INT)] [(.ref w_LONG), (.ref a1)])) _
              refine Jvm.RoadKit.acmp (g := (mkF m 50 #[.val (.ref a1), .val (.ref a2), .val (.ref w_INT)] [(.ref w_LONG), (.ref a1)])) X14 hx rfl rfl rfl (pc0 := 50) (pc' := 60) (same := true) rfl (hb hby d2_50) rfl (decide_eq_true (congrArg Value.ref ha50)) (by decide) (by decide) ?_
              show Steps p.tables e below (T14.setTop (mkF m 60 #[.val (.ref a1), .val (.ref a2), .val (.ref w_INT)] [])) _
              refine st16 _ ?_
              show Steps p.tables e below (T16.setTop (mkF m 63 #[.val (.ref a1), .val (.ref a2), .val (.ref w_INT)] [(.ref w_LONG)])) _
              refine XS.astoreN X16.here hx rfl (hb hby d2_63) rfl rfl (l' := #[.val (.ref a1), .val (.ref a2), .val (.ref w_LONG)]) rfl ?_
              show Steps p.tables e below (T16.setTop (mkF m 64 #[.val (.ref a1), .val (.ref a2), .val (.ref w_LONG)] [])) _
              refine XS.aloadN X16.here hx rfl (hb hby d2_64) rfl rfl ?_
              show Steps p.tables e below (T16.setTop (mkF m 65 #[.val (.ref a1), .val (.ref a2), .val (.ref w_LONG)] [(.ref w_LONG)])) _
              exact retOut X16 hx Bd.returns (by rfl) (Or.inr (Or.inr (Or.inr (Or.inr ⟨rfl, rfl, rfl⟩)))) (hb hby d2_65) hr
            · show Q_rm_pro Z a1 a2 w_INT w_LONG w_FLOAT w_DOUBLE h0 n0 _ T16.heap _
              rw [e16]
              exact ⟨(by unfold own_pro; rw [if_neg ha8, if_neg ha15, if_neg ha29, if_neg ha36, if_pos ha50]), N0, rfl⟩
          · obtain ⟨T17, X17, e17, st17⟩ := getS2 X14 hx hZ hown (host := "") (Or.inl (hw _ (List.mem_of_getElem? (i := 18) rfl))) Via.refl e14 S_LONG (g := (mkF m 54 #[.val (.ref a1), .val (.ref a2), .val (.ref w_INT)] [(.ref a2)])) rfl (hb hby d2_54)
            have k18 : ∀ target, Steps p.tables e below (T17.setTop (mkF m 57 #[.val (.ref a1), .val (.ref a2), .val (.ref w_INT)] [(.ref w_LONG), (.ref a2)])) target → Steps p.tables e below (s₁.setTop (mkF m 0 #[.val (.ref a1), .val (.ref a2), .unset] [])) target := by
              intro target kt
              refine k15 _ ?_
              show Steps p.tables e below (T14.setTop (mkF m 50 #[.val (.ref a1), .val (.ref a2), .val (.ref w_INT)] [(.ref w_LONG), (.ref a1)])) _
              refine Jvm.RoadKit.acmp (g := (mkF m 50 #[.val (.ref a1), .val (.ref a2), .val (.ref w_INT)] [(.ref w_LONG), (.ref a1)])) X14 hx rfl rfl rfl (pc0 := 50) (pc' := 53) (same := false) rfl (hb hby d2_50) rfl (decide_eq_false fun q => ha50 (Value.ref.inj q)) (by decide) (by decide) ?_
              show Steps p.tables e below (T14.setTop (mkF m 53 #[.val (.ref a1), .val (.ref a2), .val (.ref w_INT)] [])) _
              refine XS.aloadN X14.here hx rfl (hb hby d2_53) rfl rfl ?_
              show Steps p.tables e below (T14.setTop (mkF m 54 #[.val (.ref a1), .val (.ref a2), .val (.ref w_INT)] [(.ref a2)])) _
              refine st17 _ ?_
              exact kt
            by_cases ha57 : a2 = w_LONG
            · obtain ⟨T19, X19, e19, st19⟩ := getS2 X17 hx hZ hown (host := "") (Or.inl (hw _ (List.mem_of_getElem? (i := 18) rfl))) Via.refl e17 S_LONG (g := (mkF m 60 #[.val (.ref a1), .val (.ref a2), .val (.ref w_INT)] [])) rfl (hb hby d2_60)
              obtain ⟨fs, hr, hrun, hended, hW, hsame⟩ := X19.leave (v := some (.ref w_LONG)) (fun h => by rw [Bd.returns] at h; cases h)
              refine ⟨_, _, pre0 _ ?_, hrun, hended, _, _, rfl, ?_, ⟨_, rfl⟩, hW, hsame.mono (by decide) (by decide)⟩
              · refine k18 _ ?_
                show Steps p.tables e below (T17.setTop (mkF m 57 #[.val (.ref a1), .val (.ref a2), .val (.ref w_INT)] [(.ref w_LONG), (.ref a2)])) _
                refine Jvm.RoadKit.acmp (g := (mkF m 57 #[.val (.ref a1), .val (.ref a2), .val (.ref w_INT)] [(.ref w_LONG), (.ref a2)])) X17 hx rfl rfl rfl (pc0 := 57) (pc' := 60) (same := true) rfl (hb hby d2_57) rfl (decide_eq_true (congrArg Value.ref ha57)) (by decide) (by decide) ?_
                show Steps p.tables e below (T17.setTop (mkF m 60 #[.val (.ref a1), .val (.ref a2), .val (.ref w_INT)] [])) _
                refine st19 _ ?_
                show Steps p.tables e below (T19.setTop (mkF m 63 #[.val (.ref a1), .val (.ref a2), .val (.ref w_INT)] [(.ref w_LONG)])) _
                refine XS.astoreN X19.here hx rfl (hb hby d2_63) rfl rfl (l' := #[.val (.ref a1), .val (.ref a2), .val (.ref w_LONG)]) rfl ?_
                show Steps p.tables e below (T19.setTop (mkF m 64 #[.val (.ref a1), .val (.ref a2), .val (.ref w_LONG)] [])) _
                refine XS.aloadN X19.here hx rfl (hb hby d2_64) rfl rfl ?_
                show Steps p.tables e below (T19.setTop (mkF m 65 #[.val (.ref a1), .val (.ref a2), .val (.ref w_LONG)] [(.ref w_LONG)])) _
                exact retOut X19 hx Bd.returns (by rfl) (Or.inr (Or.inr (Or.inr (Or.inr ⟨rfl, rfl, rfl⟩)))) (hb hby d2_65) hr
              · show Q_rm_pro Z a1 a2 w_INT w_LONG w_FLOAT w_DOUBLE h0 n0 _ T19.heap _
                rw [e19]
                exact ⟨(by unfold own_pro; rw [if_neg ha8, if_neg ha15, if_neg ha29, if_neg ha36, if_neg ha50, if_pos ha57]), N0, rfl⟩
            · obtain ⟨fs, hr, hrun, hended, hW, hsame⟩ := X17.leave (v := some (.ref w_INT)) (fun h => by rw [Bd.returns] at h; cases h)
              refine ⟨_, _, pre0 _ ?_, hrun, hended, _, _, rfl, ?_, ⟨_, rfl⟩, hW, hsame.mono (by decide) (by decide)⟩
              · refine k18 _ ?_
                show Steps p.tables e below (T17.setTop (mkF m 57 #[.val (.ref a1), .val (.ref a2), .val (.ref w_INT)] [(.ref w_LONG), (.ref a2)])) _
                refine Jvm.RoadKit.acmp (g := (mkF m 57 #[.val (.ref a1), .val (.ref a2), .val (.ref w_INT)] [(.ref w_LONG), (.ref a2)])) X17 hx rfl rfl rfl (pc0 := 57) (pc' := 64) (same := false) rfl (hb hby d2_57) rfl (decide_eq_false fun q => ha57 (Value.ref.inj q)) (by decide) (by decide) ?_
                show Steps p.tables e below (T17.setTop (mkF m 64 #[.val (.ref a1), .val (.ref a2), .val (.ref w_INT)] [])) _
                refine XS.aloadN X17.here hx rfl (hb hby d2_64) rfl rfl ?_
                show Steps p.tables e below (T17.setTop (mkF m 65 #[.val (.ref a1), .val (.ref a2), .val (.ref w_INT)] [(.ref w_INT)])) _
                exact retOut X17 hx Bd.returns (by rfl) (Or.inr (Or.inr (Or.inr (Or.inr ⟨rfl, rfl, rfl⟩)))) (hb hby d2_65) hr
              · show Q_rm_pro Z a1 a2 w_INT w_LONG w_FLOAT w_DOUBLE h0 n0 _ T17.heap _
                rw [e17]
                exact ⟨(by unfold own_pro; rw [if_neg ha8, if_neg ha15, if_neg ha29, if_neg ha36, if_neg ha50, if_neg ha57]), N0, rfl⟩
theorem d3_0 : decode method_3_code 0 = .ok (.aload_n 0, 1) := by decide +kernel
theorem d3_1 : decode method_3_code 1 = .ok (.getstatic 29, 3) := by decide +kernel
theorem d3_4 : decode method_3_code 4 = .ok (.if_acmp .ne 5, 3) := by decide +kernel
theorem d3_7 : decode method_3_code 7 = .ok (.iconst 3, 1) := by decide +kernel
theorem d3_8 : decode method_3_code 8 = .ok (.ireturn, 1) := by decide +kernel
theorem d3_9 : decode method_3_code 9 = .ok (.aload_n 0, 1) := by decide +kernel
theorem d3_10 : decode method_3_code 10 = .ok (.getstatic 26, 3) := by decide +kernel
theorem d3_13 : decode method_3_code 13 = .ok (.if_acmp .ne 5, 3) := by decide +kernel
theorem d3_16 : decode method_3_code 16 = .ok (.iconst 2, 1) := by decide +kernel
theorem d3_17 : decode method_3_code 17 = .ok (.ireturn, 1) := by decide +kernel
theorem d3_18 : decode method_3_code 18 = .ok (.aload_n 0, 1) := by decide +kernel
theorem d3_19 : decode method_3_code 19 = .ok (.getstatic 23, 3) := by decide +kernel
theorem d3_22 : decode method_3_code 22 = .ok (.if_acmp .ne 5, 3) := by decide +kernel
theorem d3_25 : decode method_3_code 25 = .ok (.iconst 1, 1) := by decide +kernel
theorem d3_26 : decode method_3_code 26 = .ok (.ireturn, 1) := by decide +kernel
theorem d3_27 : decode method_3_code 27 = .ok (.iconst 0, 1) := by decide +kernel
theorem d3_28 : decode method_3_code 28 = .ok (.ireturn, 1) := by decide +kernel
theorem ef_3 (m : MethodId) (x0 : Addr) : entryFrame m #[(.ref x0)] 1 = mkF m 0 #[.val (.ref x0)] [] := by first | (simp [entryFrame, mkF, argsToLocals, Value.category]; done) | rfl
def Q_rm_rank (Z : State) (a1 : Addr) (w_LONG : Addr) (w_FLOAT : Addr) (w_DOUBLE : Addr) (h0 : Heap) (n0 : Nat) (v : Option Value) (h : Heap) (L : List Loc) : Prop := v = some (.int (own_rank a1 w_LONG w_FLOAT w_DOUBLE)) ∧ Fr n0 L ∧ h = h0
set_option maxRecDepth 65536 in
set_option maxHeartbeats 40000000 in
theorem rm_rank (l : Launch) (Z : State) (a0 : Array Value) (hw : ∀ d ∈ tables_1, d.before a0 Z = true) (ws : List Jvm.Cond) (a1 : Addr) (w_LONG : Addr) (w_FLOAT : Addr) (w_DOUBLE : Addr) (h0 : Heap) (n0 : Nat) (Z0 : n0 ≤ h0.size) (S_LONG : Sta Z h0 "com/example/ambit/ambit/Constant$Type" "LONG" "Lcom/example/ambit/ambit/Constant$Type;" (.ref w_LONG)) (S_FLOAT : Sta Z h0 "com/example/ambit/ambit/Constant$Type" "FLOAT" "Lcom/example/ambit/ambit/Constant$Type;" (.ref w_FLOAT)) (S_DOUBLE : Sta Z h0 "com/example/ambit/ambit/Constant$Type" "DOUBLE" "Lcom/example/ambit/ambit/Constant$Type;" (.ref w_DOUBLE)) :
    MetFree l (⟨"com/example/ambit/ambit/TypePromotedPinLaw", "rank", "(Lcom/example/ambit/ambit/Constant$Type;)I"⟩ : MethodName) (head1 (Jvm.Cond.code (⟨"com/example/ambit/ambit/TypePromotedPinLaw", "rank", "(Lcom/example/ambit/ambit/Constant$Type;)I"⟩ : MethodName) method_3_code 1 (some .int) :: ws) ({ frames := 0, cells := 0, slots := 0, locals := 0 } : Room)) (fun a U => a = #[(.ref a1)] ∧ Z.Warmed39 U.vm ∧ U.heap = h0) (fun _ _ _ _ _ => True) (fun _ U o U' => ∃ v L, o = .returned v ∧ Q_rm_rank Z a1 w_LONG w_FLOAT w_DOUBLE h0 n0 v U'.heap L ∧ FrameEnd U o U' L ({ frames := 0, cells := 0, slots := 0, locals := 0 } : Room).cells ({ frames := 0, cells := 0, slots := 0, locals := 0 } : Room).slots) := by
  refine MetFree.of_bodySF (plainFor_of_name pn_0) hisR ?_
  intro p e s m args below meth c s₁ Bd hml0 hP hK
  obtain ⟨rfl, hZ, hh⟩ := hP
  have hx := Bd.exec
  have hby := Bd.bytes
  have hml : c.maxLocals = 1 := hml0
  have hown : s.vm.findClass "com/example/ambit/ambit/TypePromotedPinLaw" = some m.cls := findClass_of_methodNamed Bd.named
  have hnm := (name_of_methodNamed Bd.named Bd.method).1
  have X0 : Stand p l e ({ frames := 0, cells := 0, slots := 0, locals := 0 } : Room) s m #[(.ref a1)] below meth c s₁ [] 0 0 := Stand.of_body Bd
  have e0 : s₁.heap = h0 := by rw [← hh, Bd.state]; rfl
  have N0 := Fr.nil n0
  have pre0 : ∀ t, Steps p.tables e below (s₁.setTop (mkF m 0 #[.val (.ref a1)] [])) t → Steps p.tables e below (s₁.setTop (entryFrame m #[(.ref a1)] 1)) t := fun t k => castTop (ef_3 m a1) k
  obtain ⟨T1, X1, e1, st1⟩ := getS2 X0 hx hZ hown (host := "") (Or.inl (hw _ (List.mem_of_getElem? (i := 23) rfl))) Via.refl e0 S_DOUBLE (g := (mkF m 1 #[.val (.ref a1)] [(.ref a1)])) rfl (hb hby d3_1)
  have k2 : ∀ target, Steps p.tables e below (T1.setTop (mkF m 4 #[.val (.ref a1)] [(.ref w_DOUBLE), (.ref a1)])) target → Steps p.tables e below (s₁.setTop (mkF m 0 #[.val (.ref a1)] [])) target := by
    intro target kt
    show Steps p.tables e below (s₁.setTop (mkF m 0 #[.val (.ref a1)] [])) _
    refine XS.aloadN X0.here hx rfl (hb hby d3_0) rfl rfl ?_
    show Steps p.tables e below (s₁.setTop (mkF m 1 #[.val (.ref a1)] [(.ref a1)])) _
    refine st1 _ ?_
    exact kt
  by_cases ha4 : a1 = w_DOUBLE
  · obtain ⟨fs, hr, hrun, hended, hW, hsame⟩ := X1.leave (v := some (.int (3 : Int32))) (fun h => by rw [Bd.returns] at h; cases h)
    refine ⟨_, _, pre0 _ ?_, hrun, hended, _, _, rfl, ?_, ⟨_, rfl⟩, hW, hsame.mono (by decide) (by decide)⟩
    · refine k2 _ ?_
      show Steps p.tables e below (T1.setTop (mkF m 4 #[.val (.ref a1)] [(.ref w_DOUBLE), (.ref a1)])) _
      refine Jvm.RoadKit.acmp (g := (mkF m 4 #[.val (.ref a1)] [(.ref w_DOUBLE), (.ref a1)])) X1 hx rfl rfl rfl (pc0 := 4) (pc' := 7) (same := true) rfl (hb hby d3_4) rfl (decide_eq_true (congrArg Value.ref ha4)) (by decide) (by decide) ?_
      show Steps p.tables e below (T1.setTop (mkF m 7 #[.val (.ref a1)] [])) _
      refine XS.iconst X1.here hx rfl (hb hby d3_7) ?_
      show Steps p.tables e below (T1.setTop (mkF m 8 #[.val (.ref a1)] [(.int (3 : Int32))])) _
      exact retI X1 hx Bd.returns (hb hby d3_8) hr
    · show Q_rm_rank Z a1 w_LONG w_FLOAT w_DOUBLE h0 n0 _ T1.heap _
      rw [e1]
      exact ⟨(by unfold own_rank; rw [if_pos ha4]), N0, rfl⟩
  · obtain ⟨T3, X3, e3, st3⟩ := getS2 X1 hx hZ hown (host := "") (Or.inl (hw _ (List.mem_of_getElem? (i := 24) rfl))) Via.refl e1 S_FLOAT (g := (mkF m 10 #[.val (.ref a1)] [(.ref a1)])) rfl (hb hby d3_10)
    have k4 : ∀ target, Steps p.tables e below (T3.setTop (mkF m 13 #[.val (.ref a1)] [(.ref w_FLOAT), (.ref a1)])) target → Steps p.tables e below (s₁.setTop (mkF m 0 #[.val (.ref a1)] [])) target := by
      intro target kt
      refine k2 _ ?_
      show Steps p.tables e below (T1.setTop (mkF m 4 #[.val (.ref a1)] [(.ref w_DOUBLE), (.ref a1)])) _
      refine Jvm.RoadKit.acmp (g := (mkF m 4 #[.val (.ref a1)] [(.ref w_DOUBLE), (.ref a1)])) X1 hx rfl rfl rfl (pc0 := 4) (pc' := 9) (same := false) rfl (hb hby d3_4) rfl (decide_eq_false fun q => ha4 (Value.ref.inj q)) (by decide) (by decide) ?_
      show Steps p.tables e below (T1.setTop (mkF m 9 #[.val (.ref a1)] [])) _
      refine XS.aloadN X1.here hx rfl (hb hby d3_9) rfl rfl ?_
      show Steps p.tables e below (T1.setTop (mkF m 10 #[.val (.ref a1)] [(.ref a1)])) _
      refine st3 _ ?_
      exact kt
    by_cases ha13 : a1 = w_FLOAT
    · obtain ⟨fs, hr, hrun, hended, hW, hsame⟩ := X3.leave (v := some (.int (2 : Int32))) (fun h => by rw [Bd.returns] at h; cases h)
      refine ⟨_, _, pre0 _ ?_, hrun, hended, _, _, rfl, ?_, ⟨_, rfl⟩, hW, hsame.mono (by decide) (by decide)⟩
      · refine k4 _ ?_
        show Steps p.tables e below (T3.setTop (mkF m 13 #[.val (.ref a1)] [(.ref w_FLOAT), (.ref a1)])) _
        refine Jvm.RoadKit.acmp (g := (mkF m 13 #[.val (.ref a1)] [(.ref w_FLOAT), (.ref a1)])) X3 hx rfl rfl rfl (pc0 := 13) (pc' := 16) (same := true) rfl (hb hby d3_13) rfl (decide_eq_true (congrArg Value.ref ha13)) (by decide) (by decide) ?_
        show Steps p.tables e below (T3.setTop (mkF m 16 #[.val (.ref a1)] [])) _
        refine XS.iconst X3.here hx rfl (hb hby d3_16) ?_
        show Steps p.tables e below (T3.setTop (mkF m 17 #[.val (.ref a1)] [(.int (2 : Int32))])) _
        exact retI X3 hx Bd.returns (hb hby d3_17) hr
      · show Q_rm_rank Z a1 w_LONG w_FLOAT w_DOUBLE h0 n0 _ T3.heap _
        rw [e3]
        exact ⟨(by unfold own_rank; rw [if_neg ha4, if_pos ha13]), N0, rfl⟩
    · obtain ⟨T5, X5, e5, st5⟩ := getS2 X3 hx hZ hown (host := "") (Or.inl (hw _ (List.mem_of_getElem? (i := 25) rfl))) Via.refl e3 S_LONG (g := (mkF m 19 #[.val (.ref a1)] [(.ref a1)])) rfl (hb hby d3_19)
      have k6 : ∀ target, Steps p.tables e below (T5.setTop (mkF m 22 #[.val (.ref a1)] [(.ref w_LONG), (.ref a1)])) target → Steps p.tables e below (s₁.setTop (mkF m 0 #[.val (.ref a1)] [])) target := by
        intro target kt
        refine k4 _ ?_
        show Steps p.tables e below (T3.setTop (mkF m 13 #[.val (.ref a1)] [(.ref w_FLOAT), (.ref a1)])) _
        refine Jvm.RoadKit.acmp (g := (mkF m 13 #[.val (.ref a1)] [(.ref w_FLOAT), (.ref a1)])) X3 hx rfl rfl rfl (pc0 := 13) (pc' := 18) (same := false) rfl (hb hby d3_13) rfl (decide_eq_false fun q => ha13 (Value.ref.inj q)) (by decide) (by decide) ?_
        show Steps p.tables e below (T3.setTop (mkF m 18 #[.val (.ref a1)] [])) _
        refine XS.aloadN X3.here hx rfl (hb hby d3_18) rfl rfl ?_
        show Steps p.tables e below (T3.setTop (mkF m 19 #[.val (.ref a1)] [(.ref a1)])) _
        refine st5 _ ?_
        exact kt
      by_cases ha22 : a1 = w_LONG
      · obtain ⟨fs, hr, hrun, hended, hW, hsame⟩ := X5.leave (v := some (.int (1 : Int32))) (fun h => by rw [Bd.returns] at h; cases h)
        refine ⟨_, _, pre0 _ ?_, hrun, hended, _, _, rfl, ?_, ⟨_, rfl⟩, hW, hsame.mono (by decide) (by decide)⟩
        · refine k6 _ ?_
          show Steps p.tables e below (T5.setTop (mkF m 22 #[.val (.ref a1)] [(.ref w_LONG), (.ref a1)])) _
          refine Jvm.RoadKit.acmp (g := (mkF m 22 #[.val (.ref a1)] [(.ref w_LONG), (.ref a1)])) X5 hx rfl rfl rfl (pc0 := 22) (pc' := 25) (same := true) rfl (hb hby d3_22) rfl (decide_eq_true (congrArg Value.ref ha22)) (by decide) (by decide) ?_
          show Steps p.tables e below (T5.setTop (mkF m 25 #[.val (.ref a1)] [])) _
          refine XS.iconst X5.here hx rfl (hb hby d3_25) ?_
          show Steps p.tables e below (T5.setTop (mkF m 26 #[.val (.ref a1)] [(.int (1 : Int32))])) _
          exact retI X5 hx Bd.returns (hb hby d3_26) hr
        · show Q_rm_rank Z a1 w_LONG w_FLOAT w_DOUBLE h0 n0 _ T5.heap _
          rw [e5]
          exact ⟨(by unfold own_rank; rw [if_neg ha4, if_neg ha13, if_pos ha22]), N0, rfl⟩
      · obtain ⟨fs, hr, hrun, hended, hW, hsame⟩ := X5.leave (v := some (.int (0 : Int32))) (fun h => by rw [Bd.returns] at h; cases h)
        refine ⟨_, _, pre0 _ ?_, hrun, hended, _, _, rfl, ?_, ⟨_, rfl⟩, hW, hsame.mono (by decide) (by decide)⟩
        · refine k6 _ ?_
          show Steps p.tables e below (T5.setTop (mkF m 22 #[.val (.ref a1)] [(.ref w_LONG), (.ref a1)])) _
          refine Jvm.RoadKit.acmp (g := (mkF m 22 #[.val (.ref a1)] [(.ref w_LONG), (.ref a1)])) X5 hx rfl rfl rfl (pc0 := 22) (pc' := 27) (same := false) rfl (hb hby d3_22) rfl (decide_eq_false fun q => ha22 (Value.ref.inj q)) (by decide) (by decide) ?_
          show Steps p.tables e below (T5.setTop (mkF m 27 #[.val (.ref a1)] [])) _
          refine XS.iconst X5.here hx rfl (hb hby d3_27) ?_
          show Steps p.tables e below (T5.setTop (mkF m 28 #[.val (.ref a1)] [(.int (0 : Int32))])) _
          exact retI X5 hx Bd.returns (hb hby d3_28) hr
        · show Q_rm_rank Z a1 w_LONG w_FLOAT w_DOUBLE h0 n0 _ T5.heap _
          rw [e5]
          exact ⟨(by unfold own_rank; rw [if_neg ha4, if_neg ha13, if_neg ha22]), N0, rfl⟩
theorem d4_0 : decode jdk_29_method_65_code 0 = .ok (.iload_n 0, 1) := by decide +kernel
theorem d4_1 : decode jdk_29_method_65_code 1 = .ok (.iload_n 1, 1) := by decide +kernel
theorem d4_2 : decode jdk_29_method_65_code 2 = .ok (.if_icmp .lt 7, 3) := by decide +kernel
theorem d4_9 : decode jdk_29_method_65_code 9 = .ok (.iload_n 1, 1) := by decide +kernel
theorem d4_10 : decode jdk_29_method_65_code 10 = .ok (.ireturn, 1) := by decide +kernel
theorem d4_5 : decode jdk_29_method_65_code 5 = .ok (.iload_n 0, 1) := by decide +kernel
theorem d4_6 : decode jdk_29_method_65_code 6 = .ok (.goto 4, 3) := by decide +kernel
theorem ef_4 (m : MethodId) (x0 : Int32) (x1 : Int32) : entryFrame m #[(.int x0), (.int x1)] 2 = mkF m 0 #[.val (.int x0), .val (.int x1)] [] := by first | (simp [entryFrame, mkF, argsToLocals, Value.category]; done) | rfl
def Q_rm_max (Z : State) (p1 : Int32) (p2 : Int32) (h0 : Heap) (n0 : Nat) (v : Option Value) (h : Heap) (L : List Loc) : Prop := v = some (.int (own_max p1 p2)) ∧ Fr n0 L ∧ h = h0
set_option maxRecDepth 65536 in
set_option maxHeartbeats 40000000 in
theorem rm_max (l : Launch) (Z : State) (a0 : Array Value) (hw : ∀ d ∈ tables_1, d.before a0 Z = true) (ws : List Jvm.Cond) (p1 : Int32) (p2 : Int32) (h0 : Heap) (n0 : Nat) (Z0 : n0 ≤ h0.size)  :
    MetFree l (⟨"java/lang/Math", "max", "(II)I"⟩ : MethodName) (head1 (Jvm.Cond.code (⟨"java/lang/Math", "max", "(II)I"⟩ : MethodName) jdk_29_method_65_code 2 (some .int) :: ws) ({ frames := 0, cells := 0, slots := 0, locals := 0 } : Room)) (fun a U => a = #[(.int p1), (.int p2)] ∧ Z.Warmed39 U.vm ∧ U.heap = h0) (fun _ _ _ _ _ => True) (fun _ U o U' => ∃ v L, o = .returned v ∧ Q_rm_max Z p1 p2 h0 n0 v U'.heap L ∧ FrameEnd U o U' L ({ frames := 0, cells := 0, slots := 0, locals := 0 } : Room).cells ({ frames := 0, cells := 0, slots := 0, locals := 0 } : Room).slots) := by
  refine MetFree.of_bodySF (Jvm.Free.JP.mathPlain rfl (by decide +kernel)) hisR ?_
  intro p e s m args below meth c s₁ Bd hml0 hP hK
  obtain ⟨rfl, hZ, hh⟩ := hP
  have hx := Bd.exec
  have hby := Bd.bytes
  have hml : c.maxLocals = 2 := hml0
  have hown : s.vm.findClass "java/lang/Math" = some m.cls := findClass_of_methodNamed Bd.named
  have hnm := (name_of_methodNamed Bd.named Bd.method).1
  have X0 : Stand p l e ({ frames := 0, cells := 0, slots := 0, locals := 0 } : Room) s m #[(.int p1), (.int p2)] below meth c s₁ [] 0 0 := Stand.of_body Bd
  have e0 : s₁.heap = h0 := by rw [← hh, Bd.state]; rfl
  have N0 := Fr.nil n0
  have pre0 : ∀ t, Steps p.tables e below (s₁.setTop (mkF m 0 #[.val (.int p1), .val (.int p2)] [])) t → Steps p.tables e below (s₁.setTop (entryFrame m #[(.int p1), (.int p2)] 2)) t := fun t k => castTop (ef_4 m p1 p2) k
  have k1 : ∀ target, Steps p.tables e below (s₁.setTop (mkF m 2 #[.val (.int p1), .val (.int p2)] [(.int p2), (.int p1)])) target → Steps p.tables e below (s₁.setTop (mkF m 0 #[.val (.int p1), .val (.int p2)] [])) target := by
    intro target kt
    show Steps p.tables e below (s₁.setTop (mkF m 0 #[.val (.int p1), .val (.int p2)] [])) _
    refine XS.iloadN X0.here hx rfl (hb hby d4_0) rfl ?_
    show Steps p.tables e below (s₁.setTop (mkF m 1 #[.val (.int p1), .val (.int p2)] [(.int p1)])) _
    refine XS.iloadN X0.here hx rfl (hb hby d4_1) rfl ?_
    exact kt
  by_cases hc2 : p1 < p2
  · obtain ⟨fs, hr, hrun, hended, hW, hsame⟩ := X0.leave (v := some (.int p2)) (fun h => by rw [Bd.returns] at h; cases h)
    refine ⟨_, _, pre0 _ ?_, hrun, hended, _, _, rfl, ?_, ⟨_, rfl⟩, hW, hsame.mono (by decide) (by decide)⟩
    · refine k1 _ ?_
      show Steps p.tables e below (s₁.setTop (mkF m 2 #[.val (.int p1), .val (.int p2)] [(.int p2), (.int p1)])) _
      refine XS.icmpYes X0.here hx rfl (pc0 := 2) (pc' := 9) rfl (hb hby d4_2) rfl (tlt hc2).1 (by decide) (by decide) ?_
      show Steps p.tables e below (s₁.setTop (mkF m 9 #[.val (.int p1), .val (.int p2)] [])) _
      refine XS.iloadN X0.here hx rfl (hb hby d4_9) rfl ?_
      show Steps p.tables e below (s₁.setTop (mkF m 10 #[.val (.int p1), .val (.int p2)] [(.int p2)])) _
      exact retI X0 hx Bd.returns (hb hby d4_10) hr
    · show Q_rm_max Z p1 p2 h0 n0 _ s₁.heap _
      rw [e0]
      exact ⟨(by unfold own_max; rw [if_pos hc2]), N0, rfl⟩
  · obtain ⟨fs, hr, hrun, hended, hW, hsame⟩ := X0.leave (v := some (.int p1)) (fun h => by rw [Bd.returns] at h; cases h)
    refine ⟨_, _, pre0 _ ?_, hrun, hended, _, _, rfl, ?_, ⟨_, rfl⟩, hW, hsame.mono (by decide) (by decide)⟩
    · refine k1 _ ?_
      show Steps p.tables e below (s₁.setTop (mkF m 2 #[.val (.int p1), .val (.int p2)] [(.int p2), (.int p1)])) _
      refine XS.icmpNo X0.here hx rfl (hb hby d4_2) rfl (flt hc2).1 ?_
      show Steps p.tables e below (s₁.setTop (mkF m 5 #[.val (.int p1), .val (.int p2)] [])) _
      refine XS.iloadN X0.here hx rfl (hb hby d4_5) rfl ?_
      show Steps p.tables e below (s₁.setTop (mkF m 6 #[.val (.int p1), .val (.int p2)] [(.int p1)])) _
      refine XS.goto X0.here hx rfl (pc0 := 6) (pc' := 10) rfl (hb hby d4_6) (by decide) (by decide) ?_
      show Steps p.tables e below (s₁.setTop (mkF m 10 #[.val (.int p1), .val (.int p2)] [(.int p1)])) _
      exact retI X0 hx Bd.returns (hb hby d4_10) hr
    · show Q_rm_max Z p1 p2 h0 n0 _ s₁.heap _
      rw [e0]
      exact ⟨(by unfold own_max; rw [if_neg hc2]), N0, rfl⟩
theorem d5_0 : decode method_4_code 0 = .ok (.iload_n 0, 1) := by decide +kernel
theorem d5_1 : decode method_4_code 1 = .ok (.iconst 3, 1) := by decide +kernel
theorem d5_2 : decode method_4_code 2 = .ok (.if_icmp .ne 7, 3) := by decide +kernel
theorem d5_5 : decode method_4_code 5 = .ok (.getstatic 29, 3) := by decide +kernel
theorem d5_8 : decode method_4_code 8 = .ok (.areturn, 1) := by decide +kernel
theorem d5_9 : decode method_4_code 9 = .ok (.iload_n 0, 1) := by decide +kernel
theorem d5_10 : decode method_4_code 10 = .ok (.iconst 2, 1) := by decide +kernel
theorem d5_11 : decode method_4_code 11 = .ok (.if_icmp .ne 7, 3) := by decide +kernel
theorem d5_14 : decode method_4_code 14 = .ok (.getstatic 26, 3) := by decide +kernel
theorem d5_17 : decode method_4_code 17 = .ok (.areturn, 1) := by decide +kernel
theorem d5_18 : decode method_4_code 18 = .ok (.iload_n 0, 1) := by decide +kernel
theorem d5_19 : decode method_4_code 19 = .ok (.iconst 1, 1) := by decide +kernel
theorem d5_20 : decode method_4_code 20 = .ok (.if_icmp .ne 7, 3) := by decide +kernel
theorem d5_23 : decode method_4_code 23 = .ok (.getstatic 23, 3) := by decide +kernel
theorem d5_26 : decode method_4_code 26 = .ok (.areturn, 1) := by decide +kernel
theorem d5_27 : decode method_4_code 27 = .ok (.getstatic 20, 3) := by decide +kernel
theorem d5_30 : decode method_4_code 30 = .ok (.areturn, 1) := by decide +kernel
theorem ef_5 (m : MethodId) (x0 : Int32) : entryFrame m #[(.int x0)] 1 = mkF m 0 #[.val (.int x0)] [] := by first | (simp [entryFrame, mkF, argsToLocals, Value.category]; done) | rfl
def Q_rm_of (Z : State) (p1 : Int32) (w_INT : Addr) (w_LONG : Addr) (w_FLOAT : Addr) (w_DOUBLE : Addr) (h0 : Heap) (n0 : Nat) (v : Option Value) (h : Heap) (L : List Loc) : Prop := v = some (.ref (own_of p1 w_INT w_LONG w_FLOAT w_DOUBLE)) ∧ Fr n0 L ∧ h = h0
set_option maxRecDepth 65536 in
set_option maxHeartbeats 40000000 in
theorem rm_of (l : Launch) (Z : State) (a0 : Array Value) (hw : ∀ d ∈ tables_1, d.before a0 Z = true) (ws : List Jvm.Cond) (p1 : Int32) (w_INT : Addr) (w_LONG : Addr) (w_FLOAT : Addr) (w_DOUBLE : Addr) (h0 : Heap) (n0 : Nat) (Z0 : n0 ≤ h0.size) (S_INT : Sta Z h0 "com/example/ambit/ambit/Constant$Type" "INT" "Lcom/example/ambit/ambit/Constant$Type;" (.ref w_INT)) (S_LONG : Sta Z h0 "com/example/ambit/ambit/Constant$Type" "LONG" "Lcom/example/ambit/ambit/Constant$Type;" (.ref w_LONG)) (S_FLOAT : Sta Z h0 "com/example/ambit/ambit/Constant$Type" "FLOAT" "Lcom/example/ambit/ambit/Constant$Type;" (.ref w_FLOAT)) (S_DOUBLE : Sta Z h0 "com/example/ambit/ambit/Constant$Type" "DOUBLE" "Lcom/example/ambit/ambit/Constant$Type;" (.ref w_DOUBLE)) :
    MetFree l (⟨"com/example/ambit/ambit/TypePromotedPinLaw", "ofRank", "(I)Lcom/example/ambit/ambit/Constant$Type;"⟩ : MethodName) (head1 (Jvm.Cond.code (⟨"com/example/ambit/ambit/TypePromotedPinLaw", "ofRank", "(I)Lcom/example/ambit/ambit/Constant$Type;"⟩ : MethodName) method_4_code 1 (some (.object "com/example/ambit/ambit/Constant$Type")) :: ws) ({ frames := 0, cells := 0, slots := 0, locals := 0 } : Room)) (fun a U => a = #[(.int p1)] ∧ Z.Warmed39 U.vm ∧ U.heap = h0) (fun _ _ _ _ _ => True) (fun _ U o U' => ∃ v L, o = .returned v ∧ Q_rm_of Z p1 w_INT w_LONG w_FLOAT w_DOUBLE h0 n0 v U'.heap L ∧ FrameEnd U o U' L ({ frames := 0, cells := 0, slots := 0, locals := 0 } : Room).cells ({ frames := 0, cells := 0, slots := 0, locals := 0 } : Room).slots) := by
  refine MetFree.of_bodySF (plainFor_of_name pn_0) hisR ?_
  intro p e s m args below meth c s₁ Bd hml0 hP hK
  obtain ⟨rfl, hZ, hh⟩ := hP
  have hx := Bd.exec
  have hby := Bd.bytes
  have hml : c.maxLocals = 1 := hml0
  have hown : s.vm.findClass "com/example/ambit/ambit/TypePromotedPinLaw" = some m.cls := findClass_of_methodNamed Bd.named
  have hnm := (name_of_methodNamed Bd.named Bd.method).1
  have X0 : Stand p l e ({ frames := 0, cells := 0, slots := 0, locals := 0 } : Room) s m #[(.int p1)] below meth c s₁ [] 0 0 := Stand.of_body Bd
  have e0 : s₁.heap = h0 := by rw [← hh, Bd.state]; rfl
  have N0 := Fr.nil n0
  have pre0 : ∀ t, Steps p.tables e below (s₁.setTop (mkF m 0 #[.val (.int p1)] [])) t → Steps p.tables e below (s₁.setTop (entryFrame m #[(.int p1)] 1)) t := fun t k => castTop (ef_5 m p1) k
  have k1 : ∀ target, Steps p.tables e below (s₁.setTop (mkF m 2 #[.val (.int p1)] [(.int (3 : Int32)), (.int p1)])) target → Steps p.tables e below (s₁.setTop (mkF m 0 #[.val (.int p1)] [])) target := by
    intro target kt
    show Steps p.tables e below (s₁.setTop (mkF m 0 #[.val (.int p1)] [])) _
    refine XS.iloadN X0.here hx rfl (hb hby d5_0) rfl ?_
    show Steps p.tables e below (s₁.setTop (mkF m 1 #[.val (.int p1)] [(.int p1)])) _
    refine XS.iconst X0.here hx rfl (hb hby d5_1) ?_
    exact kt
  by_cases hc2 : p1 = (3 : Int32)
  · obtain ⟨T2, X2, e2, st2⟩ := getS2 X0 hx hZ hown (host := "") (Or.inl (hw _ (List.mem_of_getElem? (i := 23) rfl))) Via.refl e0 S_DOUBLE (g := (mkF m 5 #[.val (.int p1)] [])) rfl (hb hby d5_5)
    obtain ⟨fs, hr, hrun, hended, hW, hsame⟩ := X2.leave (v := some (.ref w_DOUBLE)) (fun h => by rw [Bd.returns] at h; cases h)
    refine ⟨_, _, pre0 _ ?_, hrun, hended, _, _, rfl, ?_, ⟨_, rfl⟩, hW, hsame.mono (by decide) (by decide)⟩
    · refine k1 _ ?_
      show Steps p.tables e below (s₁.setTop (mkF m 2 #[.val (.int p1)] [(.int (3 : Int32)), (.int p1)])) _
      refine XS.icmpNo X0.here hx rfl (hb hby d5_2) rfl (teq hc2).2 ?_
      show Steps p.tables e below (s₁.setTop (mkF m 5 #[.val (.int p1)] [])) _
      refine st2 _ ?_
      show Steps p.tables e below (T2.setTop (mkF m 8 #[.val (.int p1)] [(.ref w_DOUBLE)])) _
      exact retOut X2 hx Bd.returns (by rfl) (Or.inr (Or.inr (Or.inr (Or.inr ⟨rfl, rfl, rfl⟩)))) (hb hby d5_8) hr
    · show Q_rm_of Z p1 w_INT w_LONG w_FLOAT w_DOUBLE h0 n0 _ T2.heap _
      rw [e2]
      exact ⟨(by unfold own_of; rw [if_pos hc2]), N0, rfl⟩
  · have k3 : ∀ target, Steps p.tables e below (s₁.setTop (mkF m 11 #[.val (.int p1)] [(.int (2 : Int32)), (.int p1)])) target → Steps p.tables e below (s₁.setTop (mkF m 0 #[.val (.int p1)] [])) target := by
      intro target kt
      refine k1 _ ?_
      show Steps p.tables e below (s₁.setTop (mkF m 2 #[.val (.int p1)] [(.int (3 : Int32)), (.int p1)])) _
      refine XS.icmpYes X0.here hx rfl (pc0 := 2) (pc' := 9) rfl (hb hby d5_2) rfl (feq hc2).2 (by decide) (by decide) ?_
      show Steps p.tables e below (s₁.setTop (mkF m 9 #[.val (.int p1)] [])) _
      refine XS.iloadN X0.here hx rfl (hb hby d5_9) rfl ?_
      show Steps p.tables e below (s₁.setTop (mkF m 10 #[.val (.int p1)] [(.int p1)])) _
      refine XS.iconst X0.here hx rfl (hb hby d5_10) ?_
      exact kt
    by_cases hc11 : p1 = (2 : Int32)
    · obtain ⟨T4, X4, e4, st4⟩ := getS2 X0 hx hZ hown (host := "") (Or.inl (hw _ (List.mem_of_getElem? (i := 24) rfl))) Via.refl e0 S_FLOAT (g := (mkF m 14 #[.val (.int p1)] [])) rfl (hb hby d5_14)
      obtain ⟨fs, hr, hrun, hended, hW, hsame⟩ := X4.leave (v := some (.ref w_FLOAT)) (fun h => by rw [Bd.returns] at h; cases h)
      refine ⟨_, _, pre0 _ ?_, hrun, hended, _, _, rfl, ?_, ⟨_, rfl⟩, hW, hsame.mono (by decide) (by decide)⟩
      · refine k3 _ ?_
        show Steps p.tables e below (s₁.setTop (mkF m 11 #[.val (.int p1)] [(.int (2 : Int32)), (.int p1)])) _
        refine XS.icmpNo X0.here hx rfl (hb hby d5_11) rfl (teq hc11).2 ?_
        show Steps p.tables e below (s₁.setTop (mkF m 14 #[.val (.int p1)] [])) _
        refine st4 _ ?_
        show Steps p.tables e below (T4.setTop (mkF m 17 #[.val (.int p1)] [(.ref w_FLOAT)])) _
        exact retOut X4 hx Bd.returns (by rfl) (Or.inr (Or.inr (Or.inr (Or.inr ⟨rfl, rfl, rfl⟩)))) (hb hby d5_17) hr
      · show Q_rm_of Z p1 w_INT w_LONG w_FLOAT w_DOUBLE h0 n0 _ T4.heap _
        rw [e4]
        exact ⟨(by unfold own_of; rw [if_neg hc2, if_pos hc11]), N0, rfl⟩
    · have k5 : ∀ target, Steps p.tables e below (s₁.setTop (mkF m 20 #[.val (.int p1)] [(.int (1 : Int32)), (.int p1)])) target → Steps p.tables e below (s₁.setTop (mkF m 0 #[.val (.int p1)] [])) target := by
        intro target kt
        refine k3 _ ?_
        show Steps p.tables e below (s₁.setTop (mkF m 11 #[.val (.int p1)] [(.int (2 : Int32)), (.int p1)])) _
        refine XS.icmpYes X0.here hx rfl (pc0 := 11) (pc' := 18) rfl (hb hby d5_11) rfl (feq hc11).2 (by decide) (by decide) ?_
        show Steps p.tables e below (s₁.setTop (mkF m 18 #[.val (.int p1)] [])) _
        refine XS.iloadN X0.here hx rfl (hb hby d5_18) rfl ?_
        show Steps p.tables e below (s₁.setTop (mkF m 19 #[.val (.int p1)] [(.int p1)])) _
        refine XS.iconst X0.here hx rfl (hb hby d5_19) ?_
        exact kt
      by_cases hc20 : p1 = (1 : Int32)
      · obtain ⟨T6, X6, e6, st6⟩ := getS2 X0 hx hZ hown (host := "") (Or.inl (hw _ (List.mem_of_getElem? (i := 25) rfl))) Via.refl e0 S_LONG (g := (mkF m 23 #[.val (.int p1)] [])) rfl (hb hby d5_23)
        obtain ⟨fs, hr, hrun, hended, hW, hsame⟩ := X6.leave (v := some (.ref w_LONG)) (fun h => by rw [Bd.returns] at h; cases h)
        refine ⟨_, _, pre0 _ ?_, hrun, hended, _, _, rfl, ?_, ⟨_, rfl⟩, hW, hsame.mono (by decide) (by decide)⟩
        · refine k5 _ ?_
          show Steps p.tables e below (s₁.setTop (mkF m 20 #[.val (.int p1)] [(.int (1 : Int32)), (.int p1)])) _
          refine XS.icmpNo X0.here hx rfl (hb hby d5_20) rfl (teq hc20).2 ?_
          show Steps p.tables e below (s₁.setTop (mkF m 23 #[.val (.int p1)] [])) _
          refine st6 _ ?_
          show Steps p.tables e below (T6.setTop (mkF m 26 #[.val (.int p1)] [(.ref w_LONG)])) _
          exact retOut X6 hx Bd.returns (by rfl) (Or.inr (Or.inr (Or.inr (Or.inr ⟨rfl, rfl, rfl⟩)))) (hb hby d5_26) hr
        · show Q_rm_of Z p1 w_INT w_LONG w_FLOAT w_DOUBLE h0 n0 _ T6.heap _
          rw [e6]
          exact ⟨(by unfold own_of; rw [if_neg hc2, if_neg hc11, if_pos hc20]), N0, rfl⟩
      · obtain ⟨T7, X7, e7, st7⟩ := getS2 X0 hx hZ hown (host := "") (Or.inl (hw _ (List.mem_of_getElem? (i := 8) rfl))) Via.refl e0 S_INT (g := (mkF m 27 #[.val (.int p1)] [])) rfl (hb hby d5_27)
        obtain ⟨fs, hr, hrun, hended, hW, hsame⟩ := X7.leave (v := some (.ref w_INT)) (fun h => by rw [Bd.returns] at h; cases h)
        refine ⟨_, _, pre0 _ ?_, hrun, hended, _, _, rfl, ?_, ⟨_, rfl⟩, hW, hsame.mono (by decide) (by decide)⟩
        · refine k5 _ ?_
          show Steps p.tables e below (s₁.setTop (mkF m 20 #[.val (.int p1)] [(.int (1 : Int32)), (.int p1)])) _
          refine XS.icmpYes X0.here hx rfl (pc0 := 20) (pc' := 27) rfl (hb hby d5_20) rfl (feq hc20).2 (by decide) (by decide) ?_
          show Steps p.tables e below (s₁.setTop (mkF m 27 #[.val (.int p1)] [])) _
          refine st7 _ ?_
          show Steps p.tables e below (T7.setTop (mkF m 30 #[.val (.int p1)] [(.ref w_INT)])) _
          exact retOut X7 hx Bd.returns (by rfl) (Or.inr (Or.inr (Or.inr (Or.inr ⟨rfl, rfl, rfl⟩)))) (hb hby d5_30) hr
        · show Q_rm_of Z p1 w_INT w_LONG w_FLOAT w_DOUBLE h0 n0 _ T7.heap _
          rw [e7]
          exact ⟨(by unfold own_of; rw [if_neg hc2, if_neg hc11, if_neg hc20]), N0, rfl⟩
theorem pd_0 : parseMethodDescriptor "(I)Lcom/example/ambit/ambit/Constant$Type;" = some ⟨[.int], some (.object "com/example/ambit/ambit/Constant$Type")⟩ := by decide +kernel
theorem pd_1 : parseMethodDescriptor "(Lcom/example/ambit/ambit/Constant$Type;Lcom/example/ambit/ambit/Constant$Type;)Lcom/example/ambit/ambit/Constant$Type;" = some ⟨[(.object "com/example/ambit/ambit/Constant$Type"), (.object "com/example/ambit/ambit/Constant$Type")], some (.object "com/example/ambit/ambit/Constant$Type")⟩ := by decide +kernel
theorem pd_2 : parseMethodDescriptor "(Lcom/example/ambit/ambit/Constant$Type;)I" = some ⟨[(.object "com/example/ambit/ambit/Constant$Type")], some .int⟩ := by decide +kernel
theorem pd_3 : parseMethodDescriptor "(II)I" = some ⟨[.int, .int], some .int⟩ := by decide +kernel
theorem ef_0 (m : MethodId) (x0 : Int32) (x1 : Int32) : entryFrame m #[(.int x0), (.int x1)] maxLocals = mkF m 0 #[.val (.int x0), .val (.int x1), .unset, .unset, .unset, .unset, .unset] [] := by first | (simp [entryFrame, mkF, argsToLocals, Value.category, maxLocals]; done) | rfl
def Q_rm_law (Z : State) (p0 : Int32) (p1 : Int32) (w_CHAR : Addr) (w_BYTE : Addr) (w_SHORT : Addr) (w_INT : Addr) (w_LONG : Addr) (w_FLOAT : Addr) (w_DOUBLE : Addr) (h0 : Heap) (n0 : Nat) (v : Option Value) (h : Heap) (L : List Loc) : Prop := v = some (.int (1 : Int32)) ∧ Fr n0 L ∧ h = h0
set_option maxRecDepth 65536 in
set_option maxHeartbeats 40000000 in
theorem rm_law (l : Launch) (Z : State) (a0 : Array Value) (hw : ∀ d ∈ tables_1, d.before a0 Z = true) (ws : List Jvm.Cond) (p0 : Int32) (p1 : Int32) (w_CHAR : Addr) (w_BYTE : Addr) (w_SHORT : Addr) (w_INT : Addr) (w_LONG : Addr) (w_FLOAT : Addr) (w_DOUBLE : Addr) (h0 : Heap) (n0 : Nat) (Z0 : n0 ≤ h0.size) (S_CHAR : Sta Z h0 "com/example/ambit/ambit/Constant$Type" "CHAR" "Lcom/example/ambit/ambit/Constant$Type;" (.ref w_CHAR)) (S_BYTE : Sta Z h0 "com/example/ambit/ambit/Constant$Type" "BYTE" "Lcom/example/ambit/ambit/Constant$Type;" (.ref w_BYTE)) (S_SHORT : Sta Z h0 "com/example/ambit/ambit/Constant$Type" "SHORT" "Lcom/example/ambit/ambit/Constant$Type;" (.ref w_SHORT)) (S_INT : Sta Z h0 "com/example/ambit/ambit/Constant$Type" "INT" "Lcom/example/ambit/ambit/Constant$Type;" (.ref w_INT)) (S_LONG : Sta Z h0 "com/example/ambit/ambit/Constant$Type" "LONG" "Lcom/example/ambit/ambit/Constant$Type;" (.ref w_LONG)) (S_FLOAT : Sta Z h0 "com/example/ambit/ambit/Constant$Type" "FLOAT" "Lcom/example/ambit/ambit/Constant$Type;" (.ref w_FLOAT)) (S_DOUBLE : Sta Z h0 "com/example/ambit/ambit/Constant$Type" "DOUBLE" "Lcom/example/ambit/ambit/Constant$Type;" (.ref w_DOUBLE)) :
    MetFree l x (head1 (Jvm.Cond.code x code maxLocals ret :: ws) room_1) (fun a U => a = #[(.int p0), (.int p1)] ∧ Z.Warmed39 U.vm ∧ U.heap = h0) (fun _ _ _ _ _ => True) (fun _ U o U' => ∃ v L, o = .returned v ∧ Q_rm_law Z p0 p1 w_CHAR w_BYTE w_SHORT w_INT w_LONG w_FLOAT w_DOUBLE h0 n0 v U'.heap L ∧ FrameEnd U o U' L room_1.cells room_1.slots) := by
  refine MetFree.of_bodySF (plainFor_of_name pn_0) hisR ?_
  intro p e s m args below meth c s₁ Bd hml0 hP hK
  obtain ⟨rfl, hZ, hh⟩ := hP
  have hx := Bd.exec
  have hby := Bd.bytes
  have hml : c.maxLocals = 7 := hml0
  have hown : s.vm.findClass "com/example/ambit/ambit/TypePromotedPinLaw" = some m.cls := findClass_of_methodNamed Bd.named
  have hnm := (name_of_methodNamed Bd.named Bd.method).1
  have X0 : Stand p l e room_1 s m #[(.int p0), (.int p1)] below meth c s₁ [] 0 0 := Stand.of_body Bd
  have e0 : s₁.heap = h0 := by rw [← hh, Bd.state]; rfl
  have N0 := Fr.nil n0
  have pre0 : ∀ t, Steps p.tables e below (s₁.setTop (mkF m 0 #[.val (.int p0), .val (.int p1), .unset, .unset, .unset, .unset, .unset] [])) t → Steps p.tables e below (s₁.setTop (entryFrame m #[(.int p0), (.int p1)] maxLocals)) t := fun t k => castTop (ef_0 m p0 p1) k
  obtain ⟨_, _, ⟨T1, L1, k1, n1⟩, -, X1, ⟨Lc1, hQ1, l1, y1, z1⟩, st1⟩ := Jvm.LawKit.callS X0 hx (y := (⟨"com/example/ambit/ambit/TypePromotedPinLaw", "numeric", "(I)Lcom/example/ambit/ambit/Constant$Type;"⟩ : MethodName)) hown (mvT hZ (hw _ (List.mem_of_getElem? (i := 0) rfl))) (mvT hZ (hw _ (List.mem_of_getElem? (i := 1) rfl))) (mvT hZ (hw _ (List.mem_of_getElem? (i := 2) rfl))) (mvT hZ (hw _ (List.mem_of_getElem? (i := 3) rfl))) (by decide) (backOf (W := 0) (rm_num l Z a0 hw [] p0 w_CHAR w_BYTE w_SHORT w_INT w_LONG w_FLOAT w_DOUBLE h0 n0 Z0 S_CHAR S_BYTE S_SHORT S_INT S_LONG S_FLOAT S_DOUBLE) hZ (hw _ (List.mem_of_getElem? (i := 3) rfl)) (hw _ (List.mem_of_getElem? (i := 2) rfl)) (by decide) (by decide)) (g := (mkF m 1 #[.val (.int p0), .val (.int p1), .unset, .unset, .unset, .unset, .unset] [(.int p0)])) rfl (by rw [hml]; rfl) (argsL := [(.int p0)]) (rest := []) (lenOf pd_0 rfl) rfl (by show 2 * 0 + _ ≤ _; exact Nat.le_of_eq rfl) (hb hby at_1) (fun _ _ => ⟨rfl, e0, (by decide : 0 + 0 ≤ _), (by decide : 0 + 0 ≤ _)⟩)
  dsimp only [Pt.U, Pt.locs, Pt.cells, Pt.slots] at X1 l1 y1 z1 st1 hQ1
  subst l1 y1 z1
  obtain ⟨rfl, N1q, e1⟩ := hQ1
  have N1 := Fr.app N0 N1q
  obtain ⟨_, _, ⟨T2, L2, k2, n2⟩, -, X2, ⟨Lc2, hQ2, l2, y2, z2⟩, st2⟩ := Jvm.LawKit.callS X1 hx (y := (⟨"com/example/ambit/ambit/TypePromotedPinLaw", "numeric", "(I)Lcom/example/ambit/ambit/Constant$Type;"⟩ : MethodName)) hown (mvT hZ (hw _ (List.mem_of_getElem? (i := 0) rfl))) (mvT hZ (hw _ (List.mem_of_getElem? (i := 1) rfl))) (mvT hZ (hw _ (List.mem_of_getElem? (i := 2) rfl))) (mvT hZ (hw _ (List.mem_of_getElem? (i := 3) rfl))) (by decide) (backOf (W := 0) (rm_num l Z a0 hw [] p1 w_CHAR w_BYTE w_SHORT w_INT w_LONG w_FLOAT w_DOUBLE h0 n0 Z0 S_CHAR S_BYTE S_SHORT S_INT S_LONG S_FLOAT S_DOUBLE) hZ (hw _ (List.mem_of_getElem? (i := 3) rfl)) (hw _ (List.mem_of_getElem? (i := 2) rfl)) (by decide) (by decide)) (g := (mkF m 6 #[.val (.int p0), .val (.int p1), .val (.ref (own_num p0 w_CHAR w_BYTE w_SHORT w_INT w_LONG w_FLOAT w_DOUBLE)), .unset, .unset, .unset, .unset] [(.int p1)])) rfl (by rw [hml]; rfl) (argsL := [(.int p1)]) (rest := []) (lenOf pd_0 rfl) rfl (by show 2 * 0 + _ ≤ _; exact Nat.le_of_eq rfl) (hb hby at_6) (fun _ _ => ⟨rfl, e1, (by decide : 0 + 0 ≤ _), (by decide : 0 + 0 ≤ _)⟩)
  dsimp only [Pt.U, Pt.locs, Pt.cells, Pt.slots] at X2 l2 y2 z2 st2 hQ2
  subst l2 y2 z2
  obtain ⟨rfl, N2q, e2⟩ := hQ2
  have N2 := Fr.app N1 N2q
  obtain ⟨_, _, ⟨T3, L3, k3, n3⟩, -, X3, ⟨Lc3, hQ3, l3, y3, z3⟩, st3⟩ := Jvm.LawKit.callS X2 hx (y := (⟨"com/example/ambit/ambit/Constant$Type", "promoted", "(Lcom/example/ambit/ambit/Constant$Type;Lcom/example/ambit/ambit/Constant$Type;)Lcom/example/ambit/ambit/Constant$Type;"⟩ : MethodName)) hown (mvT hZ (hw _ (List.mem_of_getElem? (i := 10) rfl))) (mvT hZ (hw _ (List.mem_of_getElem? (i := 11) rfl))) (mvT hZ (hw _ (List.mem_of_getElem? (i := 6) rfl))) (mvT hZ (hw _ (List.mem_of_getElem? (i := 12) rfl))) (by decide) (backOf (W := 0) (rm_pro l Z a0 hw [] (own_num p0 w_CHAR w_BYTE w_SHORT w_INT w_LONG w_FLOAT w_DOUBLE) (own_num p1 w_CHAR w_BYTE w_SHORT w_INT w_LONG w_FLOAT w_DOUBLE) w_INT w_LONG w_FLOAT w_DOUBLE h0 n0 Z0 S_INT S_LONG S_FLOAT S_DOUBLE) hZ (hw _ (List.mem_of_getElem? (i := 12) rfl)) (hw _ (List.mem_of_getElem? (i := 6) rfl)) (by decide) (by decide)) (g := (mkF m 12 #[.val (.int p0), .val (.int p1), .val (.ref (own_num p0 w_CHAR w_BYTE w_SHORT w_INT w_LONG w_FLOAT w_DOUBLE)), .val (.ref (own_num p1 w_CHAR w_BYTE w_SHORT w_INT w_LONG w_FLOAT w_DOUBLE)), .unset, .unset, .unset] [(.ref (own_num p1 w_CHAR w_BYTE w_SHORT w_INT w_LONG w_FLOAT w_DOUBLE)), (.ref (own_num p0 w_CHAR w_BYTE w_SHORT w_INT w_LONG w_FLOAT w_DOUBLE))])) rfl (by rw [hml]; rfl) (argsL := [(.ref (own_num p0 w_CHAR w_BYTE w_SHORT w_INT w_LONG w_FLOAT w_DOUBLE)), (.ref (own_num p1 w_CHAR w_BYTE w_SHORT w_INT w_LONG w_FLOAT w_DOUBLE))]) (rest := []) (lenOf pd_1 rfl) rfl (by show 2 * 0 + _ ≤ _; exact Nat.le_of_eq rfl) (hb hby at_12) (fun _ _ => ⟨rfl, e2, (by decide : 0 + 0 ≤ _), (by decide : 0 + 0 ≤ _)⟩)
  dsimp only [Pt.U, Pt.locs, Pt.cells, Pt.slots] at X3 l3 y3 z3 st3 hQ3
  subst l3 y3 z3
  obtain ⟨rfl, N3q, e3⟩ := hQ3
  have N3 := Fr.app N2 N3q
  obtain ⟨_, _, ⟨T4, L4, k4, n4⟩, -, X4, ⟨Lc4, hQ4, l4, y4, z4⟩, st4⟩ := Jvm.LawKit.callS X3 hx (y := (⟨"com/example/ambit/ambit/Constant$Type", "promoted", "(Lcom/example/ambit/ambit/Constant$Type;Lcom/example/ambit/ambit/Constant$Type;)Lcom/example/ambit/ambit/Constant$Type;"⟩ : MethodName)) hown (mvT hZ (hw _ (List.mem_of_getElem? (i := 10) rfl))) (mvT hZ (hw _ (List.mem_of_getElem? (i := 11) rfl))) (mvT hZ (hw _ (List.mem_of_getElem? (i := 6) rfl))) (mvT hZ (hw _ (List.mem_of_getElem? (i := 12) rfl))) (by decide) (backOf (W := 0) (rm_pro l Z a0 hw [] (own_num p1 w_CHAR w_BYTE w_SHORT w_INT w_LONG w_FLOAT w_DOUBLE) (own_num p0 w_CHAR w_BYTE w_SHORT w_INT w_LONG w_FLOAT w_DOUBLE) w_INT w_LONG w_FLOAT w_DOUBLE h0 n0 Z0 S_INT S_LONG S_FLOAT S_DOUBLE) hZ (hw _ (List.mem_of_getElem? (i := 12) rfl)) (hw _ (List.mem_of_getElem? (i := 6) rfl)) (by decide) (by decide)) (g := (mkF m 19 #[.val (.int p0), .val (.int p1), .val (.ref (own_num p0 w_CHAR w_BYTE w_SHORT w_INT w_LONG w_FLOAT w_DOUBLE)), .val (.ref (own_num p1 w_CHAR w_BYTE w_SHORT w_INT w_LONG w_FLOAT w_DOUBLE)), .val (.ref (own_pro (own_num p0 w_CHAR w_BYTE w_SHORT w_INT w_LONG w_FLOAT w_DOUBLE) (own_num p1 w_CHAR w_BYTE w_SHORT w_INT w_LONG w_FLOAT w_DOUBLE) w_INT w_LONG w_FLOAT w_DOUBLE)), .unset, .unset] [(.ref (own_num p0 w_CHAR w_BYTE w_SHORT w_INT w_LONG w_FLOAT w_DOUBLE)), (.ref (own_num p1 w_CHAR w_BYTE w_SHORT w_INT w_LONG w_FLOAT w_DOUBLE))])) rfl (by rw [hml]; rfl) (argsL := [(.ref (own_num p1 w_CHAR w_BYTE w_SHORT w_INT w_LONG w_FLOAT w_DOUBLE)), (.ref (own_num p0 w_CHAR w_BYTE w_SHORT w_INT w_LONG w_FLOAT w_DOUBLE))]) (rest := []) (lenOf pd_1 rfl) rfl (by show 2 * 0 + _ ≤ _; exact Nat.le_of_eq rfl) (hb hby at_19) (fun _ _ => ⟨rfl, e3, (by decide : 0 + 0 ≤ _), (by decide : 0 + 0 ≤ _)⟩)
  dsimp only [Pt.U, Pt.locs, Pt.cells, Pt.slots] at X4 l4 y4 z4 st4 hQ4
  subst l4 y4 z4
  obtain ⟨rfl, N4q, e4⟩ := hQ4
  have N4 := Fr.app N3 N4q
  obtain ⟨_, _, ⟨T5, L5, k5, n5⟩, -, X5, ⟨Lc5, hQ5, l5, y5, z5⟩, st5⟩ := Jvm.LawKit.callS X4 hx (y := (⟨"com/example/ambit/ambit/TypePromotedPinLaw", "rank", "(Lcom/example/ambit/ambit/Constant$Type;)I"⟩ : MethodName)) hown (mvT hZ (hw _ (List.mem_of_getElem? (i := 20) rfl))) (mvT hZ (hw _ (List.mem_of_getElem? (i := 21) rfl))) (mvT hZ (hw _ (List.mem_of_getElem? (i := 2) rfl))) (mvT hZ (hw _ (List.mem_of_getElem? (i := 22) rfl))) (by decide) (backOf (W := 0) (rm_rank l Z a0 hw [] (own_num p0 w_CHAR w_BYTE w_SHORT w_INT w_LONG w_FLOAT w_DOUBLE) w_LONG w_FLOAT w_DOUBLE h0 n0 Z0 S_LONG S_FLOAT S_DOUBLE) hZ (hw _ (List.mem_of_getElem? (i := 22) rfl)) (hw _ (List.mem_of_getElem? (i := 2) rfl)) (by decide) (by decide)) (g := (mkF m 25 #[.val (.int p0), .val (.int p1), .val (.ref (own_num p0 w_CHAR w_BYTE w_SHORT w_INT w_LONG w_FLOAT w_DOUBLE)), .val (.ref (own_num p1 w_CHAR w_BYTE w_SHORT w_INT w_LONG w_FLOAT w_DOUBLE)), .val (.ref (own_pro (own_num p0 w_CHAR w_BYTE w_SHORT w_INT w_LONG w_FLOAT w_DOUBLE) (own_num p1 w_CHAR w_BYTE w_SHORT w_INT w_LONG w_FLOAT w_DOUBLE) w_INT w_LONG w_FLOAT w_DOUBLE)), .val (.ref (own_pro (own_num p1 w_CHAR w_BYTE w_SHORT w_INT w_LONG w_FLOAT w_DOUBLE) (own_num p0 w_CHAR w_BYTE w_SHORT w_INT w_LONG w_FLOAT w_DOUBLE) w_INT w_LONG w_FLOAT w_DOUBLE)), .unset] [(.ref (own_num p0 w_CHAR w_BYTE w_SHORT w_INT w_LONG w_FLOAT w_DOUBLE))])) rfl (by rw [hml]; rfl) (argsL := [(.ref (own_num p0 w_CHAR w_BYTE w_SHORT w_INT w_LONG w_FLOAT w_DOUBLE))]) (rest := []) (lenOf pd_2 rfl) rfl (by show 2 * 0 + _ ≤ _; exact Nat.le_of_eq rfl) (hb hby at_25) (fun _ _ => ⟨rfl, e4, (by decide : 0 + 0 ≤ _), (by decide : 0 + 0 ≤ _)⟩)
  dsimp only [Pt.U, Pt.locs, Pt.cells, Pt.slots] at X5 l5 y5 z5 st5 hQ5
  subst l5 y5 z5
  obtain ⟨rfl, N5q, e5⟩ := hQ5
  have N5 := Fr.app N4 N5q
  obtain ⟨_, _, ⟨T6, L6, k6, n6⟩, -, X6, ⟨Lc6, hQ6, l6, y6, z6⟩, st6⟩ := Jvm.LawKit.callS X5 hx (y := (⟨"com/example/ambit/ambit/TypePromotedPinLaw", "rank", "(Lcom/example/ambit/ambit/Constant$Type;)I"⟩ : MethodName)) hown (mvT hZ (hw _ (List.mem_of_getElem? (i := 20) rfl))) (mvT hZ (hw _ (List.mem_of_getElem? (i := 21) rfl))) (mvT hZ (hw _ (List.mem_of_getElem? (i := 2) rfl))) (mvT hZ (hw _ (List.mem_of_getElem? (i := 22) rfl))) (by decide) (backOf (W := 1) (rm_rank l Z a0 hw [] (own_num p1 w_CHAR w_BYTE w_SHORT w_INT w_LONG w_FLOAT w_DOUBLE) w_LONG w_FLOAT w_DOUBLE h0 n0 Z0 S_LONG S_FLOAT S_DOUBLE) hZ (hw _ (List.mem_of_getElem? (i := 22) rfl)) (hw _ (List.mem_of_getElem? (i := 2) rfl)) (by decide) (by decide)) (g := (mkF m 29 #[.val (.int p0), .val (.int p1), .val (.ref (own_num p0 w_CHAR w_BYTE w_SHORT w_INT w_LONG w_FLOAT w_DOUBLE)), .val (.ref (own_num p1 w_CHAR w_BYTE w_SHORT w_INT w_LONG w_FLOAT w_DOUBLE)), .val (.ref (own_pro (own_num p0 w_CHAR w_BYTE w_SHORT w_INT w_LONG w_FLOAT w_DOUBLE) (own_num p1 w_CHAR w_BYTE w_SHORT w_INT w_LONG w_FLOAT w_DOUBLE) w_INT w_LONG w_FLOAT w_DOUBLE)), .val (.ref (own_pro (own_num p1 w_CHAR w_BYTE w_SHORT w_INT w_LONG w_FLOAT w_DOUBLE) (own_num p0 w_CHAR w_BYTE w_SHORT w_INT w_LONG w_FLOAT w_DOUBLE) w_INT w_LONG w_FLOAT w_DOUBLE)), .unset] [(.ref (own_num p1 w_CHAR w_BYTE w_SHORT w_INT w_LONG w_FLOAT w_DOUBLE)), (.int (own_rank (own_num p0 w_CHAR w_BYTE w_SHORT w_INT w_LONG w_FLOAT w_DOUBLE) w_LONG w_FLOAT w_DOUBLE))])) rfl (by rw [hml]; rfl) (argsL := [(.ref (own_num p1 w_CHAR w_BYTE w_SHORT w_INT w_LONG w_FLOAT w_DOUBLE))]) (rest := [(.int (own_rank (own_num p0 w_CHAR w_BYTE w_SHORT w_INT w_LONG w_FLOAT w_DOUBLE) w_LONG w_FLOAT w_DOUBLE))]) (lenOf pd_2 rfl) rfl (by show 2 * 0 + _ ≤ _; exact Nat.le_of_eq rfl) (hb hby at_29) (fun _ _ => ⟨rfl, e5, (by decide : 0 + 0 ≤ _), (by decide : 0 + 0 ≤ _)⟩)
  dsimp only [Pt.U, Pt.locs, Pt.cells, Pt.slots] at X6 l6 y6 z6 st6 hQ6
  subst l6 y6 z6
  obtain ⟨rfl, N6q, e6⟩ := hQ6
  have N6 := Fr.app N5 N6q
  obtain ⟨_, _, ⟨T7, L7, k7, n7⟩, -, X7, ⟨Lc7, hQ7, l7, y7, z7⟩, st7⟩ := Jvm.LawKit.callS X6 hx (y := (⟨"java/lang/Math", "max", "(II)I"⟩ : MethodName)) hown (mvT hZ (hw _ (List.mem_of_getElem? (i := 26) rfl))) (mvT hZ (hw _ (List.mem_of_getElem? (i := 27) rfl))) (mvT hZ (hw _ (List.mem_of_getElem? (i := 28) rfl))) (mvT hZ (hw _ (List.mem_of_getElem? (i := 29) rfl))) (by decide) (backOf (W := 0) (rm_max l Z a0 hw [] (own_rank (own_num p0 w_CHAR w_BYTE w_SHORT w_INT w_LONG w_FLOAT w_DOUBLE) w_LONG w_FLOAT w_DOUBLE) (own_rank (own_num p1 w_CHAR w_BYTE w_SHORT w_INT w_LONG w_FLOAT w_DOUBLE) w_LONG w_FLOAT w_DOUBLE) h0 n0 Z0) hZ (hw _ (List.mem_of_getElem? (i := 29) rfl)) (hw _ (List.mem_of_getElem? (i := 28) rfl)) (by decide) (by decide)) (g := (mkF m 32 #[.val (.int p0), .val (.int p1), .val (.ref (own_num p0 w_CHAR w_BYTE w_SHORT w_INT w_LONG w_FLOAT w_DOUBLE)), .val (.ref (own_num p1 w_CHAR w_BYTE w_SHORT w_INT w_LONG w_FLOAT w_DOUBLE)), .val (.ref (own_pro (own_num p0 w_CHAR w_BYTE w_SHORT w_INT w_LONG w_FLOAT w_DOUBLE) (own_num p1 w_CHAR w_BYTE w_SHORT w_INT w_LONG w_FLOAT w_DOUBLE) w_INT w_LONG w_FLOAT w_DOUBLE)), .val (.ref (own_pro (own_num p1 w_CHAR w_BYTE w_SHORT w_INT w_LONG w_FLOAT w_DOUBLE) (own_num p0 w_CHAR w_BYTE w_SHORT w_INT w_LONG w_FLOAT w_DOUBLE) w_INT w_LONG w_FLOAT w_DOUBLE)), .unset] [(.int (own_rank (own_num p1 w_CHAR w_BYTE w_SHORT w_INT w_LONG w_FLOAT w_DOUBLE) w_LONG w_FLOAT w_DOUBLE)), (.int (own_rank (own_num p0 w_CHAR w_BYTE w_SHORT w_INT w_LONG w_FLOAT w_DOUBLE) w_LONG w_FLOAT w_DOUBLE))])) rfl (by rw [hml]; rfl) (argsL := [(.int (own_rank (own_num p0 w_CHAR w_BYTE w_SHORT w_INT w_LONG w_FLOAT w_DOUBLE) w_LONG w_FLOAT w_DOUBLE)), (.int (own_rank (own_num p1 w_CHAR w_BYTE w_SHORT w_INT w_LONG w_FLOAT w_DOUBLE) w_LONG w_FLOAT w_DOUBLE))]) (rest := []) (lenOf pd_3 rfl) rfl (by show 2 * 0 + _ ≤ _; exact Nat.le_of_eq rfl) (hb hby at_32) (fun _ _ => ⟨rfl, e6, (by decide : 0 + 0 ≤ _), (by decide : 0 + 0 ≤ _)⟩)
  dsimp only [Pt.U, Pt.locs, Pt.cells, Pt.slots] at X7 l7 y7 z7 st7 hQ7
  subst l7 y7 z7
  obtain ⟨rfl, N7q, e7⟩ := hQ7
  have N7 := Fr.app N6 N7q
  obtain ⟨_, _, ⟨T8, L8, k8, n8⟩, -, X8, ⟨Lc8, hQ8, l8, y8, z8⟩, st8⟩ := Jvm.LawKit.callS X7 hx (y := (⟨"com/example/ambit/ambit/TypePromotedPinLaw", "ofRank", "(I)Lcom/example/ambit/ambit/Constant$Type;"⟩ : MethodName)) hown (mvT hZ (hw _ (List.mem_of_getElem? (i := 30) rfl))) (mvT hZ (hw _ (List.mem_of_getElem? (i := 31) rfl))) (mvT hZ (hw _ (List.mem_of_getElem? (i := 2) rfl))) (mvT hZ (hw _ (List.mem_of_getElem? (i := 32) rfl))) (by decide) (backOf (W := 0) (rm_of l Z a0 hw [] (own_max (own_rank (own_num p0 w_CHAR w_BYTE w_SHORT w_INT w_LONG w_FLOAT w_DOUBLE) w_LONG w_FLOAT w_DOUBLE) (own_rank (own_num p1 w_CHAR w_BYTE w_SHORT w_INT w_LONG w_FLOAT w_DOUBLE) w_LONG w_FLOAT w_DOUBLE)) w_INT w_LONG w_FLOAT w_DOUBLE h0 n0 Z0 S_INT S_LONG S_FLOAT S_DOUBLE) hZ (hw _ (List.mem_of_getElem? (i := 32) rfl)) (hw _ (List.mem_of_getElem? (i := 2) rfl)) (by decide) (by decide)) (g := (mkF m 35 #[.val (.int p0), .val (.int p1), .val (.ref (own_num p0 w_CHAR w_BYTE w_SHORT w_INT w_LONG w_FLOAT w_DOUBLE)), .val (.ref (own_num p1 w_CHAR w_BYTE w_SHORT w_INT w_LONG w_FLOAT w_DOUBLE)), .val (.ref (own_pro (own_num p0 w_CHAR w_BYTE w_SHORT w_INT w_LONG w_FLOAT w_DOUBLE) (own_num p1 w_CHAR w_BYTE w_SHORT w_INT w_LONG w_FLOAT w_DOUBLE) w_INT w_LONG w_FLOAT w_DOUBLE)), .val (.ref (own_pro (own_num p1 w_CHAR w_BYTE w_SHORT w_INT w_LONG w_FLOAT w_DOUBLE) (own_num p0 w_CHAR w_BYTE w_SHORT w_INT w_LONG w_FLOAT w_DOUBLE) w_INT w_LONG w_FLOAT w_DOUBLE)), .unset] [(.int (own_max (own_rank (own_num p0 w_CHAR w_BYTE w_SHORT w_INT w_LONG w_FLOAT w_DOUBLE) w_LONG w_FLOAT w_DOUBLE) (own_rank (own_num p1 w_CHAR w_BYTE w_SHORT w_INT w_LONG w_FLOAT w_DOUBLE) w_LONG w_FLOAT w_DOUBLE)))])) rfl (by rw [hml]; rfl) (argsL := [(.int (own_max (own_rank (own_num p0 w_CHAR w_BYTE w_SHORT w_INT w_LONG w_FLOAT w_DOUBLE) w_LONG w_FLOAT w_DOUBLE) (own_rank (own_num p1 w_CHAR w_BYTE w_SHORT w_INT w_LONG w_FLOAT w_DOUBLE) w_LONG w_FLOAT w_DOUBLE)))]) (rest := []) (lenOf pd_0 rfl) rfl (by show 2 * 0 + _ ≤ _; exact Nat.le_of_eq rfl) (hb hby at_35) (fun _ _ => ⟨rfl, e7, (by decide : 0 + 0 ≤ _), (by decide : 0 + 0 ≤ _)⟩)
  dsimp only [Pt.U, Pt.locs, Pt.cells, Pt.slots] at X8 l8 y8 z8 st8 hQ8
  subst l8 y8 z8
  obtain ⟨rfl, N8q, e8⟩ := hQ8
  have N8 := Fr.app N7 N8q
  obtain ⟨fs, hr, hrun, hended, hW, hsame⟩ := X8.leave (v := some (.int (1 : Int32))) (fun h => by rw [Bd.returns] at h; cases h)
  refine ⟨_, _, pre0 _ ?_, hrun, hended, _, _, rfl, ?_, ⟨_, rfl⟩, hW, hsame.mono (by decide) (by decide)⟩
  · show Steps p.tables e below (s₁.setTop (mkF m 0 #[.val (.int p0), .val (.int p1), .unset, .unset, .unset, .unset, .unset] [])) _
    refine XS.iloadN X0.here hx rfl (hb hby at_0) rfl ?_
    show Steps p.tables e below (s₁.setTop (mkF m 1 #[.val (.int p0), .val (.int p1), .unset, .unset, .unset, .unset, .unset] [(.int p0)])) _
    refine st1 _ ?_
    show Steps p.tables e below (T1.setTop (mkF m 4 #[.val (.int p0), .val (.int p1), .unset, .unset, .unset, .unset, .unset] [(.ref (own_num p0 w_CHAR w_BYTE w_SHORT w_INT w_LONG w_FLOAT w_DOUBLE))])) _
    refine XS.astoreN X1.here hx rfl (hb hby at_4) rfl rfl (l' := #[.val (.int p0), .val (.int p1), .val (.ref (own_num p0 w_CHAR w_BYTE w_SHORT w_INT w_LONG w_FLOAT w_DOUBLE)), .unset, .unset, .unset, .unset]) rfl ?_
    show Steps p.tables e below (T1.setTop (mkF m 5 #[.val (.int p0), .val (.int p1), .val (.ref (own_num p0 w_CHAR w_BYTE w_SHORT w_INT w_LONG w_FLOAT w_DOUBLE)), .unset, .unset, .unset, .unset] [])) _
    refine XS.iloadN X1.here hx rfl (hb hby at_5) rfl ?_
    show Steps p.tables e below (T1.setTop (mkF m 6 #[.val (.int p0), .val (.int p1), .val (.ref (own_num p0 w_CHAR w_BYTE w_SHORT w_INT w_LONG w_FLOAT w_DOUBLE)), .unset, .unset, .unset, .unset] [(.int p1)])) _
    refine st2 _ ?_
    show Steps p.tables e below (T2.setTop (mkF m 9 #[.val (.int p0), .val (.int p1), .val (.ref (own_num p0 w_CHAR w_BYTE w_SHORT w_INT w_LONG w_FLOAT w_DOUBLE)), .unset, .unset, .unset, .unset] [(.ref (own_num p1 w_CHAR w_BYTE w_SHORT w_INT w_LONG w_FLOAT w_DOUBLE))])) _
    refine XS.astoreN X2.here hx rfl (hb hby at_9) rfl rfl (l' := #[.val (.int p0), .val (.int p1), .val (.ref (own_num p0 w_CHAR w_BYTE w_SHORT w_INT w_LONG w_FLOAT w_DOUBLE)), .val (.ref (own_num p1 w_CHAR w_BYTE w_SHORT w_INT w_LONG w_FLOAT w_DOUBLE)), .unset, .unset, .unset]) rfl ?_
    show Steps p.tables e below (T2.setTop (mkF m 10 #[.val (.int p0), .val (.int p1), .val (.ref (own_num p0 w_CHAR w_BYTE w_SHORT w_INT w_LONG w_FLOAT w_DOUBLE)), .val (.ref (own_num p1 w_CHAR w_BYTE w_SHORT w_INT w_LONG w_FLOAT w_DOUBLE)), .unset, .unset, .unset] [])) _
    refine XS.aloadN X2.here hx rfl (hb hby at_10) rfl rfl ?_
    show Steps p.tables e below (T2.setTop (mkF m 11 #[.val (.int p0), .val (.int p1), .val (.ref (own_num p0 w_CHAR w_BYTE w_SHORT w_INT w_LONG w_FLOAT w_DOUBLE)), .val (.ref (own_num p1 w_CHAR w_BYTE w_SHORT w_INT w_LONG w_FLOAT w_DOUBLE)), .unset, .unset, .unset] [(.ref (own_num p0 w_CHAR w_BYTE w_SHORT w_INT w_LONG w_FLOAT w_DOUBLE))])) _
    refine XS.aloadN X2.here hx rfl (hb hby at_11) rfl rfl ?_
    show Steps p.tables e below (T2.setTop (mkF m 12 #[.val (.int p0), .val (.int p1), .val (.ref (own_num p0 w_CHAR w_BYTE w_SHORT w_INT w_LONG w_FLOAT w_DOUBLE)), .val (.ref (own_num p1 w_CHAR w_BYTE w_SHORT w_INT w_LONG w_FLOAT w_DOUBLE)), .unset, .unset, .unset] [(.ref (own_num p1 w_CHAR w_BYTE w_SHORT w_INT w_LONG w_FLOAT w_DOUBLE)), (.ref (own_num p0 w_CHAR w_BYTE w_SHORT w_INT w_LONG w_FLOAT w_DOUBLE))])) _
    refine st3 _ ?_
    show Steps p.tables e below (T3.setTop (mkF m 15 #[.val (.int p0), .val (.int p1), .val (.ref (own_num p0 w_CHAR w_BYTE w_SHORT w_INT w_LONG w_FLOAT w_DOUBLE)), .val (.ref (own_num p1 w_CHAR w_BYTE w_SHORT w_INT w_LONG w_FLOAT w_DOUBLE)), .unset, .unset, .unset] [(.ref (own_pro (own_num p0 w_CHAR w_BYTE w_SHORT w_INT w_LONG w_FLOAT w_DOUBLE) (own_num p1 w_CHAR w_BYTE w_SHORT w_INT w_LONG w_FLOAT w_DOUBLE) w_INT w_LONG w_FLOAT w_DOUBLE))])) _
    refine XS.astore X3.here hx rfl (hb hby at_15) rfl rfl (l' := #[.val (.int p0), .val (.int p1), .val (.ref (own_num p0 w_CHAR w_BYTE w_SHORT w_INT w_LONG w_FLOAT w_DOUBLE)), .val (.ref (own_num p1 w_CHAR w_BYTE w_SHORT w_INT w_LONG w_FLOAT w_DOUBLE)), .val (.ref (own_pro (own_num p0 w_CHAR w_BYTE w_SHORT w_INT w_LONG w_FLOAT w_DOUBLE) (own_num p1 w_CHAR w_BYTE w_SHORT w_INT w_LONG w_FLOAT w_DOUBLE) w_INT w_LONG w_FLOAT w_DOUBLE)), .unset, .unset]) rfl ?_
    show Steps p.tables e below (T3.setTop (mkF m 17 #[.val (.int p0), .val (.int p1), .val (.ref (own_num p0 w_CHAR w_BYTE w_SHORT w_INT w_LONG w_FLOAT w_DOUBLE)), .val (.ref (own_num p1 w_CHAR w_BYTE w_SHORT w_INT w_LONG w_FLOAT w_DOUBLE)), .val (.ref (own_pro (own_num p0 w_CHAR w_BYTE w_SHORT w_INT w_LONG w_FLOAT w_DOUBLE) (own_num p1 w_CHAR w_BYTE w_SHORT w_INT w_LONG w_FLOAT w_DOUBLE) w_INT w_LONG w_FLOAT w_DOUBLE)), .unset, .unset] [])) _
    refine XS.aloadN X3.here hx rfl (hb hby at_17) rfl rfl ?_
    show Steps p.tables e below (T3.setTop (mkF m 18 #[.val (.int p0), .val (.int p1), .val (.ref (own_num p0 w_CHAR w_BYTE w_SHORT w_INT w_LONG w_FLOAT w_DOUBLE)), .val (.ref (own_num p1 w_CHAR w_BYTE w_SHORT w_INT w_LONG w_FLOAT w_DOUBLE)), .val (.ref (own_pro (own_num p0 w_CHAR w_BYTE w_SHORT w_INT w_LONG w_FLOAT w_DOUBLE) (own_num p1 w_CHAR w_BYTE w_SHORT w_INT w_LONG w_FLOAT w_DOUBLE) w_INT w_LONG w_FLOAT w_DOUBLE)), .unset, .unset] [(.ref (own_num p1 w_CHAR w_BYTE w_SHORT w_INT w_LONG w_FLOAT w_DOUBLE))])) _
    refine XS.aloadN X3.here hx rfl (hb hby at_18) rfl rfl ?_
    show Steps p.tables e below (T3.setTop (mkF m 19 #[.val (.int p0), .val (.int p1), .val (.ref (own_num p0 w_CHAR w_BYTE w_SHORT w_INT w_LONG w_FLOAT w_DOUBLE)), .val (.ref (own_num p1 w_CHAR w_BYTE w_SHORT w_INT w_LONG w_FLOAT w_DOUBLE)), .val (.ref (own_pro (own_num p0 w_CHAR w_BYTE w_SHORT w_INT w_LONG w_FLOAT w_DOUBLE) (own_num p1 w_CHAR w_BYTE w_SHORT w_INT w_LONG w_FLOAT w_DOUBLE) w_INT w_LONG w_FLOAT w_DOUBLE)), .unset, .unset] [(.ref (own_num p0 w_CHAR w_BYTE w_SHORT w_INT w_LONG w_FLOAT w_DOUBLE)), (.ref (own_num p1 w_CHAR w_BYTE w_SHORT w_INT w_LONG w_FLOAT w_DOUBLE))])) _
    refine st4 _ ?_
    show Steps p.tables e below (T4.setTop (mkF m 22 #[.val (.int p0), .val (.int p1), .val (.ref (own_num p0 w_CHAR w_BYTE w_SHORT w_INT w_LONG w_FLOAT w_DOUBLE)), .val (.ref (own_num p1 w_CHAR w_BYTE w_SHORT w_INT w_LONG w_FLOAT w_DOUBLE)), .val (.ref (own_pro (own_num p0 w_CHAR w_BYTE w_SHORT w_INT w_LONG w_FLOAT w_DOUBLE) (own_num p1 w_CHAR w_BYTE w_SHORT w_INT w_LONG w_FLOAT w_DOUBLE) w_INT w_LONG w_FLOAT w_DOUBLE)), .unset, .unset] [(.ref (own_pro (own_num p1 w_CHAR w_BYTE w_SHORT w_INT w_LONG w_FLOAT w_DOUBLE) (own_num p0 w_CHAR w_BYTE w_SHORT w_INT w_LONG w_FLOAT w_DOUBLE) w_INT w_LONG w_FLOAT w_DOUBLE))])) _
    refine XS.astore X4.here hx rfl (hb hby at_22) rfl rfl (l' := #[.val (.int p0), .val (.int p1), .val (.ref (own_num p0 w_CHAR w_BYTE w_SHORT w_INT w_LONG w_FLOAT w_DOUBLE)), .val (.ref (own_num p1 w_CHAR w_BYTE w_SHORT w_INT w_LONG w_FLOAT w_DOUBLE)), .val (.ref (own_pro (own_num p0 w_CHAR w_BYTE w_SHORT w_INT w_LONG w_FLOAT w_DOUBLE) (own_num p1 w_CHAR w_BYTE w_SHORT w_INT w_LONG w_FLOAT w_DOUBLE) w_INT w_LONG w_FLOAT w_DOUBLE)), .val (.ref (own_pro (own_num p1 w_CHAR w_BYTE w_SHORT w_INT w_LONG w_FLOAT w_DOUBLE) (own_num p0 w_CHAR w_BYTE w_SHORT w_INT w_LONG w_FLOAT w_DOUBLE) w_INT w_LONG w_FLOAT w_DOUBLE)), .unset]) rfl ?_
    show Steps p.tables e below (T4.setTop (mkF m 24 #[.val (.int p0), .val (.int p1), .val (.ref (own_num p0 w_CHAR w_BYTE w_SHORT w_INT w_LONG w_FLOAT w_DOUBLE)), .val (.ref (own_num p1 w_CHAR w_BYTE w_SHORT w_INT w_LONG w_FLOAT w_DOUBLE)), .val (.ref (own_pro (own_num p0 w_CHAR w_BYTE w_SHORT w_INT w_LONG w_FLOAT w_DOUBLE) (own_num p1 w_CHAR w_BYTE w_SHORT w_INT w_LONG w_FLOAT w_DOUBLE) w_INT w_LONG w_FLOAT w_DOUBLE)), .val (.ref (own_pro (own_num p1 w_CHAR w_BYTE w_SHORT w_INT w_LONG w_FLOAT w_DOUBLE) (own_num p0 w_CHAR w_BYTE w_SHORT w_INT w_LONG w_FLOAT w_DOUBLE) w_INT w_LONG w_FLOAT w_DOUBLE)), .unset] [])) _
    refine XS.aloadN X4.here hx rfl (hb hby at_24) rfl rfl ?_
    show Steps p.tables e below (T4.setTop (mkF m 25 #[.val (.int p0), .val (.int p1), .val (.ref (own_num p0 w_CHAR w_BYTE w_SHORT w_INT w_LONG w_FLOAT w_DOUBLE)), .val (.ref (own_num p1 w_CHAR w_BYTE w_SHORT w_INT w_LONG w_FLOAT w_DOUBLE)), .val (.ref (own_pro (own_num p0 w_CHAR w_BYTE w_SHORT w_INT w_LONG w_FLOAT w_DOUBLE) (own_num p1 w_CHAR w_BYTE w_SHORT w_INT w_LONG w_FLOAT w_DOUBLE) w_INT w_LONG w_FLOAT w_DOUBLE)), .val (.ref (own_pro (own_num p1 w_CHAR w_BYTE w_SHORT w_INT w_LONG w_FLOAT w_DOUBLE) (own_num p0 w_CHAR w_BYTE w_SHORT w_INT w_LONG w_FLOAT w_DOUBLE) w_INT w_LONG w_FLOAT w_DOUBLE)), .unset] [(.ref (own_num p0 w_CHAR w_BYTE w_SHORT w_INT w_LONG w_FLOAT w_DOUBLE))])) _
    refine st5 _ ?_
    show Steps p.tables e below (T5.setTop (mkF m 28 #[.val (.int p0), .val (.int p1), .val (.ref (own_num p0 w_CHAR w_BYTE w_SHORT w_INT w_LONG w_FLOAT w_DOUBLE)), .val (.ref (own_num p1 w_CHAR w_BYTE w_SHORT w_INT w_LONG w_FLOAT w_DOUBLE)), .val (.ref (own_pro (own_num p0 w_CHAR w_BYTE w_SHORT w_INT w_LONG w_FLOAT w_DOUBLE) (own_num p1 w_CHAR w_BYTE w_SHORT w_INT w_LONG w_FLOAT w_DOUBLE) w_INT w_LONG w_FLOAT w_DOUBLE)), .val (.ref (own_pro (own_num p1 w_CHAR w_BYTE w_SHORT w_INT w_LONG w_FLOAT w_DOUBLE) (own_num p0 w_CHAR w_BYTE w_SHORT w_INT w_LONG w_FLOAT w_DOUBLE) w_INT w_LONG w_FLOAT w_DOUBLE)), .unset] [(.int (own_rank (own_num p0 w_CHAR w_BYTE w_SHORT w_INT w_LONG w_FLOAT w_DOUBLE) w_LONG w_FLOAT w_DOUBLE))])) _
    refine XS.aloadN X5.here hx rfl (hb hby at_28) rfl rfl ?_
    show Steps p.tables e below (T5.setTop (mkF m 29 #[.val (.int p0), .val (.int p1), .val (.ref (own_num p0 w_CHAR w_BYTE w_SHORT w_INT w_LONG w_FLOAT w_DOUBLE)), .val (.ref (own_num p1 w_CHAR w_BYTE w_SHORT w_INT w_LONG w_FLOAT w_DOUBLE)), .val (.ref (own_pro (own_num p0 w_CHAR w_BYTE w_SHORT w_INT w_LONG w_FLOAT w_DOUBLE) (own_num p1 w_CHAR w_BYTE w_SHORT w_INT w_LONG w_FLOAT w_DOUBLE) w_INT w_LONG w_FLOAT w_DOUBLE)), .val (.ref (own_pro (own_num p1 w_CHAR w_BYTE w_SHORT w_INT w_LONG w_FLOAT w_DOUBLE) (own_num p0 w_CHAR w_BYTE w_SHORT w_INT w_LONG w_FLOAT w_DOUBLE) w_INT w_LONG w_FLOAT w_DOUBLE)), .unset] [(.ref (own_num p1 w_CHAR w_BYTE w_SHORT w_INT w_LONG w_FLOAT w_DOUBLE)), (.int (own_rank (own_num p0 w_CHAR w_BYTE w_SHORT w_INT w_LONG w_FLOAT w_DOUBLE) w_LONG w_FLOAT w_DOUBLE))])) _
    refine st6 _ ?_
    show Steps p.tables e below (T6.setTop (mkF m 32 #[.val (.int p0), .val (.int p1), .val (.ref (own_num p0 w_CHAR w_BYTE w_SHORT w_INT w_LONG w_FLOAT w_DOUBLE)), .val (.ref (own_num p1 w_CHAR w_BYTE w_SHORT w_INT w_LONG w_FLOAT w_DOUBLE)), .val (.ref (own_pro (own_num p0 w_CHAR w_BYTE w_SHORT w_INT w_LONG w_FLOAT w_DOUBLE) (own_num p1 w_CHAR w_BYTE w_SHORT w_INT w_LONG w_FLOAT w_DOUBLE) w_INT w_LONG w_FLOAT w_DOUBLE)), .val (.ref (own_pro (own_num p1 w_CHAR w_BYTE w_SHORT w_INT w_LONG w_FLOAT w_DOUBLE) (own_num p0 w_CHAR w_BYTE w_SHORT w_INT w_LONG w_FLOAT w_DOUBLE) w_INT w_LONG w_FLOAT w_DOUBLE)), .unset] [(.int (own_rank (own_num p1 w_CHAR w_BYTE w_SHORT w_INT w_LONG w_FLOAT w_DOUBLE) w_LONG w_FLOAT w_DOUBLE)), (.int (own_rank (own_num p0 w_CHAR w_BYTE w_SHORT w_INT w_LONG w_FLOAT w_DOUBLE) w_LONG w_FLOAT w_DOUBLE))])) _
    refine st7 _ ?_
    show Steps p.tables e below (T7.setTop (mkF m 35 #[.val (.int p0), .val (.int p1), .val (.ref (own_num p0 w_CHAR w_BYTE w_SHORT w_INT w_LONG w_FLOAT w_DOUBLE)), .val (.ref (own_num p1 w_CHAR w_BYTE w_SHORT w_INT w_LONG w_FLOAT w_DOUBLE)), .val (.ref (own_pro (own_num p0 w_CHAR w_BYTE w_SHORT w_INT w_LONG w_FLOAT w_DOUBLE) (own_num p1 w_CHAR w_BYTE w_SHORT w_INT w_LONG w_FLOAT w_DOUBLE) w_INT w_LONG w_FLOAT w_DOUBLE)), .val (.ref (own_pro (own_num p1 w_CHAR w_BYTE w_SHORT w_INT w_LONG w_FLOAT w_DOUBLE) (own_num p0 w_CHAR w_BYTE w_SHORT w_INT w_LONG w_FLOAT w_DOUBLE) w_INT w_LONG w_FLOAT w_DOUBLE)), .unset] [(.int (own_max (own_rank (own_num p0 w_CHAR w_BYTE w_SHORT w_INT w_LONG w_FLOAT w_DOUBLE) w_LONG w_FLOAT w_DOUBLE) (own_rank (own_num p1 w_CHAR w_BYTE w_SHORT w_INT w_LONG w_FLOAT w_DOUBLE) w_LONG w_FLOAT w_DOUBLE)))])) _
    refine st8 _ ?_
    show Steps p.tables e below (T8.setTop (mkF m 38 #[.val (.int p0), .val (.int p1), .val (.ref (own_num p0 w_CHAR w_BYTE w_SHORT w_INT w_LONG w_FLOAT w_DOUBLE)), .val (.ref (own_num p1 w_CHAR w_BYTE w_SHORT w_INT w_LONG w_FLOAT w_DOUBLE)), .val (.ref (own_pro (own_num p0 w_CHAR w_BYTE w_SHORT w_INT w_LONG w_FLOAT w_DOUBLE) (own_num p1 w_CHAR w_BYTE w_SHORT w_INT w_LONG w_FLOAT w_DOUBLE) w_INT w_LONG w_FLOAT w_DOUBLE)), .val (.ref (own_pro (own_num p1 w_CHAR w_BYTE w_SHORT w_INT w_LONG w_FLOAT w_DOUBLE) (own_num p0 w_CHAR w_BYTE w_SHORT w_INT w_LONG w_FLOAT w_DOUBLE) w_INT w_LONG w_FLOAT w_DOUBLE)), .unset] [(.ref (own_of (own_max (own_rank (own_num p0 w_CHAR w_BYTE w_SHORT w_INT w_LONG w_FLOAT w_DOUBLE) w_LONG w_FLOAT w_DOUBLE) (own_rank (own_num p1 w_CHAR w_BYTE w_SHORT w_INT w_LONG w_FLOAT w_DOUBLE) w_LONG w_FLOAT w_DOUBLE)) w_INT w_LONG w_FLOAT w_DOUBLE))])) _
    refine XS.astore X8.here hx rfl (hb hby at_38) rfl rfl (l' := #[.val (.int p0), .val (.int p1), .val (.ref (own_num p0 w_CHAR w_BYTE w_SHORT w_INT w_LONG w_FLOAT w_DOUBLE)), .val (.ref (own_num p1 w_CHAR w_BYTE w_SHORT w_INT w_LONG w_FLOAT w_DOUBLE)), .val (.ref (own_pro (own_num p0 w_CHAR w_BYTE w_SHORT w_INT w_LONG w_FLOAT w_DOUBLE) (own_num p1 w_CHAR w_BYTE w_SHORT w_INT w_LONG w_FLOAT w_DOUBLE) w_INT w_LONG w_FLOAT w_DOUBLE)), .val (.ref (own_pro (own_num p1 w_CHAR w_BYTE w_SHORT w_INT w_LONG w_FLOAT w_DOUBLE) (own_num p0 w_CHAR w_BYTE w_SHORT w_INT w_LONG w_FLOAT w_DOUBLE) w_INT w_LONG w_FLOAT w_DOUBLE)), .val (.ref (own_of (own_max (own_rank (own_num p0 w_CHAR w_BYTE w_SHORT w_INT w_LONG w_FLOAT w_DOUBLE) w_LONG w_FLOAT w_DOUBLE) (own_rank (own_num p1 w_CHAR w_BYTE w_SHORT w_INT w_LONG w_FLOAT w_DOUBLE) w_LONG w_FLOAT w_DOUBLE)) w_INT w_LONG w_FLOAT w_DOUBLE))]) rfl ?_
    show Steps p.tables e below (T8.setTop (mkF m 40 #[.val (.int p0), .val (.int p1), .val (.ref (own_num p0 w_CHAR w_BYTE w_SHORT w_INT w_LONG w_FLOAT w_DOUBLE)), .val (.ref (own_num p1 w_CHAR w_BYTE w_SHORT w_INT w_LONG w_FLOAT w_DOUBLE)), .val (.ref (own_pro (own_num p0 w_CHAR w_BYTE w_SHORT w_INT w_LONG w_FLOAT w_DOUBLE) (own_num p1 w_CHAR w_BYTE w_SHORT w_INT w_LONG w_FLOAT w_DOUBLE) w_INT w_LONG w_FLOAT w_DOUBLE)), .val (.ref (own_pro (own_num p1 w_CHAR w_BYTE w_SHORT w_INT w_LONG w_FLOAT w_DOUBLE) (own_num p0 w_CHAR w_BYTE w_SHORT w_INT w_LONG w_FLOAT w_DOUBLE) w_INT w_LONG w_FLOAT w_DOUBLE)), .val (.ref (own_of (own_max (own_rank (own_num p0 w_CHAR w_BYTE w_SHORT w_INT w_LONG w_FLOAT w_DOUBLE) w_LONG w_FLOAT w_DOUBLE) (own_rank (own_num p1 w_CHAR w_BYTE w_SHORT w_INT w_LONG w_FLOAT w_DOUBLE) w_LONG w_FLOAT w_DOUBLE)) w_INT w_LONG w_FLOAT w_DOUBLE))] [])) _
    refine XS.aload X8.here hx rfl (hb hby at_40) rfl rfl ?_
    show Steps p.tables e below (T8.setTop (mkF m 42 #[.val (.int p0), .val (.int p1), .val (.ref (own_num p0 w_CHAR w_BYTE w_SHORT w_INT w_LONG w_FLOAT w_DOUBLE)), .val (.ref (own_num p1 w_CHAR w_BYTE w_SHORT w_INT w_LONG w_FLOAT w_DOUBLE)), .val (.ref (own_pro (own_num p0 w_CHAR w_BYTE w_SHORT w_INT w_LONG w_FLOAT w_DOUBLE) (own_num p1 w_CHAR w_BYTE w_SHORT w_INT w_LONG w_FLOAT w_DOUBLE) w_INT w_LONG w_FLOAT w_DOUBLE)), .val (.ref (own_pro (own_num p1 w_CHAR w_BYTE w_SHORT w_INT w_LONG w_FLOAT w_DOUBLE) (own_num p0 w_CHAR w_BYTE w_SHORT w_INT w_LONG w_FLOAT w_DOUBLE) w_INT w_LONG w_FLOAT w_DOUBLE)), .val (.ref (own_of (own_max (own_rank (own_num p0 w_CHAR w_BYTE w_SHORT w_INT w_LONG w_FLOAT w_DOUBLE) w_LONG w_FLOAT w_DOUBLE) (own_rank (own_num p1 w_CHAR w_BYTE w_SHORT w_INT w_LONG w_FLOAT w_DOUBLE) w_LONG w_FLOAT w_DOUBLE)) w_INT w_LONG w_FLOAT w_DOUBLE))] [(.ref (own_pro (own_num p0 w_CHAR w_BYTE w_SHORT w_INT w_LONG w_FLOAT w_DOUBLE) (own_num p1 w_CHAR w_BYTE w_SHORT w_INT w_LONG w_FLOAT w_DOUBLE) w_INT w_LONG w_FLOAT w_DOUBLE))])) _
    refine XS.aload X8.here hx rfl (hb hby at_42) rfl rfl ?_
    show Steps p.tables e below (T8.setTop (mkF m 44 #[.val (.int p0), .val (.int p1), .val (.ref (own_num p0 w_CHAR w_BYTE w_SHORT w_INT w_LONG w_FLOAT w_DOUBLE)), .val (.ref (own_num p1 w_CHAR w_BYTE w_SHORT w_INT w_LONG w_FLOAT w_DOUBLE)), .val (.ref (own_pro (own_num p0 w_CHAR w_BYTE w_SHORT w_INT w_LONG w_FLOAT w_DOUBLE) (own_num p1 w_CHAR w_BYTE w_SHORT w_INT w_LONG w_FLOAT w_DOUBLE) w_INT w_LONG w_FLOAT w_DOUBLE)), .val (.ref (own_pro (own_num p1 w_CHAR w_BYTE w_SHORT w_INT w_LONG w_FLOAT w_DOUBLE) (own_num p0 w_CHAR w_BYTE w_SHORT w_INT w_LONG w_FLOAT w_DOUBLE) w_INT w_LONG w_FLOAT w_DOUBLE)), .val (.ref (own_of (own_max (own_rank (own_num p0 w_CHAR w_BYTE w_SHORT w_INT w_LONG w_FLOAT w_DOUBLE) w_LONG w_FLOAT w_DOUBLE) (own_rank (own_num p1 w_CHAR w_BYTE w_SHORT w_INT w_LONG w_FLOAT w_DOUBLE) w_LONG w_FLOAT w_DOUBLE)) w_INT w_LONG w_FLOAT w_DOUBLE))] [(.ref (own_of (own_max (own_rank (own_num p0 w_CHAR w_BYTE w_SHORT w_INT w_LONG w_FLOAT w_DOUBLE) w_LONG w_FLOAT w_DOUBLE) (own_rank (own_num p1 w_CHAR w_BYTE w_SHORT w_INT w_LONG w_FLOAT w_DOUBLE) w_LONG w_FLOAT w_DOUBLE)) w_INT w_LONG w_FLOAT w_DOUBLE)), (.ref (own_pro (own_num p0 w_CHAR w_BYTE w_SHORT w_INT w_LONG w_FLOAT w_DOUBLE) (own_num p1 w_CHAR w_BYTE w_SHORT w_INT w_LONG w_FLOAT w_DOUBLE) w_INT w_LONG w_FLOAT w_DOUBLE))])) _
    refine Jvm.RoadKit.acmp (g := (mkF m 44 #[.val (.int p0), .val (.int p1), .val (.ref (own_num p0 w_CHAR w_BYTE w_SHORT w_INT w_LONG w_FLOAT w_DOUBLE)), .val (.ref (own_num p1 w_CHAR w_BYTE w_SHORT w_INT w_LONG w_FLOAT w_DOUBLE)), .val (.ref (own_pro (own_num p0 w_CHAR w_BYTE w_SHORT w_INT w_LONG w_FLOAT w_DOUBLE) (own_num p1 w_CHAR w_BYTE w_SHORT w_INT w_LONG w_FLOAT w_DOUBLE) w_INT w_LONG w_FLOAT w_DOUBLE)), .val (.ref (own_pro (own_num p1 w_CHAR w_BYTE w_SHORT w_INT w_LONG w_FLOAT w_DOUBLE) (own_num p0 w_CHAR w_BYTE w_SHORT w_INT w_LONG w_FLOAT w_DOUBLE) w_INT w_LONG w_FLOAT w_DOUBLE)), .val (.ref (own_of (own_max (own_rank (own_num p0 w_CHAR w_BYTE w_SHORT w_INT w_LONG w_FLOAT w_DOUBLE) w_LONG w_FLOAT w_DOUBLE) (own_rank (own_num p1 w_CHAR w_BYTE w_SHORT w_INT w_LONG w_FLOAT w_DOUBLE) w_LONG w_FLOAT w_DOUBLE)) w_INT w_LONG w_FLOAT w_DOUBLE))] [(.ref (own_of (own_max (own_rank (own_num p0 w_CHAR w_BYTE w_SHORT w_INT w_LONG w_FLOAT w_DOUBLE) w_LONG w_FLOAT w_DOUBLE) (own_rank (own_num p1 w_CHAR w_BYTE w_SHORT w_INT w_LONG w_FLOAT w_DOUBLE) w_LONG w_FLOAT w_DOUBLE)) w_INT w_LONG w_FLOAT w_DOUBLE)), (.ref (own_pro (own_num p0 w_CHAR w_BYTE w_SHORT w_INT w_LONG w_FLOAT w_DOUBLE) (own_num p1 w_CHAR w_BYTE w_SHORT w_INT w_LONG w_FLOAT w_DOUBLE) w_INT w_LONG w_FLOAT w_DOUBLE))])) X8 hx rfl rfl rfl (pc0 := 44) (pc' := 47) (same := true) rfl (hb hby at_44) rfl (decide_eq_true (congrArg Value.ref (own_pq _ _ _ _ _ _))) (by decide) (by decide) ?_
    show Steps p.tables e below (T8.setTop (mkF m 47 #[.val (.int p0), .val (.int p1), .val (.ref (own_num p0 w_CHAR w_BYTE w_SHORT w_INT w_LONG w_FLOAT w_DOUBLE)), .val (.ref (own_num p1 w_CHAR w_BYTE w_SHORT w_INT w_LONG w_FLOAT w_DOUBLE)), .val (.ref (own_pro (own_num p0 w_CHAR w_BYTE w_SHORT w_INT w_LONG w_FLOAT w_DOUBLE) (own_num p1 w_CHAR w_BYTE w_SHORT w_INT w_LONG w_FLOAT w_DOUBLE) w_INT w_LONG w_FLOAT w_DOUBLE)), .val (.ref (own_pro (own_num p1 w_CHAR w_BYTE w_SHORT w_INT w_LONG w_FLOAT w_DOUBLE) (own_num p0 w_CHAR w_BYTE w_SHORT w_INT w_LONG w_FLOAT w_DOUBLE) w_INT w_LONG w_FLOAT w_DOUBLE)), .val (.ref (own_of (own_max (own_rank (own_num p0 w_CHAR w_BYTE w_SHORT w_INT w_LONG w_FLOAT w_DOUBLE) w_LONG w_FLOAT w_DOUBLE) (own_rank (own_num p1 w_CHAR w_BYTE w_SHORT w_INT w_LONG w_FLOAT w_DOUBLE) w_LONG w_FLOAT w_DOUBLE)) w_INT w_LONG w_FLOAT w_DOUBLE))] [])) _
    refine XS.aload X8.here hx rfl (hb hby at_47) rfl rfl ?_
    show Steps p.tables e below (T8.setTop (mkF m 49 #[.val (.int p0), .val (.int p1), .val (.ref (own_num p0 w_CHAR w_BYTE w_SHORT w_INT w_LONG w_FLOAT w_DOUBLE)), .val (.ref (own_num p1 w_CHAR w_BYTE w_SHORT w_INT w_LONG w_FLOAT w_DOUBLE)), .val (.ref (own_pro (own_num p0 w_CHAR w_BYTE w_SHORT w_INT w_LONG w_FLOAT w_DOUBLE) (own_num p1 w_CHAR w_BYTE w_SHORT w_INT w_LONG w_FLOAT w_DOUBLE) w_INT w_LONG w_FLOAT w_DOUBLE)), .val (.ref (own_pro (own_num p1 w_CHAR w_BYTE w_SHORT w_INT w_LONG w_FLOAT w_DOUBLE) (own_num p0 w_CHAR w_BYTE w_SHORT w_INT w_LONG w_FLOAT w_DOUBLE) w_INT w_LONG w_FLOAT w_DOUBLE)), .val (.ref (own_of (own_max (own_rank (own_num p0 w_CHAR w_BYTE w_SHORT w_INT w_LONG w_FLOAT w_DOUBLE) w_LONG w_FLOAT w_DOUBLE) (own_rank (own_num p1 w_CHAR w_BYTE w_SHORT w_INT w_LONG w_FLOAT w_DOUBLE) w_LONG w_FLOAT w_DOUBLE)) w_INT w_LONG w_FLOAT w_DOUBLE))] [(.ref (own_pro (own_num p1 w_CHAR w_BYTE w_SHORT w_INT w_LONG w_FLOAT w_DOUBLE) (own_num p0 w_CHAR w_BYTE w_SHORT w_INT w_LONG w_FLOAT w_DOUBLE) w_INT w_LONG w_FLOAT w_DOUBLE))])) _
    refine XS.aload X8.here hx rfl (hb hby at_49) rfl rfl ?_
    show Steps p.tables e below (T8.setTop (mkF m 51 #[.val (.int p0), .val (.int p1), .val (.ref (own_num p0 w_CHAR w_BYTE w_SHORT w_INT w_LONG w_FLOAT w_DOUBLE)), .val (.ref (own_num p1 w_CHAR w_BYTE w_SHORT w_INT w_LONG w_FLOAT w_DOUBLE)), .val (.ref (own_pro (own_num p0 w_CHAR w_BYTE w_SHORT w_INT w_LONG w_FLOAT w_DOUBLE) (own_num p1 w_CHAR w_BYTE w_SHORT w_INT w_LONG w_FLOAT w_DOUBLE) w_INT w_LONG w_FLOAT w_DOUBLE)), .val (.ref (own_pro (own_num p1 w_CHAR w_BYTE w_SHORT w_INT w_LONG w_FLOAT w_DOUBLE) (own_num p0 w_CHAR w_BYTE w_SHORT w_INT w_LONG w_FLOAT w_DOUBLE) w_INT w_LONG w_FLOAT w_DOUBLE)), .val (.ref (own_of (own_max (own_rank (own_num p0 w_CHAR w_BYTE w_SHORT w_INT w_LONG w_FLOAT w_DOUBLE) w_LONG w_FLOAT w_DOUBLE) (own_rank (own_num p1 w_CHAR w_BYTE w_SHORT w_INT w_LONG w_FLOAT w_DOUBLE) w_LONG w_FLOAT w_DOUBLE)) w_INT w_LONG w_FLOAT w_DOUBLE))] [(.ref (own_of (own_max (own_rank (own_num p0 w_CHAR w_BYTE w_SHORT w_INT w_LONG w_FLOAT w_DOUBLE) w_LONG w_FLOAT w_DOUBLE) (own_rank (own_num p1 w_CHAR w_BYTE w_SHORT w_INT w_LONG w_FLOAT w_DOUBLE) w_LONG w_FLOAT w_DOUBLE)) w_INT w_LONG w_FLOAT w_DOUBLE)), (.ref (own_pro (own_num p1 w_CHAR w_BYTE w_SHORT w_INT w_LONG w_FLOAT w_DOUBLE) (own_num p0 w_CHAR w_BYTE w_SHORT w_INT w_LONG w_FLOAT w_DOUBLE) w_INT w_LONG w_FLOAT w_DOUBLE))])) _
    refine Jvm.RoadKit.acmp (g := (mkF m 51 #[.val (.int p0), .val (.int p1), .val (.ref (own_num p0 w_CHAR w_BYTE w_SHORT w_INT w_LONG w_FLOAT w_DOUBLE)), .val (.ref (own_num p1 w_CHAR w_BYTE w_SHORT w_INT w_LONG w_FLOAT w_DOUBLE)), .val (.ref (own_pro (own_num p0 w_CHAR w_BYTE w_SHORT w_INT w_LONG w_FLOAT w_DOUBLE) (own_num p1 w_CHAR w_BYTE w_SHORT w_INT w_LONG w_FLOAT w_DOUBLE) w_INT w_LONG w_FLOAT w_DOUBLE)), .val (.ref (own_pro (own_num p1 w_CHAR w_BYTE w_SHORT w_INT w_LONG w_FLOAT w_DOUBLE) (own_num p0 w_CHAR w_BYTE w_SHORT w_INT w_LONG w_FLOAT w_DOUBLE) w_INT w_LONG w_FLOAT w_DOUBLE)), .val (.ref (own_of (own_max (own_rank (own_num p0 w_CHAR w_BYTE w_SHORT w_INT w_LONG w_FLOAT w_DOUBLE) w_LONG w_FLOAT w_DOUBLE) (own_rank (own_num p1 w_CHAR w_BYTE w_SHORT w_INT w_LONG w_FLOAT w_DOUBLE) w_LONG w_FLOAT w_DOUBLE)) w_INT w_LONG w_FLOAT w_DOUBLE))] [(.ref (own_of (own_max (own_rank (own_num p0 w_CHAR w_BYTE w_SHORT w_INT w_LONG w_FLOAT w_DOUBLE) w_LONG w_FLOAT w_DOUBLE) (own_rank (own_num p1 w_CHAR w_BYTE w_SHORT w_INT w_LONG w_FLOAT w_DOUBLE) w_LONG w_FLOAT w_DOUBLE)) w_INT w_LONG w_FLOAT w_DOUBLE)), (.ref (own_pro (own_num p1 w_CHAR w_BYTE w_SHORT w_INT w_LONG w_FLOAT w_DOUBLE) (own_num p0 w_CHAR w_BYTE w_SHORT w_INT w_LONG w_FLOAT w_DOUBLE) w_INT w_LONG w_FLOAT w_DOUBLE))])) X8 hx rfl rfl rfl (pc0 := 51) (pc' := 54) (same := true) rfl (hb hby at_51) rfl (decide_eq_true (congrArg Value.ref (own_qq _ _ _ _ _ _))) (by decide) (by decide) ?_
    show Steps p.tables e below (T8.setTop (mkF m 54 #[.val (.int p0), .val (.int p1), .val (.ref (own_num p0 w_CHAR w_BYTE w_SHORT w_INT w_LONG w_FLOAT w_DOUBLE)), .val (.ref (own_num p1 w_CHAR w_BYTE w_SHORT w_INT w_LONG w_FLOAT w_DOUBLE)), .val (.ref (own_pro (own_num p0 w_CHAR w_BYTE w_SHORT w_INT w_LONG w_FLOAT w_DOUBLE) (own_num p1 w_CHAR w_BYTE w_SHORT w_INT w_LONG w_FLOAT w_DOUBLE) w_INT w_LONG w_FLOAT w_DOUBLE)), .val (.ref (own_pro (own_num p1 w_CHAR w_BYTE w_SHORT w_INT w_LONG w_FLOAT w_DOUBLE) (own_num p0 w_CHAR w_BYTE w_SHORT w_INT w_LONG w_FLOAT w_DOUBLE) w_INT w_LONG w_FLOAT w_DOUBLE)), .val (.ref (own_of (own_max (own_rank (own_num p0 w_CHAR w_BYTE w_SHORT w_INT w_LONG w_FLOAT w_DOUBLE) w_LONG w_FLOAT w_DOUBLE) (own_rank (own_num p1 w_CHAR w_BYTE w_SHORT w_INT w_LONG w_FLOAT w_DOUBLE) w_LONG w_FLOAT w_DOUBLE)) w_INT w_LONG w_FLOAT w_DOUBLE))] [])) _
    refine XS.iconst X8.here hx rfl (hb hby at_54) ?_
    show Steps p.tables e below (T8.setTop (mkF m 55 #[.val (.int p0), .val (.int p1), .val (.ref (own_num p0 w_CHAR w_BYTE w_SHORT w_INT w_LONG w_FLOAT w_DOUBLE)), .val (.ref (own_num p1 w_CHAR w_BYTE w_SHORT w_INT w_LONG w_FLOAT w_DOUBLE)), .val (.ref (own_pro (own_num p0 w_CHAR w_BYTE w_SHORT w_INT w_LONG w_FLOAT w_DOUBLE) (own_num p1 w_CHAR w_BYTE w_SHORT w_INT w_LONG w_FLOAT w_DOUBLE) w_INT w_LONG w_FLOAT w_DOUBLE)), .val (.ref (own_pro (own_num p1 w_CHAR w_BYTE w_SHORT w_INT w_LONG w_FLOAT w_DOUBLE) (own_num p0 w_CHAR w_BYTE w_SHORT w_INT w_LONG w_FLOAT w_DOUBLE) w_INT w_LONG w_FLOAT w_DOUBLE)), .val (.ref (own_of (own_max (own_rank (own_num p0 w_CHAR w_BYTE w_SHORT w_INT w_LONG w_FLOAT w_DOUBLE) w_LONG w_FLOAT w_DOUBLE) (own_rank (own_num p1 w_CHAR w_BYTE w_SHORT w_INT w_LONG w_FLOAT w_DOUBLE) w_LONG w_FLOAT w_DOUBLE)) w_INT w_LONG w_FLOAT w_DOUBLE))] [(.int (1 : Int32))])) _
    refine XS.goto X8.here hx rfl (pc0 := 55) (pc' := 59) rfl (hb hby at_55) (by decide) (by decide) ?_
    show Steps p.tables e below (T8.setTop (mkF m 59 #[.val (.int p0), .val (.int p1), .val (.ref (own_num p0 w_CHAR w_BYTE w_SHORT w_INT w_LONG w_FLOAT w_DOUBLE)), .val (.ref (own_num p1 w_CHAR w_BYTE w_SHORT w_INT w_LONG w_FLOAT w_DOUBLE)), .val (.ref (own_pro (own_num p0 w_CHAR w_BYTE w_SHORT w_INT w_LONG w_FLOAT w_DOUBLE) (own_num p1 w_CHAR w_BYTE w_SHORT w_INT w_LONG w_FLOAT w_DOUBLE) w_INT w_LONG w_FLOAT w_DOUBLE)), .val (.ref (own_pro (own_num p1 w_CHAR w_BYTE w_SHORT w_INT w_LONG w_FLOAT w_DOUBLE) (own_num p0 w_CHAR w_BYTE w_SHORT w_INT w_LONG w_FLOAT w_DOUBLE) w_INT w_LONG w_FLOAT w_DOUBLE)), .val (.ref (own_of (own_max (own_rank (own_num p0 w_CHAR w_BYTE w_SHORT w_INT w_LONG w_FLOAT w_DOUBLE) w_LONG w_FLOAT w_DOUBLE) (own_rank (own_num p1 w_CHAR w_BYTE w_SHORT w_INT w_LONG w_FLOAT w_DOUBLE) w_LONG w_FLOAT w_DOUBLE)) w_INT w_LONG w_FLOAT w_DOUBLE))] [(.int (1 : Int32))])) _
    exact retN X8 hx (t := .boolean) Bd.returns (by simp) (hb hby at_59) hr
  · show Q_rm_law Z p0 p1 w_CHAR w_BYTE w_SHORT w_INT w_LONG w_FLOAT w_DOUBLE h0 n0 _ T8.heap _
    rw [e8]
    exact ⟨rfl, N8, rfl⟩
set_option maxRecDepth 65536 in
set_option maxHeartbeats 40000000 in
theorem comes_1 {Post : Tables → Env → Array Value → State → Outcome → State → Prop} (hpost : ∀ tb e args s v u, (limb_1_1.after args s (.returned v) u = true ∧ limb_1_2.after args s (.returned v) u = true ∧ True) → FrameEnd s (.returned v) u (Jvm.fieldLocs frame_1_writes args s ++ Jvm.arrayLocs frame_1_arrays args s ++ Jvm.staticLocs frame_1_statics s) 0 0 → Post tb e args s (.returned v) u) :
    ArmFor flags0 classFile x code maxLocals ret World_1 tables_1 room_1 Calls_1 rest_1 Pre_1 Post := by
  intro l hfl _ _ p e ha hc hk s m args below hf hA hF happ hP
  obtain ⟨hcalls, hrest, hpre⟩ := hP
  obtain ⟨-, -, -, hnamed, -, -, -, hat⟩ := (Spec.applies_iff hf).mp happ
  obtain ⟨hg, hn⟩ := and_e (Cond.before_iff.mp (show (Jvm.Cond.and given_1 narrow_1).before args s = true from hpre))
  obtain ⟨hcnt, hgv0⟩ := and_e hg
  obtain ⟨hg0, hgv1⟩ := and_e hgv0
  have hg1 := hgv1
  obtain ⟨w0, w1, rfl⟩ : ∃ w0 w1 : Value, args = #[w0, w1] := by
    have hs : args.size = 2 := by simpa [Cond.value, given_1] using hcnt
    obtain ⟨L⟩ := args
    match L, hs with
    | [w0, w1], _ => exact ⟨w0, w1, rfl⟩
  have hw := fun d (hd : d ∈ tables_1) => atoms_spec (ws := Jvm.Cond.code x code maxLocals ret :: tables_1) hat d (List.mem_cons_of_mem _ hd)
  have hfit : Fit s := fun {y c} hc i hi => by
    obtain ⟨ha, rfl⟩ := Array.getElem?_eq_some_iff.mp hc
    have q := List.all_eq_true.mp ((Array.all_eq_true_iff_forall_mem.mp hF) _ (Array.getElem_mem ha)) i (List.mem_range.mpr hi)
    simpa [Array.getElem?_eq_getElem hi] using q
  obtain ⟨i0, ei0⟩ := is_v hg0
  obtain rfl : w0 = (.int i0) := Option.some.inj ei0
  obtain ⟨i1, ei1⟩ := is_v hg1
  obtain rfl : w1 = (.int i1) := Option.some.inj ei1
  obtain ⟨hn0, hnr0⟩ := and_e hn
  obtain ⟨hn1, hnr1⟩ := and_e hnr0
  obtain ⟨hn2, hnr2⟩ := and_e hnr1
  obtain ⟨hn3, hnr3⟩ := and_e hnr2
  obtain ⟨hn4, hnr4⟩ := and_e hnr3
  obtain ⟨hn5, hnr5⟩ := and_e hnr4
  obtain ⟨hn6, hnr6⟩ := and_e hnr5
  obtain ⟨hn7, hnr7⟩ := and_e hnr6
  obtain ⟨hn8, hnr8⟩ := and_e hnr7
  obtain ⟨hn9, hnr9⟩ := and_e hnr8
  obtain ⟨hn10, hnr10⟩ := and_e hnr9
  obtain ⟨hn11, hnr11⟩ := and_e hnr10
  obtain ⟨hn12, hnr12⟩ := and_e hnr11
  have hn13 := hnr12
  obtain ⟨w_CHAR, ev_CHAR⟩ := exa_v hn0
  have E_CHAR := Exa.start ev_CHAR hn0
  have S_CHAR : Sta s s.heap "com/example/ambit/ambit/Constant$Type" "CHAR" "Lcom/example/ambit/ambit/Constant$Type;" (.ref w_CHAR) := Sta.start ev_CHAR (Or.inr ⟨(hw _ (List.mem_of_getElem? (i := 6) rfl)), (hw _ (List.mem_of_getElem? (i := 7) rfl))⟩)
  obtain ⟨w_INT, ev_INT⟩ := exa_v hn1
  have E_INT := Exa.start ev_INT hn1
  have S_INT : Sta s s.heap "com/example/ambit/ambit/Constant$Type" "INT" "Lcom/example/ambit/ambit/Constant$Type;" (.ref w_INT) := Sta.start ev_INT (Or.inr ⟨(hw _ (List.mem_of_getElem? (i := 6) rfl)), (hw _ (List.mem_of_getElem? (i := 9) rfl))⟩)
  obtain ⟨w_DOUBLE, ev_DOUBLE⟩ := exa_v hn2
  have E_DOUBLE := Exa.start ev_DOUBLE hn2
  have S_DOUBLE : Sta s s.heap "com/example/ambit/ambit/Constant$Type" "DOUBLE" "Lcom/example/ambit/ambit/Constant$Type;" (.ref w_DOUBLE) := Sta.start ev_DOUBLE (Or.inr ⟨(hw _ (List.mem_of_getElem? (i := 6) rfl)), (hw _ (List.mem_of_getElem? (i := 15) rfl))⟩)
  obtain ⟨w_FLOAT, ev_FLOAT⟩ := exa_v hn6
  have E_FLOAT := Exa.start ev_FLOAT hn6
  have S_FLOAT : Sta s s.heap "com/example/ambit/ambit/Constant$Type" "FLOAT" "Lcom/example/ambit/ambit/Constant$Type;" (.ref w_FLOAT) := Sta.start ev_FLOAT (Or.inr ⟨(hw _ (List.mem_of_getElem? (i := 6) rfl)), (hw _ (List.mem_of_getElem? (i := 17) rfl))⟩)
  obtain ⟨w_LONG, ev_LONG⟩ := exa_v hn8
  have E_LONG := Exa.start ev_LONG hn8
  have S_LONG : Sta s s.heap "com/example/ambit/ambit/Constant$Type" "LONG" "Lcom/example/ambit/ambit/Constant$Type;" (.ref w_LONG) := Sta.start ev_LONG (Or.inr ⟨(hw _ (List.mem_of_getElem? (i := 6) rfl)), (hw _ (List.mem_of_getElem? (i := 19) rfl))⟩)
  obtain ⟨w_BYTE, ev_BYTE⟩ := exa_v hn10
  have E_BYTE := Exa.start ev_BYTE hn10
  have S_BYTE : Sta s s.heap "com/example/ambit/ambit/Constant$Type" "BYTE" "Lcom/example/ambit/ambit/Constant$Type;" (.ref w_BYTE) := Sta.start ev_BYTE (Or.inr ⟨(hw _ (List.mem_of_getElem? (i := 6) rfl)), (hw _ (List.mem_of_getElem? (i := 34) rfl))⟩)
  obtain ⟨w_SHORT, ev_SHORT⟩ := exa_v hn12
  have E_SHORT := Exa.start ev_SHORT hn12
  have S_SHORT : Sta s s.heap "com/example/ambit/ambit/Constant$Type" "SHORT" "Lcom/example/ambit/ambit/Constant$Type;" (.ref w_SHORT) := Sta.start ev_SHORT (Or.inr ⟨(hw _ (List.mem_of_getElem? (i := 6) rfl)), (hw _ (List.mem_of_getElem? (i := 36) rfl))⟩)
  have F_CHAR_ordinal := own_fld ev_CHAR hn3
  have F_DOUBLE_ordinal := own_fld ev_DOUBLE hn4
  have F_INT_ordinal := own_fld ev_INT hn5
  have F_FLOAT_ordinal := own_fld ev_FLOAT hn7
  have F_LONG_ordinal := own_fld ev_LONG hn9
  have F_BYTE_ordinal := own_fld ev_BYTE hn11
  have F_SHORT_ordinal := own_fld ev_SHORT hn13
  obtain ⟨n, o, h1, h2, h3, _, L, rfl, hQL, hq⟩ := rm_law l s _ hw tables_1 i0 i1 w_CHAR w_BYTE w_SHORT w_INT w_LONG w_FLOAT w_DOUBLE s.heap s.heap.size (Nat.le_refl _) S_CHAR S_BYTE S_SHORT S_INT S_LONG S_FLOAT S_DOUBLE p e ha hc hk s m _ below hf ((Spec.applies_iff_loose hf).mp happ).1 ⟨rfl, State.Warmed39.refl s, rfl⟩ trivial
  obtain ⟨rfl, N, -⟩ := hQL
  refine ⟨n, _, h1, h2, h3, hpost _ _ _ _ _ _ ⟨Cond.after_iff.mpr rfl, Cond.after_iff.mpr (eq_i res_at (Term.int_eval (1)) rfl), trivial⟩ ⟨hq.1, hq.2.1, (hq.2.2.sift fun y hy => Or.inr (N y hy)).mono (by decide) (by decide)⟩⟩
theorem main_1_1 : Claimed_1_1 := comes_1 fun _ _ _ _ _ _ h hF => ⟨h.1, hF⟩
theorem main_1_2 : Claimed_1_2 := comes_1 fun _ _ _ _ _ _ h hF => ⟨h.2.1, hF⟩
end Jvm.Pilot.@@N@@
namespace Jvm.Pilot.@@N@@
open Jvm Jvm.ClassFile Sem Op Lib Jvm.Free Jvm.Stand Jvm.Pilot.@@N@@.Jvm.D
/-! MADE BY PROGRAM (witnessworld.py) out of the Statement's table words and the real class files: 13 classes; the members and pool entries that the words name. The judged class is class 1, her method 4. -/
namespace start1
open Jvm.ClassFile
def u (s : String) : CpInfo := .utf8 (stringToUtf16 s)
/-- a pool by its gaps: so many unusable entries, then the entry; so many at the end -/
def gap : Nat → List CpInfo → List CpInfo
  | 0, r => r
  | n + 1, r => .unusable :: gap n r
def poolList (es : List (Nat × CpInfo)) (last : Nat) : List CpInfo := es.foldr (fun e r => gap e.1 (e.2 :: r)) (gap last [])
def pool (es : List (Nat × CpInfo)) (last : Nat) : Array CpInfo := ⟨poolList es last⟩
def fileOf (pool : Array CpInfo) (this : Nat) (attrs : Array Attribute := #[]) (ms : Array MethodInfo := #[]) (fl : Nat := 33) (sup : Nat := 0) (ifs : Array Nat := #[]) (fds : Array FieldInfo := #[]) : ClassFile where
  minorVersion := 0
  majorVersion := 65
  constantPool := pool
  accessFlags := fl
  thisClass := this
  superClass := sup
  interfaces := ifs
  fields := fds
  methods := ms
  attributes := attrs
def plain (name : String) (sup : Option ClassId) : Class where
  name := name
  kind := .ordinary
  loader := none
  accessFlags := 33
  super := sup
  interfaces := #[]
  cf := none
  fields := #[]
  methods := #[]
  instanceTypes := #[]
  staticTypes := #[]
  resolved := #[]
  callSites := []
  init := .initialized
  statics := none
  mirror := none

def pool0 : Array CpInfo := pool [(5, u "<init>"), (0, u "()V"), (1, .class_ 10), (1, u "java/lang/Object")] 113

def k0m0 : Method := { name := "<init>", desc := "()V", sig := { parameters := [], returnType := none }, accessFlags := 1, code := none }
/-- java/lang/Object -/
def k0 : Class := { plain "java/lang/Object" none with
  accessFlags := 33
  interfaces := #[]
  cf := some (fileOf pool0 8 #[] #[{ accessFlags := 1, nameIndex := 5, descriptorIndex := 6, attributes := #[] }] 33 0 #[] #[])
  fields := #[]
  methods := #[k0m0]
  instanceTypes := #[]
  staticTypes := #[]
  resolved := Array.replicate 124 none
  statics := none }

def pool1 : Array CpInfo := pool [(2, .class_ 4), (1, u "java/lang/Object"), (0, u "<init>"), (0, u "()V"), (0, .integer 2147483647), (0, .fieldref 9 10), (0, .class_ 11), (0, .nameAndType 12 13), (0, u "com/example/ambit/ambit/Constant$Type"), (0, u "CHAR"), (0, u "Lcom/example/ambit/ambit/Constant$Type;"), (0, .fieldref 9 15), (0, .nameAndType 16 13), (0, u "BYTE"), (0, .fieldref 9 18), (0, .nameAndType 19 13), (0, u "SHORT"), (0, .fieldref 9 21), (0, .nameAndType 22 13), (0, u "INT"), (0, .fieldref 9 24), (0, .nameAndType 25 13), (0, u "LONG"), (0, .fieldref 9 27), (0, .nameAndType 28 13), (0, u "FLOAT"), (0, .fieldref 9 30), (0, .nameAndType 31 13), (0, u "DOUBLE"), (0, .methodref 33 34), (0, .class_ 35), (0, .nameAndType 36 37), (0, u "com/example/ambit/ambit/TypePromotedPinLaw"), (0, u "numeric"), (0, u "(I)Lcom/example/ambit/ambit/Constant$Type;"), (0, .methodref 9 39), (0, .nameAndType 40 41), (0, u "promoted"), (0, u "(Lcom/example/ambit/ambit/Constant$Type;Lcom/example/ambit/ambit/Constant$Type;)Lcom/example/ambit/ambit/Constant$Type;"), (0, .methodref 33 43), (0, .nameAndType 44 45), (0, u "rank"), (0, u "(Lcom/example/ambit/ambit/Constant$Type;)I"), (0, .methodref 47 48), (0, .class_ 49), (0, .nameAndType 50 51), (0, u "java/lang/Math"), (0, u "max"), (0, u "(II)I"), (0, .methodref 33 53), (0, .nameAndType 54 37), (0, u "ofRank"), (3, u "law"), (0, u "(II)Z")] 6

def k1m0 : Method := { name := "<init>", desc := "()V", sig := { parameters := [], returnType := none }, accessFlags := 1, code := none }
def k1c1 : Code := { maxStack := 2, maxLocals := 2, code := method_2_code, exceptionTable := #[], attributes := #[] }
def k1m1 : Method := { name := "numeric", desc := "(I)Lcom/example/ambit/ambit/Constant$Type;", sig := { parameters := [.int], returnType := some (.object "com/example/ambit/ambit/Constant$Type") }, accessFlags := 10, code := some k1c1 }
def k1c2 : Code := { maxStack := 2, maxLocals := 1, code := method_3_code, exceptionTable := #[], attributes := #[] }
def k1m2 : Method := { name := "rank", desc := "(Lcom/example/ambit/ambit/Constant$Type;)I", sig := { parameters := [(.object "com/example/ambit/ambit/Constant$Type")], returnType := some .int }, accessFlags := 10, code := some k1c2 }
def k1c3 : Code := { maxStack := 2, maxLocals := 1, code := method_4_code, exceptionTable := #[], attributes := #[] }
def k1m3 : Method := { name := "ofRank", desc := "(I)Lcom/example/ambit/ambit/Constant$Type;", sig := { parameters := [.int], returnType := some (.object "com/example/ambit/ambit/Constant$Type") }, accessFlags := 10, code := some k1c3 }
def k1c4 : Code := { maxStack := 2, maxLocals := 7, code := code, exceptionTable := #[], attributes := #[] }
def k1m4 : Method := { name := "law", desc := "(II)Z", sig := { parameters := [.int, .int], returnType := some .boolean }, accessFlags := 9, code := some k1c4 }
/-- com/example/ambit/ambit/TypePromotedPinLaw -/
def k1 : Class := { plain "com/example/ambit/ambit/TypePromotedPinLaw" (some 0) with
  accessFlags := 49
  interfaces := #[]
  cf := some (fileOf pool1 33 #[] #[{ accessFlags := 1, nameIndex := 5, descriptorIndex := 6, attributes := #[] }, { accessFlags := 10, nameIndex := 36, descriptorIndex := 37, attributes := #[] }, { accessFlags := 10, nameIndex := 44, descriptorIndex := 45, attributes := #[] }, { accessFlags := 10, nameIndex := 54, descriptorIndex := 37, attributes := #[] }, { accessFlags := 9, nameIndex := 58, descriptorIndex := 59, attributes := #[] }] 49 2 #[] #[])
  fields := #[]
  methods := #[k1m0, k1m1, k1m2, k1m3, k1m4]
  instanceTypes := #[]
  staticTypes := #[]
  resolved := Array.replicate 66 none
  statics := none }

def pool2 : Array CpInfo := pool [(1, .class_ 2), (0, u "java/lang/constant/Constable"), (0, .class_ 4), (0, u "java/lang/Object")] 6

/-- java/lang/constant/Constable -/
def k2 : Class := { plain "java/lang/constant/Constable" (some 0) with
  accessFlags := 1537
  interfaces := #[]
  cf := some (fileOf pool2 1 #[] #[] 1537 3 #[] #[])
  fields := #[]
  methods := #[]
  instanceTypes := #[]
  staticTypes := #[]
  resolved := Array.replicate 11 none
  statics := none }

def pool3 : Array CpInfo := pool [(1, .class_ 2), (0, u "java/lang/Comparable"), (0, .class_ 4), (0, u "java/lang/Object")] 7

/-- java/lang/Comparable -/
def k3 : Class := { plain "java/lang/Comparable" (some 0) with
  accessFlags := 1537
  interfaces := #[]
  cf := some (fileOf pool3 1 #[] #[] 1537 3 #[] #[])
  fields := #[]
  methods := #[]
  instanceTypes := #[]
  staticTypes := #[]
  resolved := Array.replicate 12 none
  statics := none }

def pool4 : Array CpInfo := pool [(1, .class_ 2), (0, u "java/io/Serializable"), (0, .class_ 4), (0, u "java/lang/Object")] 2

/-- java/io/Serializable -/
def k4 : Class := { plain "java/io/Serializable" (some 0) with
  accessFlags := 1537
  interfaces := #[]
  cf := some (fileOf pool4 1 #[] #[] 1537 3 #[] #[])
  fields := #[]
  methods := #[]
  instanceTypes := #[]
  staticTypes := #[]
  resolved := Array.replicate 7 none
  statics := none }

def pool5 : Array CpInfo := pool [(2, .class_ 4), (1, u "java/lang/Enum"), (0, u "name"), (0, u "Ljava/lang/String;"), (2, u "ordinal"), (0, u "I"), (1, .class_ 14), (1, u "java/lang/Object"), (4, u "hash"), (86, .class_ 108), (1, u "java/lang/Enum$EnumDesc"), (2, .class_ 112), (0, u "java/lang/constant/Constable"), (0, .class_ 114), (0, u "java/lang/Comparable"), (0, .class_ 116), (0, u "java/io/Serializable")] 87

/-- java/lang/Enum -/
def k5 : Class := { plain "java/lang/Enum" (some 0) with
  accessFlags := 1057
  interfaces := #[2, 3, 4]
  cf := some (fileOf pool5 2 #[.nestMembers #[106]] #[] 1057 12 #[111, 113, 115] #[{ accessFlags := 18, nameIndex := 5, descriptorIndex := 6, attributes := #[] }, { accessFlags := 18, nameIndex := 9, descriptorIndex := 10, attributes := #[] }, { accessFlags := 2, nameIndex := 19, descriptorIndex := 10, attributes := #[] }])
  fields := #[{ name := "name", type := (.object "java/lang/String"), accessFlags := 18, slot := 0, constantValue := 0 }, { name := "ordinal", type := .int, accessFlags := 18, slot := 1, constantValue := 0 }, { name := "hash", type := .int, accessFlags := 2, slot := 2, constantValue := 0 }]
  methods := #[]
  instanceTypes := #[(.object "java/lang/String"), .int, .int]
  staticTypes := #[]
  resolved := Array.replicate 204 none
  statics := none }

def pool6 : Array CpInfo := pool [(1, .class_ 2), (0, u "com/example/ambit/ambit/Constant$Type"), (2, u "BOOLEAN"), (0, u "Lcom/example/ambit/ambit/Constant$Type;"), (2, u "CHAR"), (2, u "BYTE"), (2, u "SHORT"), (0, .fieldref 1 17), (0, .nameAndType 18 6), (0, u "INT"), (0, .fieldref 1 20), (0, .nameAndType 21 6), (0, u "LONG"), (0, .fieldref 1 23), (0, .nameAndType 24 6), (0, u "FLOAT"), (0, .fieldref 1 26), (0, .nameAndType 27 6), (0, u "DOUBLE"), (2, u "STRING"), (2, u "$VALUES"), (0, u "[Lcom/example/ambit/ambit/Constant$Type;"), (6, .class_ 43), (1, u "java/lang/Enum"), (8, u "written"), (0, u "Ljava/lang/String;"), (58, u "promoted"), (1, u "(Lcom/example/ambit/ambit/Constant$Type;Lcom/example/ambit/ambit/Constant$Type;)Lcom/example/ambit/ambit/Constant$Type;"), (6, .class_ 122), (0, u "com/example/ambit/ambit/Constant")] 2

def k6c0 : Code := { maxStack := 2, maxLocals := 3, code := prog_12_method_8_code, exceptionTable := #[], attributes := #[] }
def k6m0 : Method := { name := "promoted", desc := "(Lcom/example/ambit/ambit/Constant$Type;Lcom/example/ambit/ambit/Constant$Type;)Lcom/example/ambit/ambit/Constant$Type;", sig := { parameters := [(.object "com/example/ambit/ambit/Constant$Type"), (.object "com/example/ambit/ambit/Constant$Type")], returnType := some (.object "com/example/ambit/ambit/Constant$Type") }, accessFlags := 8, code := some k6c0 }
/-- com/example/ambit/ambit/Constant$Type -/
def k6 : Class := { plain "com/example/ambit/ambit/Constant$Type" (some 5) with
  accessFlags := 16432
  interfaces := #[]
  cf := some (fileOf pool6 1 #[.nestHost 121] #[{ accessFlags := 8, nameIndex := 112, descriptorIndex := 114, attributes := #[] }] 16432 41 #[] #[{ accessFlags := 16409, nameIndex := 5, descriptorIndex := 6, attributes := #[] }, { accessFlags := 16409, nameIndex := 9, descriptorIndex := 6, attributes := #[] }, { accessFlags := 16409, nameIndex := 12, descriptorIndex := 6, attributes := #[] }, { accessFlags := 16409, nameIndex := 15, descriptorIndex := 6, attributes := #[] }, { accessFlags := 16409, nameIndex := 18, descriptorIndex := 6, attributes := #[] }, { accessFlags := 16409, nameIndex := 21, descriptorIndex := 6, attributes := #[] }, { accessFlags := 16409, nameIndex := 24, descriptorIndex := 6, attributes := #[] }, { accessFlags := 16409, nameIndex := 27, descriptorIndex := 6, attributes := #[] }, { accessFlags := 16409, nameIndex := 30, descriptorIndex := 6, attributes := #[] }, { accessFlags := 18, nameIndex := 52, descriptorIndex := 53, attributes := #[] }, { accessFlags := 4122, nameIndex := 33, descriptorIndex := 34, attributes := #[] }])
  fields := #[{ name := "BOOLEAN", type := (.object "com/example/ambit/ambit/Constant$Type"), accessFlags := 16409, slot := 0, constantValue := 0 }, { name := "CHAR", type := (.object "com/example/ambit/ambit/Constant$Type"), accessFlags := 16409, slot := 1, constantValue := 0 }, { name := "BYTE", type := (.object "com/example/ambit/ambit/Constant$Type"), accessFlags := 16409, slot := 2, constantValue := 0 }, { name := "SHORT", type := (.object "com/example/ambit/ambit/Constant$Type"), accessFlags := 16409, slot := 3, constantValue := 0 }, { name := "INT", type := (.object "com/example/ambit/ambit/Constant$Type"), accessFlags := 16409, slot := 4, constantValue := 0 }, { name := "LONG", type := (.object "com/example/ambit/ambit/Constant$Type"), accessFlags := 16409, slot := 5, constantValue := 0 }, { name := "FLOAT", type := (.object "com/example/ambit/ambit/Constant$Type"), accessFlags := 16409, slot := 6, constantValue := 0 }, { name := "DOUBLE", type := (.object "com/example/ambit/ambit/Constant$Type"), accessFlags := 16409, slot := 7, constantValue := 0 }, { name := "STRING", type := (.object "com/example/ambit/ambit/Constant$Type"), accessFlags := 16409, slot := 8, constantValue := 0 }, { name := "written", type := (.object "java/lang/String"), accessFlags := 18, slot := 3, constantValue := 0 }, { name := "$VALUES", type := (.array (.object "com/example/ambit/ambit/Constant$Type")), accessFlags := 4122, slot := 9, constantValue := 0 }]
  methods := #[k6m0]
  instanceTypes := #[(.object "java/lang/String"), .int, .int, (.object "java/lang/String")]
  staticTypes := #[(.object "com/example/ambit/ambit/Constant$Type"), (.object "com/example/ambit/ambit/Constant$Type"), (.object "com/example/ambit/ambit/Constant$Type"), (.object "com/example/ambit/ambit/Constant$Type"), (.object "com/example/ambit/ambit/Constant$Type"), (.object "com/example/ambit/ambit/Constant$Type"), (.object "com/example/ambit/ambit/Constant$Type"), (.object "com/example/ambit/ambit/Constant$Type"), (.object "com/example/ambit/ambit/Constant$Type"), (.array (.object "com/example/ambit/ambit/Constant$Type"))]
  resolved := Array.replicate 125 none
  statics := some 0 }

def pool7 : Array CpInfo := pool [(1, .class_ 2), (0, u "java/lang/Math"), (1, .class_ 6), (1, u "java/lang/Object"), (0, u "<init>"), (0, u "()V"), (89, .class_ 100), (1, u "java/lang/Math$RandomNumberGeneratorHolder"), (71, u "negativeZeroFloatBits"), (0, u "J"), (2, u "negativeZeroDoubleBits"), (21, u "max"), (46, u "$assertionsDisabled"), (0, u "Z"), (88, u "(II)I"), (2, u "twoToTheDoubleScaleDown"), (0, u "D"), (4, u "twoToTheDoubleScaleUp"), (9, u "E"), (3, u "PI"), (2, u "TAU"), (2, u "DEGREES_TO_RADIANS"), (0, u "RADIANS_TO_DEGREES")] 94

def k7m0 : Method := { name := "<init>", desc := "()V", sig := { parameters := [], returnType := none }, accessFlags := 2, code := none }
def k7c1 : Code := { maxStack := 2, maxLocals := 2, code := jdk_29_method_65_code, exceptionTable := #[], attributes := #[] }
def k7m1 : Method := { name := "max", desc := "(II)I", sig := { parameters := [.int, .int], returnType := some .int }, accessFlags := 9, code := some k7c1 }
/-- java/lang/Math -/
def k7 : Class := { plain "java/lang/Math" (some 0) with
  accessFlags := 49
  interfaces := #[]
  cf := some (fileOf pool7 1 #[.nestMembers #[98]] #[{ accessFlags := 2, nameIndex := 7, descriptorIndex := 8, attributes := #[] }, { accessFlags := 9, nameIndex := 198, descriptorIndex := 335, attributes := #[] }] 49 4 #[] #[{ accessFlags := 25, nameIndex := 354, descriptorIndex := 339, attributes := #[] }, { accessFlags := 25, nameIndex := 358, descriptorIndex := 339, attributes := #[] }, { accessFlags := 25, nameIndex := 361, descriptorIndex := 339, attributes := #[] }, { accessFlags := 26, nameIndex := 364, descriptorIndex := 339, attributes := #[] }, { accessFlags := 26, nameIndex := 365, descriptorIndex := 339, attributes := #[] }, { accessFlags := 26, nameIndex := 172, descriptorIndex := 173, attributes := #[] }, { accessFlags := 26, nameIndex := 176, descriptorIndex := 173, attributes := #[] }, { accessFlags := 8, nameIndex := 344, descriptorIndex := 339, attributes := #[] }, { accessFlags := 8, nameIndex := 338, descriptorIndex := 339, attributes := #[] }, { accessFlags := 4120, nameIndex := 245, descriptorIndex := 246, attributes := #[] }])
  fields := #[{ name := "E", type := .double, accessFlags := 25, slot := 0, constantValue := 0 }, { name := "PI", type := .double, accessFlags := 25, slot := 1, constantValue := 0 }, { name := "TAU", type := .double, accessFlags := 25, slot := 2, constantValue := 0 }, { name := "DEGREES_TO_RADIANS", type := .double, accessFlags := 26, slot := 3, constantValue := 0 }, { name := "RADIANS_TO_DEGREES", type := .double, accessFlags := 26, slot := 4, constantValue := 0 }, { name := "negativeZeroFloatBits", type := .long, accessFlags := 26, slot := 5, constantValue := 0 }, { name := "negativeZeroDoubleBits", type := .long, accessFlags := 26, slot := 6, constantValue := 0 }, { name := "twoToTheDoubleScaleUp", type := .double, accessFlags := 8, slot := 7, constantValue := 0 }, { name := "twoToTheDoubleScaleDown", type := .double, accessFlags := 8, slot := 8, constantValue := 0 }, { name := "$assertionsDisabled", type := .boolean, accessFlags := 4120, slot := 9, constantValue := 0 }]
  methods := #[k7m0, k7m1]
  instanceTypes := #[]
  staticTypes := #[.double, .double, .double, .double, .double, .long, .long, .double, .double, .boolean]
  resolved := Array.replicate 460 none
  statics := none }

def pool8 : Array CpInfo := pool [(1, u "java/lang/Cloneable"), (0, .class_ 1), (0, u "java/lang/Object"), (0, .class_ 3)] 3

/-- java/lang/Cloneable -/
def k8 : Class := { plain "java/lang/Cloneable" (some 0) with
  accessFlags := 1537
  interfaces := #[]
  cf := some (fileOf pool8 2 #[] #[] 1537 4 #[] #[])
  fields := #[]
  methods := #[]
  instanceTypes := #[]
  staticTypes := #[]
  resolved := Array.replicate 8 none
  statics := none }

/-- the primitive byte -/
def k9 : Class := { plain "byte" none with kind := .primitive 'B', accessFlags := 0x411 }
/-- [B -/
def k10 : Class := { plain "[B" (some 0) with kind := .array 9 .byte, interfaces := #[8, 4], accessFlags := 1041 }

/-- the primitive int -/
def k11 : Class := { plain "int" none with kind := .primitive 'I', accessFlags := 0x411 }
/-- [I -/
def k12 : Class := { plain "[I" (some 0) with kind := .array 11 .int, interfaces := #[8, 4], accessFlags := 1041 }

def heap : Heap := #[{ cls := 6, slots := #[.null, .ref 1, .ref 6, .ref 7, .ref 2, .ref 5, .ref 4, .ref 3, .null, .null], vm := .statics 6 },
  { cls := 6, slots := #[.null, .int 1, .int 0, .null], vm := .none },
  { cls := 6, slots := #[.null, .int 4, .int 0, .null], vm := .none },
  { cls := 6, slots := #[.null, .int 7, .int 0, .null], vm := .none },
  { cls := 6, slots := #[.null, .int 6, .int 0, .null], vm := .none },
  { cls := 6, slots := #[.null, .int 5, .int 0, .null], vm := .none },
  { cls := 6, slots := #[.null, .int 2, .int 0, .null], vm := .none },
  { cls := 6, slots := #[.null, .int 3, .int 0, .null], vm := .none }]
def classes : Array Class := #[k0, k1, k2, k3, k4, k5, k6, k7, k8, k9, k10, k11, k12]
def interned : List (Array UInt16 × Addr) := []
def slotsUsed : Nat := 38
def theMethod : MethodId := ⟨1, 4⟩
def args0 : Array Value := #[.int 5, .int 5]
def aboutOver (below : List Frame) : State where
  vm := { classes := classes, interned := interned.toArray }
  heap := heap
  slotsUsed := slotsUsed
  threads := #[{ frames := .invoking theMethod args0 :: below }]
def below0 : List Frame := [.native { method := ⟨0, 0⟩, args := #[] }]
def about1 : State := aboutOver below0
def p0 : Program := .bare "" "" ""
def e0 : Env := launch0.env 0 0 0
theorem w_frames : about1.frames = Frame.invoking theMethod args0 :: below0 := rfl
set_option maxRecDepth 65536 in
theorem w_args : argsFit about1.vm theMethod args0 = true := by decide +kernel
set_option maxRecDepth 65536 in
theorem w_heap : heapFits about1 = true := by decide +kernel
set_option maxRecDepth 65536 in
theorem w_runnable : about1.curStatus? = some .runnable := by decide +kernel
set_option maxRecDepth 65536 in
theorem w_alone : about1.alone = true := by decide +kernel
set_option maxRecDepth 65536 in
theorem w_named : about1.methodNamed? x = some theMethod := by decide +kernel
set_option maxRecDepth 65536 in
theorem w_hears : about1.hears theMethod below0 = true := by decide +kernel
set_option maxRecDepth 65536 in
theorem w_ripe : about1.ripe theMethod args0 below0 = true := by decide +kernel
theorem w_running : about1.status = .running := rfl
set_option maxRecDepth 65536 in
theorem w_room : about1.hasRoom e0.platform room_1 = true :=
  launch0.hasRoom_least _ room_1 (by decide +kernel) (by decide +kernel) (by decide +kernel) (by decide +kernel) (by decide +kernel) (by decide +kernel)
theorem allAtoms_all (ts : List Jvm.Cond) (a : Array Jvm.Value) (st : Jvm.State) : (allAtoms ts).before a st = ts.all (fun c => c.before a st) := by
  induction ts with
  | nil => rfl
  | cons c t ih =>
    show (Jvm.Cond.and c (allAtoms t)).before a st = _
    rw [Jvm.Cond.before_and, ih, List.all_cons]
def words1 : List Jvm.Cond := Jvm.Cond.code x code maxLocals ret :: tables_1
/-- a 'code' word, met by the world's own term for the bytes: nothing is compared byte by byte -/
theorem code_word {y : MethodName} {bytes : ByteArray} {mx : Nat} {rt : Option FieldType} {a : Array Value} {s : State} {m : MethodId} {meth : Method} {c : Code} (h1 : s.methodNamed? y = some m) (h2 : s.vm.method? m = some meth) (h3 : meth.code = some c) (h4 : c.code = bytes)
    (h5 : (c.maxLocals == mx && c.exceptionTable.isEmpty && decide (c.maxStack ≤ mostOperands) && decide (meth.sig.returnType = rt) && !meth.locks && decide (parseMethodDescriptor y.desc = some meth.sig)) = true) : (Jvm.Cond.code y bytes mx rt).before a s = true := by
  simp only [Bool.and_eq_true, beq_iff_eq, Bool.not_eq_true', decide_eq_true_eq] at h5
  obtain ⟨⟨⟨⟨⟨g1, g2⟩, g3⟩, g4⟩, g5⟩, g6⟩ := h5
  simp [Cond.before, Cond.holds, Cond.value, h1, h2, h3, h4, g1, g2, g3, g4, g5, g6]
def isCode : Jvm.Cond → Bool
  | .code _ _ _ _ => true
  | _ => false
theorem all_split {L : List Jvm.Cond} {P : Jvm.Cond → Bool} (h1 : L.all (fun c => isCode c || P c) = true) (h2 : ∀ c ∈ L.filter isCode, P c = true) : L.all P = true := by
  refine List.all_eq_true.mpr fun c hc => ?_
  have h := List.all_eq_true.mp h1 c hc
  rcases Bool.eq_false_or_eq_true (isCode c) with hi | hi
  · exact h2 c (List.mem_filter.mpr ⟨hc, hi⟩)
  · simpa [hi] using h
set_option maxRecDepth 65536 in
theorem w_c0 : (Jvm.Cond.code x code maxLocals ret).before args0 about1 = true := code_word (m := ⟨1, 4⟩) (meth := k1m4) (c := k1c4) (by decide +kernel) rfl rfl rfl (by decide +kernel)
set_option maxRecDepth 65536 in
theorem w_c1 : (Jvm.Cond.code ({ cls := "com/example/ambit/ambit/TypePromotedPinLaw", name := "numeric", desc := "(I)Lcom/example/ambit/ambit/Constant$Type;" } : Jvm.MethodName) method_2_code (2 : Nat) (Option.some (Jvm.ClassFile.FieldType.object "com/example/ambit/ambit/Constant$Type"))).before args0 about1 = true := code_word (m := ⟨1, 1⟩) (meth := k1m1) (c := k1c1) (by decide +kernel) rfl rfl rfl (by decide +kernel)
set_option maxRecDepth 65536 in
theorem w_c2 : (Jvm.Cond.code ({ cls := "com/example/ambit/ambit/Constant$Type", name := "promoted", desc := "(Lcom/example/ambit/ambit/Constant$Type;Lcom/example/ambit/ambit/Constant$Type;)Lcom/example/ambit/ambit/Constant$Type;" } : Jvm.MethodName) prog_12_method_8_code (3 : Nat) (Option.some (Jvm.ClassFile.FieldType.object "com/example/ambit/ambit/Constant$Type"))).before args0 about1 = true := code_word (m := ⟨6, 0⟩) (meth := k6m0) (c := k6c0) (by decide +kernel) rfl rfl rfl (by decide +kernel)
set_option maxRecDepth 65536 in
theorem w_c3 : (Jvm.Cond.code ({ cls := "com/example/ambit/ambit/TypePromotedPinLaw", name := "rank", desc := "(Lcom/example/ambit/ambit/Constant$Type;)I" } : Jvm.MethodName) method_3_code (1 : Nat) (Option.some Jvm.ClassFile.FieldType.int)).before args0 about1 = true := code_word (m := ⟨1, 2⟩) (meth := k1m2) (c := k1c2) (by decide +kernel) rfl rfl rfl (by decide +kernel)
set_option maxRecDepth 65536 in
theorem w_c4 : (Jvm.Cond.code ({ cls := "java/lang/Math", name := "max", desc := "(II)I" } : Jvm.MethodName) jdk_29_method_65_code (2 : Nat) (Option.some Jvm.ClassFile.FieldType.int)).before args0 about1 = true := code_word (m := ⟨7, 1⟩) (meth := k7m1) (c := k7c1) (by decide +kernel) rfl rfl rfl (by decide +kernel)
set_option maxRecDepth 65536 in
theorem w_c5 : (Jvm.Cond.code ({ cls := "com/example/ambit/ambit/TypePromotedPinLaw", name := "ofRank", desc := "(I)Lcom/example/ambit/ambit/Constant$Type;" } : Jvm.MethodName) method_4_code (1 : Nat) (Option.some (Jvm.ClassFile.FieldType.object "com/example/ambit/ambit/Constant$Type"))).before args0 about1 = true := code_word (m := ⟨1, 3⟩) (meth := k1m3) (c := k1c3) (by decide +kernel) rfl rfl rfl (by decide +kernel)
def codes1 : List Jvm.Cond := [Jvm.Cond.code x code maxLocals ret, Jvm.Cond.code ({ cls := "com/example/ambit/ambit/TypePromotedPinLaw", name := "numeric", desc := "(I)Lcom/example/ambit/ambit/Constant$Type;" } : Jvm.MethodName) method_2_code (2 : Nat) (Option.some (Jvm.ClassFile.FieldType.object "com/example/ambit/ambit/Constant$Type")), Jvm.Cond.code ({ cls := "com/example/ambit/ambit/Constant$Type", name := "promoted", desc := "(Lcom/example/ambit/ambit/Constant$Type;Lcom/example/ambit/ambit/Constant$Type;)Lcom/example/ambit/ambit/Constant$Type;" } : Jvm.MethodName) prog_12_method_8_code (3 : Nat) (Option.some (Jvm.ClassFile.FieldType.object "com/example/ambit/ambit/Constant$Type")), Jvm.Cond.code ({ cls := "com/example/ambit/ambit/TypePromotedPinLaw", name := "rank", desc := "(Lcom/example/ambit/ambit/Constant$Type;)I" } : Jvm.MethodName) method_3_code (1 : Nat) (Option.some Jvm.ClassFile.FieldType.int), Jvm.Cond.code ({ cls := "java/lang/Math", name := "max", desc := "(II)I" } : Jvm.MethodName) jdk_29_method_65_code (2 : Nat) (Option.some Jvm.ClassFile.FieldType.int), Jvm.Cond.code ({ cls := "com/example/ambit/ambit/TypePromotedPinLaw", name := "ofRank", desc := "(I)Lcom/example/ambit/ambit/Constant$Type;" } : Jvm.MethodName) method_4_code (1 : Nat) (Option.some (Jvm.ClassFile.FieldType.object "com/example/ambit/ambit/Constant$Type"))]
set_option maxRecDepth 65536 in
theorem codes_eq : words1.filter isCode = codes1 := rfl
theorem w_codes : ∀ c ∈ words1.filter isCode, c.before args0 about1 = true := by
  rw [codes_eq]
  intro c hc
  simp only [codes1, List.mem_cons, List.not_mem_nil, or_false] at hc
  rcases hc with rfl | rfl | rfl | rfl | rfl | rfl
  · exact w_c0
  · exact w_c1
  · exact w_c2
  · exact w_c3
  · exact w_c4
  · exact w_c5
set_option maxRecDepth 65536 in
theorem w_t1 : (words1.take 24).all (fun c => isCode c || c.before args0 about1) = true := by decide +kernel
set_option maxRecDepth 65536 in
theorem w_t2 : (words1.drop 24).all (fun c => isCode c || c.before args0 about1) = true := by decide +kernel
theorem w_tables : (allAtoms (Jvm.Cond.code x code maxLocals ret :: tables_1)).before args0 about1 = true := by
  rw [allAtoms_all]
  show words1.all (fun c => c.before args0 about1) = true
  refine all_split ?_ w_codes
  rw [← List.take_append_drop 24 words1, List.all_append, w_t1, w_t2]
  rfl
set_option maxRecDepth 65536 in
theorem w_case : (Jvm.Cond.and given_1 narrow_1).before args0 about1 = true := by decide +kernel
theorem w_applies : (headSpec (Jvm.Cond.code x code maxLocals ret :: tables_1) room_1).applies x e0.platform about1 = true :=
  (Spec.applies_iff w_frames).mpr ⟨w_running, w_runnable, w_alone, w_named, w_hears, w_ripe, w_room, w_tables⟩
theorem atStart : AtStart classFile x code maxLocals ret World_1 tables_1 room_1 Calls_1 rest_1 Pre_1 launch0 p0 e0 about1 theMethod args0 below0 :=
  ⟨lists_1, trivial, launch0.admits_env _ _ _, launch0.least_env, fairChoices_fair.cas, fairChoices_fair.clock, w_frames, w_args, w_heap, w_applies, trivial, trivial, w_case⟩
end start1
theorem witness_1 : WitnessClaimed_1 := ⟨start1.p0, start1.e0, start1.about1, start1.theMethod, start1.args0, start1.below0, start1.atStart⟩
end Jvm.Pilot.@@N@@
