import JvmDerived
import JvmDerived.Pilot.@@N@@Statement
import JvmDerived.Pilot.@@N@@Code
set_option linter.unusedVariables false
set_option linter.unusedSimpArgs false
@@BLOCK:NumsL.lean.txt@@
namespace Jvm.RoadKit
open Sem ClassFile Op Lib Jvm.Stand Jvm.Free Jvm.LawKit
section New
variable {p : Program} {l : Launch} {e : Env} {R : Room} {s : State} {m : MethodId} {args : Array Value} {below : List Frame} {meth : Method} {c : Code} {T : State} {locs : List Loc} {cells slots : Nat}
theorem retI (X : Stand p l e R s m args below meth c T locs cells slots) (hx : p.tables.exec = Jvm.exec) {pc : Nat} {Ls : Array Slot} {z : Int32} {rest : List Value} (hret : meth.sig.returnType = some .int) (hd : decode c.code pc = .ok (.ireturn, 1)) {fs : List Frame}
    (hl : ∀ (f : JFrame) (acts : List Action), f.method = m → f.locked = none → f.entered = [] → (doReturn e (T.setTop f) acts (some (.int z))).1 = T.setFrames fs) : Steps p.tables e below (T.setTop (mkF m pc Ls (.int z :: rest))) (T.setFrames fs) := by
  have hm' : T.vm.method? m = some meth := X.method'
  have hn : narrow .int (.int z) = .int z := rfl
  show Steps p.tables e below (T.setTop { method := m, pc := pc, locals := Ls, stack := _ :: rest, locked := none }) _
  jvm_step X.here [X.here.top, hx, hd, hm', hret, hn]
  first | (intro acts; rw [hl _ acts rfl rfl rfl]) | rw [hl _ _ rfl rfl rfl]
  exact Steps.refl _
end New
end Jvm.RoadKit

namespace Jvm.Pilot.@@N@@
open Jvm Jvm.ClassFile Sem Op Lib Jvm.Free Jvm.Stand Jvm.LawKit Jvm.RoadKit Bundle Jvm.Pilot.@@N@@.Jvm.D
def own_arr (a : Int32) : Int32 := (1 : Int32) + (a &&& (3 : Int32))
def own_dep (a d : Int32) : Int32 := own_arr a + (1 : Int32) + ((d &&& (2147483647 : Int32)) % ((5 : Int32) - own_arr a))
def own_stay (a d n : Int32) : Int32 := if n < a then 0 else if n < d then 1 else 0
theorem own_mask (x : Int32) : 0 ≤ (x &&& (2147483647 : Int32)).toInt := by
  have e : (x &&& (2147483647 : Int32)).toInt = x.toInt % 2 ^ 31 := Jvm.Kit.i32_mask x 2147483647 (k := 31) (by decide) (by decide)
  rw [e]; exact Int.emod_nonneg _ (by decide)
theorem own_arr_c (a : Int32) : own_arr a = 1 ∨ own_arr a = 2 ∨ own_arr a = 3 ∨ own_arr a = 4 := by
  have e : (a &&& (3 : Int32)).toInt = a.toInt % 2 ^ 2 := Jvm.Kit.i32_mask a 3 (k := 2) (by decide) (by decide)
  have h1 := Int.emod_nonneg a.toInt (show (2 ^ 2 : Int) ≠ 0 by decide)
  have h2 := Int.emod_lt_of_pos a.toInt (show (0 : Int) < 2 ^ 2 by decide)
  have : (a &&& (3 : Int32)) = 0 ∨ (a &&& (3 : Int32)) = 1 ∨ (a &&& (3 : Int32)) = 2 ∨ (a &&& (3 : Int32)) = 3 := by
    simp only [← Int32.toInt_inj, e]
    have e0 : (0 : Int32).toInt = 0 := rfl
    have e1 : (1 : Int32).toInt = 1 := rfl
    have e2 : (2 : Int32).toInt = 2 := rfl
    have e3 : (3 : Int32).toInt = 3 := rfl
    rw [e0, e1, e2, e3]
    omega
  unfold own_arr
  rcases this with h | h | h | h <;> rw [h] <;> decide
theorem own_nz (a : Int32) : (5 : Int32) - own_arr a ≠ 0 := by
  rcases own_arr_c a with h | h | h | h <;> rw [h] <;> decide
theorem own_c1 (a : Int32) : ¬ own_arr a < (1 : Int32) := by
  rcases own_arr_c a with h | h | h | h <;> rw [h] <;> decide
theorem own_modb (d k : Int32) (hk : 0 < k.toInt) : 0 ≤ ((d &&& (2147483647 : Int32)) % k).toInt ∧ ((d &&& (2147483647 : Int32)) % k).toInt < k.toInt := by
  rw [Int32.toInt_mod]
  exact ⟨Int.tmod_nonneg _ (own_mask d), Int.tmod_lt_of_pos _ hk⟩
theorem own_dep_i (a d : Int32) : (own_arr a).toInt < (own_dep a d).toInt ∧ (own_dep a d).toInt ≤ 5 := by
  have key : ∀ k : Int32, 1 ≤ k.toInt → k.toInt ≤ 4 → k.toInt < (k + (1 : Int32) + ((d &&& (2147483647 : Int32)) % ((5 : Int32) - k))).toInt ∧ (k + (1 : Int32) + ((d &&& (2147483647 : Int32)) % ((5 : Int32) - k))).toInt ≤ 5 := by
    intro k h1 h2
    have e5 : (5 : Int32).toInt = 5 := rfl
    have e1 : (1 : Int32).toInt = 1 := rfl
    have s1 : ((5 : Int32) - k).toInt = 5 - k.toInt := by rw [Int32.toInt_sub, e5]; exact Int.bmod_eq_of_le (by omega) (by omega)
    have s2 : (k + (1 : Int32)).toInt = k.toInt + 1 := by rw [Int32.toInt_add, e1]; exact Int.bmod_eq_of_le (by omega) (by omega)
    have m := own_modb d ((5 : Int32) - k) (by omega)
    have s3 : (k + (1 : Int32) + ((d &&& (2147483647 : Int32)) % ((5 : Int32) - k))).toInt = k.toInt + 1 + ((d &&& (2147483647 : Int32)) % ((5 : Int32) - k)).toInt := by rw [Int32.toInt_add, s2]; exact Int.bmod_eq_of_le (by omega) (by omega)
    omega
  unfold own_dep
  rcases own_arr_c a with h | h | h | h <;> rw [h] <;> exact key _ (by decide) (by decide)
theorem own_c2 (a d : Int32) : ¬ (5 : Int32) < own_dep a d := by
  rw [Int32.lt_iff_toInt_lt]
  have := own_dep_i a d
  have e5 : (5 : Int32).toInt = 5 := rfl
  omega
theorem own_c3 (a d : Int32) : own_arr a < own_dep a d := by
  rw [Int32.lt_iff_toInt_lt]
  exact (own_dep_i a d).1
theorem own_bnd (c : Int32) : -2147483648 ≤ c.toInt ∧ c.toInt < 2147483648 := ⟨Int32.le_toInt c, Int32.toInt_lt c⟩
theorem own_sub (c k : Int32) : (c.toInt64 - k.toInt64).toInt = c.toInt - k.toInt := by
  have := own_bnd c
  have := own_bnd k
  rw [Int64.toInt_sub, Int32.toInt_toInt64, Int32.toInt_toInt64]
  exact Int.bmod_eq_of_le (by omega) (by omega)
theorem own_l1 (n a : Int32) : lcmpW (n.toInt64 - a.toInt64) (0 : Int64) < 0 ↔ n < a := by
  rw [lcW, lc_lt, Int64.lt_iff_toInt_lt, own_sub, Int32.lt_iff_toInt_lt]
  have e0 : (0 : Int64).toInt = 0 := rfl
  omega
theorem own_l2 (n a d : Int32) : lcmpW (n.toInt64 - a.toInt64) (d.toInt64 - a.toInt64) < 0 ↔ n < d := by
  rw [lcW, lc_lt, Int64.lt_iff_toInt_lt, own_sub, own_sub, Int32.lt_iff_toInt_lt]
  omega
theorem own_s0 {n a d : Int32} (h : lcmpW (n.toInt64 - a.toInt64) (0 : Int64) < 0) : own_stay a d n = 0 := by simp [own_stay, (own_l1 n a).mp h]
theorem own_s1 {n a d : Int32} (h : ¬ lcmpW (n.toInt64 - a.toInt64) (0 : Int64) < 0) (h2 : lcmpW (n.toInt64 - a.toInt64) (d.toInt64 - a.toInt64) < 0) : own_stay a d n = 1 := by
  rw [own_l1] at h; rw [own_l2] at h2; simp [own_stay, h, h2]
theorem own_s2 {n a d : Int32} (h : ¬ lcmpW (n.toInt64 - a.toInt64) (0 : Int64) < 0) (h2 : ¬ lcmpW (n.toInt64 - a.toInt64) (d.toInt64 - a.toInt64) < 0) : own_stay a d n = 0 := by
  rw [own_l1] at h; rw [own_l2] at h2; simp [own_stay, h, h2]
theorem d2_0 : decode jdk_30_method_1_code 0 = .ok (.aload_n 0, 1) := by decide +kernel
theorem d2_1 : decode jdk_30_method_1_code 1 = .ok (.invokespecial 1, 3) := by decide +kernel
theorem d2_4 : decode jdk_30_method_1_code 4 = .ok (.return_, 1) := by decide +kernel
theorem pn_0 : plainName "java/lang/Record" = true := by first | (simp [plainName, overriddenIn]; done) | decide +kernel
theorem ef_2 (m : MethodId) (x0 : Addr) : entryFrame m #[(.ref x0)] 1 = mkF m 0 #[.val (.ref x0)] [] := by first | (simp [entryFrame, mkF, argsToLocals, Value.category]; done) | rfl
def Q_rm_rec (Z : State) (a0x : Addr) (h0 : Heap) (n0 : Nat) (v : Option Value) (h : Heap) (L : List Loc) : Prop := v = none ∧ Fr n0 L ∧ h = h0
set_option maxRecDepth 65536 in
set_option maxHeartbeats 40000000 in
theorem rm_rec (l : Launch) (Z : State) (a0 : Array Value) (hw : ∀ d ∈ tables_1, d.before a0 Z = true) (ws : List Jvm.Cond) (a0x : Addr) (h0 : Heap) (n0 : Nat) (Z0 : n0 ≤ h0.size)  :
    MetFree l (⟨"java/lang/Record", "<init>", "()V"⟩ : MethodName) (head1 (Jvm.Cond.code (⟨"java/lang/Record", "<init>", "()V"⟩ : MethodName) jdk_30_method_1_code 1 none :: ws) ({ frames := 1, cells := 0, slots := 0, locals := 12 } : Room)) (fun a U => a = #[(.ref a0x)] ∧ Z.Warmed39 U.vm ∧ U.heap = h0) (fun _ _ _ _ _ => True) (fun _ U o U' => ∃ v L, o = .returned v ∧ Q_rm_rec Z a0x h0 n0 v U'.heap L ∧ FrameEnd U o U' L ({ frames := 1, cells := 0, slots := 0, locals := 12 } : Room).cells ({ frames := 1, cells := 0, slots := 0, locals := 12 } : Room).slots) := by
  refine MetFree.of_bodySF (plainFor_of_name pn_0) hisR ?_
  intro p e s m args below meth c s₁ Bd hml0 hP hK
  obtain ⟨rfl, hZ, hh⟩ := hP
  have hx := Bd.exec
  have hby := Bd.bytes
  have hml : c.maxLocals = 1 := hml0
  have hown : s.vm.findClass "java/lang/Record" = some m.cls := findClass_of_methodNamed Bd.named
  have hnm := (name_of_methodNamed Bd.named Bd.method).1
  have X0 : Stand p l e ({ frames := 1, cells := 0, slots := 0, locals := 12 } : Room) s m #[(.ref a0x)] below meth c s₁ [] 0 0 := Stand.of_body Bd
  have e0 : s₁.heap = h0 := by rw [← hh, Bd.state]; rfl
  have N0 := Fr.nil n0
  have pre0 : ∀ t, Steps p.tables e below (s₁.setTop (mkF m 0 #[.val (.ref a0x)] [])) t → Steps p.tables e below (s₁.setTop (entryFrame m #[(.ref a0x)] 1)) t := fun t k => castTop (ef_2 m a0x) k
  obtain ⟨T1, X1, e1, st1⟩ := initO X0 hx hZ hown (hw _ (List.mem_of_getElem? (i := 15) rfl)) (hw _ (List.mem_of_getElem? (i := 16) rfl)) (hw _ (List.mem_of_getElem? (i := 17) rfl)) e0 (g := (mkF m 1 #[.val (.ref a0x)] [(.ref a0x)])) rfl (by rw [hml]; rfl) rfl (hb hby d2_1) (by decide) (W := 0) (by show 2 * 0 + _ ≤ _; exact Nat.le_of_eq rfl) (by decide)
  obtain ⟨fs, hr, hrun, hended, hW, hsame⟩ := X1.leave (v := none) (fun _ => rfl)
  refine ⟨_, _, pre0 _ ?_, hrun, hended, _, _, rfl, ?_, ⟨_, rfl⟩, hW, hsame.mono (by decide) (by decide)⟩
  · show Steps p.tables e below (s₁.setTop (mkF m 0 #[.val (.ref a0x)] [])) _
    refine XS.aloadN X0.here hx rfl (hb hby d2_0) rfl rfl ?_
    show Steps p.tables e below (s₁.setTop (mkF m 1 #[.val (.ref a0x)] [(.ref a0x)])) _
    refine st1 _ ?_
    show Steps p.tables e below (T1.setTop (mkF m 4 #[.val (.ref a0x)] [])) _
    exact X1.returnOut hx Bd.returns (hb hby d2_4) hr
  · show Q_rm_rec Z a0x h0 n0 _ T1.heap _
    rw [e1]
    exact ⟨rfl, N0, rfl⟩
theorem d4_0 : decode prog_46_method_3_code 0 = .ok (.iload_n 1, 1) := by decide +kernel
theorem d4_1 : decode prog_46_method_3_code 1 = .ok (.iconst 1, 1) := by decide +kernel
theorem d4_2 : decode prog_46_method_3_code 2 = .ok (.if_icmp .lt 13, 3) := by decide +kernel
theorem d4_5 : decode prog_46_method_3_code 5 = .ok (.iload_n 2, 1) := by decide +kernel
theorem d4_6 : decode prog_46_method_3_code 6 = .ok (.iconst 5, 1) := by decide +kernel
theorem d4_7 : decode prog_46_method_3_code 7 = .ok (.if_icmp .gt 8, 3) := by decide +kernel
theorem d4_10 : decode prog_46_method_3_code 10 = .ok (.iload_n 1, 1) := by decide +kernel
theorem d4_11 : decode prog_46_method_3_code 11 = .ok (.iload_n 2, 1) := by decide +kernel
theorem d4_12 : decode prog_46_method_3_code 12 = .ok (.if_icmp .lt 52, 3) := by decide +kernel
theorem d4_64 : decode prog_46_method_3_code 64 = .ok (.return_, 1) := by decide +kernel
theorem pn_1 : plainName "com/example/outcry/outcry/allocation/Trip" = true := by first | (simp [plainName, overriddenIn]; done) | decide +kernel
theorem ef_4 (m : MethodId) (x0 : Addr) (x1 : Int32) (x2 : Int32) : entryFrame m #[(.ref x0), (.int x1), (.int x2)] 3 = mkF m 0 #[.val (.ref x0), .val (.int x1), .val (.int x2)] [] := by first | (simp [entryFrame, mkF, argsToLocals, Value.category]; done) | rfl
def Q_rm_req (Z : State) (s0x : Addr) (p1 : Int32) (p2 : Int32) (h0 : Heap) (n0 : Nat) (v : Option Value) (h : Heap) (L : List Loc) : Prop := v = none ∧ Fr n0 L ∧ h = h0
set_option maxRecDepth 65536 in
set_option maxHeartbeats 40000000 in
theorem rm_req (l : Launch) (Z : State) (a0 : Array Value) (hw : ∀ d ∈ tables_1, d.before a0 Z = true) (ws : List Jvm.Cond) (s0x : Addr) (p1 : Int32) (p2 : Int32) (h0 : Heap) (n0 : Nat) (Z0 : n0 ≤ h0.size) (h1x : ¬ (p1 < (1 : Int32))) (h2x : ¬ ((5 : Int32) < p2)) (h3x : p1 < p2) :
    MetFree l (⟨"com/example/outcry/outcry/allocation/Trip", "requireDays", "(Ljava/lang/String;II)V"⟩ : MethodName) (head1 (Jvm.Cond.code (⟨"com/example/outcry/outcry/allocation/Trip", "requireDays", "(Ljava/lang/String;II)V"⟩ : MethodName) prog_46_method_3_code 3 none :: ws) ({ frames := 0, cells := 0, slots := 0, locals := 0 } : Room)) (fun a U => a = #[(.ref s0x), (.int p1), (.int p2)] ∧ Z.Warmed39 U.vm ∧ U.heap = h0) (fun _ _ _ _ _ => True) (fun _ U o U' => ∃ v L, o = .returned v ∧ Q_rm_req Z s0x p1 p2 h0 n0 v U'.heap L ∧ FrameEnd U o U' L ({ frames := 0, cells := 0, slots := 0, locals := 0 } : Room).cells ({ frames := 0, cells := 0, slots := 0, locals := 0 } : Room).slots) := by
  refine MetFree.of_bodySF (plainFor_of_name pn_1) hisR ?_
  intro p e s m args below meth c s₁ Bd hml0 hP hK
  obtain ⟨rfl, hZ, hh⟩ := hP
  have hx := Bd.exec
  have hby := Bd.bytes
  have hml : c.maxLocals = 3 := hml0
  have hown : s.vm.findClass "com/example/outcry/outcry/allocation/Trip" = some m.cls := findClass_of_methodNamed Bd.named
  have hnm := (name_of_methodNamed Bd.named Bd.method).1
  have X0 : Stand p l e ({ frames := 0, cells := 0, slots := 0, locals := 0 } : Room) s m #[(.ref s0x), (.int p1), (.int p2)] below meth c s₁ [] 0 0 := Stand.of_body Bd
  have e0 : s₁.heap = h0 := by rw [← hh, Bd.state]; rfl
  have N0 := Fr.nil n0
  have pre0 : ∀ t, Steps p.tables e below (s₁.setTop (mkF m 0 #[.val (.ref s0x), .val (.int p1), .val (.int p2)] [])) t → Steps p.tables e below (s₁.setTop (entryFrame m #[(.ref s0x), (.int p1), (.int p2)] 3)) t := fun t k => castTop (ef_4 m s0x p1 p2) k
  obtain ⟨fs, hr, hrun, hended, hW, hsame⟩ := X0.leave (v := none) (fun _ => rfl)
  refine ⟨_, _, pre0 _ ?_, hrun, hended, _, _, rfl, ?_, ⟨_, rfl⟩, hW, hsame.mono (by decide) (by decide)⟩
  · show Steps p.tables e below (s₁.setTop (mkF m 0 #[.val (.ref s0x), .val (.int p1), .val (.int p2)] [])) _
    refine XS.iloadN X0.here hx rfl (hb hby d4_0) rfl ?_
    show Steps p.tables e below (s₁.setTop (mkF m 1 #[.val (.ref s0x), .val (.int p1), .val (.int p2)] [(.int p1)])) _
    refine XS.iconst X0.here hx rfl (hb hby d4_1) ?_
    show Steps p.tables e below (s₁.setTop (mkF m 2 #[.val (.ref s0x), .val (.int p1), .val (.int p2)] [(.int (1 : Int32)), (.int p1)])) _
    refine XS.icmpNo X0.here hx rfl (hb hby d4_2) rfl (flt h1x).1 ?_
    show Steps p.tables e below (s₁.setTop (mkF m 5 #[.val (.ref s0x), .val (.int p1), .val (.int p2)] [])) _
    refine XS.iloadN X0.here hx rfl (hb hby d4_5) rfl ?_
    show Steps p.tables e below (s₁.setTop (mkF m 6 #[.val (.ref s0x), .val (.int p1), .val (.int p2)] [(.int p2)])) _
    refine XS.iconst X0.here hx rfl (hb hby d4_6) ?_
    show Steps p.tables e below (s₁.setTop (mkF m 7 #[.val (.ref s0x), .val (.int p1), .val (.int p2)] [(.int (5 : Int32)), (.int p2)])) _
    refine XS.icmpNo X0.here hx rfl (hb hby d4_7) rfl (flt h2x).2.2.1 ?_
    show Steps p.tables e below (s₁.setTop (mkF m 10 #[.val (.ref s0x), .val (.int p1), .val (.int p2)] [])) _
    refine XS.iloadN X0.here hx rfl (hb hby d4_10) rfl ?_
    show Steps p.tables e below (s₁.setTop (mkF m 11 #[.val (.ref s0x), .val (.int p1), .val (.int p2)] [(.int p1)])) _
    refine XS.iloadN X0.here hx rfl (hb hby d4_11) rfl ?_
    show Steps p.tables e below (s₁.setTop (mkF m 12 #[.val (.ref s0x), .val (.int p1), .val (.int p2)] [(.int p2), (.int p1)])) _
    refine XS.icmpYes X0.here hx rfl (pc0 := 12) (pc' := 64) rfl (hb hby d4_12) rfl (tlt h3x).1 (by decide) (by decide) ?_
    show Steps p.tables e below (s₁.setTop (mkF m 64 #[.val (.ref s0x), .val (.int p1), .val (.int p2)] [])) _
    exact X0.returnOut hx Bd.returns (hb hby d4_64) hr
  · show Q_rm_req Z s0x p1 p2 h0 n0 _ s₁.heap _
    rw [e0]
    exact ⟨rfl, N0, rfl⟩
theorem d5_0 : decode jdk_31_method_11_code 0 = .ok (.aload_n 0, 1) := by decide +kernel
theorem d5_1 : decode jdk_31_method_11_code 1 = .ok (.ifnonnull 12, 3) := by decide +kernel
theorem d5_13 : decode jdk_31_method_11_code 13 = .ok (.aload_n 0, 1) := by decide +kernel
theorem d5_14 : decode jdk_31_method_11_code 14 = .ok (.areturn, 1) := by decide +kernel
theorem pn_2 : plainName "java/util/Objects" = true := by first | (simp [plainName, overriddenIn]; done) | decide +kernel
theorem ef_5 (m : MethodId) (x0 : Addr) (x1 : Addr) : entryFrame m #[(.ref x0), (.ref x1)] 2 = mkF m 0 #[.val (.ref x0), .val (.ref x1)] [] := by first | (simp [entryFrame, mkF, argsToLocals, Value.category]; done) | rfl
def Q_rm_nn (Z : State) (a1x : Addr) (s0x : Addr) (h0 : Heap) (n0 : Nat) (v : Option Value) (h : Heap) (L : List Loc) : Prop := v = some (.ref a1x) ∧ Fr n0 L ∧ h = h0
set_option maxRecDepth 65536 in
set_option maxHeartbeats 40000000 in
theorem rm_nn (l : Launch) (Z : State) (a0 : Array Value) (hw : ∀ d ∈ tables_1, d.before a0 Z = true) (ws : List Jvm.Cond) (a1x : Addr) (s0x : Addr) (h0 : Heap) (n0 : Nat) (Z0 : n0 ≤ h0.size)  :
    MetFree l (⟨"java/util/Objects", "requireNonNull", "(Ljava/lang/Object;Ljava/lang/String;)Ljava/lang/Object;"⟩ : MethodName) (head1 (Jvm.Cond.code (⟨"java/util/Objects", "requireNonNull", "(Ljava/lang/Object;Ljava/lang/String;)Ljava/lang/Object;"⟩ : MethodName) jdk_31_method_11_code 2 (some (.object "java/lang/Object")) :: ws) ({ frames := 0, cells := 0, slots := 0, locals := 0 } : Room)) (fun a U => a = #[(.ref a1x), (.ref s0x)] ∧ Z.Warmed39 U.vm ∧ U.heap = h0) (fun _ _ _ _ _ => True) (fun _ U o U' => ∃ v L, o = .returned v ∧ Q_rm_nn Z a1x s0x h0 n0 v U'.heap L ∧ FrameEnd U o U' L ({ frames := 0, cells := 0, slots := 0, locals := 0 } : Room).cells ({ frames := 0, cells := 0, slots := 0, locals := 0 } : Room).slots) := by
  refine MetFree.of_bodySF (plainFor_of_name pn_2) hisR ?_
  intro p e s m args below meth c s₁ Bd hml0 hP hK
  obtain ⟨rfl, hZ, hh⟩ := hP
  have hx := Bd.exec
  have hby := Bd.bytes
  have hml : c.maxLocals = 2 := hml0
  have hown : s.vm.findClass "java/util/Objects" = some m.cls := findClass_of_methodNamed Bd.named
  have hnm := (name_of_methodNamed Bd.named Bd.method).1
  have X0 : Stand p l e ({ frames := 0, cells := 0, slots := 0, locals := 0 } : Room) s m #[(.ref a1x), (.ref s0x)] below meth c s₁ [] 0 0 := Stand.of_body Bd
  have e0 : s₁.heap = h0 := by rw [← hh, Bd.state]; rfl
  have N0 := Fr.nil n0
  have pre0 : ∀ t, Steps p.tables e below (s₁.setTop (mkF m 0 #[.val (.ref a1x), .val (.ref s0x)] [])) t → Steps p.tables e below (s₁.setTop (entryFrame m #[(.ref a1x), (.ref s0x)] 2)) t := fun t k => castTop (ef_5 m a1x s0x) k
  obtain ⟨fs, hr, hrun, hended, hW, hsame⟩ := X0.leave (v := some (.ref a1x)) (fun h => by rw [Bd.returns] at h; cases h)
  refine ⟨_, _, pre0 _ ?_, hrun, hended, _, _, rfl, ?_, ⟨_, rfl⟩, hW, hsame.mono (by decide) (by decide)⟩
  · show Steps p.tables e below (s₁.setTop (mkF m 0 #[.val (.ref a1x), .val (.ref s0x)] [])) _
    refine XS.aloadN X0.here hx rfl (hb hby d5_0) rfl rfl ?_
    show Steps p.tables e below (s₁.setTop (mkF m 1 #[.val (.ref a1x), .val (.ref s0x)] [(.ref a1x)])) _
    refine XS.ifnonnullYes X0.here hx rfl (pc0 := 1) (pc' := 13) rfl (hb hby d5_1) rfl (by decide) (by decide) ?_
    show Steps p.tables e below (s₁.setTop (mkF m 13 #[.val (.ref a1x), .val (.ref s0x)] [])) _
    refine XS.aloadN X0.here hx rfl (hb hby d5_13) rfl rfl ?_
    show Steps p.tables e below (s₁.setTop (mkF m 14 #[.val (.ref a1x), .val (.ref s0x)] [(.ref a1x)])) _
    exact retOut X0 hx Bd.returns (by rfl) (Or.inr (Or.inr (Or.inr (Or.inr ⟨rfl, rfl, rfl⟩)))) (hb hby d5_14) hr
  · show Q_rm_nn Z a1x s0x h0 n0 _ s₁.heap _
    rw [e0]
    exact ⟨rfl, N0, rfl⟩
theorem d1_0 : decode prog_46_method_1_code 0 = .ok (.aload_n 0, 1) := by decide +kernel
theorem d1_1 : decode prog_46_method_1_code 1 = .ok (.invokespecial 1, 3) := by decide +kernel
theorem pd_0 : parseMethodDescriptor "()V" = some ⟨[], none⟩ := by decide +kernel
theorem d1_4 : decode prog_46_method_1_code 4 = .ok (.ldc 7, 2) := by decide +kernel
theorem d1_6 : decode prog_46_method_1_code 6 = .ok (.iload_n 1, 1) := by decide +kernel
theorem d1_7 : decode prog_46_method_1_code 7 = .ok (.iload_n 2, 1) := by decide +kernel
theorem d1_8 : decode prog_46_method_1_code 8 = .ok (.invokestatic 9, 3) := by decide +kernel
theorem pd_1 : parseMethodDescriptor "(Ljava/lang/String;II)V" = some ⟨[(.object "java/lang/String"), .int, .int], none⟩ := by decide +kernel
theorem d1_11 : decode prog_46_method_1_code 11 = .ok (.aload_n 3, 1) := by decide +kernel
theorem d1_12 : decode prog_46_method_1_code 12 = .ok (.ldc 15, 2) := by decide +kernel
theorem d1_14 : decode prog_46_method_1_code 14 = .ok (.invokestatic 17, 3) := by decide +kernel
theorem pd_2 : parseMethodDescriptor "(Ljava/lang/Object;Ljava/lang/String;)Ljava/lang/Object;" = some ⟨[(.object "java/lang/Object"), (.object "java/lang/String")], some (.object "java/lang/Object")⟩ := by decide +kernel
theorem d1_17 : decode prog_46_method_1_code 17 = .ok (.pop, 1) := by decide +kernel
theorem d1_18 : decode prog_46_method_1_code 18 = .ok (.aload_n 0, 1) := by decide +kernel
theorem d1_19 : decode prog_46_method_1_code 19 = .ok (.iload_n 1, 1) := by decide +kernel
theorem d1_20 : decode prog_46_method_1_code 20 = .ok (.putfield 23, 3) := by decide +kernel
theorem d1_23 : decode prog_46_method_1_code 23 = .ok (.aload_n 0, 1) := by decide +kernel
theorem d1_24 : decode prog_46_method_1_code 24 = .ok (.iload_n 2, 1) := by decide +kernel
theorem d1_25 : decode prog_46_method_1_code 25 = .ok (.putfield 27, 3) := by decide +kernel
theorem d1_28 : decode prog_46_method_1_code 28 = .ok (.aload_n 0, 1) := by decide +kernel
theorem d1_29 : decode prog_46_method_1_code 29 = .ok (.aload_n 3, 1) := by decide +kernel
theorem d1_30 : decode prog_46_method_1_code 30 = .ok (.putfield 30, 3) := by decide +kernel
theorem d1_33 : decode prog_46_method_1_code 33 = .ok (.return_, 1) := by decide +kernel
theorem ef_1 (m : MethodId) (x0 : Addr) (x1 : Int32) (x2 : Int32) (x3 : Addr) : entryFrame m #[(.ref x0), (.int x1), (.int x2), (.ref x3)] 4 = mkF m 0 #[.val (.ref x0), .val (.int x1), .val (.int x2), .val (.ref x3)] [] := by first | (simp [entryFrame, mkF, argsToLocals, Value.category]; done) | rfl
def Q_rm_trip (Z : State) (a0x : Addr) (p1 : Int32) (p2 : Int32) (a3x : Addr) (h0 : Heap) (n0 : Nat) (v : Option Value) (h : Heap) (L : List Loc) : Prop := v = none ∧ Fr n0 L ∧ Keep h0 h [a0x] ∧ Fld Z h a0x "com/example/outcry/outcry/allocation/Trip" "arrival" "I" (.int p1) ∧ Fld Z h a0x "com/example/outcry/outcry/allocation/Trip" "departure" "I" (.int p2) ∧ Fld Z h a0x "com/example/outcry/outcry/allocation/Trip" "hotel" "Lcom/example/outcry/outcry/allocation/Hotel;" (.ref a3x)
set_option maxRecDepth 65536 in
set_option maxHeartbeats 40000000 in
theorem rm_trip (l : Launch) (Z : State) (a0 : Array Value) (hw : ∀ d ∈ tables_1, d.before a0 Z = true) (ws : List Jvm.Cond) (a0x : Addr) (p1 : Int32) (p2 : Int32) (a3x : Addr) (h0 : Heap) (n0 : Nat) (Z0 : n0 ≤ h0.size) (E0x : Exa Z h0 a0x "com/example/outcry/outcry/allocation/Trip") (F0x0 : Fld Z h0 a0x "com/example/outcry/outcry/allocation/Trip" "arrival" "I" (.int (0 : Int32))) (F0x1 : Fld Z h0 a0x "com/example/outcry/outcry/allocation/Trip" "departure" "I" (.int (0 : Int32))) (F0x2 : Fld Z h0 a0x "com/example/outcry/outcry/allocation/Trip" "hotel" "Lcom/example/outcry/outcry/allocation/Hotel;" .null) (g0x : n0 ≤ a0x) (h1x : ¬ (p1 < (1 : Int32))) (h2x : ¬ ((5 : Int32) < p2)) (h3x : p1 < p2) :
    MetFree l (⟨"com/example/outcry/outcry/allocation/Trip", "<init>", "(IILcom/example/outcry/outcry/allocation/Hotel;)V"⟩ : MethodName) (head1 (Jvm.Cond.code (⟨"com/example/outcry/outcry/allocation/Trip", "<init>", "(IILcom/example/outcry/outcry/allocation/Hotel;)V"⟩ : MethodName) prog_46_method_1_code 4 none :: ws) ({ frames := 2, cells := 4, slots := 44, locals := 24 } : Room)) (fun a U => a = #[(.ref a0x), (.int p1), (.int p2), (.ref a3x)] ∧ Z.Warmed39 U.vm ∧ U.heap = h0) (fun _ _ _ _ _ => True) (fun _ U o U' => ∃ v L, o = .returned v ∧ Q_rm_trip Z a0x p1 p2 a3x h0 n0 v U'.heap L ∧ ReturnedEndW U o U' L ({ frames := 2, cells := 4, slots := 44, locals := 24 } : Room).cells ({ frames := 2, cells := 4, slots := 44, locals := 24 } : Room).slots) := by
  refine MetFree.of_bodySF (plainFor_of_name pn_1) hisR ?_
  intro p e s m args below meth c s₁ Bd hml0 hP hK
  obtain ⟨rfl, hZ, hh⟩ := hP
  have hx := Bd.exec
  have hby := Bd.bytes
  have hml : c.maxLocals = 4 := hml0
  have hown : s.vm.findClass "com/example/outcry/outcry/allocation/Trip" = some m.cls := findClass_of_methodNamed Bd.named
  have hnm := (name_of_methodNamed Bd.named Bd.method).1
  have X0 : Stand p l e ({ frames := 2, cells := 4, slots := 44, locals := 24 } : Room) (s.setVm s.vm) m #[(.ref a0x), (.int p1), (.int p2), (.ref a3x)] below meth c s₁ [] 0 0 := Stand.of_body Bd
  have e0 : s₁.heap = h0 := by rw [← hh, Bd.state]; rfl
  have N0 := Fr.nil n0
  have hS0 : s.Since s.vm s.heap.size := (State.WarmedH.refl s).since _
  have hk0 : s.heap.size ≤ h0.size := Nat.le_of_eq (congrArg Array.size hh)
  have wS : ∀ a ∈ Bundle.stringAtoms, a.before a0 Z = true := by
    intro a ha
    simp only [Bundle.stringAtoms, List.mem_cons, List.not_mem_nil, or_false] at ha
    rcases ha with rfl | rfl | rfl | rfl | rfl | rfl | rfl <;> first | exact hw _ (List.mem_of_getElem? (i := 19) rfl) | exact hw _ (List.mem_of_getElem? (i := 20) rfl) | exact hw _ (List.mem_of_getElem? (i := 21) rfl) | exact hw _ (List.mem_of_getElem? (i := 22) rfl) | exact hw _ (List.mem_of_getElem? (i := 23) rfl) | exact hw _ (List.mem_of_getElem? (i := 24) rfl) | exact hw _ (List.mem_of_getElem? (i := 25) rfl)
  have K0 : Keep h0 h0 [a0x] := Keep.refl h0 [a0x]
  have pre0 : ∀ t, Steps p.tables e below (s₁.setTop (mkF m 0 #[.val (.ref a0x), .val (.int p1), .val (.int p2), .val (.ref a3x)] [])) t → Steps p.tables e below (s₁.setTop (entryFrame m #[(.ref a0x), (.int p1), (.int p2), (.ref a3x)] 4)) t := fun t k => castTop (ef_1 m a0x p1 p2 a3x) k
  obtain ⟨_, _, ⟨T1, L1, k1, n1⟩, -, X1, ⟨Lc1, hQ1, l1, y1, z1⟩, st1⟩ := X0.specialBack hx (y := (⟨"java/lang/Record", "<init>", "()V"⟩ : MethodName)) rfl hown (mvT hZ (hw _ (List.mem_of_getElem? (i := 10) rfl))) (mvT hZ (hw _ (List.mem_of_getElem? (i := 11) rfl))) (mvT hZ (hw _ (List.mem_of_getElem? (i := 14) rfl))) (by decide) (backOf (W := 0) (rm_rec l Z a0 hw [] a0x h0 n0 Z0) hZ (hw _ (List.mem_of_getElem? (i := 14) rfl)) (hw _ (List.mem_of_getElem? (i := 13) rfl)) (by decide) (by decide)) (g := (mkF m 1 #[.val (.ref a0x), .val (.int p1), .val (.int p2), .val (.ref a3x)] [(.ref a0x)])) rfl (by rw [hml]; rfl) (Steps.refl _) (a := a0x) (argsL := []) (rest := []) (lenOf pd_0 rfl) rfl (by show 2 * 0 + _ ≤ _; exact Nat.le_of_eq rfl) (hb hby d1_1) (fun _ _ => ⟨rfl, e0, (by decide : 0 + 0 ≤ _), (by decide : 0 + 0 ≤ _)⟩)
  dsimp only [Pt.U, Pt.locs, Pt.cells, Pt.slots] at X1 l1 y1 z1 st1 hQ1
  subst l1 y1 z1
  obtain ⟨rfl, N1q, e1⟩ := hQ1
  have N1 := Fr.app N0 N1q
  obtain ⟨ax2, T2, h2, kk2, X2, e2, E2, hS2, hk2, hZ2, hown2, st2⟩ := ldcS X1 hx hZ hown (hw _ (List.mem_of_getElem? (i := 18) rfl)) wS e1 hS0 hk0 (g := (mkF m 4 #[.val (.ref a0x), .val (.int p1), .val (.int p2), .val (.ref a3x)] [])) rfl (hb hby d1_4) (n := 16) (by decide) (by decide) (by decide) (by decide)
  have E0x_2 : Exa Z h2 a0x "com/example/outcry/outcry/allocation/Trip" := E0x.ext E2
  have F0x0_2 : Fld Z h2 a0x "com/example/outcry/outcry/allocation/Trip" "arrival" "I" (.int (0 : Int32)) := F0x0.ext E2
  have F0x1_2 : Fld Z h2 a0x "com/example/outcry/outcry/allocation/Trip" "departure" "I" (.int (0 : Int32)) := F0x1.ext E2
  have F0x2_2 : Fld Z h2 a0x "com/example/outcry/outcry/allocation/Trip" "hotel" "Lcom/example/outcry/outcry/allocation/Hotel;" .null := F0x2.ext E2
  have Z2 : n0 ≤ h2.size := Nat.le_trans Z0 E2.1
  have K2 : Keep h0 h2 [a0x] := K0.ext E2
  obtain ⟨_, _, ⟨T3, L3, k3, n3⟩, -, X3, ⟨Lc3, hQ3, l3, y3, z3⟩, st3⟩ := Jvm.LawKit.callS X2 hx (y := (⟨"com/example/outcry/outcry/allocation/Trip", "requireDays", "(Ljava/lang/String;II)V"⟩ : MethodName)) hown2 (mvT hZ2 (hw _ (List.mem_of_getElem? (i := 26) rfl))) (mvT hZ2 (hw _ (List.mem_of_getElem? (i := 27) rfl))) (mvT hZ2 (hw _ (List.mem_of_getElem? (i := 6) rfl))) (mvT hZ2 (hw _ (List.mem_of_getElem? (i := 28) rfl))) (by decide) (backOf (W := 0) (rm_req l Z a0 hw [] ax2 p1 p2 h2 n0 Z2 h1x h2x h3x) hZ2 (hw _ (List.mem_of_getElem? (i := 28) rfl)) (hw _ (List.mem_of_getElem? (i := 6) rfl)) (by decide) (by decide)) (g := (mkF m 8 #[.val (.ref a0x), .val (.int p1), .val (.int p2), .val (.ref a3x)] [(.int p2), (.int p1), (.ref ax2)])) rfl (by rw [hml]; rfl) (argsL := [(.ref ax2), (.int p1), (.int p2)]) (rest := []) (lenOf pd_1 rfl) rfl (by show 2 * 0 + _ ≤ _; exact Nat.le_of_eq rfl) (hb hby d1_8) (fun _ _ => ⟨rfl, e2, (by decide : 2 + 0 ≤ _), (by decide : 20 + 0 ≤ _)⟩)
  dsimp only [Pt.U, Pt.locs, Pt.cells, Pt.slots] at X3 l3 y3 z3 st3 hQ3
  subst l3 y3 z3
  obtain ⟨rfl, N3q, e3⟩ := hQ3
  have N3 := Fr.app N1 N3q
  obtain ⟨ax4, T4, h4, kk4, X4, e4, E4, hS4, hk4, hZ4, hown4, st4⟩ := ldcS X3 hx hZ2 hown2 (hw _ (List.mem_of_getElem? (i := 29) rfl)) wS e3 hS2 hk2 (g := (mkF m 12 #[.val (.ref a0x), .val (.int p1), .val (.int p2), .val (.ref a3x)] [(.ref a3x)])) rfl (hb hby d1_12) (n := 20) (by decide) (by decide) (by decide) (by decide)
  have E0x_4 : Exa Z h4 a0x "com/example/outcry/outcry/allocation/Trip" := E0x_2.ext E4
  have F0x0_4 : Fld Z h4 a0x "com/example/outcry/outcry/allocation/Trip" "arrival" "I" (.int (0 : Int32)) := F0x0_2.ext E4
  have F0x1_4 : Fld Z h4 a0x "com/example/outcry/outcry/allocation/Trip" "departure" "I" (.int (0 : Int32)) := F0x1_2.ext E4
  have F0x2_4 : Fld Z h4 a0x "com/example/outcry/outcry/allocation/Trip" "hotel" "Lcom/example/outcry/outcry/allocation/Hotel;" .null := F0x2_2.ext E4
  have Z4 : n0 ≤ h4.size := Nat.le_trans Z2 E4.1
  have K4 : Keep h0 h4 [a0x] := K2.ext E4
  obtain ⟨_, _, ⟨T5, L5, k5, n5⟩, -, X5, ⟨Lc5, hQ5, l5, y5, z5⟩, st5⟩ := Jvm.LawKit.callS X4 hx (y := (⟨"java/util/Objects", "requireNonNull", "(Ljava/lang/Object;Ljava/lang/String;)Ljava/lang/Object;"⟩ : MethodName)) hown4 (mvT hZ4 (hw _ (List.mem_of_getElem? (i := 30) rfl))) (mvT hZ4 (hw _ (List.mem_of_getElem? (i := 31) rfl))) (mvT hZ4 (hw _ (List.mem_of_getElem? (i := 32) rfl))) (mvT hZ4 (hw _ (List.mem_of_getElem? (i := 33) rfl))) (by decide) (backOf (W := 0) (rm_nn l Z a0 hw [] a3x ax4 h4 n0 Z4) hZ4 (hw _ (List.mem_of_getElem? (i := 33) rfl)) (hw _ (List.mem_of_getElem? (i := 32) rfl)) (by decide) (by decide)) (g := (mkF m 14 #[.val (.ref a0x), .val (.int p1), .val (.int p2), .val (.ref a3x)] [(.ref ax4), (.ref a3x)])) rfl (by rw [hml]; rfl) (argsL := [(.ref a3x), (.ref ax4)]) (rest := []) (lenOf pd_2 rfl) rfl (by show 2 * 0 + _ ≤ _; exact Nat.le_of_eq rfl) (hb hby d1_14) (fun _ _ => ⟨rfl, e4, (by decide : 4 + 0 ≤ _), (by decide : 44 + 0 ≤ _)⟩)
  dsimp only [Pt.U, Pt.locs, Pt.cells, Pt.slots] at X5 l5 y5 z5 st5 hQ5
  subst l5 y5 z5
  obtain ⟨rfl, N5q, e5⟩ := hQ5
  have N5 := Fr.app N3 N5q
  obtain ⟨T6, h6, X6, e6, W6, st6⟩ := putF X5 hx hZ4 hown4 (host := "") (Or.inl (hw _ (List.mem_of_getElem? (i := 34) rfl))) Via.refl e5 F0x0_4 E0x_4 (Or.inr ⟨(hw _ (List.mem_of_getElem? (i := 35) rfl)), rfl, hnm⟩) (hw _ (List.mem_of_getElem? (i := 5) rfl)) (ty := .int) (by decide) rfl rfl (g := (mkF m 20 #[.val (.ref a0x), .val (.int p1), .val (.int p2), .val (.ref a3x)] [(.int p1), (.ref a0x)])) rfl rfl (hb hby d1_20)
  have N6 := Fr.snoc X6 N5 g0x
  have Fw6 : Fld Z h6 a0x "com/example/outcry/outcry/allocation/Trip" "arrival" "I" (.int p1) := F0x0_4.same W6
  have E0x_6 : Exa Z h6 a0x "com/example/outcry/outcry/allocation/Trip" := E0x_4.wr W6
  have F0x1_6 : Fld Z h6 a0x "com/example/outcry/outcry/allocation/Trip" "departure" "I" (.int (0 : Int32)) := F0x1_4.other W6 (Or.inr (slot_ne (Or.inr (hw _ (List.mem_of_getElem? (i := 37) rfl))) (Or.inr (hw _ (List.mem_of_getElem? (i := 35) rfl))) (by decide) (t := .int) (t' := .int) (by decide) (by decide)))
  have F0x2_6 : Fld Z h6 a0x "com/example/outcry/outcry/allocation/Trip" "hotel" "Lcom/example/outcry/outcry/allocation/Hotel;" .null := F0x2_4.other W6 (Or.inr (slot_ne (Or.inr (hw _ (List.mem_of_getElem? (i := 39) rfl))) (Or.inr (hw _ (List.mem_of_getElem? (i := 35) rfl))) (by decide) (t := (.object "com/example/outcry/outcry/allocation/Hotel")) (t' := .int) (by decide) (by decide)))
  have hk6' : _ ≤ h6.size := Nat.le_trans hk4 (Keep.of_wr W6).1
  have Z6 : n0 ≤ h6.size := Nat.le_trans Z4 (Keep.of_wr W6).1
  have K6 : Keep h0 h6 [a0x] := K4.wr W6 (Or.inl (List.mem_of_getElem? (i := 0) rfl))
  obtain ⟨T7, h7, X7, e7, W7, st7⟩ := putF X6 hx hZ4 hown4 (host := "") (Or.inl (hw _ (List.mem_of_getElem? (i := 36) rfl))) Via.refl e6 F0x1_6 E0x_6 (Or.inr ⟨(hw _ (List.mem_of_getElem? (i := 37) rfl)), rfl, hnm⟩) (hw _ (List.mem_of_getElem? (i := 5) rfl)) (ty := .int) (by decide) rfl rfl (g := (mkF m 25 #[.val (.ref a0x), .val (.int p1), .val (.int p2), .val (.ref a3x)] [(.int p2), (.ref a0x)])) rfl rfl (hb hby d1_25)
  have N7 := Fr.snoc X7 N6 g0x
  have Fw7 : Fld Z h7 a0x "com/example/outcry/outcry/allocation/Trip" "departure" "I" (.int p2) := F0x1_6.same W7
  have E0x_7 : Exa Z h7 a0x "com/example/outcry/outcry/allocation/Trip" := E0x_6.wr W7
  have F0x2_7 : Fld Z h7 a0x "com/example/outcry/outcry/allocation/Trip" "hotel" "Lcom/example/outcry/outcry/allocation/Hotel;" .null := F0x2_6.other W7 (Or.inr (slot_ne (Or.inr (hw _ (List.mem_of_getElem? (i := 39) rfl))) (Or.inr (hw _ (List.mem_of_getElem? (i := 37) rfl))) (by decide) (t := (.object "com/example/outcry/outcry/allocation/Hotel")) (t' := .int) (by decide) (by decide)))
  have Fw6_7 : Fld Z h7 a0x "com/example/outcry/outcry/allocation/Trip" "arrival" "I" (.int p1) := Fw6.other W7 (Or.inr (slot_ne (Or.inr (hw _ (List.mem_of_getElem? (i := 35) rfl))) (Or.inr (hw _ (List.mem_of_getElem? (i := 37) rfl))) (by decide) (t := .int) (t' := .int) (by decide) (by decide)))
  have hk7' : _ ≤ h7.size := Nat.le_trans hk6' (Keep.of_wr W7).1
  have Z7 : n0 ≤ h7.size := Nat.le_trans Z6 (Keep.of_wr W7).1
  have K7 : Keep h0 h7 [a0x] := K6.wr W7 (Or.inl (List.mem_of_getElem? (i := 0) rfl))
  obtain ⟨T8, h8, X8, e8, W8, st8⟩ := putF X7 hx hZ4 hown4 (host := "") (Or.inl (hw _ (List.mem_of_getElem? (i := 38) rfl))) Via.refl e7 F0x2_7 E0x_7 (Or.inr ⟨(hw _ (List.mem_of_getElem? (i := 39) rfl)), rfl, hnm⟩) (hw _ (List.mem_of_getElem? (i := 5) rfl)) (ty := (.object "com/example/outcry/outcry/allocation/Hotel")) (by decide) rfl rfl (g := (mkF m 30 #[.val (.ref a0x), .val (.int p1), .val (.int p2), .val (.ref a3x)] [(.ref a3x), (.ref a0x)])) rfl rfl (hb hby d1_30)
  have N8 := Fr.snoc X8 N7 g0x
  have Fw8 : Fld Z h8 a0x "com/example/outcry/outcry/allocation/Trip" "hotel" "Lcom/example/outcry/outcry/allocation/Hotel;" (.ref a3x) := F0x2_7.same W8
  have E0x_8 : Exa Z h8 a0x "com/example/outcry/outcry/allocation/Trip" := E0x_7.wr W8
  have Fw6_8 : Fld Z h8 a0x "com/example/outcry/outcry/allocation/Trip" "arrival" "I" (.int p1) := Fw6_7.other W8 (Or.inr (slot_ne (Or.inr (hw _ (List.mem_of_getElem? (i := 35) rfl))) (Or.inr (hw _ (List.mem_of_getElem? (i := 39) rfl))) (by decide) (t := .int) (t' := (.object "com/example/outcry/outcry/allocation/Hotel")) (by decide) (by decide)))
  have Fw7_8 : Fld Z h8 a0x "com/example/outcry/outcry/allocation/Trip" "departure" "I" (.int p2) := Fw7.other W8 (Or.inr (slot_ne (Or.inr (hw _ (List.mem_of_getElem? (i := 37) rfl))) (Or.inr (hw _ (List.mem_of_getElem? (i := 39) rfl))) (by decide) (t := .int) (t' := (.object "com/example/outcry/outcry/allocation/Hotel")) (by decide) (by decide)))
  have hk8' : _ ≤ h8.size := Nat.le_trans hk7' (Keep.of_wr W8).1
  have Z8 : n0 ≤ h8.size := Nat.le_trans Z7 (Keep.of_wr W8).1
  have K8 : Keep h0 h8 [a0x] := K7.wr W8 (Or.inl (List.mem_of_getElem? (i := 0) rfl))
  obtain ⟨fs, hr, hrun, hended, hREW⟩ := X8.leaveW hS4 (by first | exact hk8' | (rw [e8]; exact hk8')) (v := none) (fun _ => rfl)
  refine ⟨_, _, pre0 _ ?_, hrun, hended, _, _, rfl, ?_, hREW.1, hREW.2.1, hREW.2.2.1, hREW.2.2.2.mono (by decide) (by decide)⟩
  · show Steps p.tables e below (s₁.setTop (mkF m 0 #[.val (.ref a0x), .val (.int p1), .val (.int p2), .val (.ref a3x)] [])) _
    refine XS.aloadN X0.here hx rfl (hb hby d1_0) rfl rfl ?_
    show Steps p.tables e below (s₁.setTop (mkF m 1 #[.val (.ref a0x), .val (.int p1), .val (.int p2), .val (.ref a3x)] [(.ref a0x)])) _
    refine st1.trans ?_
    show Steps p.tables e below (T1.setTop (mkF m 4 #[.val (.ref a0x), .val (.int p1), .val (.int p2), .val (.ref a3x)] [])) _
    refine st2 _ ?_
    show Steps p.tables e below (T2.setTop (mkF m 6 #[.val (.ref a0x), .val (.int p1), .val (.int p2), .val (.ref a3x)] [(.ref ax2)])) _
    refine XS.iloadN X2.here hx rfl (hb hby d1_6) rfl ?_
    show Steps p.tables e below (T2.setTop (mkF m 7 #[.val (.ref a0x), .val (.int p1), .val (.int p2), .val (.ref a3x)] [(.int p1), (.ref ax2)])) _
    refine XS.iloadN X2.here hx rfl (hb hby d1_7) rfl ?_
    show Steps p.tables e below (T2.setTop (mkF m 8 #[.val (.ref a0x), .val (.int p1), .val (.int p2), .val (.ref a3x)] [(.int p2), (.int p1), (.ref ax2)])) _
    refine st3 _ ?_
    show Steps p.tables e below (T3.setTop (mkF m 11 #[.val (.ref a0x), .val (.int p1), .val (.int p2), .val (.ref a3x)] [])) _
    refine XS.aloadN X3.here hx rfl (hb hby d1_11) rfl rfl ?_
    show Steps p.tables e below (T3.setTop (mkF m 12 #[.val (.ref a0x), .val (.int p1), .val (.int p2), .val (.ref a3x)] [(.ref a3x)])) _
    refine st4 _ ?_
    show Steps p.tables e below (T4.setTop (mkF m 14 #[.val (.ref a0x), .val (.int p1), .val (.int p2), .val (.ref a3x)] [(.ref ax4), (.ref a3x)])) _
    refine st5 _ ?_
    show Steps p.tables e below (T5.setTop (mkF m 17 #[.val (.ref a0x), .val (.int p1), .val (.int p2), .val (.ref a3x)] [(.ref a3x)])) _
    refine XS.pop X5.here hx rfl (hb hby d1_17) rfl rfl ?_
    show Steps p.tables e below (T5.setTop (mkF m 18 #[.val (.ref a0x), .val (.int p1), .val (.int p2), .val (.ref a3x)] [])) _
    refine XS.aloadN X5.here hx rfl (hb hby d1_18) rfl rfl ?_
    show Steps p.tables e below (T5.setTop (mkF m 19 #[.val (.ref a0x), .val (.int p1), .val (.int p2), .val (.ref a3x)] [(.ref a0x)])) _
    refine XS.iloadN X5.here hx rfl (hb hby d1_19) rfl ?_
    show Steps p.tables e below (T5.setTop (mkF m 20 #[.val (.ref a0x), .val (.int p1), .val (.int p2), .val (.ref a3x)] [(.int p1), (.ref a0x)])) _
    refine st6 _ ?_
    show Steps p.tables e below (T6.setTop (mkF m 23 #[.val (.ref a0x), .val (.int p1), .val (.int p2), .val (.ref a3x)] [])) _
    refine XS.aloadN X6.here hx rfl (hb hby d1_23) rfl rfl ?_
    show Steps p.tables e below (T6.setTop (mkF m 24 #[.val (.ref a0x), .val (.int p1), .val (.int p2), .val (.ref a3x)] [(.ref a0x)])) _
    refine XS.iloadN X6.here hx rfl (hb hby d1_24) rfl ?_
    show Steps p.tables e below (T6.setTop (mkF m 25 #[.val (.ref a0x), .val (.int p1), .val (.int p2), .val (.ref a3x)] [(.int p2), (.ref a0x)])) _
    refine st7 _ ?_
    show Steps p.tables e below (T7.setTop (mkF m 28 #[.val (.ref a0x), .val (.int p1), .val (.int p2), .val (.ref a3x)] [])) _
    refine XS.aloadN X7.here hx rfl (hb hby d1_28) rfl rfl ?_
    show Steps p.tables e below (T7.setTop (mkF m 29 #[.val (.ref a0x), .val (.int p1), .val (.int p2), .val (.ref a3x)] [(.ref a0x)])) _
    refine XS.aloadN X7.here hx rfl (hb hby d1_29) rfl rfl ?_
    show Steps p.tables e below (T7.setTop (mkF m 30 #[.val (.ref a0x), .val (.int p1), .val (.int p2), .val (.ref a3x)] [(.ref a3x), (.ref a0x)])) _
    refine st8 _ ?_
    show Steps p.tables e below (T8.setTop (mkF m 33 #[.val (.ref a0x), .val (.int p1), .val (.int p2), .val (.ref a3x)] [])) _
    exact X8.returnOut hx Bd.returns (hb hby d1_33) hr
  · show Q_rm_trip Z a0x p1 p2 a3x h0 n0 _ T8.heap _
    rw [e8]
    exact ⟨rfl, N8, K8, Fw6_8, Fw7_8, Fw8⟩
theorem d6_0 : decode prog_46_method_2_code 0 = .ok (.aload_n 0, 1) := by decide +kernel
theorem d6_1 : decode prog_46_method_2_code 1 = .ok (.getfield 23, 3) := by decide +kernel
theorem d6_4 : decode prog_46_method_2_code 4 = .ok (.iload_n 1, 1) := by decide +kernel
theorem d6_5 : decode prog_46_method_2_code 5 = .ok (.if_icmp .gt 15, 3) := by decide +kernel
theorem d6_20 : decode prog_46_method_2_code 20 = .ok (.iconst 0, 1) := by decide +kernel
theorem d6_21 : decode prog_46_method_2_code 21 = .ok (.ireturn, 1) := by decide +kernel
theorem d6_8 : decode prog_46_method_2_code 8 = .ok (.iload_n 1, 1) := by decide +kernel
theorem d6_9 : decode prog_46_method_2_code 9 = .ok (.aload_n 0, 1) := by decide +kernel
theorem d6_10 : decode prog_46_method_2_code 10 = .ok (.getfield 27, 3) := by decide +kernel
theorem d6_13 : decode prog_46_method_2_code 13 = .ok (.if_icmp .ge 7, 3) := by decide +kernel
theorem d6_16 : decode prog_46_method_2_code 16 = .ok (.iconst 1, 1) := by decide +kernel
theorem d6_17 : decode prog_46_method_2_code 17 = .ok (.goto 4, 3) := by decide +kernel
theorem ef_6 (m : MethodId) (x0 : Addr) (x1 : Int32) : entryFrame m #[(.ref x0), (.int x1)] 2 = mkF m 0 #[.val (.ref x0), .val (.int x1)] [] := by first | (simp [entryFrame, mkF, argsToLocals, Value.category]; done) | rfl
def Q_rm_stay (Z : State) (a0x : Addr) (p1 : Int32) (q1 : Int32) (q2 : Int32) (h0 : Heap) (n0 : Nat) (v : Option Value) (h : Heap) (L : List Loc) : Prop := v = some (.int (own_stay q1 q2 p1)) ∧ Fr n0 L ∧ h = h0
set_option maxRecDepth 65536 in
set_option maxHeartbeats 40000000 in
theorem rm_stay (l : Launch) (Z : State) (a0 : Array Value) (hw : ∀ d ∈ tables_1, d.before a0 Z = true) (ws : List Jvm.Cond) (a0x : Addr) (p1 : Int32) (q1 : Int32) (q2 : Int32) (h0 : Heap) (n0 : Nat) (Z0 : n0 ≤ h0.size) (F0x : Fld Z h0 a0x "com/example/outcry/outcry/allocation/Trip" "arrival" "I" (.int q1)) (F1x : Fld Z h0 a0x "com/example/outcry/outcry/allocation/Trip" "departure" "I" (.int q2)) :
    MetFree l (⟨"com/example/outcry/outcry/allocation/Trip", "staysNight", "(I)Z"⟩ : MethodName) (head1 (Jvm.Cond.code (⟨"com/example/outcry/outcry/allocation/Trip", "staysNight", "(I)Z"⟩ : MethodName) prog_46_method_2_code 2 (some .boolean) :: ws) ({ frames := 0, cells := 0, slots := 0, locals := 0 } : Room)) (fun a U => a = #[(.ref a0x), (.int p1)] ∧ Z.Warmed39 U.vm ∧ U.heap = h0) (fun _ _ _ _ _ => True) (fun _ U o U' => ∃ v L, o = .returned v ∧ Q_rm_stay Z a0x p1 q1 q2 h0 n0 v U'.heap L ∧ FrameEnd U o U' L ({ frames := 0, cells := 0, slots := 0, locals := 0 } : Room).cells ({ frames := 0, cells := 0, slots := 0, locals := 0 } : Room).slots) := by
  refine MetFree.of_bodySF (plainFor_of_name pn_1) hisR ?_
  intro p e s m args below meth c s₁ Bd hml0 hP hK
  obtain ⟨rfl, hZ, hh⟩ := hP
  have hx := Bd.exec
  have hby := Bd.bytes
  have hml : c.maxLocals = 2 := hml0
  have hown : s.vm.findClass "com/example/outcry/outcry/allocation/Trip" = some m.cls := findClass_of_methodNamed Bd.named
  have hnm := (name_of_methodNamed Bd.named Bd.method).1
  have X0 : Stand p l e ({ frames := 0, cells := 0, slots := 0, locals := 0 } : Room) s m #[(.ref a0x), (.int p1)] below meth c s₁ [] 0 0 := Stand.of_body Bd
  have e0 : s₁.heap = h0 := by rw [← hh, Bd.state]; rfl
  have N0 := Fr.nil n0
  have pre0 : ∀ t, Steps p.tables e below (s₁.setTop (mkF m 0 #[.val (.ref a0x), .val (.int p1)] [])) t → Steps p.tables e below (s₁.setTop (entryFrame m #[(.ref a0x), (.int p1)] 2)) t := fun t k => castTop (ef_6 m a0x p1) k
  obtain ⟨T1, X1, e1, st1⟩ := getF X0 hx hZ hown (host := "") (Or.inl (hw _ (List.mem_of_getElem? (i := 34) rfl))) Via.refl e0 F0x (g := (mkF m 1 #[.val (.ref a0x), .val (.int p1)] [(.ref a0x)])) rfl rfl (hb hby d6_1)
  have k2 : ∀ target, Steps p.tables e below (T1.setTop (mkF m 5 #[.val (.ref a0x), .val (.int p1)] [(.int p1), (.int q1)])) target → Steps p.tables e below (s₁.setTop (mkF m 0 #[.val (.ref a0x), .val (.int p1)] [])) target := by
    intro target kt
    show Steps p.tables e below (s₁.setTop (mkF m 0 #[.val (.ref a0x), .val (.int p1)] [])) _
    refine XS.aloadN X0.here hx rfl (hb hby d6_0) rfl rfl ?_
    show Steps p.tables e below (s₁.setTop (mkF m 1 #[.val (.ref a0x), .val (.int p1)] [(.ref a0x)])) _
    refine st1 _ ?_
    show Steps p.tables e below (T1.setTop (mkF m 4 #[.val (.ref a0x), .val (.int p1)] [(.int q1)])) _
    refine XS.iloadN X1.here hx rfl (hb hby d6_4) rfl ?_
    exact kt
  by_cases hc5 : p1 < q1
  · obtain ⟨fs, hr, hrun, hended, hW, hsame⟩ := X1.leave (v := some (.int (0 : Int32))) (fun h => by rw [Bd.returns] at h; cases h)
    refine ⟨_, _, pre0 _ ?_, hrun, hended, _, _, rfl, ?_, ⟨_, rfl⟩, hW, hsame.mono (by decide) (by decide)⟩
    · refine k2 _ ?_
      show Steps p.tables e below (T1.setTop (mkF m 5 #[.val (.ref a0x), .val (.int p1)] [(.int p1), (.int q1)])) _
      refine XS.icmpYes X1.here hx rfl (pc0 := 5) (pc' := 20) rfl (hb hby d6_5) rfl (tlt hc5).2.2.1 (by decide) (by decide) ?_
      show Steps p.tables e below (T1.setTop (mkF m 20 #[.val (.ref a0x), .val (.int p1)] [])) _
      refine XS.iconst X1.here hx rfl (hb hby d6_20) ?_
      show Steps p.tables e below (T1.setTop (mkF m 21 #[.val (.ref a0x), .val (.int p1)] [(.int (0 : Int32))])) _
      exact retN X1 hx (t := .boolean) Bd.returns (by simp) (hb hby d6_21) hr
    · show Q_rm_stay Z a0x p1 q1 q2 h0 n0 _ T1.heap _
      rw [e1]
      exact ⟨(by simp [own_stay, hc5]), N0, rfl⟩
  · obtain ⟨T3, X3, e3, st3⟩ := getF X1 hx hZ hown (host := "") (Or.inl (hw _ (List.mem_of_getElem? (i := 36) rfl))) Via.refl e1 F1x (g := (mkF m 10 #[.val (.ref a0x), .val (.int p1)] [(.ref a0x), (.int p1)])) rfl rfl (hb hby d6_10)
    have k4 : ∀ target, Steps p.tables e below (T3.setTop (mkF m 13 #[.val (.ref a0x), .val (.int p1)] [(.int q2), (.int p1)])) target → Steps p.tables e below (s₁.setTop (mkF m 0 #[.val (.ref a0x), .val (.int p1)] [])) target := by
      intro target kt
      refine k2 _ ?_
      show Steps p.tables e below (T1.setTop (mkF m 5 #[.val (.ref a0x), .val (.int p1)] [(.int p1), (.int q1)])) _
      refine XS.icmpNo X1.here hx rfl (hb hby d6_5) rfl (flt hc5).2.2.1 ?_
      show Steps p.tables e below (T1.setTop (mkF m 8 #[.val (.ref a0x), .val (.int p1)] [])) _
      refine XS.iloadN X1.here hx rfl (hb hby d6_8) rfl ?_
      show Steps p.tables e below (T1.setTop (mkF m 9 #[.val (.ref a0x), .val (.int p1)] [(.int p1)])) _
      refine XS.aloadN X1.here hx rfl (hb hby d6_9) rfl rfl ?_
      show Steps p.tables e below (T1.setTop (mkF m 10 #[.val (.ref a0x), .val (.int p1)] [(.ref a0x), (.int p1)])) _
      refine st3 _ ?_
      exact kt
    by_cases hc13 : p1 < q2
    · obtain ⟨fs, hr, hrun, hended, hW, hsame⟩ := X3.leave (v := some (.int (1 : Int32))) (fun h => by rw [Bd.returns] at h; cases h)
      refine ⟨_, _, pre0 _ ?_, hrun, hended, _, _, rfl, ?_, ⟨_, rfl⟩, hW, hsame.mono (by decide) (by decide)⟩
      · refine k4 _ ?_
        show Steps p.tables e below (T3.setTop (mkF m 13 #[.val (.ref a0x), .val (.int p1)] [(.int q2), (.int p1)])) _
        refine XS.icmpNo X3.here hx rfl (hb hby d6_13) rfl (tlt hc13).2.1 ?_
        show Steps p.tables e below (T3.setTop (mkF m 16 #[.val (.ref a0x), .val (.int p1)] [])) _
        refine XS.iconst X3.here hx rfl (hb hby d6_16) ?_
        show Steps p.tables e below (T3.setTop (mkF m 17 #[.val (.ref a0x), .val (.int p1)] [(.int (1 : Int32))])) _
        refine XS.goto X3.here hx rfl (pc0 := 17) (pc' := 21) rfl (hb hby d6_17) (by decide) (by decide) ?_
        show Steps p.tables e below (T3.setTop (mkF m 21 #[.val (.ref a0x), .val (.int p1)] [(.int (1 : Int32))])) _
        exact retN X3 hx (t := .boolean) Bd.returns (by simp) (hb hby d6_21) hr
      · show Q_rm_stay Z a0x p1 q1 q2 h0 n0 _ T3.heap _
        rw [e3]
        exact ⟨(by simp [own_stay, hc5, hc13]), N0, rfl⟩
    · obtain ⟨fs, hr, hrun, hended, hW, hsame⟩ := X3.leave (v := some (.int (0 : Int32))) (fun h => by rw [Bd.returns] at h; cases h)
      refine ⟨_, _, pre0 _ ?_, hrun, hended, _, _, rfl, ?_, ⟨_, rfl⟩, hW, hsame.mono (by decide) (by decide)⟩
      · refine k4 _ ?_
        show Steps p.tables e below (T3.setTop (mkF m 13 #[.val (.ref a0x), .val (.int p1)] [(.int q2), (.int p1)])) _
        refine XS.icmpYes X3.here hx rfl (pc0 := 13) (pc' := 20) rfl (hb hby d6_13) rfl (flt hc13).2.1 (by decide) (by decide) ?_
        show Steps p.tables e below (T3.setTop (mkF m 20 #[.val (.ref a0x), .val (.int p1)] [])) _
        refine XS.iconst X3.here hx rfl (hb hby d6_20) ?_
        show Steps p.tables e below (T3.setTop (mkF m 21 #[.val (.ref a0x), .val (.int p1)] [(.int (0 : Int32))])) _
        exact retN X3 hx (t := .boolean) Bd.returns (by simp) (hb hby d6_21) hr
      · show Q_rm_stay Z a0x p1 q1 q2 h0 n0 _ T3.heap _
        rw [e3]
        exact ⟨(by simp [own_stay, hc5, hc13]), N0, rfl⟩
theorem pd_3 : parseMethodDescriptor "(IILcom/example/outcry/outcry/allocation/Hotel;)V" = some ⟨[.int, .int, (.object "com/example/outcry/outcry/allocation/Hotel")], none⟩ := by decide +kernel
theorem pd_4 : parseMethodDescriptor "(I)Z" = some ⟨[.int], some .boolean⟩ := by decide +kernel
theorem pn_3 : plainName "com/example/outcry/outcry/allocation/TripStaysNightPinLaw" = true := by first | (simp [plainName, overriddenIn]; done) | decide +kernel
theorem ef_0 (m : MethodId) (x0 : Int32) (x1 : Int32) (x2 : Int32) (x3 : Int32) : entryFrame m #[(.int x0), (.int x1), (.int x2), (.int x3)] maxLocals = mkF m 0 #[.val (.int x0), .val (.int x1), .val (.int x2), .val (.int x3), .unset, .unset, .unset, .unset, .unset, .unset, .unset, .unset, .unset, .unset] [] := by first | (simp [entryFrame, mkF, argsToLocals, Value.category, maxLocals]; done) | rfl
def Q_rm_law (Z : State) (p0 : Int32) (p1 : Int32) (p2 : Int32) (p3 : Int32) (w_GOOD : Addr) (w_CHEAP : Addr) (h0 : Heap) (n0 : Nat) (v : Option Value) (h : Heap) (L : List Loc) : Prop := v = some (.int (1 : Int32)) ∧ Fr n0 L ∧ True
set_option maxRecDepth 65536 in
set_option maxHeartbeats 40000000 in
theorem rm_law (l : Launch) (Z : State) (a0 : Array Value) (hw : ∀ d ∈ tables_1, d.before a0 Z = true) (ws : List Jvm.Cond) (p0 : Int32) (p1 : Int32) (p2 : Int32) (p3 : Int32) (w_GOOD : Addr) (w_CHEAP : Addr) (h0 : Heap) (n0 : Nat) (Z0 : n0 ≤ h0.size) (S_GOOD : Sta Z h0 "com/example/outcry/outcry/allocation/Hotel" "GOOD" "Lcom/example/outcry/outcry/allocation/Hotel;" (.ref w_GOOD)) (S_CHEAP : Sta Z h0 "com/example/outcry/outcry/allocation/Hotel" "CHEAP" "Lcom/example/outcry/outcry/allocation/Hotel;" (.ref w_CHEAP)) (E_GOOD : Exa Z h0 w_GOOD "com/example/outcry/outcry/allocation/Hotel") (E_CHEAP : Exa Z h0 w_CHEAP "com/example/outcry/outcry/allocation/Hotel") :
    MetFree l x (head1 (Jvm.Cond.code x code maxLocals ret :: ws) room_1) (fun a U => a = #[(.int p0), (.int p1), (.int p2), (.int p3)] ∧ Z.Warmed39 U.vm ∧ U.heap = h0) (fun _ _ _ _ _ => True) (fun _ U o U' => ∃ v L, o = .returned v ∧ Q_rm_law Z p0 p1 p2 p3 w_GOOD w_CHEAP h0 n0 v U'.heap L ∧ ReturnedEndW U o U' L room_1.cells room_1.slots) := by
  refine MetFree.of_bodySF (plainFor_of_name pn_3) hisR ?_
  intro p e s m args below meth c s₁ Bd hml0 hP hK
  obtain ⟨rfl, hZ, hh⟩ := hP
  have hx := Bd.exec
  have hby := Bd.bytes
  have hml : c.maxLocals = 14 := hml0
  have hown : s.vm.findClass "com/example/outcry/outcry/allocation/TripStaysNightPinLaw" = some m.cls := findClass_of_methodNamed Bd.named
  have hnm := (name_of_methodNamed Bd.named Bd.method).1
  have X0 : Stand p l e room_1 (s.setVm s.vm) m #[(.int p0), (.int p1), (.int p2), (.int p3)] below meth c s₁ [] 0 0 := Stand.of_body Bd
  have e0 : s₁.heap = h0 := by rw [← hh, Bd.state]; rfl
  have N0 := Fr.nil n0
  have hS0 : s.Since s.vm s.heap.size := (State.WarmedH.refl s).since _
  have hk0 : s.heap.size ≤ h0.size := Nat.le_of_eq (congrArg Array.size hh)
  have wS : ∀ a ∈ Bundle.stringAtoms, a.before a0 Z = true := by
    intro a ha
    simp only [Bundle.stringAtoms, List.mem_cons, List.not_mem_nil, or_false] at ha
    rcases ha with rfl | rfl | rfl | rfl | rfl | rfl | rfl <;> first | exact hw _ (List.mem_of_getElem? (i := 19) rfl) | exact hw _ (List.mem_of_getElem? (i := 20) rfl) | exact hw _ (List.mem_of_getElem? (i := 21) rfl) | exact hw _ (List.mem_of_getElem? (i := 22) rfl) | exact hw _ (List.mem_of_getElem? (i := 23) rfl) | exact hw _ (List.mem_of_getElem? (i := 24) rfl) | exact hw _ (List.mem_of_getElem? (i := 25) rfl)
  have pre0 : ∀ t, Steps p.tables e below (s₁.setTop (mkF m 0 #[.val (.int p0), .val (.int p1), .val (.int p2), .val (.int p3), .unset, .unset, .unset, .unset, .unset, .unset, .unset, .unset, .unset, .unset] [])) t → Steps p.tables e below (s₁.setTop (entryFrame m #[(.int p0), (.int p1), (.int p2), (.int p3)] maxLocals)) t := fun t k => castTop (ef_0 m p0 p1 p2 p3) k
  have k1 : ∀ target, Steps p.tables e below (s₁.setTop (mkF m 26 #[.val (.int p0), .val (.int p1), .val (.int p2), .val (.int p3), .val (.int (own_arr p0)), .val (.int (own_dep p0 p1)), .unset, .unset, .unset, .unset, .unset, .unset, .unset, .unset] [(.int (p2 &&& (1 : Int32)))])) target → Steps p.tables e below (s₁.setTop (mkF m 0 #[.val (.int p0), .val (.int p1), .val (.int p2), .val (.int p3), .unset, .unset, .unset, .unset, .unset, .unset, .unset, .unset, .unset, .unset] [])) target := by
    intro target kt
    show Steps p.tables e below (s₁.setTop (mkF m 0 #[.val (.int p0), .val (.int p1), .val (.int p2), .val (.int p3), .unset, .unset, .unset, .unset, .unset, .unset, .unset, .unset, .unset, .unset] [])) _
    refine XS.iconst X0.here hx rfl (hb hby at_0) ?_
    show Steps p.tables e below (s₁.setTop (mkF m 1 #[.val (.int p0), .val (.int p1), .val (.int p2), .val (.int p3), .unset, .unset, .unset, .unset, .unset, .unset, .unset, .unset, .unset, .unset] [(.int (1 : Int32))])) _
    refine XS.iloadN X0.here hx rfl (hb hby at_1) rfl ?_
    show Steps p.tables e below (s₁.setTop (mkF m 2 #[.val (.int p0), .val (.int p1), .val (.int p2), .val (.int p3), .unset, .unset, .unset, .unset, .unset, .unset, .unset, .unset, .unset, .unset] [(.int p0), (.int (1 : Int32))])) _
    refine XS.iconst X0.here hx rfl (hb hby at_2) ?_
    show Steps p.tables e below (s₁.setTop (mkF m 3 #[.val (.int p0), .val (.int p1), .val (.int p2), .val (.int p3), .unset, .unset, .unset, .unset, .unset, .unset, .unset, .unset, .unset, .unset] [(.int (3 : Int32)), (.int p0), (.int (1 : Int32))])) _
    refine XS.iand X0.here hx rfl (hb hby at_3) rfl ?_
    show Steps p.tables e below (s₁.setTop (mkF m 4 #[.val (.int p0), .val (.int p1), .val (.int p2), .val (.int p3), .unset, .unset, .unset, .unset, .unset, .unset, .unset, .unset, .unset, .unset] [(.int (p0 &&& (3 : Int32))), (.int (1 : Int32))])) _
    refine XS.iadd X0.here hx rfl (hb hby at_4) rfl ?_
    show Steps p.tables e below (s₁.setTop (mkF m 5 #[.val (.int p0), .val (.int p1), .val (.int p2), .val (.int p3), .unset, .unset, .unset, .unset, .unset, .unset, .unset, .unset, .unset, .unset] [(.int ((1 : Int32) + (p0 &&& (3 : Int32))))])) _
    refine XS.istore X0.here hx rfl (hb hby at_5) rfl (l' := #[.val (.int p0), .val (.int p1), .val (.int p2), .val (.int p3), .val (.int ((1 : Int32) + (p0 &&& (3 : Int32)))), .unset, .unset, .unset, .unset, .unset, .unset, .unset, .unset, .unset]) rfl ?_
    show Steps p.tables e below (s₁.setTop (mkF m 7 #[.val (.int p0), .val (.int p1), .val (.int p2), .val (.int p3), .val (.int (own_arr p0)), .unset, .unset, .unset, .unset, .unset, .unset, .unset, .unset, .unset] [])) _
    refine XS.iload X0.here hx rfl (hb hby at_7) rfl ?_
    show Steps p.tables e below (s₁.setTop (mkF m 9 #[.val (.int p0), .val (.int p1), .val (.int p2), .val (.int p3), .val (.int (own_arr p0)), .unset, .unset, .unset, .unset, .unset, .unset, .unset, .unset, .unset] [(.int (own_arr p0))])) _
    refine XS.iconst X0.here hx rfl (hb hby at_9) ?_
    show Steps p.tables e below (s₁.setTop (mkF m 10 #[.val (.int p0), .val (.int p1), .val (.int p2), .val (.int p3), .val (.int (own_arr p0)), .unset, .unset, .unset, .unset, .unset, .unset, .unset, .unset, .unset] [(.int (1 : Int32)), (.int (own_arr p0))])) _
    refine XS.iadd X0.here hx rfl (hb hby at_10) rfl ?_
    show Steps p.tables e below (s₁.setTop (mkF m 11 #[.val (.int p0), .val (.int p1), .val (.int p2), .val (.int p3), .val (.int (own_arr p0)), .unset, .unset, .unset, .unset, .unset, .unset, .unset, .unset, .unset] [(.int ((own_arr p0) + (1 : Int32)))])) _
    refine XS.iloadN X0.here hx rfl (hb hby at_11) rfl ?_
    show Steps p.tables e below (s₁.setTop (mkF m 12 #[.val (.int p0), .val (.int p1), .val (.int p2), .val (.int p3), .val (.int (own_arr p0)), .unset, .unset, .unset, .unset, .unset, .unset, .unset, .unset, .unset] [(.int p1), (.int ((own_arr p0) + (1 : Int32)))])) _
    refine X0.ldcInt hx hown (mvT hZ (hw _ (List.mem_of_getElem? (i := 0) rfl))) (g := (mkF m 12 #[.val (.int p0), .val (.int p1), .val (.int p2), .val (.int p3), .val (.int (own_arr p0)), .unset, .unset, .unset, .unset, .unset, .unset, .unset, .unset, .unset] [(.int p1), (.int ((own_arr p0) + (1 : Int32)))])) rfl (hb hby at_12) _ ?_
    show Steps p.tables e below (s₁.setTop (mkF m 14 #[.val (.int p0), .val (.int p1), .val (.int p2), .val (.int p3), .val (.int (own_arr p0)), .unset, .unset, .unset, .unset, .unset, .unset, .unset, .unset, .unset] [(.int (2147483647 : Int32)), (.int p1), (.int ((own_arr p0) + (1 : Int32)))])) _
    refine XS.iand X0.here hx rfl (hb hby at_14) rfl ?_
    show Steps p.tables e below (s₁.setTop (mkF m 15 #[.val (.int p0), .val (.int p1), .val (.int p2), .val (.int p3), .val (.int (own_arr p0)), .unset, .unset, .unset, .unset, .unset, .unset, .unset, .unset, .unset] [(.int (p1 &&& (2147483647 : Int32))), (.int ((own_arr p0) + (1 : Int32)))])) _
    refine XS.iconst X0.here hx rfl (hb hby at_15) ?_
    show Steps p.tables e below (s₁.setTop (mkF m 16 #[.val (.int p0), .val (.int p1), .val (.int p2), .val (.int p3), .val (.int (own_arr p0)), .unset, .unset, .unset, .unset, .unset, .unset, .unset, .unset, .unset] [(.int (5 : Int32)), (.int (p1 &&& (2147483647 : Int32))), (.int ((own_arr p0) + (1 : Int32)))])) _
    refine XS.iload X0.here hx rfl (hb hby at_16) rfl ?_
    show Steps p.tables e below (s₁.setTop (mkF m 18 #[.val (.int p0), .val (.int p1), .val (.int p2), .val (.int p3), .val (.int (own_arr p0)), .unset, .unset, .unset, .unset, .unset, .unset, .unset, .unset, .unset] [(.int (own_arr p0)), (.int (5 : Int32)), (.int (p1 &&& (2147483647 : Int32))), (.int ((own_arr p0) + (1 : Int32)))])) _
    refine XS.isub X0.here hx rfl (hb hby at_18) rfl ?_
    show Steps p.tables e below (s₁.setTop (mkF m 19 #[.val (.int p0), .val (.int p1), .val (.int p2), .val (.int p3), .val (.int (own_arr p0)), .unset, .unset, .unset, .unset, .unset, .unset, .unset, .unset, .unset] [(.int ((5 : Int32) - (own_arr p0))), (.int (p1 &&& (2147483647 : Int32))), (.int ((own_arr p0) + (1 : Int32)))])) _
    refine iremM X0 hx rfl (hb hby at_19) rfl (own_nz p0) ?_
    show Steps p.tables e below (s₁.setTop (mkF m 20 #[.val (.int p0), .val (.int p1), .val (.int p2), .val (.int p3), .val (.int (own_arr p0)), .unset, .unset, .unset, .unset, .unset, .unset, .unset, .unset, .unset] [(.int ((p1 &&& (2147483647 : Int32)) % ((5 : Int32) - (own_arr p0)))), (.int ((own_arr p0) + (1 : Int32)))])) _
    refine XS.iadd X0.here hx rfl (hb hby at_20) rfl ?_
    show Steps p.tables e below (s₁.setTop (mkF m 21 #[.val (.int p0), .val (.int p1), .val (.int p2), .val (.int p3), .val (.int (own_arr p0)), .unset, .unset, .unset, .unset, .unset, .unset, .unset, .unset, .unset] [(.int (((own_arr p0) + (1 : Int32)) + ((p1 &&& (2147483647 : Int32)) % ((5 : Int32) - (own_arr p0)))))])) _
    refine XS.istore X0.here hx rfl (hb hby at_21) rfl (l' := #[.val (.int p0), .val (.int p1), .val (.int p2), .val (.int p3), .val (.int (own_arr p0)), .val (.int (((own_arr p0) + (1 : Int32)) + ((p1 &&& (2147483647 : Int32)) % ((5 : Int32) - (own_arr p0))))), .unset, .unset, .unset, .unset, .unset, .unset, .unset, .unset]) rfl ?_
    show Steps p.tables e below (s₁.setTop (mkF m 23 #[.val (.int p0), .val (.int p1), .val (.int p2), .val (.int p3), .val (.int (own_arr p0)), .val (.int (own_dep p0 p1)), .unset, .unset, .unset, .unset, .unset, .unset, .unset, .unset] [])) _
    refine XS.iloadN X0.here hx rfl (hb hby at_23) rfl ?_
    show Steps p.tables e below (s₁.setTop (mkF m 24 #[.val (.int p0), .val (.int p1), .val (.int p2), .val (.int p3), .val (.int (own_arr p0)), .val (.int (own_dep p0 p1)), .unset, .unset, .unset, .unset, .unset, .unset, .unset, .unset] [(.int p2)])) _
    refine XS.iconst X0.here hx rfl (hb hby at_24) ?_
    show Steps p.tables e below (s₁.setTop (mkF m 25 #[.val (.int p0), .val (.int p1), .val (.int p2), .val (.int p3), .val (.int (own_arr p0)), .val (.int (own_dep p0 p1)), .unset, .unset, .unset, .unset, .unset, .unset, .unset, .unset] [(.int (1 : Int32)), (.int p2)])) _
    refine XS.iand X0.here hx rfl (hb hby at_25) rfl ?_
    exact kt
  by_cases hc26 : (p2 &&& (1 : Int32)) = (0 : Int32)
  · obtain ⟨T2, X2, e2, st2⟩ := getS2 X0 hx hZ hown (host := "") (Or.inl (hw _ (List.mem_of_getElem? (i := 1) rfl))) Via.refl e0 S_CHEAP (g := (mkF m 35 #[.val (.int p0), .val (.int p1), .val (.int p2), .val (.int p3), .val (.int (own_arr p0)), .val (.int (own_dep p0 p1)), .unset, .unset, .unset, .unset, .unset, .unset, .unset, .unset] [])) rfl (hb hby at_35)
    have k3 : ∀ target, Steps p.tables e below (T2.setTop (mkF m 43 #[.val (.int p0), .val (.int p1), .val (.int p2), .val (.int p3), .val (.int (own_arr p0)), .val (.int (own_dep p0 p1)), .val (.ref w_CHEAP), .unset, .unset, .unset, .unset, .unset, .unset, .unset] [(.int (p2 &&& (2 : Int32)))])) target → Steps p.tables e below (s₁.setTop (mkF m 0 #[.val (.int p0), .val (.int p1), .val (.int p2), .val (.int p3), .unset, .unset, .unset, .unset, .unset, .unset, .unset, .unset, .unset, .unset] [])) target := by
      intro target kt
      refine k1 _ ?_
      show Steps p.tables e below (s₁.setTop (mkF m 26 #[.val (.int p0), .val (.int p1), .val (.int p2), .val (.int p3), .val (.int (own_arr p0)), .val (.int (own_dep p0 p1)), .unset, .unset, .unset, .unset, .unset, .unset, .unset, .unset] [(.int (p2 &&& (1 : Int32)))])) _
      refine XS.ifYes X0.here hx rfl (pc0 := 26) (pc' := 35) rfl (hb hby at_26) rfl ((if0 _ _).trans (teq hc26).1) (by decide) (by decide) ?_
      show Steps p.tables e below (s₁.setTop (mkF m 35 #[.val (.int p0), .val (.int p1), .val (.int p2), .val (.int p3), .val (.int (own_arr p0)), .val (.int (own_dep p0 p1)), .unset, .unset, .unset, .unset, .unset, .unset, .unset, .unset] [])) _
      refine st2 _ ?_
      show Steps p.tables e below (T2.setTop (mkF m 38 #[.val (.int p0), .val (.int p1), .val (.int p2), .val (.int p3), .val (.int (own_arr p0)), .val (.int (own_dep p0 p1)), .unset, .unset, .unset, .unset, .unset, .unset, .unset, .unset] [(.ref w_CHEAP)])) _
      refine XS.astore X2.here hx rfl (hb hby at_38) rfl rfl (l' := #[.val (.int p0), .val (.int p1), .val (.int p2), .val (.int p3), .val (.int (own_arr p0)), .val (.int (own_dep p0 p1)), .val (.ref w_CHEAP), .unset, .unset, .unset, .unset, .unset, .unset, .unset]) rfl ?_
      show Steps p.tables e below (T2.setTop (mkF m 40 #[.val (.int p0), .val (.int p1), .val (.int p2), .val (.int p3), .val (.int (own_arr p0)), .val (.int (own_dep p0 p1)), .val (.ref w_CHEAP), .unset, .unset, .unset, .unset, .unset, .unset, .unset] [])) _
      refine XS.iloadN X2.here hx rfl (hb hby at_40) rfl ?_
      show Steps p.tables e below (T2.setTop (mkF m 41 #[.val (.int p0), .val (.int p1), .val (.int p2), .val (.int p3), .val (.int (own_arr p0)), .val (.int (own_dep p0 p1)), .val (.ref w_CHEAP), .unset, .unset, .unset, .unset, .unset, .unset, .unset] [(.int p2)])) _
      refine XS.iconst X2.here hx rfl (hb hby at_41) ?_
      show Steps p.tables e below (T2.setTop (mkF m 42 #[.val (.int p0), .val (.int p1), .val (.int p2), .val (.int p3), .val (.int (own_arr p0)), .val (.int (own_dep p0 p1)), .val (.ref w_CHEAP), .unset, .unset, .unset, .unset, .unset, .unset, .unset] [(.int (2 : Int32)), (.int p2)])) _
      refine XS.iand X2.here hx rfl (hb hby at_42) rfl ?_
      exact kt
    by_cases hc43 : (p2 &&& (2 : Int32)) = (0 : Int32)
    · obtain ⟨T4, h4, X4, e4, E4, A4, D4, -, st4⟩ := newO X2 hx hZ hown (hw _ (List.mem_of_getElem? (i := 4) rfl)) (hw _ (List.mem_of_getElem? (i := 5) rfl)) (hw _ (List.mem_of_getElem? (i := 6) rfl)) e2 (g := (mkF m 58 #[.val (.int p0), .val (.int p1), .val (.int p2), .val (.int p3), .val (.int (own_arr p0)), .val (.int (own_dep p0 p1)), .val (.ref w_CHEAP), .val (.int ((p3 &&& (7 : Int32)) - (1 : Int32))), .unset, .unset, .unset, .unset, .unset, .unset] [])) rfl (hb hby at_58) (by decide) (by decide)
      obtain ⟨b4, g4⟩ : ∃ z, z = h0.size := ⟨_, rfl⟩
      rw [← g4] at A4 D4 st4
      have ne_w_GOOD_b4 : w_GOOD ≠ b4 := Nat.ne_of_lt (Nat.lt_of_lt_of_le E_GOOD.lt (Nat.le_of_eq g4.symm))
      have ne_w_CHEAP_b4 : w_CHEAP ≠ b4 := Nat.ne_of_lt (Nat.lt_of_lt_of_le E_CHEAP.lt (Nat.le_of_eq g4.symm))
      have g_b4 : n0 ≤ b4 := Nat.le_trans Z0 (Nat.le_of_eq g4.symm)
      have S_GOOD_4 : Sta Z h4 "com/example/outcry/outcry/allocation/Hotel" "GOOD" "Lcom/example/outcry/outcry/allocation/Hotel;" (.ref w_GOOD) := S_GOOD.ext E4
      have S_CHEAP_4 : Sta Z h4 "com/example/outcry/outcry/allocation/Hotel" "CHEAP" "Lcom/example/outcry/outcry/allocation/Hotel;" (.ref w_CHEAP) := S_CHEAP.ext E4
      have E_GOOD_4 : Exa Z h4 w_GOOD "com/example/outcry/outcry/allocation/Hotel" := E_GOOD.ext E4
      have E_CHEAP_4 : Exa Z h4 w_CHEAP "com/example/outcry/outcry/allocation/Hotel" := E_CHEAP.ext E4
      have hk4' : _ ≤ h4.size := Nat.le_trans hk0 E4.1
      have Z4 : n0 ≤ h4.size := Nat.le_trans Z0 E4.1
      have F_arrival_b4 : Fld Z h4 b4 "com/example/outcry/outcry/allocation/Trip" "arrival" "I" (.int (0 : Int32)) := D4 (Or.inr (hw _ (List.mem_of_getElem? (i := 35) rfl))) (ty := .int) (by decide)
      have F_departure_b4 : Fld Z h4 b4 "com/example/outcry/outcry/allocation/Trip" "departure" "I" (.int (0 : Int32)) := D4 (Or.inr (hw _ (List.mem_of_getElem? (i := 37) rfl))) (ty := .int) (by decide)
      have F_hotel_b4 : Fld Z h4 b4 "com/example/outcry/outcry/allocation/Trip" "hotel" "Lcom/example/outcry/outcry/allocation/Hotel;" .null := D4 (Or.inr (hw _ (List.mem_of_getElem? (i := 39) rfl))) (ty := (.object "com/example/outcry/outcry/allocation/Hotel")) (by decide)
      obtain ⟨_, _, ⟨T5, L5, k5, n5⟩, -, X5, hSq5, gr5, ⟨Lc5, hQ5, l5, y5, z5⟩, st5⟩ := X4.specialBackS hx (y := (⟨"com/example/outcry/outcry/allocation/Trip", "<init>", "(IILcom/example/outcry/outcry/allocation/Hotel;)V"⟩ : MethodName)) rfl hown (mvT hZ (hw _ (List.mem_of_getElem? (i := 7) rfl))) (mvT hZ (hw _ (List.mem_of_getElem? (i := 8) rfl))) (mvT hZ (hw _ (List.mem_of_getElem? (i := 9) rfl))) (by decide) (backOfS (W := 1) (rm_trip l Z a0 hw [] b4 (own_arr p0) (own_dep p0 p1) w_CHEAP h4 n0 Z4 A4 F_arrival_b4 F_departure_b4 F_hotel_b4 g_b4 (own_c1 _) (own_c2 _ _) (own_c3 _ _)) hZ (hw _ (List.mem_of_getElem? (i := 9) rfl)) (hw _ (List.mem_of_getElem? (i := 6) rfl)) (by decide) (by decide)) (g := (mkF m 68 #[.val (.int p0), .val (.int p1), .val (.int p2), .val (.int p3), .val (.int (own_arr p0)), .val (.int (own_dep p0 p1)), .val (.ref w_CHEAP), .val (.int ((p3 &&& (7 : Int32)) - (1 : Int32))), .unset, .unset, .unset, .unset, .unset, .unset] [(.ref w_CHEAP), (.int (own_dep p0 p1)), (.int (own_arr p0)), (.ref b4), (.ref b4)])) rfl (by rw [hml]; rfl) (Steps.refl _) (a := b4) (argsL := [(.int (own_arr p0)), (.int (own_dep p0 p1)), (.ref w_CHEAP)]) (rest := [(.ref b4)]) (lenOf pd_3 rfl) rfl (by show 2 * 0 + _ ≤ _; exact Nat.le_of_eq rfl) (hb hby at_68) (fun _ _ => ⟨rfl, e4, (by decide : 1 + 4 ≤ _), (by decide : 3 + 44 ≤ _)⟩)
      dsimp only [Pt.U, Pt.locs, Pt.cells, Pt.slots] at X5 l5 y5 z5 st5 hQ5 hSq5 gr5
      subst l5 y5 z5
      obtain ⟨rfl, N5q, x5_0, x5_1, x5_2, x5_3⟩ := hQ5
      have N5 := Fr.app N0 N5q
      have E_GOOD_5 : Exa Z T5.heap w_GOOD "com/example/outcry/outcry/allocation/Hotel" := E_GOOD_4.keep x5_0
      have E_CHEAP_5 : Exa Z T5.heap w_CHEAP "com/example/outcry/outcry/allocation/Hotel" := E_CHEAP_4.keep x5_0
      have A4_5 : Exa Z T5.heap b4 "com/example/outcry/outcry/allocation/Trip" := A4.keep x5_0
      have hk5' : _ ≤ T5.heap.size := Nat.le_trans hk4' x5_0.1
      have Z5 : n0 ≤ T5.heap.size := Nat.le_trans Z4 x5_0.1
      have X5b : Stand p l e room_1 (s.setVm T5.vm) m #[(.int p0), (.int p1), (.int p2), (.int p3)] below meth c T5 _ _ _ := X5
      have hS5 : s.Since T5.vm T5.heap.size := foldS hS0 (T := T4) (by first | exact hk4' | (rw [e4]; exact hk4')) hSq5 gr5
      have hZ5 : Z.Warmed39 (s.setVm T5.vm).vm := State.Warmed39.trans (t := s.setVm s.vm) hZ hSq5.1
      have hown5 : (s.setVm T5.vm).vm.findClass "com/example/outcry/outcry/allocation/TripStaysNightPinLaw" = some m.cls := by rw [show (s.setVm T5.vm).vm = T5.vm from rfl, hSq5.1.alike.findClass]; exact hown
      have hk5 := Nat.le_refl T5.heap.size
      have k6 : ∀ target, Steps p.tables e below (T5.setTop (mkF m 95 #[.val (.int p0), .val (.int p1), .val (.int p2), .val (.int p3), .val (.int (own_arr p0)), .val (.int (own_dep p0 p1)), .val (.ref w_CHEAP), .val (.int ((p3 &&& (7 : Int32)) - (1 : Int32))), .val (.ref b4), .val (.long (((p3 &&& (7 : Int32)) - (1 : Int32)).toInt64 - (own_arr p0).toInt64)), .second, .val (.long ((own_dep p0 p1).toInt64 - (own_arr p0).toInt64)), .second, .unset] [(.int (lcmpW (((p3 &&& (7 : Int32)) - (1 : Int32)).toInt64 - (own_arr p0).toInt64) (0 : Int64)))])) target → Steps p.tables e below (s₁.setTop (mkF m 0 #[.val (.int p0), .val (.int p1), .val (.int p2), .val (.int p3), .unset, .unset, .unset, .unset, .unset, .unset, .unset, .unset, .unset, .unset] [])) target := by
        intro target kt
        refine k3 _ ?_
        show Steps p.tables e below (T2.setTop (mkF m 43 #[.val (.int p0), .val (.int p1), .val (.int p2), .val (.int p3), .val (.int (own_arr p0)), .val (.int (own_dep p0 p1)), .val (.ref w_CHEAP), .unset, .unset, .unset, .unset, .unset, .unset, .unset] [(.int (p2 &&& (2 : Int32)))])) _
        refine XS.ifYes X2.here hx rfl (pc0 := 43) (pc' := 50) rfl (hb hby at_43) rfl ((if0 _ _).trans (teq hc43).1) (by decide) (by decide) ?_
        show Steps p.tables e below (T2.setTop (mkF m 50 #[.val (.int p0), .val (.int p1), .val (.int p2), .val (.int p3), .val (.int (own_arr p0)), .val (.int (own_dep p0 p1)), .val (.ref w_CHEAP), .unset, .unset, .unset, .unset, .unset, .unset, .unset] [])) _
        refine XS.iloadN X2.here hx rfl (hb hby at_50) rfl ?_
        show Steps p.tables e below (T2.setTop (mkF m 51 #[.val (.int p0), .val (.int p1), .val (.int p2), .val (.int p3), .val (.int (own_arr p0)), .val (.int (own_dep p0 p1)), .val (.ref w_CHEAP), .unset, .unset, .unset, .unset, .unset, .unset, .unset] [(.int p3)])) _
        refine XS.bipush X2.here hx rfl (hb hby at_51) ?_
        show Steps p.tables e below (T2.setTop (mkF m 53 #[.val (.int p0), .val (.int p1), .val (.int p2), .val (.int p3), .val (.int (own_arr p0)), .val (.int (own_dep p0 p1)), .val (.ref w_CHEAP), .unset, .unset, .unset, .unset, .unset, .unset, .unset] [(.int (7 : Int32)), (.int p3)])) _
        refine XS.iand X2.here hx rfl (hb hby at_53) rfl ?_
        show Steps p.tables e below (T2.setTop (mkF m 54 #[.val (.int p0), .val (.int p1), .val (.int p2), .val (.int p3), .val (.int (own_arr p0)), .val (.int (own_dep p0 p1)), .val (.ref w_CHEAP), .unset, .unset, .unset, .unset, .unset, .unset, .unset] [(.int (p3 &&& (7 : Int32)))])) _
        refine XS.iconst X2.here hx rfl (hb hby at_54) ?_
        show Steps p.tables e below (T2.setTop (mkF m 55 #[.val (.int p0), .val (.int p1), .val (.int p2), .val (.int p3), .val (.int (own_arr p0)), .val (.int (own_dep p0 p1)), .val (.ref w_CHEAP), .unset, .unset, .unset, .unset, .unset, .unset, .unset] [(.int (1 : Int32)), (.int (p3 &&& (7 : Int32)))])) _
        refine XS.isub X2.here hx rfl (hb hby at_55) rfl ?_
        show Steps p.tables e below (T2.setTop (mkF m 56 #[.val (.int p0), .val (.int p1), .val (.int p2), .val (.int p3), .val (.int (own_arr p0)), .val (.int (own_dep p0 p1)), .val (.ref w_CHEAP), .unset, .unset, .unset, .unset, .unset, .unset, .unset] [(.int ((p3 &&& (7 : Int32)) - (1 : Int32)))])) _
        refine XS.istore X2.here hx rfl (hb hby at_56) rfl (l' := #[.val (.int p0), .val (.int p1), .val (.int p2), .val (.int p3), .val (.int (own_arr p0)), .val (.int (own_dep p0 p1)), .val (.ref w_CHEAP), .val (.int ((p3 &&& (7 : Int32)) - (1 : Int32))), .unset, .unset, .unset, .unset, .unset, .unset]) rfl ?_
        show Steps p.tables e below (T2.setTop (mkF m 58 #[.val (.int p0), .val (.int p1), .val (.int p2), .val (.int p3), .val (.int (own_arr p0)), .val (.int (own_dep p0 p1)), .val (.ref w_CHEAP), .val (.int ((p3 &&& (7 : Int32)) - (1 : Int32))), .unset, .unset, .unset, .unset, .unset, .unset] [])) _
        refine st4 _ ?_
        show Steps p.tables e below (T4.setTop (mkF m 61 #[.val (.int p0), .val (.int p1), .val (.int p2), .val (.int p3), .val (.int (own_arr p0)), .val (.int (own_dep p0 p1)), .val (.ref w_CHEAP), .val (.int ((p3 &&& (7 : Int32)) - (1 : Int32))), .unset, .unset, .unset, .unset, .unset, .unset] [(.ref b4)])) _
        refine XS.dup X4.here hx rfl (hb hby at_61) rfl rfl ?_
        show Steps p.tables e below (T4.setTop (mkF m 62 #[.val (.int p0), .val (.int p1), .val (.int p2), .val (.int p3), .val (.int (own_arr p0)), .val (.int (own_dep p0 p1)), .val (.ref w_CHEAP), .val (.int ((p3 &&& (7 : Int32)) - (1 : Int32))), .unset, .unset, .unset, .unset, .unset, .unset] [(.ref b4), (.ref b4)])) _
        refine XS.iload X4.here hx rfl (hb hby at_62) rfl ?_
        show Steps p.tables e below (T4.setTop (mkF m 64 #[.val (.int p0), .val (.int p1), .val (.int p2), .val (.int p3), .val (.int (own_arr p0)), .val (.int (own_dep p0 p1)), .val (.ref w_CHEAP), .val (.int ((p3 &&& (7 : Int32)) - (1 : Int32))), .unset, .unset, .unset, .unset, .unset, .unset] [(.int (own_arr p0)), (.ref b4), (.ref b4)])) _
        refine XS.iload X4.here hx rfl (hb hby at_64) rfl ?_
        show Steps p.tables e below (T4.setTop (mkF m 66 #[.val (.int p0), .val (.int p1), .val (.int p2), .val (.int p3), .val (.int (own_arr p0)), .val (.int (own_dep p0 p1)), .val (.ref w_CHEAP), .val (.int ((p3 &&& (7 : Int32)) - (1 : Int32))), .unset, .unset, .unset, .unset, .unset, .unset] [(.int (own_dep p0 p1)), (.int (own_arr p0)), (.ref b4), (.ref b4)])) _
        refine XS.aload X4.here hx rfl (hb hby at_66) rfl rfl ?_
        show Steps p.tables e below (T4.setTop (mkF m 68 #[.val (.int p0), .val (.int p1), .val (.int p2), .val (.int p3), .val (.int (own_arr p0)), .val (.int (own_dep p0 p1)), .val (.ref w_CHEAP), .val (.int ((p3 &&& (7 : Int32)) - (1 : Int32))), .unset, .unset, .unset, .unset, .unset, .unset] [(.ref w_CHEAP), (.int (own_dep p0 p1)), (.int (own_arr p0)), (.ref b4), (.ref b4)])) _
        refine st5.trans ?_
        show Steps p.tables e below (T5.setTop (mkF m 71 #[.val (.int p0), .val (.int p1), .val (.int p2), .val (.int p3), .val (.int (own_arr p0)), .val (.int (own_dep p0 p1)), .val (.ref w_CHEAP), .val (.int ((p3 &&& (7 : Int32)) - (1 : Int32))), .unset, .unset, .unset, .unset, .unset, .unset] [(.ref b4)])) _
        refine XS.astore X5b.here hx rfl (hb hby at_71) rfl rfl (l' := #[.val (.int p0), .val (.int p1), .val (.int p2), .val (.int p3), .val (.int (own_arr p0)), .val (.int (own_dep p0 p1)), .val (.ref w_CHEAP), .val (.int ((p3 &&& (7 : Int32)) - (1 : Int32))), .val (.ref b4), .unset, .unset, .unset, .unset, .unset]) rfl ?_
        show Steps p.tables e below (T5.setTop (mkF m 73 #[.val (.int p0), .val (.int p1), .val (.int p2), .val (.int p3), .val (.int (own_arr p0)), .val (.int (own_dep p0 p1)), .val (.ref w_CHEAP), .val (.int ((p3 &&& (7 : Int32)) - (1 : Int32))), .val (.ref b4), .unset, .unset, .unset, .unset, .unset] [])) _
        refine XS.iload X5b.here hx rfl (hb hby at_73) rfl ?_
        show Steps p.tables e below (T5.setTop (mkF m 75 #[.val (.int p0), .val (.int p1), .val (.int p2), .val (.int p3), .val (.int (own_arr p0)), .val (.int (own_dep p0 p1)), .val (.ref w_CHEAP), .val (.int ((p3 &&& (7 : Int32)) - (1 : Int32))), .val (.ref b4), .unset, .unset, .unset, .unset, .unset] [(.int ((p3 &&& (7 : Int32)) - (1 : Int32)))])) _
        refine XS.i2l X5b.here hx rfl (hb hby at_75) rfl ?_
        show Steps p.tables e below (T5.setTop (mkF m 76 #[.val (.int p0), .val (.int p1), .val (.int p2), .val (.int p3), .val (.int (own_arr p0)), .val (.int (own_dep p0 p1)), .val (.ref w_CHEAP), .val (.int ((p3 &&& (7 : Int32)) - (1 : Int32))), .val (.ref b4), .unset, .unset, .unset, .unset, .unset] [(.long ((p3 &&& (7 : Int32)) - (1 : Int32)).toInt64)])) _
        refine XS.iload X5b.here hx rfl (hb hby at_76) rfl ?_
        show Steps p.tables e below (T5.setTop (mkF m 78 #[.val (.int p0), .val (.int p1), .val (.int p2), .val (.int p3), .val (.int (own_arr p0)), .val (.int (own_dep p0 p1)), .val (.ref w_CHEAP), .val (.int ((p3 &&& (7 : Int32)) - (1 : Int32))), .val (.ref b4), .unset, .unset, .unset, .unset, .unset] [(.int (own_arr p0)), (.long ((p3 &&& (7 : Int32)) - (1 : Int32)).toInt64)])) _
        refine XS.i2l X5b.here hx rfl (hb hby at_78) rfl ?_
        show Steps p.tables e below (T5.setTop (mkF m 79 #[.val (.int p0), .val (.int p1), .val (.int p2), .val (.int p3), .val (.int (own_arr p0)), .val (.int (own_dep p0 p1)), .val (.ref w_CHEAP), .val (.int ((p3 &&& (7 : Int32)) - (1 : Int32))), .val (.ref b4), .unset, .unset, .unset, .unset, .unset] [(.long (own_arr p0).toInt64), (.long ((p3 &&& (7 : Int32)) - (1 : Int32)).toInt64)])) _
        refine XS.lsub X5b.here hx rfl (hb hby at_79) rfl ?_
        show Steps p.tables e below (T5.setTop (mkF m 80 #[.val (.int p0), .val (.int p1), .val (.int p2), .val (.int p3), .val (.int (own_arr p0)), .val (.int (own_dep p0 p1)), .val (.ref w_CHEAP), .val (.int ((p3 &&& (7 : Int32)) - (1 : Int32))), .val (.ref b4), .unset, .unset, .unset, .unset, .unset] [(.long (((p3 &&& (7 : Int32)) - (1 : Int32)).toInt64 - (own_arr p0).toInt64))])) _
        refine XS.lstore X5b.here hx rfl (hb hby at_80) rfl (l' := #[.val (.int p0), .val (.int p1), .val (.int p2), .val (.int p3), .val (.int (own_arr p0)), .val (.int (own_dep p0 p1)), .val (.ref w_CHEAP), .val (.int ((p3 &&& (7 : Int32)) - (1 : Int32))), .val (.ref b4), .val (.long (((p3 &&& (7 : Int32)) - (1 : Int32)).toInt64 - (own_arr p0).toInt64)), .second, .unset, .unset, .unset]) rfl ?_
        show Steps p.tables e below (T5.setTop (mkF m 82 #[.val (.int p0), .val (.int p1), .val (.int p2), .val (.int p3), .val (.int (own_arr p0)), .val (.int (own_dep p0 p1)), .val (.ref w_CHEAP), .val (.int ((p3 &&& (7 : Int32)) - (1 : Int32))), .val (.ref b4), .val (.long (((p3 &&& (7 : Int32)) - (1 : Int32)).toInt64 - (own_arr p0).toInt64)), .second, .unset, .unset, .unset] [])) _
        refine XS.iload X5b.here hx rfl (hb hby at_82) rfl ?_
        show Steps p.tables e below (T5.setTop (mkF m 84 #[.val (.int p0), .val (.int p1), .val (.int p2), .val (.int p3), .val (.int (own_arr p0)), .val (.int (own_dep p0 p1)), .val (.ref w_CHEAP), .val (.int ((p3 &&& (7 : Int32)) - (1 : Int32))), .val (.ref b4), .val (.long (((p3 &&& (7 : Int32)) - (1 : Int32)).toInt64 - (own_arr p0).toInt64)), .second, .unset, .unset, .unset] [(.int (own_dep p0 p1))])) _
        refine XS.i2l X5b.here hx rfl (hb hby at_84) rfl ?_
        show Steps p.tables e below (T5.setTop (mkF m 85 #[.val (.int p0), .val (.int p1), .val (.int p2), .val (.int p3), .val (.int (own_arr p0)), .val (.int (own_dep p0 p1)), .val (.ref w_CHEAP), .val (.int ((p3 &&& (7 : Int32)) - (1 : Int32))), .val (.ref b4), .val (.long (((p3 &&& (7 : Int32)) - (1 : Int32)).toInt64 - (own_arr p0).toInt64)), .second, .unset, .unset, .unset] [(.long (own_dep p0 p1).toInt64)])) _
        refine XS.iload X5b.here hx rfl (hb hby at_85) rfl ?_
        show Steps p.tables e below (T5.setTop (mkF m 87 #[.val (.int p0), .val (.int p1), .val (.int p2), .val (.int p3), .val (.int (own_arr p0)), .val (.int (own_dep p0 p1)), .val (.ref w_CHEAP), .val (.int ((p3 &&& (7 : Int32)) - (1 : Int32))), .val (.ref b4), .val (.long (((p3 &&& (7 : Int32)) - (1 : Int32)).toInt64 - (own_arr p0).toInt64)), .second, .unset, .unset, .unset] [(.int (own_arr p0)), (.long (own_dep p0 p1).toInt64)])) _
        refine XS.i2l X5b.here hx rfl (hb hby at_87) rfl ?_
        show Steps p.tables e below (T5.setTop (mkF m 88 #[.val (.int p0), .val (.int p1), .val (.int p2), .val (.int p3), .val (.int (own_arr p0)), .val (.int (own_dep p0 p1)), .val (.ref w_CHEAP), .val (.int ((p3 &&& (7 : Int32)) - (1 : Int32))), .val (.ref b4), .val (.long (((p3 &&& (7 : Int32)) - (1 : Int32)).toInt64 - (own_arr p0).toInt64)), .second, .unset, .unset, .unset] [(.long (own_arr p0).toInt64), (.long (own_dep p0 p1).toInt64)])) _
        refine XS.lsub X5b.here hx rfl (hb hby at_88) rfl ?_
        show Steps p.tables e below (T5.setTop (mkF m 89 #[.val (.int p0), .val (.int p1), .val (.int p2), .val (.int p3), .val (.int (own_arr p0)), .val (.int (own_dep p0 p1)), .val (.ref w_CHEAP), .val (.int ((p3 &&& (7 : Int32)) - (1 : Int32))), .val (.ref b4), .val (.long (((p3 &&& (7 : Int32)) - (1 : Int32)).toInt64 - (own_arr p0).toInt64)), .second, .unset, .unset, .unset] [(.long ((own_dep p0 p1).toInt64 - (own_arr p0).toInt64))])) _
        refine XS.lstore X5b.here hx rfl (hb hby at_89) rfl (l' := #[.val (.int p0), .val (.int p1), .val (.int p2), .val (.int p3), .val (.int (own_arr p0)), .val (.int (own_dep p0 p1)), .val (.ref w_CHEAP), .val (.int ((p3 &&& (7 : Int32)) - (1 : Int32))), .val (.ref b4), .val (.long (((p3 &&& (7 : Int32)) - (1 : Int32)).toInt64 - (own_arr p0).toInt64)), .second, .val (.long ((own_dep p0 p1).toInt64 - (own_arr p0).toInt64)), .second, .unset]) rfl ?_
        show Steps p.tables e below (T5.setTop (mkF m 91 #[.val (.int p0), .val (.int p1), .val (.int p2), .val (.int p3), .val (.int (own_arr p0)), .val (.int (own_dep p0 p1)), .val (.ref w_CHEAP), .val (.int ((p3 &&& (7 : Int32)) - (1 : Int32))), .val (.ref b4), .val (.long (((p3 &&& (7 : Int32)) - (1 : Int32)).toInt64 - (own_arr p0).toInt64)), .second, .val (.long ((own_dep p0 p1).toInt64 - (own_arr p0).toInt64)), .second, .unset] [])) _
        refine XS.lload X5b.here hx rfl (hb hby at_91) rfl ?_
        show Steps p.tables e below (T5.setTop (mkF m 93 #[.val (.int p0), .val (.int p1), .val (.int p2), .val (.int p3), .val (.int (own_arr p0)), .val (.int (own_dep p0 p1)), .val (.ref w_CHEAP), .val (.int ((p3 &&& (7 : Int32)) - (1 : Int32))), .val (.ref b4), .val (.long (((p3 &&& (7 : Int32)) - (1 : Int32)).toInt64 - (own_arr p0).toInt64)), .second, .val (.long ((own_dep p0 p1).toInt64 - (own_arr p0).toInt64)), .second, .unset] [(.long (((p3 &&& (7 : Int32)) - (1 : Int32)).toInt64 - (own_arr p0).toInt64))])) _
        refine XS.lconst X5b.here hx rfl (hb hby at_93) ?_
        show Steps p.tables e below (T5.setTop (mkF m 94 #[.val (.int p0), .val (.int p1), .val (.int p2), .val (.int p3), .val (.int (own_arr p0)), .val (.int (own_dep p0 p1)), .val (.ref w_CHEAP), .val (.int ((p3 &&& (7 : Int32)) - (1 : Int32))), .val (.ref b4), .val (.long (((p3 &&& (7 : Int32)) - (1 : Int32)).toInt64 - (own_arr p0).toInt64)), .second, .val (.long ((own_dep p0 p1).toInt64 - (own_arr p0).toInt64)), .second, .unset] [(.long (0 : Int64)), (.long (((p3 &&& (7 : Int32)) - (1 : Int32)).toInt64 - (own_arr p0).toInt64))])) _
        refine XS.lcmp X5b.here hx rfl (hb hby at_94) rfl ?_
        exact kt
      by_cases hc95 : (lcmpW (((p3 &&& (7 : Int32)) - (1 : Int32)).toInt64 - (own_arr p0).toInt64) (0 : Int64)) < (0 : Int32)
      · obtain ⟨cq7, kq7, q7a, q7b, q7c⟩ := isOf hZ5 rfl A4_5
        obtain ⟨_, _, ⟨T7, L7, k7, n7⟩, -, X7, ⟨Lc7, hQ7, l7, y7, z7⟩, st7⟩ := X5b.virtualBack hx (y := (⟨"com/example/outcry/outcry/allocation/Trip", "staysNight", "(I)Z"⟩ : MethodName)) (z := (⟨"com/example/outcry/outcry/allocation/Trip", "staysNight", "(I)Z"⟩ : MethodName)) hown5 (mvT hZ5 (hw _ (List.mem_of_getElem? (i := 40) rfl))) (mvT hZ5 (hw _ (List.mem_of_getElem? (i := 41) rfl))) (notFace_of_selects (args := #[]) (mvT hZ5 (hw _ (List.mem_of_getElem? (i := 43) rfl)))) (mvT hZ5 (hw _ (List.mem_of_getElem? (i := 43) rfl))) (mvT hZ5 (hw _ (List.mem_of_getElem? (i := 42) rfl))) (by decide) (backOf (W := 0) (rm_stay l Z a0 hw [] b4 ((p3 &&& (7 : Int32)) - (1 : Int32)) (own_arr p0) (own_dep p0 p1) T5.heap n0 Z5 x5_1 x5_2) hZ5 (hw _ (List.mem_of_getElem? (i := 44) rfl)) (hw _ (List.mem_of_getElem? (i := 6) rfl)) (by decide) (by decide)) q7a q7c (g := (mkF m 117 #[.val (.int p0), .val (.int p1), .val (.int p2), .val (.int p3), .val (.int (own_arr p0)), .val (.int (own_dep p0 p1)), .val (.ref w_CHEAP), .val (.int ((p3 &&& (7 : Int32)) - (1 : Int32))), .val (.ref b4), .val (.long (((p3 &&& (7 : Int32)) - (1 : Int32)).toInt64 - (own_arr p0).toInt64)), .second, .val (.long ((own_dep p0 p1).toInt64 - (own_arr p0).toInt64)), .second, .val (.int (0 : Int32))] [(.int ((p3 &&& (7 : Int32)) - (1 : Int32))), (.ref b4)])) rfl (by rw [hml]; rfl) (Steps.refl _) (argsL := [(.int ((p3 &&& (7 : Int32)) - (1 : Int32)))]) (rest := []) (lenOf pd_4 rfl) rfl (by show 2 * 0 + _ ≤ _; exact Nat.le_of_eq rfl) (hb hby at_117) (fun _ _ => ⟨rfl, rfl, (by decide : 5 + 0 ≤ _), (by decide : 47 + 0 ≤ _)⟩)
        dsimp only [Pt.U, Pt.locs, Pt.cells, Pt.slots] at X7 l7 y7 z7 st7 hQ7
        subst l7 y7 z7
        obtain ⟨rfl, N7q, e7⟩ := hQ7
        have N7 := Fr.app N5 N7q
        obtain ⟨fs, hr, hrun, hended, hREW⟩ := X7.leaveW hS5 (by first | exact hk5 | (rw [e7]; exact hk5)) (v := some (.int (1 : Int32))) (fun h => by rw [Bd.returns] at h; cases h)
        refine ⟨_, _, pre0 _ ?_, hrun, hended, _, _, rfl, ?_, hREW.1, hREW.2.1, hREW.2.2.1, hREW.2.2.2.mono (by decide) (by decide)⟩
        · refine k6 _ ?_
          show Steps p.tables e below (T5.setTop (mkF m 95 #[.val (.int p0), .val (.int p1), .val (.int p2), .val (.int p3), .val (.int (own_arr p0)), .val (.int (own_dep p0 p1)), .val (.ref w_CHEAP), .val (.int ((p3 &&& (7 : Int32)) - (1 : Int32))), .val (.ref b4), .val (.long (((p3 &&& (7 : Int32)) - (1 : Int32)).toInt64 - (own_arr p0).toInt64)), .second, .val (.long ((own_dep p0 p1).toInt64 - (own_arr p0).toInt64)), .second, .unset] [(.int (lcmpW (((p3 &&& (7 : Int32)) - (1 : Int32)).toInt64 - (own_arr p0).toInt64) (0 : Int64)))])) _
          refine XS.ifYes X5b.here hx rfl (pc0 := 95) (pc' := 110) rfl (hb hby at_95) rfl ((if0 _ _).trans (tlt hc95).1) (by decide) (by decide) ?_
          show Steps p.tables e below (T5.setTop (mkF m 110 #[.val (.int p0), .val (.int p1), .val (.int p2), .val (.int p3), .val (.int (own_arr p0)), .val (.int (own_dep p0 p1)), .val (.ref w_CHEAP), .val (.int ((p3 &&& (7 : Int32)) - (1 : Int32))), .val (.ref b4), .val (.long (((p3 &&& (7 : Int32)) - (1 : Int32)).toInt64 - (own_arr p0).toInt64)), .second, .val (.long ((own_dep p0 p1).toInt64 - (own_arr p0).toInt64)), .second, .unset] [])) _
          refine XS.iconst X5b.here hx rfl (hb hby at_110) ?_
          show Steps p.tables e below (T5.setTop (mkF m 111 #[.val (.int p0), .val (.int p1), .val (.int p2), .val (.int p3), .val (.int (own_arr p0)), .val (.int (own_dep p0 p1)), .val (.ref w_CHEAP), .val (.int ((p3 &&& (7 : Int32)) - (1 : Int32))), .val (.ref b4), .val (.long (((p3 &&& (7 : Int32)) - (1 : Int32)).toInt64 - (own_arr p0).toInt64)), .second, .val (.long ((own_dep p0 p1).toInt64 - (own_arr p0).toInt64)), .second, .unset] [(.int (0 : Int32))])) _
          refine XS.istore X5b.here hx rfl (hb hby at_111) rfl (l' := #[.val (.int p0), .val (.int p1), .val (.int p2), .val (.int p3), .val (.int (own_arr p0)), .val (.int (own_dep p0 p1)), .val (.ref w_CHEAP), .val (.int ((p3 &&& (7 : Int32)) - (1 : Int32))), .val (.ref b4), .val (.long (((p3 &&& (7 : Int32)) - (1 : Int32)).toInt64 - (own_arr p0).toInt64)), .second, .val (.long ((own_dep p0 p1).toInt64 - (own_arr p0).toInt64)), .second, .val (.int (0 : Int32))]) rfl ?_
          show Steps p.tables e below (T5.setTop (mkF m 113 #[.val (.int p0), .val (.int p1), .val (.int p2), .val (.int p3), .val (.int (own_arr p0)), .val (.int (own_dep p0 p1)), .val (.ref w_CHEAP), .val (.int ((p3 &&& (7 : Int32)) - (1 : Int32))), .val (.ref b4), .val (.long (((p3 &&& (7 : Int32)) - (1 : Int32)).toInt64 - (own_arr p0).toInt64)), .second, .val (.long ((own_dep p0 p1).toInt64 - (own_arr p0).toInt64)), .second, .val (.int (0 : Int32))] [])) _
          refine XS.aload X5b.here hx rfl (hb hby at_113) rfl rfl ?_
          show Steps p.tables e below (T5.setTop (mkF m 115 #[.val (.int p0), .val (.int p1), .val (.int p2), .val (.int p3), .val (.int (own_arr p0)), .val (.int (own_dep p0 p1)), .val (.ref w_CHEAP), .val (.int ((p3 &&& (7 : Int32)) - (1 : Int32))), .val (.ref b4), .val (.long (((p3 &&& (7 : Int32)) - (1 : Int32)).toInt64 - (own_arr p0).toInt64)), .second, .val (.long ((own_dep p0 p1).toInt64 - (own_arr p0).toInt64)), .second, .val (.int (0 : Int32))] [(.ref b4)])) _
          refine XS.iload X5b.here hx rfl (hb hby at_115) rfl ?_
          show Steps p.tables e below (T5.setTop (mkF m 117 #[.val (.int p0), .val (.int p1), .val (.int p2), .val (.int p3), .val (.int (own_arr p0)), .val (.int (own_dep p0 p1)), .val (.ref w_CHEAP), .val (.int ((p3 &&& (7 : Int32)) - (1 : Int32))), .val (.ref b4), .val (.long (((p3 &&& (7 : Int32)) - (1 : Int32)).toInt64 - (own_arr p0).toInt64)), .second, .val (.long ((own_dep p0 p1).toInt64 - (own_arr p0).toInt64)), .second, .val (.int (0 : Int32))] [(.int ((p3 &&& (7 : Int32)) - (1 : Int32))), (.ref b4)])) _
          refine st7.trans ?_
          show Steps p.tables e below (T7.setTop (mkF m 120 #[.val (.int p0), .val (.int p1), .val (.int p2), .val (.int p3), .val (.int (own_arr p0)), .val (.int (own_dep p0 p1)), .val (.ref w_CHEAP), .val (.int ((p3 &&& (7 : Int32)) - (1 : Int32))), .val (.ref b4), .val (.long (((p3 &&& (7 : Int32)) - (1 : Int32)).toInt64 - (own_arr p0).toInt64)), .second, .val (.long ((own_dep p0 p1).toInt64 - (own_arr p0).toInt64)), .second, .val (.int (0 : Int32))] [(.int (own_stay (own_arr p0) (own_dep p0 p1) ((p3 &&& (7 : Int32)) - (1 : Int32))))])) _
          refine XS.iload X7.here hx rfl (hb hby at_120) rfl ?_
          show Steps p.tables e below (T7.setTop (mkF m 122 #[.val (.int p0), .val (.int p1), .val (.int p2), .val (.int p3), .val (.int (own_arr p0)), .val (.int (own_dep p0 p1)), .val (.ref w_CHEAP), .val (.int ((p3 &&& (7 : Int32)) - (1 : Int32))), .val (.ref b4), .val (.long (((p3 &&& (7 : Int32)) - (1 : Int32)).toInt64 - (own_arr p0).toInt64)), .second, .val (.long ((own_dep p0 p1).toInt64 - (own_arr p0).toInt64)), .second, .val (.int (0 : Int32))] [(.int (0 : Int32)), (.int (own_stay (own_arr p0) (own_dep p0 p1) ((p3 &&& (7 : Int32)) - (1 : Int32))))])) _
          refine XS.icmpNo X7.here hx rfl (hb hby at_122) rfl (teq (own_s0 hc95)).2 ?_
          show Steps p.tables e below (T7.setTop (mkF m 125 #[.val (.int p0), .val (.int p1), .val (.int p2), .val (.int p3), .val (.int (own_arr p0)), .val (.int (own_dep p0 p1)), .val (.ref w_CHEAP), .val (.int ((p3 &&& (7 : Int32)) - (1 : Int32))), .val (.ref b4), .val (.long (((p3 &&& (7 : Int32)) - (1 : Int32)).toInt64 - (own_arr p0).toInt64)), .second, .val (.long ((own_dep p0 p1).toInt64 - (own_arr p0).toInt64)), .second, .val (.int (0 : Int32))] [])) _
          refine XS.iconst X7.here hx rfl (hb hby at_125) ?_
          show Steps p.tables e below (T7.setTop (mkF m 126 #[.val (.int p0), .val (.int p1), .val (.int p2), .val (.int p3), .val (.int (own_arr p0)), .val (.int (own_dep p0 p1)), .val (.ref w_CHEAP), .val (.int ((p3 &&& (7 : Int32)) - (1 : Int32))), .val (.ref b4), .val (.long (((p3 &&& (7 : Int32)) - (1 : Int32)).toInt64 - (own_arr p0).toInt64)), .second, .val (.long ((own_dep p0 p1).toInt64 - (own_arr p0).toInt64)), .second, .val (.int (0 : Int32))] [(.int (1 : Int32))])) _
          refine XS.goto X7.here hx rfl (pc0 := 126) (pc' := 130) rfl (hb hby at_126) (by decide) (by decide) ?_
          show Steps p.tables e below (T7.setTop (mkF m 130 #[.val (.int p0), .val (.int p1), .val (.int p2), .val (.int p3), .val (.int (own_arr p0)), .val (.int (own_dep p0 p1)), .val (.ref w_CHEAP), .val (.int ((p3 &&& (7 : Int32)) - (1 : Int32))), .val (.ref b4), .val (.long (((p3 &&& (7 : Int32)) - (1 : Int32)).toInt64 - (own_arr p0).toInt64)), .second, .val (.long ((own_dep p0 p1).toInt64 - (own_arr p0).toInt64)), .second, .val (.int (0 : Int32))] [(.int (1 : Int32))])) _
          exact retN X7 hx (t := .boolean) Bd.returns (by simp) (hb hby at_130) hr
        · show Q_rm_law Z p0 p1 p2 p3 w_GOOD w_CHEAP h0 n0 _ T7.heap _
          rw [e7]
          exact ⟨rfl, N7, trivial⟩
      · have k8 : ∀ target, Steps p.tables e below (T5.setTop (mkF m 103 #[.val (.int p0), .val (.int p1), .val (.int p2), .val (.int p3), .val (.int (own_arr p0)), .val (.int (own_dep p0 p1)), .val (.ref w_CHEAP), .val (.int ((p3 &&& (7 : Int32)) - (1 : Int32))), .val (.ref b4), .val (.long (((p3 &&& (7 : Int32)) - (1 : Int32)).toInt64 - (own_arr p0).toInt64)), .second, .val (.long ((own_dep p0 p1).toInt64 - (own_arr p0).toInt64)), .second, .unset] [(.int (lcmpW (((p3 &&& (7 : Int32)) - (1 : Int32)).toInt64 - (own_arr p0).toInt64) ((own_dep p0 p1).toInt64 - (own_arr p0).toInt64)))])) target → Steps p.tables e below (s₁.setTop (mkF m 0 #[.val (.int p0), .val (.int p1), .val (.int p2), .val (.int p3), .unset, .unset, .unset, .unset, .unset, .unset, .unset, .unset, .unset, .unset] [])) target := by
          intro target kt
          refine k6 _ ?_
          show Steps p.tables e below (T5.setTop (mkF m 95 #[.val (.int p0), .val (.int p1), .val (.int p2), .val (.int p3), .val (.int (own_arr p0)), .val (.int (own_dep p0 p1)), .val (.ref w_CHEAP), .val (.int ((p3 &&& (7 : Int32)) - (1 : Int32))), .val (.ref b4), .val (.long (((p3 &&& (7 : Int32)) - (1 : Int32)).toInt64 - (own_arr p0).toInt64)), .second, .val (.long ((own_dep p0 p1).toInt64 - (own_arr p0).toInt64)), .second, .unset] [(.int (lcmpW (((p3 &&& (7 : Int32)) - (1 : Int32)).toInt64 - (own_arr p0).toInt64) (0 : Int64)))])) _
          refine XS.ifNo X5b.here hx rfl (hb hby at_95) rfl ((if0 _ _).trans (flt hc95).1) ?_
          show Steps p.tables e below (T5.setTop (mkF m 98 #[.val (.int p0), .val (.int p1), .val (.int p2), .val (.int p3), .val (.int (own_arr p0)), .val (.int (own_dep p0 p1)), .val (.ref w_CHEAP), .val (.int ((p3 &&& (7 : Int32)) - (1 : Int32))), .val (.ref b4), .val (.long (((p3 &&& (7 : Int32)) - (1 : Int32)).toInt64 - (own_arr p0).toInt64)), .second, .val (.long ((own_dep p0 p1).toInt64 - (own_arr p0).toInt64)), .second, .unset] [])) _
          refine XS.lload X5b.here hx rfl (hb hby at_98) rfl ?_
          show Steps p.tables e below (T5.setTop (mkF m 100 #[.val (.int p0), .val (.int p1), .val (.int p2), .val (.int p3), .val (.int (own_arr p0)), .val (.int (own_dep p0 p1)), .val (.ref w_CHEAP), .val (.int ((p3 &&& (7 : Int32)) - (1 : Int32))), .val (.ref b4), .val (.long (((p3 &&& (7 : Int32)) - (1 : Int32)).toInt64 - (own_arr p0).toInt64)), .second, .val (.long ((own_dep p0 p1).toInt64 - (own_arr p0).toInt64)), .second, .unset] [(.long (((p3 &&& (7 : Int32)) - (1 : Int32)).toInt64 - (own_arr p0).toInt64))])) _
          refine XS.lload X5b.here hx rfl (hb hby at_100) rfl ?_
          show Steps p.tables e below (T5.setTop (mkF m 102 #[.val (.int p0), .val (.int p1), .val (.int p2), .val (.int p3), .val (.int (own_arr p0)), .val (.int (own_dep p0 p1)), .val (.ref w_CHEAP), .val (.int ((p3 &&& (7 : Int32)) - (1 : Int32))), .val (.ref b4), .val (.long (((p3 &&& (7 : Int32)) - (1 : Int32)).toInt64 - (own_arr p0).toInt64)), .second, .val (.long ((own_dep p0 p1).toInt64 - (own_arr p0).toInt64)), .second, .unset] [(.long ((own_dep p0 p1).toInt64 - (own_arr p0).toInt64)), (.long (((p3 &&& (7 : Int32)) - (1 : Int32)).toInt64 - (own_arr p0).toInt64))])) _
          refine XS.lcmp X5b.here hx rfl (hb hby at_102) rfl ?_
          exact kt
        by_cases hc103 : (lcmpW (((p3 &&& (7 : Int32)) - (1 : Int32)).toInt64 - (own_arr p0).toInt64) ((own_dep p0 p1).toInt64 - (own_arr p0).toInt64)) < (0 : Int32)
        · obtain ⟨cq9, kq9, q9a, q9b, q9c⟩ := isOf hZ5 rfl A4_5
          obtain ⟨_, _, ⟨T9, L9, k9, n9⟩, -, X9, ⟨Lc9, hQ9, l9, y9, z9⟩, st9⟩ := X5b.virtualBack hx (y := (⟨"com/example/outcry/outcry/allocation/Trip", "staysNight", "(I)Z"⟩ : MethodName)) (z := (⟨"com/example/outcry/outcry/allocation/Trip", "staysNight", "(I)Z"⟩ : MethodName)) hown5 (mvT hZ5 (hw _ (List.mem_of_getElem? (i := 40) rfl))) (mvT hZ5 (hw _ (List.mem_of_getElem? (i := 41) rfl))) (notFace_of_selects (args := #[]) (mvT hZ5 (hw _ (List.mem_of_getElem? (i := 43) rfl)))) (mvT hZ5 (hw _ (List.mem_of_getElem? (i := 43) rfl))) (mvT hZ5 (hw _ (List.mem_of_getElem? (i := 42) rfl))) (by decide) (backOf (W := 0) (rm_stay l Z a0 hw [] b4 ((p3 &&& (7 : Int32)) - (1 : Int32)) (own_arr p0) (own_dep p0 p1) T5.heap n0 Z5 x5_1 x5_2) hZ5 (hw _ (List.mem_of_getElem? (i := 44) rfl)) (hw _ (List.mem_of_getElem? (i := 6) rfl)) (by decide) (by decide)) q9a q9c (g := (mkF m 117 #[.val (.int p0), .val (.int p1), .val (.int p2), .val (.int p3), .val (.int (own_arr p0)), .val (.int (own_dep p0 p1)), .val (.ref w_CHEAP), .val (.int ((p3 &&& (7 : Int32)) - (1 : Int32))), .val (.ref b4), .val (.long (((p3 &&& (7 : Int32)) - (1 : Int32)).toInt64 - (own_arr p0).toInt64)), .second, .val (.long ((own_dep p0 p1).toInt64 - (own_arr p0).toInt64)), .second, .val (.int (1 : Int32))] [(.int ((p3 &&& (7 : Int32)) - (1 : Int32))), (.ref b4)])) rfl (by rw [hml]; rfl) (Steps.refl _) (argsL := [(.int ((p3 &&& (7 : Int32)) - (1 : Int32)))]) (rest := []) (lenOf pd_4 rfl) rfl (by show 2 * 0 + _ ≤ _; exact Nat.le_of_eq rfl) (hb hby at_117) (fun _ _ => ⟨rfl, rfl, (by decide : 5 + 0 ≤ _), (by decide : 47 + 0 ≤ _)⟩)
          dsimp only [Pt.U, Pt.locs, Pt.cells, Pt.slots] at X9 l9 y9 z9 st9 hQ9
          subst l9 y9 z9
          obtain ⟨rfl, N9q, e9⟩ := hQ9
          have N9 := Fr.app N5 N9q
          obtain ⟨fs, hr, hrun, hended, hREW⟩ := X9.leaveW hS5 (by first | exact hk5 | (rw [e9]; exact hk5)) (v := some (.int (1 : Int32))) (fun h => by rw [Bd.returns] at h; cases h)
          refine ⟨_, _, pre0 _ ?_, hrun, hended, _, _, rfl, ?_, hREW.1, hREW.2.1, hREW.2.2.1, hREW.2.2.2.mono (by decide) (by decide)⟩
          · refine k8 _ ?_
            show Steps p.tables e below (T5.setTop (mkF m 103 #[.val (.int p0), .val (.int p1), .val (.int p2), .val (.int p3), .val (.int (own_arr p0)), .val (.int (own_dep p0 p1)), .val (.ref w_CHEAP), .val (.int ((p3 &&& (7 : Int32)) - (1 : Int32))), .val (.ref b4), .val (.long (((p3 &&& (7 : Int32)) - (1 : Int32)).toInt64 - (own_arr p0).toInt64)), .second, .val (.long ((own_dep p0 p1).toInt64 - (own_arr p0).toInt64)), .second, .unset] [(.int (lcmpW (((p3 &&& (7 : Int32)) - (1 : Int32)).toInt64 - (own_arr p0).toInt64) ((own_dep p0 p1).toInt64 - (own_arr p0).toInt64)))])) _
            refine XS.ifNo X5b.here hx rfl (hb hby at_103) rfl ((if0 _ _).trans (tlt hc103).2.1) ?_
            show Steps p.tables e below (T5.setTop (mkF m 106 #[.val (.int p0), .val (.int p1), .val (.int p2), .val (.int p3), .val (.int (own_arr p0)), .val (.int (own_dep p0 p1)), .val (.ref w_CHEAP), .val (.int ((p3 &&& (7 : Int32)) - (1 : Int32))), .val (.ref b4), .val (.long (((p3 &&& (7 : Int32)) - (1 : Int32)).toInt64 - (own_arr p0).toInt64)), .second, .val (.long ((own_dep p0 p1).toInt64 - (own_arr p0).toInt64)), .second, .unset] [])) _
            refine XS.iconst X5b.here hx rfl (hb hby at_106) ?_
            show Steps p.tables e below (T5.setTop (mkF m 107 #[.val (.int p0), .val (.int p1), .val (.int p2), .val (.int p3), .val (.int (own_arr p0)), .val (.int (own_dep p0 p1)), .val (.ref w_CHEAP), .val (.int ((p3 &&& (7 : Int32)) - (1 : Int32))), .val (.ref b4), .val (.long (((p3 &&& (7 : Int32)) - (1 : Int32)).toInt64 - (own_arr p0).toInt64)), .second, .val (.long ((own_dep p0 p1).toInt64 - (own_arr p0).toInt64)), .second, .unset] [(.int (1 : Int32))])) _
            refine XS.goto X5b.here hx rfl (pc0 := 107) (pc' := 111) rfl (hb hby at_107) (by decide) (by decide) ?_
            show Steps p.tables e below (T5.setTop (mkF m 111 #[.val (.int p0), .val (.int p1), .val (.int p2), .val (.int p3), .val (.int (own_arr p0)), .val (.int (own_dep p0 p1)), .val (.ref w_CHEAP), .val (.int ((p3 &&& (7 : Int32)) - (1 : Int32))), .val (.ref b4), .val (.long (((p3 &&& (7 : Int32)) - (1 : Int32)).toInt64 - (own_arr p0).toInt64)), .second, .val (.long ((own_dep p0 p1).toInt64 - (own_arr p0).toInt64)), .second, .unset] [(.int (1 : Int32))])) _
            refine XS.istore X5b.here hx rfl (hb hby at_111) rfl (l' := #[.val (.int p0), .val (.int p1), .val (.int p2), .val (.int p3), .val (.int (own_arr p0)), .val (.int (own_dep p0 p1)), .val (.ref w_CHEAP), .val (.int ((p3 &&& (7 : Int32)) - (1 : Int32))), .val (.ref b4), .val (.long (((p3 &&& (7 : Int32)) - (1 : Int32)).toInt64 - (own_arr p0).toInt64)), .second, .val (.long ((own_dep p0 p1).toInt64 - (own_arr p0).toInt64)), .second, .val (.int (1 : Int32))]) rfl ?_
            show Steps p.tables e below (T5.setTop (mkF m 113 #[.val (.int p0), .val (.int p1), .val (.int p2), .val (.int p3), .val (.int (own_arr p0)), .val (.int (own_dep p0 p1)), .val (.ref w_CHEAP), .val (.int ((p3 &&& (7 : Int32)) - (1 : Int32))), .val (.ref b4), .val (.long (((p3 &&& (7 : Int32)) - (1 : Int32)).toInt64 - (own_arr p0).toInt64)), .second, .val (.long ((own_dep p0 p1).toInt64 - (own_arr p0).toInt64)), .second, .val (.int (1 : Int32))] [])) _
            refine XS.aload X5b.here hx rfl (hb hby at_113) rfl rfl ?_
            show Steps p.tables e below (T5.setTop (mkF m 115 #[.val (.int p0), .val (.int p1), .val (.int p2), .val (.int p3), .val (.int (own_arr p0)), .val (.int (own_dep p0 p1)), .val (.ref w_CHEAP), .val (.int ((p3 &&& (7 : Int32)) - (1 : Int32))), .val (.ref b4), .val (.long (((p3 &&& (7 : Int32)) - (1 : Int32)).toInt64 - (own_arr p0).toInt64)), .second, .val (.long ((own_dep p0 p1).toInt64 - (own_arr p0).toInt64)), .second, .val (.int (1 : Int32))] [(.ref b4)])) _
            refine XS.iload X5b.here hx rfl (hb hby at_115) rfl ?_
            show Steps p.tables e below (T5.setTop (mkF m 117 #[.val (.int p0), .val (.int p1), .val (.int p2), .val (.int p3), .val (.int (own_arr p0)), .val (.int (own_dep p0 p1)), .val (.ref w_CHEAP), .val (.int ((p3 &&& (7 : Int32)) - (1 : Int32))), .val (.ref b4), .val (.long (((p3 &&& (7 : Int32)) - (1 : Int32)).toInt64 - (own_arr p0).toInt64)), .second, .val (.long ((own_dep p0 p1).toInt64 - (own_arr p0).toInt64)), .second, .val (.int (1 : Int32))] [(.int ((p3 &&& (7 : Int32)) - (1 : Int32))), (.ref b4)])) _
            refine st9.trans ?_
            show Steps p.tables e below (T9.setTop (mkF m 120 #[.val (.int p0), .val (.int p1), .val (.int p2), .val (.int p3), .val (.int (own_arr p0)), .val (.int (own_dep p0 p1)), .val (.ref w_CHEAP), .val (.int ((p3 &&& (7 : Int32)) - (1 : Int32))), .val (.ref b4), .val (.long (((p3 &&& (7 : Int32)) - (1 : Int32)).toInt64 - (own_arr p0).toInt64)), .second, .val (.long ((own_dep p0 p1).toInt64 - (own_arr p0).toInt64)), .second, .val (.int (1 : Int32))] [(.int (own_stay (own_arr p0) (own_dep p0 p1) ((p3 &&& (7 : Int32)) - (1 : Int32))))])) _
            refine XS.iload X9.here hx rfl (hb hby at_120) rfl ?_
            show Steps p.tables e below (T9.setTop (mkF m 122 #[.val (.int p0), .val (.int p1), .val (.int p2), .val (.int p3), .val (.int (own_arr p0)), .val (.int (own_dep p0 p1)), .val (.ref w_CHEAP), .val (.int ((p3 &&& (7 : Int32)) - (1 : Int32))), .val (.ref b4), .val (.long (((p3 &&& (7 : Int32)) - (1 : Int32)).toInt64 - (own_arr p0).toInt64)), .second, .val (.long ((own_dep p0 p1).toInt64 - (own_arr p0).toInt64)), .second, .val (.int (1 : Int32))] [(.int (1 : Int32)), (.int (own_stay (own_arr p0) (own_dep p0 p1) ((p3 &&& (7 : Int32)) - (1 : Int32))))])) _
            refine XS.icmpNo X9.here hx rfl (hb hby at_122) rfl (teq (own_s1 hc95 hc103)).2 ?_
            show Steps p.tables e below (T9.setTop (mkF m 125 #[.val (.int p0), .val (.int p1), .val (.int p2), .val (.int p3), .val (.int (own_arr p0)), .val (.int (own_dep p0 p1)), .val (.ref w_CHEAP), .val (.int ((p3 &&& (7 : Int32)) - (1 : Int32))), .val (.ref b4), .val (.long (((p3 &&& (7 : Int32)) - (1 : Int32)).toInt64 - (own_arr p0).toInt64)), .second, .val (.long ((own_dep p0 p1).toInt64 - (own_arr p0).toInt64)), .second, .val (.int (1 : Int32))] [])) _
            refine XS.iconst X9.here hx rfl (hb hby at_125) ?_
            show Steps p.tables e below (T9.setTop (mkF m 126 #[.val (.int p0), .val (.int p1), .val (.int p2), .val (.int p3), .val (.int (own_arr p0)), .val (.int (own_dep p0 p1)), .val (.ref w_CHEAP), .val (.int ((p3 &&& (7 : Int32)) - (1 : Int32))), .val (.ref b4), .val (.long (((p3 &&& (7 : Int32)) - (1 : Int32)).toInt64 - (own_arr p0).toInt64)), .second, .val (.long ((own_dep p0 p1).toInt64 - (own_arr p0).toInt64)), .second, .val (.int (1 : Int32))] [(.int (1 : Int32))])) _
            refine XS.goto X9.here hx rfl (pc0 := 126) (pc' := 130) rfl (hb hby at_126) (by decide) (by decide) ?_
            show Steps p.tables e below (T9.setTop (mkF m 130 #[.val (.int p0), .val (.int p1), .val (.int p2), .val (.int p3), .val (.int (own_arr p0)), .val (.int (own_dep p0 p1)), .val (.ref w_CHEAP), .val (.int ((p3 &&& (7 : Int32)) - (1 : Int32))), .val (.ref b4), .val (.long (((p3 &&& (7 : Int32)) - (1 : Int32)).toInt64 - (own_arr p0).toInt64)), .second, .val (.long ((own_dep p0 p1).toInt64 - (own_arr p0).toInt64)), .second, .val (.int (1 : Int32))] [(.int (1 : Int32))])) _
            exact retN X9 hx (t := .boolean) Bd.returns (by simp) (hb hby at_130) hr
          · show Q_rm_law Z p0 p1 p2 p3 w_GOOD w_CHEAP h0 n0 _ T9.heap _
            rw [e9]
            exact ⟨rfl, N9, trivial⟩
        · obtain ⟨cq10, kq10, q10a, q10b, q10c⟩ := isOf hZ5 rfl A4_5
          obtain ⟨_, _, ⟨T10, L10, k10, n10⟩, -, X10, ⟨Lc10, hQ10, l10, y10, z10⟩, st10⟩ := X5b.virtualBack hx (y := (⟨"com/example/outcry/outcry/allocation/Trip", "staysNight", "(I)Z"⟩ : MethodName)) (z := (⟨"com/example/outcry/outcry/allocation/Trip", "staysNight", "(I)Z"⟩ : MethodName)) hown5 (mvT hZ5 (hw _ (List.mem_of_getElem? (i := 40) rfl))) (mvT hZ5 (hw _ (List.mem_of_getElem? (i := 41) rfl))) (notFace_of_selects (args := #[]) (mvT hZ5 (hw _ (List.mem_of_getElem? (i := 43) rfl)))) (mvT hZ5 (hw _ (List.mem_of_getElem? (i := 43) rfl))) (mvT hZ5 (hw _ (List.mem_of_getElem? (i := 42) rfl))) (by decide) (backOf (W := 0) (rm_stay l Z a0 hw [] b4 ((p3 &&& (7 : Int32)) - (1 : Int32)) (own_arr p0) (own_dep p0 p1) T5.heap n0 Z5 x5_1 x5_2) hZ5 (hw _ (List.mem_of_getElem? (i := 44) rfl)) (hw _ (List.mem_of_getElem? (i := 6) rfl)) (by decide) (by decide)) q10a q10c (g := (mkF m 117 #[.val (.int p0), .val (.int p1), .val (.int p2), .val (.int p3), .val (.int (own_arr p0)), .val (.int (own_dep p0 p1)), .val (.ref w_CHEAP), .val (.int ((p3 &&& (7 : Int32)) - (1 : Int32))), .val (.ref b4), .val (.long (((p3 &&& (7 : Int32)) - (1 : Int32)).toInt64 - (own_arr p0).toInt64)), .second, .val (.long ((own_dep p0 p1).toInt64 - (own_arr p0).toInt64)), .second, .val (.int (0 : Int32))] [(.int ((p3 &&& (7 : Int32)) - (1 : Int32))), (.ref b4)])) rfl (by rw [hml]; rfl) (Steps.refl _) (argsL := [(.int ((p3 &&& (7 : Int32)) - (1 : Int32)))]) (rest := []) (lenOf pd_4 rfl) rfl (by show 2 * 0 + _ ≤ _; exact Nat.le_of_eq rfl) (hb hby at_117) (fun _ _ => ⟨rfl, rfl, (by decide : 5 + 0 ≤ _), (by decide : 47 + 0 ≤ _)⟩)
          dsimp only [Pt.U, Pt.locs, Pt.cells, Pt.slots] at X10 l10 y10 z10 st10 hQ10
          subst l10 y10 z10
          obtain ⟨rfl, N10q, e10⟩ := hQ10
          have N10 := Fr.app N5 N10q
          obtain ⟨fs, hr, hrun, hended, hREW⟩ := X10.leaveW hS5 (by first | exact hk5 | (rw [e10]; exact hk5)) (v := some (.int (1 : Int32))) (fun h => by rw [Bd.returns] at h; cases h)
          refine ⟨_, _, pre0 _ ?_, hrun, hended, _, _, rfl, ?_, hREW.1, hREW.2.1, hREW.2.2.1, hREW.2.2.2.mono (by decide) (by decide)⟩
          · refine k8 _ ?_
            show Steps p.tables e below (T5.setTop (mkF m 103 #[.val (.int p0), .val (.int p1), .val (.int p2), .val (.int p3), .val (.int (own_arr p0)), .val (.int (own_dep p0 p1)), .val (.ref w_CHEAP), .val (.int ((p3 &&& (7 : Int32)) - (1 : Int32))), .val (.ref b4), .val (.long (((p3 &&& (7 : Int32)) - (1 : Int32)).toInt64 - (own_arr p0).toInt64)), .second, .val (.long ((own_dep p0 p1).toInt64 - (own_arr p0).toInt64)), .second, .unset] [(.int (lcmpW (((p3 &&& (7 : Int32)) - (1 : Int32)).toInt64 - (own_arr p0).toInt64) ((own_dep p0 p1).toInt64 - (own_arr p0).toInt64)))])) _
            refine XS.ifYes X5b.here hx rfl (pc0 := 103) (pc' := 110) rfl (hb hby at_103) rfl ((if0 _ _).trans (flt hc103).2.1) (by decide) (by decide) ?_
            show Steps p.tables e below (T5.setTop (mkF m 110 #[.val (.int p0), .val (.int p1), .val (.int p2), .val (.int p3), .val (.int (own_arr p0)), .val (.int (own_dep p0 p1)), .val (.ref w_CHEAP), .val (.int ((p3 &&& (7 : Int32)) - (1 : Int32))), .val (.ref b4), .val (.long (((p3 &&& (7 : Int32)) - (1 : Int32)).toInt64 - (own_arr p0).toInt64)), .second, .val (.long ((own_dep p0 p1).toInt64 - (own_arr p0).toInt64)), .second, .unset] [])) _
            refine XS.iconst X5b.here hx rfl (hb hby at_110) ?_
            show Steps p.tables e below (T5.setTop (mkF m 111 #[.val (.int p0), .val (.int p1), .val (.int p2), .val (.int p3), .val (.int (own_arr p0)), .val (.int (own_dep p0 p1)), .val (.ref w_CHEAP), .val (.int ((p3 &&& (7 : Int32)) - (1 : Int32))), .val (.ref b4), .val (.long (((p3 &&& (7 : Int32)) - (1 : Int32)).toInt64 - (own_arr p0).toInt64)), .second, .val (.long ((own_dep p0 p1).toInt64 - (own_arr p0).toInt64)), .second, .unset] [(.int (0 : Int32))])) _
            refine XS.istore X5b.here hx rfl (hb hby at_111) rfl (l' := #[.val (.int p0), .val (.int p1), .val (.int p2), .val (.int p3), .val (.int (own_arr p0)), .val (.int (own_dep p0 p1)), .val (.ref w_CHEAP), .val (.int ((p3 &&& (7 : Int32)) - (1 : Int32))), .val (.ref b4), .val (.long (((p3 &&& (7 : Int32)) - (1 : Int32)).toInt64 - (own_arr p0).toInt64)), .second, .val (.long ((own_dep p0 p1).toInt64 - (own_arr p0).toInt64)), .second, .val (.int (0 : Int32))]) rfl ?_
            show Steps p.tables e below (T5.setTop (mkF m 113 #[.val (.int p0), .val (.int p1), .val (.int p2), .val (.int p3), .val (.int (own_arr p0)), .val (.int (own_dep p0 p1)), .val (.ref w_CHEAP), .val (.int ((p3 &&& (7 : Int32)) - (1 : Int32))), .val (.ref b4), .val (.long (((p3 &&& (7 : Int32)) - (1 : Int32)).toInt64 - (own_arr p0).toInt64)), .second, .val (.long ((own_dep p0 p1).toInt64 - (own_arr p0).toInt64)), .second, .val (.int (0 : Int32))] [])) _
            refine XS.aload X5b.here hx rfl (hb hby at_113) rfl rfl ?_
            show Steps p.tables e below (T5.setTop (mkF m 115 #[.val (.int p0), .val (.int p1), .val (.int p2), .val (.int p3), .val (.int (own_arr p0)), .val (.int (own_dep p0 p1)), .val (.ref w_CHEAP), .val (.int ((p3 &&& (7 : Int32)) - (1 : Int32))), .val (.ref b4), .val (.long (((p3 &&& (7 : Int32)) - (1 : Int32)).toInt64 - (own_arr p0).toInt64)), .second, .val (.long ((own_dep p0 p1).toInt64 - (own_arr p0).toInt64)), .second, .val (.int (0 : Int32))] [(.ref b4)])) _
            refine XS.iload X5b.here hx rfl (hb hby at_115) rfl ?_
            show Steps p.tables e below (T5.setTop (mkF m 117 #[.val (.int p0), .val (.int p1), .val (.int p2), .val (.int p3), .val (.int (own_arr p0)), .val (.int (own_dep p0 p1)), .val (.ref w_CHEAP), .val (.int ((p3 &&& (7 : Int32)) - (1 : Int32))), .val (.ref b4), .val (.long (((p3 &&& (7 : Int32)) - (1 : Int32)).toInt64 - (own_arr p0).toInt64)), .second, .val (.long ((own_dep p0 p1).toInt64 - (own_arr p0).toInt64)), .second, .val (.int (0 : Int32))] [(.int ((p3 &&& (7 : Int32)) - (1 : Int32))), (.ref b4)])) _
            refine st10.trans ?_
            show Steps p.tables e below (T10.setTop (mkF m 120 #[.val (.int p0), .val (.int p1), .val (.int p2), .val (.int p3), .val (.int (own_arr p0)), .val (.int (own_dep p0 p1)), .val (.ref w_CHEAP), .val (.int ((p3 &&& (7 : Int32)) - (1 : Int32))), .val (.ref b4), .val (.long (((p3 &&& (7 : Int32)) - (1 : Int32)).toInt64 - (own_arr p0).toInt64)), .second, .val (.long ((own_dep p0 p1).toInt64 - (own_arr p0).toInt64)), .second, .val (.int (0 : Int32))] [(.int (own_stay (own_arr p0) (own_dep p0 p1) ((p3 &&& (7 : Int32)) - (1 : Int32))))])) _
            refine XS.iload X10.here hx rfl (hb hby at_120) rfl ?_
            show Steps p.tables e below (T10.setTop (mkF m 122 #[.val (.int p0), .val (.int p1), .val (.int p2), .val (.int p3), .val (.int (own_arr p0)), .val (.int (own_dep p0 p1)), .val (.ref w_CHEAP), .val (.int ((p3 &&& (7 : Int32)) - (1 : Int32))), .val (.ref b4), .val (.long (((p3 &&& (7 : Int32)) - (1 : Int32)).toInt64 - (own_arr p0).toInt64)), .second, .val (.long ((own_dep p0 p1).toInt64 - (own_arr p0).toInt64)), .second, .val (.int (0 : Int32))] [(.int (0 : Int32)), (.int (own_stay (own_arr p0) (own_dep p0 p1) ((p3 &&& (7 : Int32)) - (1 : Int32))))])) _
            refine XS.icmpNo X10.here hx rfl (hb hby at_122) rfl (teq (own_s2 hc95 hc103)).2 ?_
            show Steps p.tables e below (T10.setTop (mkF m 125 #[.val (.int p0), .val (.int p1), .val (.int p2), .val (.int p3), .val (.int (own_arr p0)), .val (.int (own_dep p0 p1)), .val (.ref w_CHEAP), .val (.int ((p3 &&& (7 : Int32)) - (1 : Int32))), .val (.ref b4), .val (.long (((p3 &&& (7 : Int32)) - (1 : Int32)).toInt64 - (own_arr p0).toInt64)), .second, .val (.long ((own_dep p0 p1).toInt64 - (own_arr p0).toInt64)), .second, .val (.int (0 : Int32))] [])) _
            refine XS.iconst X10.here hx rfl (hb hby at_125) ?_
            show Steps p.tables e below (T10.setTop (mkF m 126 #[.val (.int p0), .val (.int p1), .val (.int p2), .val (.int p3), .val (.int (own_arr p0)), .val (.int (own_dep p0 p1)), .val (.ref w_CHEAP), .val (.int ((p3 &&& (7 : Int32)) - (1 : Int32))), .val (.ref b4), .val (.long (((p3 &&& (7 : Int32)) - (1 : Int32)).toInt64 - (own_arr p0).toInt64)), .second, .val (.long ((own_dep p0 p1).toInt64 - (own_arr p0).toInt64)), .second, .val (.int (0 : Int32))] [(.int (1 : Int32))])) _
            refine XS.goto X10.here hx rfl (pc0 := 126) (pc' := 130) rfl (hb hby at_126) (by decide) (by decide) ?_
            show Steps p.tables e below (T10.setTop (mkF m 130 #[.val (.int p0), .val (.int p1), .val (.int p2), .val (.int p3), .val (.int (own_arr p0)), .val (.int (own_dep p0 p1)), .val (.ref w_CHEAP), .val (.int ((p3 &&& (7 : Int32)) - (1 : Int32))), .val (.ref b4), .val (.long (((p3 &&& (7 : Int32)) - (1 : Int32)).toInt64 - (own_arr p0).toInt64)), .second, .val (.long ((own_dep p0 p1).toInt64 - (own_arr p0).toInt64)), .second, .val (.int (0 : Int32))] [(.int (1 : Int32))])) _
            exact retN X10 hx (t := .boolean) Bd.returns (by simp) (hb hby at_130) hr
          · show Q_rm_law Z p0 p1 p2 p3 w_GOOD w_CHEAP h0 n0 _ T10.heap _
            rw [e10]
            exact ⟨rfl, N10, trivial⟩
    · obtain ⟨T11, h11, X11, e11, E11, A11, D11, -, st11⟩ := newO X2 hx hZ hown (hw _ (List.mem_of_getElem? (i := 4) rfl)) (hw _ (List.mem_of_getElem? (i := 5) rfl)) (hw _ (List.mem_of_getElem? (i := 6) rfl)) e2 (g := (mkF m 58 #[.val (.int p0), .val (.int p1), .val (.int p2), .val (.int p3), .val (.int (own_arr p0)), .val (.int (own_dep p0 p1)), .val (.ref w_CHEAP), .val (.int p3), .unset, .unset, .unset, .unset, .unset, .unset] [])) rfl (hb hby at_58) (by decide) (by decide)
      obtain ⟨b11, g11⟩ : ∃ z, z = h0.size := ⟨_, rfl⟩
      rw [← g11] at A11 D11 st11
      have ne_w_GOOD_b11 : w_GOOD ≠ b11 := Nat.ne_of_lt (Nat.lt_of_lt_of_le E_GOOD.lt (Nat.le_of_eq g11.symm))
      have ne_w_CHEAP_b11 : w_CHEAP ≠ b11 := Nat.ne_of_lt (Nat.lt_of_lt_of_le E_CHEAP.lt (Nat.le_of_eq g11.symm))
      have g_b11 : n0 ≤ b11 := Nat.le_trans Z0 (Nat.le_of_eq g11.symm)
      have S_GOOD_11 : Sta Z h11 "com/example/outcry/outcry/allocation/Hotel" "GOOD" "Lcom/example/outcry/outcry/allocation/Hotel;" (.ref w_GOOD) := S_GOOD.ext E11
      have S_CHEAP_11 : Sta Z h11 "com/example/outcry/outcry/allocation/Hotel" "CHEAP" "Lcom/example/outcry/outcry/allocation/Hotel;" (.ref w_CHEAP) := S_CHEAP.ext E11
      have E_GOOD_11 : Exa Z h11 w_GOOD "com/example/outcry/outcry/allocation/Hotel" := E_GOOD.ext E11
      have E_CHEAP_11 : Exa Z h11 w_CHEAP "com/example/outcry/outcry/allocation/Hotel" := E_CHEAP.ext E11
      have hk11' : _ ≤ h11.size := Nat.le_trans hk0 E11.1
      have Z11 : n0 ≤ h11.size := Nat.le_trans Z0 E11.1
      have F_arrival_b11 : Fld Z h11 b11 "com/example/outcry/outcry/allocation/Trip" "arrival" "I" (.int (0 : Int32)) := D11 (Or.inr (hw _ (List.mem_of_getElem? (i := 35) rfl))) (ty := .int) (by decide)
      have F_departure_b11 : Fld Z h11 b11 "com/example/outcry/outcry/allocation/Trip" "departure" "I" (.int (0 : Int32)) := D11 (Or.inr (hw _ (List.mem_of_getElem? (i := 37) rfl))) (ty := .int) (by decide)
      have F_hotel_b11 : Fld Z h11 b11 "com/example/outcry/outcry/allocation/Trip" "hotel" "Lcom/example/outcry/outcry/allocation/Hotel;" .null := D11 (Or.inr (hw _ (List.mem_of_getElem? (i := 39) rfl))) (ty := (.object "com/example/outcry/outcry/allocation/Hotel")) (by decide)
      obtain ⟨_, _, ⟨T12, L12, k12, n12⟩, -, X12, hSq12, gr12, ⟨Lc12, hQ12, l12, y12, z12⟩, st12⟩ := X11.specialBackS hx (y := (⟨"com/example/outcry/outcry/allocation/Trip", "<init>", "(IILcom/example/outcry/outcry/allocation/Hotel;)V"⟩ : MethodName)) rfl hown (mvT hZ (hw _ (List.mem_of_getElem? (i := 7) rfl))) (mvT hZ (hw _ (List.mem_of_getElem? (i := 8) rfl))) (mvT hZ (hw _ (List.mem_of_getElem? (i := 9) rfl))) (by decide) (backOfS (W := 1) (rm_trip l Z a0 hw [] b11 (own_arr p0) (own_dep p0 p1) w_CHEAP h11 n0 Z11 A11 F_arrival_b11 F_departure_b11 F_hotel_b11 g_b11 (own_c1 _) (own_c2 _ _) (own_c3 _ _)) hZ (hw _ (List.mem_of_getElem? (i := 9) rfl)) (hw _ (List.mem_of_getElem? (i := 6) rfl)) (by decide) (by decide)) (g := (mkF m 68 #[.val (.int p0), .val (.int p1), .val (.int p2), .val (.int p3), .val (.int (own_arr p0)), .val (.int (own_dep p0 p1)), .val (.ref w_CHEAP), .val (.int p3), .unset, .unset, .unset, .unset, .unset, .unset] [(.ref w_CHEAP), (.int (own_dep p0 p1)), (.int (own_arr p0)), (.ref b11), (.ref b11)])) rfl (by rw [hml]; rfl) (Steps.refl _) (a := b11) (argsL := [(.int (own_arr p0)), (.int (own_dep p0 p1)), (.ref w_CHEAP)]) (rest := [(.ref b11)]) (lenOf pd_3 rfl) rfl (by show 2 * 0 + _ ≤ _; exact Nat.le_of_eq rfl) (hb hby at_68) (fun _ _ => ⟨rfl, e11, (by decide : 1 + 4 ≤ _), (by decide : 3 + 44 ≤ _)⟩)
      dsimp only [Pt.U, Pt.locs, Pt.cells, Pt.slots] at X12 l12 y12 z12 st12 hQ12 hSq12 gr12
      subst l12 y12 z12
      obtain ⟨rfl, N12q, x12_0, x12_1, x12_2, x12_3⟩ := hQ12
      have N12 := Fr.app N0 N12q
      have E_GOOD_12 : Exa Z T12.heap w_GOOD "com/example/outcry/outcry/allocation/Hotel" := E_GOOD_11.keep x12_0
      have E_CHEAP_12 : Exa Z T12.heap w_CHEAP "com/example/outcry/outcry/allocation/Hotel" := E_CHEAP_11.keep x12_0
      have A11_12 : Exa Z T12.heap b11 "com/example/outcry/outcry/allocation/Trip" := A11.keep x12_0
      have hk12' : _ ≤ T12.heap.size := Nat.le_trans hk11' x12_0.1
      have Z12 : n0 ≤ T12.heap.size := Nat.le_trans Z11 x12_0.1
      have X12b : Stand p l e room_1 (s.setVm T12.vm) m #[(.int p0), (.int p1), (.int p2), (.int p3)] below meth c T12 _ _ _ := X12
      have hS12 : s.Since T12.vm T12.heap.size := foldS hS0 (T := T11) (by first | exact hk11' | (rw [e11]; exact hk11')) hSq12 gr12
      have hZ12 : Z.Warmed39 (s.setVm T12.vm).vm := State.Warmed39.trans (t := s.setVm s.vm) hZ hSq12.1
      have hown12 : (s.setVm T12.vm).vm.findClass "com/example/outcry/outcry/allocation/TripStaysNightPinLaw" = some m.cls := by rw [show (s.setVm T12.vm).vm = T12.vm from rfl, hSq12.1.alike.findClass]; exact hown
      have hk12 := Nat.le_refl T12.heap.size
      have k13 : ∀ target, Steps p.tables e below (T12.setTop (mkF m 95 #[.val (.int p0), .val (.int p1), .val (.int p2), .val (.int p3), .val (.int (own_arr p0)), .val (.int (own_dep p0 p1)), .val (.ref w_CHEAP), .val (.int p3), .val (.ref b11), .val (.long (p3.toInt64 - (own_arr p0).toInt64)), .second, .val (.long ((own_dep p0 p1).toInt64 - (own_arr p0).toInt64)), .second, .unset] [(.int (lcmpW (p3.toInt64 - (own_arr p0).toInt64) (0 : Int64)))])) target → Steps p.tables e below (s₁.setTop (mkF m 0 #[.val (.int p0), .val (.int p1), .val (.int p2), .val (.int p3), .unset, .unset, .unset, .unset, .unset, .unset, .unset, .unset, .unset, .unset] [])) target := by
        intro target kt
        refine k3 _ ?_
        show Steps p.tables e below (T2.setTop (mkF m 43 #[.val (.int p0), .val (.int p1), .val (.int p2), .val (.int p3), .val (.int (own_arr p0)), .val (.int (own_dep p0 p1)), .val (.ref w_CHEAP), .unset, .unset, .unset, .unset, .unset, .unset, .unset] [(.int (p2 &&& (2 : Int32)))])) _
        refine XS.ifNo X2.here hx rfl (hb hby at_43) rfl ((if0 _ _).trans (feq hc43).1) ?_
        show Steps p.tables e below (T2.setTop (mkF m 46 #[.val (.int p0), .val (.int p1), .val (.int p2), .val (.int p3), .val (.int (own_arr p0)), .val (.int (own_dep p0 p1)), .val (.ref w_CHEAP), .unset, .unset, .unset, .unset, .unset, .unset, .unset] [])) _
        refine XS.iloadN X2.here hx rfl (hb hby at_46) rfl ?_
        show Steps p.tables e below (T2.setTop (mkF m 47 #[.val (.int p0), .val (.int p1), .val (.int p2), .val (.int p3), .val (.int (own_arr p0)), .val (.int (own_dep p0 p1)), .val (.ref w_CHEAP), .unset, .unset, .unset, .unset, .unset, .unset, .unset] [(.int p3)])) _
        refine XS.goto X2.here hx rfl (pc0 := 47) (pc' := 56) rfl (hb hby at_47) (by decide) (by decide) ?_
        show Steps p.tables e below (T2.setTop (mkF m 56 #[.val (.int p0), .val (.int p1), .val (.int p2), .val (.int p3), .val (.int (own_arr p0)), .val (.int (own_dep p0 p1)), .val (.ref w_CHEAP), .unset, .unset, .unset, .unset, .unset, .unset, .unset] [(.int p3)])) _
        refine XS.istore X2.here hx rfl (hb hby at_56) rfl (l' := #[.val (.int p0), .val (.int p1), .val (.int p2), .val (.int p3), .val (.int (own_arr p0)), .val (.int (own_dep p0 p1)), .val (.ref w_CHEAP), .val (.int p3), .unset, .unset, .unset, .unset, .unset, .unset]) rfl ?_
        show Steps p.tables e below (T2.setTop (mkF m 58 #[.val (.int p0), .val (.int p1), .val (.int p2), .val (.int p3), .val (.int (own_arr p0)), .val (.int (own_dep p0 p1)), .val (.ref w_CHEAP), .val (.int p3), .unset, .unset, .unset, .unset, .unset, .unset] [])) _
        refine st11 _ ?_
        show Steps p.tables e below (T11.setTop (mkF m 61 #[.val (.int p0), .val (.int p1), .val (.int p2), .val (.int p3), .val (.int (own_arr p0)), .val (.int (own_dep p0 p1)), .val (.ref w_CHEAP), .val (.int p3), .unset, .unset, .unset, .unset, .unset, .unset] [(.ref b11)])) _
        refine XS.dup X11.here hx rfl (hb hby at_61) rfl rfl ?_
        show Steps p.tables e below (T11.setTop (mkF m 62 #[.val (.int p0), .val (.int p1), .val (.int p2), .val (.int p3), .val (.int (own_arr p0)), .val (.int (own_dep p0 p1)), .val (.ref w_CHEAP), .val (.int p3), .unset, .unset, .unset, .unset, .unset, .unset] [(.ref b11), (.ref b11)])) _
        refine XS.iload X11.here hx rfl (hb hby at_62) rfl ?_
        show Steps p.tables e below (T11.setTop (mkF m 64 #[.val (.int p0), .val (.int p1), .val (.int p2), .val (.int p3), .val (.int (own_arr p0)), .val (.int (own_dep p0 p1)), .val (.ref w_CHEAP), .val (.int p3), .unset, .unset, .unset, .unset, .unset, .unset] [(.int (own_arr p0)), (.ref b11), (.ref b11)])) _
        refine XS.iload X11.here hx rfl (hb hby at_64) rfl ?_
        show Steps p.tables e below (T11.setTop (mkF m 66 #[.val (.int p0), .val (.int p1), .val (.int p2), .val (.int p3), .val (.int (own_arr p0)), .val (.int (own_dep p0 p1)), .val (.ref w_CHEAP), .val (.int p3), .unset, .unset, .unset, .unset, .unset, .unset] [(.int (own_dep p0 p1)), (.int (own_arr p0)), (.ref b11), (.ref b11)])) _
        refine XS.aload X11.here hx rfl (hb hby at_66) rfl rfl ?_
        show Steps p.tables e below (T11.setTop (mkF m 68 #[.val (.int p0), .val (.int p1), .val (.int p2), .val (.int p3), .val (.int (own_arr p0)), .val (.int (own_dep p0 p1)), .val (.ref w_CHEAP), .val (.int p3), .unset, .unset, .unset, .unset, .unset, .unset] [(.ref w_CHEAP), (.int (own_dep p0 p1)), (.int (own_arr p0)), (.ref b11), (.ref b11)])) _
        refine st12.trans ?_
        show Steps p.tables e below (T12.setTop (mkF m 71 #[.val (.int p0), .val (.int p1), .val (.int p2), .val (.int p3), .val (.int (own_arr p0)), .val (.int (own_dep p0 p1)), .val (.ref w_CHEAP), .val (.int p3), .unset, .unset, .unset, .unset, .unset, .unset] [(.ref b11)])) _
        refine XS.astore X12b.here hx rfl (hb hby at_71) rfl rfl (l' := #[.val (.int p0), .val (.int p1), .val (.int p2), .val (.int p3), .val (.int (own_arr p0)), .val (.int (own_dep p0 p1)), .val (.ref w_CHEAP), .val (.int p3), .val (.ref b11), .unset, .unset, .unset, .unset, .unset]) rfl ?_
        show Steps p.tables e below (T12.setTop (mkF m 73 #[.val (.int p0), .val (.int p1), .val (.int p2), .val (.int p3), .val (.int (own_arr p0)), .val (.int (own_dep p0 p1)), .val (.ref w_CHEAP), .val (.int p3), .val (.ref b11), .unset, .unset, .unset, .unset, .unset] [])) _
        refine XS.iload X12b.here hx rfl (hb hby at_73) rfl ?_
        show Steps p.tables e below (T12.setTop (mkF m 75 #[.val (.int p0), .val (.int p1), .val (.int p2), .val (.int p3), .val (.int (own_arr p0)), .val (.int (own_dep p0 p1)), .val (.ref w_CHEAP), .val (.int p3), .val (.ref b11), .unset, .unset, .unset, .unset, .unset] [(.int p3)])) _
        refine XS.i2l X12b.here hx rfl (hb hby at_75) rfl ?_
        show Steps p.tables e below (T12.setTop (mkF m 76 #[.val (.int p0), .val (.int p1), .val (.int p2), .val (.int p3), .val (.int (own_arr p0)), .val (.int (own_dep p0 p1)), .val (.ref w_CHEAP), .val (.int p3), .val (.ref b11), .unset, .unset, .unset, .unset, .unset] [(.long p3.toInt64)])) _
        refine XS.iload X12b.here hx rfl (hb hby at_76) rfl ?_
        show Steps p.tables e below (T12.setTop (mkF m 78 #[.val (.int p0), .val (.int p1), .val (.int p2), .val (.int p3), .val (.int (own_arr p0)), .val (.int (own_dep p0 p1)), .val (.ref w_CHEAP), .val (.int p3), .val (.ref b11), .unset, .unset, .unset, .unset, .unset] [(.int (own_arr p0)), (.long p3.toInt64)])) _
        refine XS.i2l X12b.here hx rfl (hb hby at_78) rfl ?_
        show Steps p.tables e below (T12.setTop (mkF m 79 #[.val (.int p0), .val (.int p1), .val (.int p2), .val (.int p3), .val (.int (own_arr p0)), .val (.int (own_dep p0 p1)), .val (.ref w_CHEAP), .val (.int p3), .val (.ref b11), .unset, .unset, .unset, .unset, .unset] [(.long (own_arr p0).toInt64), (.long p3.toInt64)])) _
        refine XS.lsub X12b.here hx rfl (hb hby at_79) rfl ?_
        show Steps p.tables e below (T12.setTop (mkF m 80 #[.val (.int p0), .val (.int p1), .val (.int p2), .val (.int p3), .val (.int (own_arr p0)), .val (.int (own_dep p0 p1)), .val (.ref w_CHEAP), .val (.int p3), .val (.ref b11), .unset, .unset, .unset, .unset, .unset] [(.long (p3.toInt64 - (own_arr p0).toInt64))])) _
        refine XS.lstore X12b.here hx rfl (hb hby at_80) rfl (l' := #[.val (.int p0), .val (.int p1), .val (.int p2), .val (.int p3), .val (.int (own_arr p0)), .val (.int (own_dep p0 p1)), .val (.ref w_CHEAP), .val (.int p3), .val (.ref b11), .val (.long (p3.toInt64 - (own_arr p0).toInt64)), .second, .unset, .unset, .unset]) rfl ?_
        show Steps p.tables e below (T12.setTop (mkF m 82 #[.val (.int p0), .val (.int p1), .val (.int p2), .val (.int p3), .val (.int (own_arr p0)), .val (.int (own_dep p0 p1)), .val (.ref w_CHEAP), .val (.int p3), .val (.ref b11), .val (.long (p3.toInt64 - (own_arr p0).toInt64)), .second, .unset, .unset, .unset] [])) _
        refine XS.iload X12b.here hx rfl (hb hby at_82) rfl ?_
        show Steps p.tables e below (T12.setTop (mkF m 84 #[.val (.int p0), .val (.int p1), .val (.int p2), .val (.int p3), .val (.int (own_arr p0)), .val (.int (own_dep p0 p1)), .val (.ref w_CHEAP), .val (.int p3), .val (.ref b11), .val (.long (p3.toInt64 - (own_arr p0).toInt64)), .second, .unset, .unset, .unset] [(.int (own_dep p0 p1))])) _
        refine XS.i2l X12b.here hx rfl (hb hby at_84) rfl ?_
        show Steps p.tables e below (T12.setTop (mkF m 85 #[.val (.int p0), .val (.int p1), .val (.int p2), .val (.int p3), .val (.int (own_arr p0)), .val (.int (own_dep p0 p1)), .val (.ref w_CHEAP), .val (.int p3), .val (.ref b11), .val (.long (p3.toInt64 - (own_arr p0).toInt64)), .second, .unset, .unset, .unset] [(.long (own_dep p0 p1).toInt64)])) _
        refine XS.iload X12b.here hx rfl (hb hby at_85) rfl ?_
        show Steps p.tables e below (T12.setTop (mkF m 87 #[.val (.int p0), .val (.int p1), .val (.int p2), .val (.int p3), .val (.int (own_arr p0)), .val (.int (own_dep p0 p1)), .val (.ref w_CHEAP), .val (.int p3), .val (.ref b11), .val (.long (p3.toInt64 - (own_arr p0).toInt64)), .second, .unset, .unset, .unset] [(.int (own_arr p0)), (.long (own_dep p0 p1).toInt64)])) _
        refine XS.i2l X12b.here hx rfl (hb hby at_87) rfl ?_
        show Steps p.tables e below (T12.setTop (mkF m 88 #[.val (.int p0), .val (.int p1), .val (.int p2), .val (.int p3), .val (.int (own_arr p0)), .val (.int (own_dep p0 p1)), .val (.ref w_CHEAP), .val (.int p3), .val (.ref b11), .val (.long (p3.toInt64 - (own_arr p0).toInt64)), .second, .unset, .unset, .unset] [(.long (own_arr p0).toInt64), (.long (own_dep p0 p1).toInt64)])) _
        refine XS.lsub X12b.here hx rfl (hb hby at_88) rfl ?_
        show Steps p.tables e below (T12.setTop (mkF m 89 #[.val (.int p0), .val (.int p1), .val (.int p2), .val (.int p3), .val (.int (own_arr p0)), .val (.int (own_dep p0 p1)), .val (.ref w_CHEAP), .val (.int p3), .val (.ref b11), .val (.long (p3.toInt64 - (own_arr p0).toInt64)), .second, .unset, .unset, .unset] [(.long ((own_dep p0 p1).toInt64 - (own_arr p0).toInt64))])) _
        refine XS.lstore X12b.here hx rfl (hb hby at_89) rfl (l' := #[.val (.int p0), .val (.int p1), .val (.int p2), .val (.int p3), .val (.int (own_arr p0)), .val (.int (own_dep p0 p1)), .val (.ref w_CHEAP), .val (.int p3), .val (.ref b11), .val (.long (p3.toInt64 - (own_arr p0).toInt64)), .second, .val (.long ((own_dep p0 p1).toInt64 - (own_arr p0).toInt64)), .second, .unset]) rfl ?_
        show Steps p.tables e below (T12.setTop (mkF m 91 #[.val (.int p0), .val (.int p1), .val (.int p2), .val (.int p3), .val (.int (own_arr p0)), .val (.int (own_dep p0 p1)), .val (.ref w_CHEAP), .val (.int p3), .val (.ref b11), .val (.long (p3.toInt64 - (own_arr p0).toInt64)), .second, .val (.long ((own_dep p0 p1).toInt64 - (own_arr p0).toInt64)), .second, .unset] [])) _
        refine XS.lload X12b.here hx rfl (hb hby at_91) rfl ?_
        show Steps p.tables e below (T12.setTop (mkF m 93 #[.val (.int p0), .val (.int p1), .val (.int p2), .val (.int p3), .val (.int (own_arr p0)), .val (.int (own_dep p0 p1)), .val (.ref w_CHEAP), .val (.int p3), .val (.ref b11), .val (.long (p3.toInt64 - (own_arr p0).toInt64)), .second, .val (.long ((own_dep p0 p1).toInt64 - (own_arr p0).toInt64)), .second, .unset] [(.long (p3.toInt64 - (own_arr p0).toInt64))])) _
        refine XS.lconst X12b.here hx rfl (hb hby at_93) ?_
        show Steps p.tables e below (T12.setTop (mkF m 94 #[.val (.int p0), .val (.int p1), .val (.int p2), .val (.int p3), .val (.int (own_arr p0)), .val (.int (own_dep p0 p1)), .val (.ref w_CHEAP), .val (.int p3), .val (.ref b11), .val (.long (p3.toInt64 - (own_arr p0).toInt64)), .second, .val (.long ((own_dep p0 p1).toInt64 - (own_arr p0).toInt64)), .second, .unset] [(.long (0 : Int64)), (.long (p3.toInt64 - (own_arr p0).toInt64))])) _
        refine XS.lcmp X12b.here hx rfl (hb hby at_94) rfl ?_
        exact kt
      by_cases hc95 : (lcmpW (p3.toInt64 - (own_arr p0).toInt64) (0 : Int64)) < (0 : Int32)
      · obtain ⟨cq14, kq14, q14a, q14b, q14c⟩ := isOf hZ12 rfl A11_12
        obtain ⟨_, _, ⟨T14, L14, k14, n14⟩, -, X14, ⟨Lc14, hQ14, l14, y14, z14⟩, st14⟩ := X12b.virtualBack hx (y := (⟨"com/example/outcry/outcry/allocation/Trip", "staysNight", "(I)Z"⟩ : MethodName)) (z := (⟨"com/example/outcry/outcry/allocation/Trip", "staysNight", "(I)Z"⟩ : MethodName)) hown12 (mvT hZ12 (hw _ (List.mem_of_getElem? (i := 40) rfl))) (mvT hZ12 (hw _ (List.mem_of_getElem? (i := 41) rfl))) (notFace_of_selects (args := #[]) (mvT hZ12 (hw _ (List.mem_of_getElem? (i := 43) rfl)))) (mvT hZ12 (hw _ (List.mem_of_getElem? (i := 43) rfl))) (mvT hZ12 (hw _ (List.mem_of_getElem? (i := 42) rfl))) (by decide) (backOf (W := 0) (rm_stay l Z a0 hw [] b11 p3 (own_arr p0) (own_dep p0 p1) T12.heap n0 Z12 x12_1 x12_2) hZ12 (hw _ (List.mem_of_getElem? (i := 44) rfl)) (hw _ (List.mem_of_getElem? (i := 6) rfl)) (by decide) (by decide)) q14a q14c (g := (mkF m 117 #[.val (.int p0), .val (.int p1), .val (.int p2), .val (.int p3), .val (.int (own_arr p0)), .val (.int (own_dep p0 p1)), .val (.ref w_CHEAP), .val (.int p3), .val (.ref b11), .val (.long (p3.toInt64 - (own_arr p0).toInt64)), .second, .val (.long ((own_dep p0 p1).toInt64 - (own_arr p0).toInt64)), .second, .val (.int (0 : Int32))] [(.int p3), (.ref b11)])) rfl (by rw [hml]; rfl) (Steps.refl _) (argsL := [(.int p3)]) (rest := []) (lenOf pd_4 rfl) rfl (by show 2 * 0 + _ ≤ _; exact Nat.le_of_eq rfl) (hb hby at_117) (fun _ _ => ⟨rfl, rfl, (by decide : 5 + 0 ≤ _), (by decide : 47 + 0 ≤ _)⟩)
        dsimp only [Pt.U, Pt.locs, Pt.cells, Pt.slots] at X14 l14 y14 z14 st14 hQ14
        subst l14 y14 z14
        obtain ⟨rfl, N14q, e14⟩ := hQ14
        have N14 := Fr.app N12 N14q
        obtain ⟨fs, hr, hrun, hended, hREW⟩ := X14.leaveW hS12 (by first | exact hk12 | (rw [e14]; exact hk12)) (v := some (.int (1 : Int32))) (fun h => by rw [Bd.returns] at h; cases h)
        refine ⟨_, _, pre0 _ ?_, hrun, hended, _, _, rfl, ?_, hREW.1, hREW.2.1, hREW.2.2.1, hREW.2.2.2.mono (by decide) (by decide)⟩
        · refine k13 _ ?_
          show Steps p.tables e below (T12.setTop (mkF m 95 #[.val (.int p0), .val (.int p1), .val (.int p2), .val (.int p3), .val (.int (own_arr p0)), .val (.int (own_dep p0 p1)), .val (.ref w_CHEAP), .val (.int p3), .val (.ref b11), .val (.long (p3.toInt64 - (own_arr p0).toInt64)), .second, .val (.long ((own_dep p0 p1).toInt64 - (own_arr p0).toInt64)), .second, .unset] [(.int (lcmpW (p3.toInt64 - (own_arr p0).toInt64) (0 : Int64)))])) _
          refine XS.ifYes X12b.here hx rfl (pc0 := 95) (pc' := 110) rfl (hb hby at_95) rfl ((if0 _ _).trans (tlt hc95).1) (by decide) (by decide) ?_
          show Steps p.tables e below (T12.setTop (mkF m 110 #[.val (.int p0), .val (.int p1), .val (.int p2), .val (.int p3), .val (.int (own_arr p0)), .val (.int (own_dep p0 p1)), .val (.ref w_CHEAP), .val (.int p3), .val (.ref b11), .val (.long (p3.toInt64 - (own_arr p0).toInt64)), .second, .val (.long ((own_dep p0 p1).toInt64 - (own_arr p0).toInt64)), .second, .unset] [])) _
          refine XS.iconst X12b.here hx rfl (hb hby at_110) ?_
          show Steps p.tables e below (T12.setTop (mkF m 111 #[.val (.int p0), .val (.int p1), .val (.int p2), .val (.int p3), .val (.int (own_arr p0)), .val (.int (own_dep p0 p1)), .val (.ref w_CHEAP), .val (.int p3), .val (.ref b11), .val (.long (p3.toInt64 - (own_arr p0).toInt64)), .second, .val (.long ((own_dep p0 p1).toInt64 - (own_arr p0).toInt64)), .second, .unset] [(.int (0 : Int32))])) _
          refine XS.istore X12b.here hx rfl (hb hby at_111) rfl (l' := #[.val (.int p0), .val (.int p1), .val (.int p2), .val (.int p3), .val (.int (own_arr p0)), .val (.int (own_dep p0 p1)), .val (.ref w_CHEAP), .val (.int p3), .val (.ref b11), .val (.long (p3.toInt64 - (own_arr p0).toInt64)), .second, .val (.long ((own_dep p0 p1).toInt64 - (own_arr p0).toInt64)), .second, .val (.int (0 : Int32))]) rfl ?_
          show Steps p.tables e below (T12.setTop (mkF m 113 #[.val (.int p0), .val (.int p1), .val (.int p2), .val (.int p3), .val (.int (own_arr p0)), .val (.int (own_dep p0 p1)), .val (.ref w_CHEAP), .val (.int p3), .val (.ref b11), .val (.long (p3.toInt64 - (own_arr p0).toInt64)), .second, .val (.long ((own_dep p0 p1).toInt64 - (own_arr p0).toInt64)), .second, .val (.int (0 : Int32))] [])) _
          refine XS.aload X12b.here hx rfl (hb hby at_113) rfl rfl ?_
          show Steps p.tables e below (T12.setTop (mkF m 115 #[.val (.int p0), .val (.int p1), .val (.int p2), .val (.int p3), .val (.int (own_arr p0)), .val (.int (own_dep p0 p1)), .val (.ref w_CHEAP), .val (.int p3), .val (.ref b11), .val (.long (p3.toInt64 - (own_arr p0).toInt64)), .second, .val (.long ((own_dep p0 p1).toInt64 - (own_arr p0).toInt64)), .second, .val (.int (0 : Int32))] [(.ref b11)])) _
          refine XS.iload X12b.here hx rfl (hb hby at_115) rfl ?_
          show Steps p.tables e below (T12.setTop (mkF m 117 #[.val (.int p0), .val (.int p1), .val (.int p2), .val (.int p3), .val (.int (own_arr p0)), .val (.int (own_dep p0 p1)), .val (.ref w_CHEAP), .val (.int p3), .val (.ref b11), .val (.long (p3.toInt64 - (own_arr p0).toInt64)), .second, .val (.long ((own_dep p0 p1).toInt64 - (own_arr p0).toInt64)), .second, .val (.int (0 : Int32))] [(.int p3), (.ref b11)])) _
          refine st14.trans ?_
          show Steps p.tables e below (T14.setTop (mkF m 120 #[.val (.int p0), .val (.int p1), .val (.int p2), .val (.int p3), .val (.int (own_arr p0)), .val (.int (own_dep p0 p1)), .val (.ref w_CHEAP), .val (.int p3), .val (.ref b11), .val (.long (p3.toInt64 - (own_arr p0).toInt64)), .second, .val (.long ((own_dep p0 p1).toInt64 - (own_arr p0).toInt64)), .second, .val (.int (0 : Int32))] [(.int (own_stay (own_arr p0) (own_dep p0 p1) p3))])) _
          refine XS.iload X14.here hx rfl (hb hby at_120) rfl ?_
          show Steps p.tables e below (T14.setTop (mkF m 122 #[.val (.int p0), .val (.int p1), .val (.int p2), .val (.int p3), .val (.int (own_arr p0)), .val (.int (own_dep p0 p1)), .val (.ref w_CHEAP), .val (.int p3), .val (.ref b11), .val (.long (p3.toInt64 - (own_arr p0).toInt64)), .second, .val (.long ((own_dep p0 p1).toInt64 - (own_arr p0).toInt64)), .second, .val (.int (0 : Int32))] [(.int (0 : Int32)), (.int (own_stay (own_arr p0) (own_dep p0 p1) p3))])) _
          refine XS.icmpNo X14.here hx rfl (hb hby at_122) rfl (teq (own_s0 hc95)).2 ?_
          show Steps p.tables e below (T14.setTop (mkF m 125 #[.val (.int p0), .val (.int p1), .val (.int p2), .val (.int p3), .val (.int (own_arr p0)), .val (.int (own_dep p0 p1)), .val (.ref w_CHEAP), .val (.int p3), .val (.ref b11), .val (.long (p3.toInt64 - (own_arr p0).toInt64)), .second, .val (.long ((own_dep p0 p1).toInt64 - (own_arr p0).toInt64)), .second, .val (.int (0 : Int32))] [])) _
          refine XS.iconst X14.here hx rfl (hb hby at_125) ?_
          show Steps p.tables e below (T14.setTop (mkF m 126 #[.val (.int p0), .val (.int p1), .val (.int p2), .val (.int p3), .val (.int (own_arr p0)), .val (.int (own_dep p0 p1)), .val (.ref w_CHEAP), .val (.int p3), .val (.ref b11), .val (.long (p3.toInt64 - (own_arr p0).toInt64)), .second, .val (.long ((own_dep p0 p1).toInt64 - (own_arr p0).toInt64)), .second, .val (.int (0 : Int32))] [(.int (1 : Int32))])) _
          refine XS.goto X14.here hx rfl (pc0 := 126) (pc' := 130) rfl (hb hby at_126) (by decide) (by decide) ?_
          show Steps p.tables e below (T14.setTop (mkF m 130 #[.val (.int p0), .val (.int p1), .val (.int p2), .val (.int p3), .val (.int (own_arr p0)), .val (.int (own_dep p0 p1)), .val (.ref w_CHEAP), .val (.int p3), .val (.ref b11), .val (.long (p3.toInt64 - (own_arr p0).toInt64)), .second, .val (.long ((own_dep p0 p1).toInt64 - (own_arr p0).toInt64)), .second, .val (.int (0 : Int32))] [(.int (1 : Int32))])) _
          exact retN X14 hx (t := .boolean) Bd.returns (by simp) (hb hby at_130) hr
        · show Q_rm_law Z p0 p1 p2 p3 w_GOOD w_CHEAP h0 n0 _ T14.heap _
          rw [e14]
          exact ⟨rfl, N14, trivial⟩
      · have k15 : ∀ target, Steps p.tables e below (T12.setTop (mkF m 103 #[.val (.int p0), .val (.int p1), .val (.int p2), .val (.int p3), .val (.int (own_arr p0)), .val (.int (own_dep p0 p1)), .val (.ref w_CHEAP), .val (.int p3), .val (.ref b11), .val (.long (p3.toInt64 - (own_arr p0).toInt64)), .second, .val (.long ((own_dep p0 p1).toInt64 - (own_arr p0).toInt64)), .second, .unset] [(.int (lcmpW (p3.toInt64 - (own_arr p0).toInt64) ((own_dep p0 p1).toInt64 - (own_arr p0).toInt64)))])) target → Steps p.tables e below (s₁.setTop (mkF m 0 #[.val (.int p0), .val (.int p1), .val (.int p2), .val (.int p3), .unset, .unset, .unset, .unset, .unset, .unset, .unset, .unset, .unset, .unset] [])) target := by
          intro target kt
          refine k13 _ ?_
          show Steps p.tables e below (T12.setTop (mkF m 95 #[.val (.int p0), .val (.int p1), .val (.int p2), .val (.int p3), .val (.int (own_arr p0)), .val (.int (own_dep p0 p1)), .val (.ref w_CHEAP), .val (.int p3), .val (.ref b11), .val (.long (p3.toInt64 - (own_arr p0).toInt64)), .second, .val (.long ((own_dep p0 p1).toInt64 - (own_arr p0).toInt64)), .second, .unset] [(.int (lcmpW (p3.toInt64 - (own_arr p0).toInt64) (0 : Int64)))])) _
          refine XS.ifNo X12b.here hx rfl (hb hby at_95) rfl ((if0 _ _).trans (flt hc95).1) ?_
          show Steps p.tables e below (T12.setTop (mkF m 98 #[.val (.int p0), .val (.int p1), .val (.int p2), .val (.int p3), .val (.int (own_arr p0)), .val (.int (own_dep p0 p1)), .val (.ref w_CHEAP), .val (.int p3), .val (.ref b11), .val (.long (p3.toInt64 - (own_arr p0).toInt64)), .second, .val (.long ((own_dep p0 p1).toInt64 - (own_arr p0).toInt64)), .second, .unset] [])) _
          refine XS.lload X12b.here hx rfl (hb hby at_98) rfl ?_
          show Steps p.tables e below (T12.setTop (mkF m 100 #[.val (.int p0), .val (.int p1), .val (.int p2), .val (.int p3), .val (.int (own_arr p0)), .val (.int (own_dep p0 p1)), .val (.ref w_CHEAP), .val (.int p3), .val (.ref b11), .val (.long (p3.toInt64 - (own_arr p0).toInt64)), .second, .val (.long ((own_dep p0 p1).toInt64 - (own_arr p0).toInt64)), .second, .unset] [(.long (p3.toInt64 - (own_arr p0).toInt64))])) _
          refine XS.lload X12b.here hx rfl (hb hby at_100) rfl ?_
          show Steps p.tables e below (T12.setTop (mkF m 102 #[.val (.int p0), .val (.int p1), .val (.int p2), .val (.int p3), .val (.int (own_arr p0)), .val (.int (own_dep p0 p1)), .val (.ref w_CHEAP), .val (.int p3), .val (.ref b11), .val (.long (p3.toInt64 - (own_arr p0).toInt64)), .second, .val (.long ((own_dep p0 p1).toInt64 - (own_arr p0).toInt64)), .second, .unset] [(.long ((own_dep p0 p1).toInt64 - (own_arr p0).toInt64)), (.long (p3.toInt64 - (own_arr p0).toInt64))])) _
          refine XS.lcmp X12b.here hx rfl (hb hby at_102) rfl ?_
          exact kt
        by_cases hc103 : (lcmpW (p3.toInt64 - (own_arr p0).toInt64) ((own_dep p0 p1).toInt64 - (own_arr p0).toInt64)) < (0 : Int32)
        · obtain ⟨cq16, kq16, q16a, q16b, q16c⟩ := isOf hZ12 rfl A11_12
          obtain ⟨_, _, ⟨T16, L16, k16, n16⟩, -, X16, ⟨Lc16, hQ16, l16, y16, z16⟩, st16⟩ := X12b.virtualBack hx (y := (⟨"com/example/outcry/outcry/allocation/Trip", "staysNight", "(I)Z"⟩ : MethodName)) (z := (⟨"com/example/outcry/outcry/allocation/Trip", "staysNight", "(I)Z"⟩ : MethodName)) hown12 (mvT hZ12 (hw _ (List.mem_of_getElem? (i := 40) rfl))) (mvT hZ12 (hw _ (List.mem_of_getElem? (i := 41) rfl))) (notFace_of_selects (args := #[]) (mvT hZ12 (hw _ (List.mem_of_getElem? (i := 43) rfl)))) (mvT hZ12 (hw _ (List.mem_of_getElem? (i := 43) rfl))) (mvT hZ12 (hw _ (List.mem_of_getElem? (i := 42) rfl))) (by decide) (backOf (W := 0) (rm_stay l Z a0 hw [] b11 p3 (own_arr p0) (own_dep p0 p1) T12.heap n0 Z12 x12_1 x12_2) hZ12 (hw _ (List.mem_of_getElem? (i := 44) rfl)) (hw _ (List.mem_of_getElem? (i := 6) rfl)) (by decide) (by decide)) q16a q16c (g := (mkF m 117 #[.val (.int p0), .val (.int p1), .val (.int p2), .val (.int p3), .val (.int (own_arr p0)), .val (.int (own_dep p0 p1)), .val (.ref w_CHEAP), .val (.int p3), .val (.ref b11), .val (.long (p3.toInt64 - (own_arr p0).toInt64)), .second, .val (.long ((own_dep p0 p1).toInt64 - (own_arr p0).toInt64)), .second, .val (.int (1 : Int32))] [(.int p3), (.ref b11)])) rfl (by rw [hml]; rfl) (Steps.refl _) (argsL := [(.int p3)]) (rest := []) (lenOf pd_4 rfl) rfl (by show 2 * 0 + _ ≤ _; exact Nat.le_of_eq rfl) (hb hby at_117) (fun _ _ => ⟨rfl, rfl, (by decide : 5 + 0 ≤ _), (by decide : 47 + 0 ≤ _)⟩)
          dsimp only [Pt.U, Pt.locs, Pt.cells, Pt.slots] at X16 l16 y16 z16 st16 hQ16
          subst l16 y16 z16
          obtain ⟨rfl, N16q, e16⟩ := hQ16
          have N16 := Fr.app N12 N16q
          obtain ⟨fs, hr, hrun, hended, hREW⟩ := X16.leaveW hS12 (by first | exact hk12 | (rw [e16]; exact hk12)) (v := some (.int (1 : Int32))) (fun h => by rw [Bd.returns] at h; cases h)
          refine ⟨_, _, pre0 _ ?_, hrun, hended, _, _, rfl, ?_, hREW.1, hREW.2.1, hREW.2.2.1, hREW.2.2.2.mono (by decide) (by decide)⟩
          · refine k15 _ ?_
            show Steps p.tables e below (T12.setTop (mkF m 103 #[.val (.int p0), .val (.int p1), .val (.int p2), .val (.int p3), .val (.int (own_arr p0)), .val (.int (own_dep p0 p1)), .val (.ref w_CHEAP), .val (.int p3), .val (.ref b11), .val (.long (p3.toInt64 - (own_arr p0).toInt64)), .second, .val (.long ((own_dep p0 p1).toInt64 - (own_arr p0).toInt64)), .second, .unset] [(.int (lcmpW (p3.toInt64 - (own_arr p0).toInt64) ((own_dep p0 p1).toInt64 - (own_arr p0).toInt64)))])) _
            refine XS.ifNo X12b.here hx rfl (hb hby at_103) rfl ((if0 _ _).trans (tlt hc103).2.1) ?_
            show Steps p.tables e below (T12.setTop (mkF m 106 #[.val (.int p0), .val (.int p1), .val (.int p2), .val (.int p3), .val (.int (own_arr p0)), .val (.int (own_dep p0 p1)), .val (.ref w_CHEAP), .val (.int p3), .val (.ref b11), .val (.long (p3.toInt64 - (own_arr p0).toInt64)), .second, .val (.long ((own_dep p0 p1).toInt64 - (own_arr p0).toInt64)), .second, .unset] [])) _
            refine XS.iconst X12b.here hx rfl (hb hby at_106) ?_
            show Steps p.tables e below (T12.setTop (mkF m 107 #[.val (.int p0), .val (.int p1), .val (.int p2), .val (.int p3), .val (.int (own_arr p0)), .val (.int (own_dep p0 p1)), .val (.ref w_CHEAP), .val (.int p3), .val (.ref b11), .val (.long (p3.toInt64 - (own_arr p0).toInt64)), .second, .val (.long ((own_dep p0 p1).toInt64 - (own_arr p0).toInt64)), .second, .unset] [(.int (1 : Int32))])) _
            refine XS.goto X12b.here hx rfl (pc0 := 107) (pc' := 111) rfl (hb hby at_107) (by decide) (by decide) ?_
            show Steps p.tables e below (T12.setTop (mkF m 111 #[.val (.int p0), .val (.int p1), .val (.int p2), .val (.int p3), .val (.int (own_arr p0)), .val (.int (own_dep p0 p1)), .val (.ref w_CHEAP), .val (.int p3), .val (.ref b11), .val (.long (p3.toInt64 - (own_arr p0).toInt64)), .second, .val (.long ((own_dep p0 p1).toInt64 - (own_arr p0).toInt64)), .second, .unset] [(.int (1 : Int32))])) _
            refine XS.istore X12b.here hx rfl (hb hby at_111) rfl (l' := #[.val (.int p0), .val (.int p1), .val (.int p2), .val (.int p3), .val (.int (own_arr p0)), .val (.int (own_dep p0 p1)), .val (.ref w_CHEAP), .val (.int p3), .val (.ref b11), .val (.long (p3.toInt64 - (own_arr p0).toInt64)), .second, .val (.long ((own_dep p0 p1).toInt64 - (own_arr p0).toInt64)), .second, .val (.int (1 : Int32))]) rfl ?_
            show Steps p.tables e below (T12.setTop (mkF m 113 #[.val (.int p0), .val (.int p1), .val (.int p2), .val (.int p3), .val (.int (own_arr p0)), .val (.int (own_dep p0 p1)), .val (.ref w_CHEAP), .val (.int p3), .val (.ref b11), .val (.long (p3.toInt64 - (own_arr p0).toInt64)), .second, .val (.long ((own_dep p0 p1).toInt64 - (own_arr p0).toInt64)), .second, .val (.int (1 : Int32))] [])) _
            refine XS.aload X12b.here hx rfl (hb hby at_113) rfl rfl ?_
            show Steps p.tables e below (T12.setTop (mkF m 115 #[.val (.int p0), .val (.int p1), .val (.int p2), .val (.int p3), .val (.int (own_arr p0)), .val (.int (own_dep p0 p1)), .val (.ref w_CHEAP), .val (.int p3), .val (.ref b11), .val (.long (p3.toInt64 - (own_arr p0).toInt64)), .second, .val (.long ((own_dep p0 p1).toInt64 - (own_arr p0).toInt64)), .second, .val (.int (1 : Int32))] [(.ref b11)])) _
            refine XS.iload X12b.here hx rfl (hb hby at_115) rfl ?_
            show Steps p.tables e below (T12.setTop (mkF m 117 #[.val (.int p0), .val (.int p1), .val (.int p2), .val (.int p3), .val (.int (own_arr p0)), .val (.int (own_dep p0 p1)), .val (.ref w_CHEAP), .val (.int p3), .val (.ref b11), .val (.long (p3.toInt64 - (own_arr p0).toInt64)), .second, .val (.long ((own_dep p0 p1).toInt64 - (own_arr p0).toInt64)), .second, .val (.int (1 : Int32))] [(.int p3), (.ref b11)])) _
            refine st16.trans ?_
            show Steps p.tables e below (T16.setTop (mkF m 120 #[.val (.int p0), .val (.int p1), .val (.int p2), .val (.int p3), .val (.int (own_arr p0)), .val (.int (own_dep p0 p1)), .val (.ref w_CHEAP), .val (.int p3), .val (.ref b11), .val (.long (p3.toInt64 - (own_arr p0).toInt64)), .second, .val (.long ((own_dep p0 p1).toInt64 - (own_arr p0).toInt64)), .second, .val (.int (1 : Int32))] [(.int (own_stay (own_arr p0) (own_dep p0 p1) p3))])) _
            refine XS.iload X16.here hx rfl (hb hby at_120) rfl ?_
            show Steps p.tables e below (T16.setTop (mkF m 122 #[.val (.int p0), .val (.int p1), .val (.int p2), .val (.int p3), .val (.int (own_arr p0)), .val (.int (own_dep p0 p1)), .val (.ref w_CHEAP), .val (.int p3), .val (.ref b11), .val (.long (p3.toInt64 - (own_arr p0).toInt64)), .second, .val (.long ((own_dep p0 p1).toInt64 - (own_arr p0).toInt64)), .second, .val (.int (1 : Int32))] [(.int (1 : Int32)), (.int (own_stay (own_arr p0) (own_dep p0 p1) p3))])) _
            refine XS.icmpNo X16.here hx rfl (hb hby at_122) rfl (teq (own_s1 hc95 hc103)).2 ?_
            show Steps p.tables e below (T16.setTop (mkF m 125 #[.val (.int p0), .val (.int p1), .val (.int p2), .val (.int p3), .val (.int (own_arr p0)), .val (.int (own_dep p0 p1)), .val (.ref w_CHEAP), .val (.int p3), .val (.ref b11), .val (.long (p3.toInt64 - (own_arr p0).toInt64)), .second, .val (.long ((own_dep p0 p1).toInt64 - (own_arr p0).toInt64)), .second, .val (.int (1 : Int32))] [])) _
            refine XS.iconst X16.here hx rfl (hb hby at_125) ?_
            show Steps p.tables e below (T16.setTop (mkF m 126 #[.val (.int p0), .val (.int p1), .val (.int p2), .val (.int p3), .val (.int (own_arr p0)), .val (.int (own_dep p0 p1)), .val (.ref w_CHEAP), .val (.int p3), .val (.ref b11), .val (.long (p3.toInt64 - (own_arr p0).toInt64)), .second, .val (.long ((own_dep p0 p1).toInt64 - (own_arr p0).toInt64)), .second, .val (.int (1 : Int32))] [(.int (1 : Int32))])) _
            refine XS.goto X16.here hx rfl (pc0 := 126) (pc' := 130) rfl (hb hby at_126) (by decide) (by decide) ?_
            show Steps p.tables e below (T16.setTop (mkF m 130 #[.val (.int p0), .val (.int p1), .val (.int p2), .val (.int p3), .val (.int (own_arr p0)), .val (.int (own_dep p0 p1)), .val (.ref w_CHEAP), .val (.int p3), .val (.ref b11), .val (.long (p3.toInt64 - (own_arr p0).toInt64)), .second, .val (.long ((own_dep p0 p1).toInt64 - (own_arr p0).toInt64)), .second, .val (.int (1 : Int32))] [(.int (1 : Int32))])) _
            exact retN X16 hx (t := .boolean) Bd.returns (by simp) (hb hby at_130) hr
          · show Q_rm_law Z p0 p1 p2 p3 w_GOOD w_CHEAP h0 n0 _ T16.heap _
            rw [e16]
            exact ⟨rfl, N16, trivial⟩
        · obtain ⟨cq17, kq17, q17a, q17b, q17c⟩ := isOf hZ12 rfl A11_12
          obtain ⟨_, _, ⟨T17, L17, k17, n17⟩, -, X17, ⟨Lc17, hQ17, l17, y17, z17⟩, st17⟩ := X12b.virtualBack hx (y := (⟨"com/example/outcry/outcry/allocation/Trip", "staysNight", "(I)Z"⟩ : MethodName)) (z := (⟨"com/example/outcry/outcry/allocation/Trip", "staysNight", "(I)Z"⟩ : MethodName)) hown12 (mvT hZ12 (hw _ (List.mem_of_getElem? (i := 40) rfl))) (mvT hZ12 (hw _ (List.mem_of_getElem? (i := 41) rfl))) (notFace_of_selects (args := #[]) (mvT hZ12 (hw _ (List.mem_of_getElem? (i := 43) rfl)))) (mvT hZ12 (hw _ (List.mem_of_getElem? (i := 43) rfl))) (mvT hZ12 (hw _ (List.mem_of_getElem? (i := 42) rfl))) (by decide) (backOf (W := 0) (rm_stay l Z a0 hw [] b11 p3 (own_arr p0) (own_dep p0 p1) T12.heap n0 Z12 x12_1 x12_2) hZ12 (hw _ (List.mem_of_getElem? (i := 44) rfl)) (hw _ (List.mem_of_getElem? (i := 6) rfl)) (by decide) (by decide)) q17a q17c (g := (mkF m 117 #[.val (.int p0), .val (.int p1), .val (.int p2), .val (.int p3), .val (.int (own_arr p0)), .val (.int (own_dep p0 p1)), .val (.ref w_CHEAP), .val (.int p3), .val (.ref b11), .val (.long (p3.toInt64 - (own_arr p0).toInt64)), .second, .val (.long ((own_dep p0 p1).toInt64 - (own_arr p0).toInt64)), .second, .val (.int (0 : Int32))] [(.int p3), (.ref b11)])) rfl (by rw [hml]; rfl) (Steps.refl _) (argsL := [(.int p3)]) (rest := []) (lenOf pd_4 rfl) rfl (by show 2 * 0 + _ ≤ _; exact Nat.le_of_eq rfl) (hb hby at_117) (fun _ _ => ⟨rfl, rfl, (by decide : 5 + 0 ≤ _), (by decide : 47 + 0 ≤ _)⟩)
          dsimp only [Pt.U, Pt.locs, Pt.cells, Pt.slots] at X17 l17 y17 z17 st17 hQ17
          subst l17 y17 z17
          obtain ⟨rfl, N17q, e17⟩ := hQ17
          have N17 := Fr.app N12 N17q
          obtain ⟨fs, hr, hrun, hended, hREW⟩ := X17.leaveW hS12 (by first | exact hk12 | (rw [e17]; exact hk12)) (v := some (.int (1 : Int32))) (fun h => by rw [Bd.returns] at h; cases h)
          refine ⟨_, _, pre0 _ ?_, hrun, hended, _, _, rfl, ?_, hREW.1, hREW.2.1, hREW.2.2.1, hREW.2.2.2.mono (by decide) (by decide)⟩
          · refine k15 _ ?_
            show Steps p.tables e below (T12.setTop (mkF m 103 #[.val (.int p0), .val (.int p1), .val (.int p2), .val (.int p3), .val (.int (own_arr p0)), .val (.int (own_dep p0 p1)), .val (.ref w_CHEAP), .val (.int p3), .val (.ref b11), .val (.long (p3.toInt64 - (own_arr p0).toInt64)), .second, .val (.long ((own_dep p0 p1).toInt64 - (own_arr p0).toInt64)), .second, .unset] [(.int (lcmpW (p3.toInt64 - (own_arr p0).toInt64) ((own_dep p0 p1).toInt64 - (own_arr p0).toInt64)))])) _
            refine XS.ifYes X12b.here hx rfl (pc0 := 103) (pc' := 110) rfl (hb hby at_103) rfl ((if0 _ _).trans (flt hc103).2.1) (by decide) (by decide) ?_
            show Steps p.tables e below (T12.setTop (mkF m 110 #[.val (.int p0), .val (.int p1), .val (.int p2), .val (.int p3), .val (.int (own_arr p0)), .val (.int (own_dep p0 p1)), .val (.ref w_CHEAP), .val (.int p3), .val (.ref b11), .val (.long (p3.toInt64 - (own_arr p0).toInt64)), .second, .val (.long ((own_dep p0 p1).toInt64 - (own_arr p0).toInt64)), .second, .unset] [])) _
            refine XS.iconst X12b.here hx rfl (hb hby at_110) ?_
            show Steps p.tables e below (T12.setTop (mkF m 111 #[.val (.int p0), .val (.int p1), .val (.int p2), .val (.int p3), .val (.int (own_arr p0)), .val (.int (own_dep p0 p1)), .val (.ref w_CHEAP), .val (.int p3), .val (.ref b11), .val (.long (p3.toInt64 - (own_arr p0).toInt64)), .second, .val (.long ((own_dep p0 p1).toInt64 - (own_arr p0).toInt64)), .second, .unset] [(.int (0 : Int32))])) _
            refine XS.istore X12b.here hx rfl (hb hby at_111) rfl (l' := #[.val (.int p0), .val (.int p1), .val (.int p2), .val (.int p3), .val (.int (own_arr p0)), .val (.int (own_dep p0 p1)), .val (.ref w_CHEAP), .val (.int p3), .val (.ref b11), .val (.long (p3.toInt64 - (own_arr p0).toInt64)), .second, .val (.long ((own_dep p0 p1).toInt64 - (own_arr p0).toInt64)), .second, .val (.int (0 : Int32))]) rfl ?_
            show Steps p.tables e below (T12.setTop (mkF m 113 #[.val (.int p0), .val (.int p1), .val (.int p2), .val (.int p3), .val (.int (own_arr p0)), .val (.int (own_dep p0 p1)), .val (.ref w_CHEAP), .val (.int p3), .val (.ref b11), .val (.long (p3.toInt64 - (own_arr p0).toInt64)), .second, .val (.long ((own_dep p0 p1).toInt64 - (own_arr p0).toInt64)), .second, .val (.int (0 : Int32))] [])) _
            refine XS.aload X12b.here hx rfl (hb hby at_113) rfl rfl ?_
            show Steps p.tables e below (T12.setTop (mkF m 115 #[.val (.int p0), .val (.int p1), .val (.int p2), .val (.int p3), .val (.int (own_arr p0)), .val (.int (own_dep p0 p1)), .val (.ref w_CHEAP), .val (.int p3), .val (.ref b11), .val (.long (p3.toInt64 - (own_arr p0).toInt64)), .second, .val (.long ((own_dep p0 p1).toInt64 - (own_arr p0).toInt64)), .second, .val (.int (0 : Int32))] [(.ref b11)])) _
            refine XS.iload X12b.here hx rfl (hb hby at_115) rfl ?_
            show Steps p.tables e below (T12.setTop (mkF m 117 #[.val (.int p0), .val (.int p1), .val (.int p2), .val (.int p3), .val (.int (own_arr p0)), .val (.int (own_dep p0 p1)), .val (.ref w_CHEAP), .val (.int p3), .val (.ref b11), .val (.long (p3.toInt64 - (own_arr p0).toInt64)), .second, .val (.long ((own_dep p0 p1).toInt64 - (own_arr p0).toInt64)), .second, .val (.int (0 : Int32))] [(.int p3), (.ref b11)])) _
            refine st17.trans ?_
            show Steps p.tables e below (T17.setTop (mkF m 120 #[.val (.int p0), .val (.int p1), .val (.int p2), .val (.int p3), .val (.int (own_arr p0)), .val (.int (own_dep p0 p1)), .val (.ref w_CHEAP), .val (.int p3), .val (.ref b11), .val (.long (p3.toInt64 - (own_arr p0).toInt64)), .second, .val (.long ((own_dep p0 p1).toInt64 - (own_arr p0).toInt64)), .second, .val (.int (0 : Int32))] [(.int (own_stay (own_arr p0) (own_dep p0 p1) p3))])) _
            refine XS.iload X17.here hx rfl (hb hby at_120) rfl ?_
            show Steps p.tables e below (T17.setTop (mkF m 122 #[.val (.int p0), .val (.int p1), .val (.int p2), .val (.int p3), .val (.int (own_arr p0)), .val (.int (own_dep p0 p1)), .val (.ref w_CHEAP), .val (.int p3), .val (.ref b11), .val (.long (p3.toInt64 - (own_arr p0).toInt64)), .second, .val (.long ((own_dep p0 p1).toInt64 - (own_arr p0).toInt64)), .second, .val (.int (0 : Int32))] [(.int (0 : Int32)), (.int (own_stay (own_arr p0) (own_dep p0 p1) p3))])) _
            refine XS.icmpNo X17.here hx rfl (hb hby at_122) rfl (teq (own_s2 hc95 hc103)).2 ?_
            show Steps p.tables e below (T17.setTop (mkF m 125 #[.val (.int p0), .val (.int p1), .val (.int p2), .val (.int p3), .val (.int (own_arr p0)), .val (.int (own_dep p0 p1)), .val (.ref w_CHEAP), .val (.int p3), .val (.ref b11), .val (.long (p3.toInt64 - (own_arr p0).toInt64)), .second, .val (.long ((own_dep p0 p1).toInt64 - (own_arr p0).toInt64)), .second, .val (.int (0 : Int32))] [])) _
            refine XS.iconst X17.here hx rfl (hb hby at_125) ?_
            show Steps p.tables e below (T17.setTop (mkF m 126 #[.val (.int p0), .val (.int p1), .val (.int p2), .val (.int p3), .val (.int (own_arr p0)), .val (.int (own_dep p0 p1)), .val (.ref w_CHEAP), .val (.int p3), .val (.ref b11), .val (.long (p3.toInt64 - (own_arr p0).toInt64)), .second, .val (.long ((own_dep p0 p1).toInt64 - (own_arr p0).toInt64)), .second, .val (.int (0 : Int32))] [(.int (1 : Int32))])) _
            refine XS.goto X17.here hx rfl (pc0 := 126) (pc' := 130) rfl (hb hby at_126) (by decide) (by decide) ?_
            show Steps p.tables e below (T17.setTop (mkF m 130 #[.val (.int p0), .val (.int p1), .val (.int p2), .val (.int p3), .val (.int (own_arr p0)), .val (.int (own_dep p0 p1)), .val (.ref w_CHEAP), .val (.int p3), .val (.ref b11), .val (.long (p3.toInt64 - (own_arr p0).toInt64)), .second, .val (.long ((own_dep p0 p1).toInt64 - (own_arr p0).toInt64)), .second, .val (.int (0 : Int32))] [(.int (1 : Int32))])) _
            exact retN X17 hx (t := .boolean) Bd.returns (by simp) (hb hby at_130) hr
          · show Q_rm_law Z p0 p1 p2 p3 w_GOOD w_CHEAP h0 n0 _ T17.heap _
            rw [e17]
            exact ⟨rfl, N17, trivial⟩
  · obtain ⟨T18, X18, e18, st18⟩ := getS2 X0 hx hZ hown (host := "") (Or.inl (hw _ (List.mem_of_getElem? (i := 45) rfl))) Via.refl e0 S_GOOD (g := (mkF m 29 #[.val (.int p0), .val (.int p1), .val (.int p2), .val (.int p3), .val (.int (own_arr p0)), .val (.int (own_dep p0 p1)), .unset, .unset, .unset, .unset, .unset, .unset, .unset, .unset] [])) rfl (hb hby at_29)
    have k19 : ∀ target, Steps p.tables e below (T18.setTop (mkF m 43 #[.val (.int p0), .val (.int p1), .val (.int p2), .val (.int p3), .val (.int (own_arr p0)), .val (.int (own_dep p0 p1)), .val (.ref w_GOOD), .unset, .unset, .unset, .unset, .unset, .unset, .unset] [(.int (p2 &&& (2 : Int32)))])) target → Steps p.tables e below (s₁.setTop (mkF m 0 #[.val (.int p0), .val (.int p1), .val (.int p2), .val (.int p3), .unset, .unset, .unset, .unset, .unset, .unset, .unset, .unset, .unset, .unset] [])) target := by
      intro target kt
      refine k1 _ ?_
      show Steps p.tables e below (s₁.setTop (mkF m 26 #[.val (.int p0), .val (.int p1), .val (.int p2), .val (.int p3), .val (.int (own_arr p0)), .val (.int (own_dep p0 p1)), .unset, .unset, .unset, .unset, .unset, .unset, .unset, .unset] [(.int (p2 &&& (1 : Int32)))])) _
      refine XS.ifNo X0.here hx rfl (hb hby at_26) rfl ((if0 _ _).trans (feq hc26).1) ?_
      show Steps p.tables e below (s₁.setTop (mkF m 29 #[.val (.int p0), .val (.int p1), .val (.int p2), .val (.int p3), .val (.int (own_arr p0)), .val (.int (own_dep p0 p1)), .unset, .unset, .unset, .unset, .unset, .unset, .unset, .unset] [])) _
      refine st18 _ ?_
      show Steps p.tables e below (T18.setTop (mkF m 32 #[.val (.int p0), .val (.int p1), .val (.int p2), .val (.int p3), .val (.int (own_arr p0)), .val (.int (own_dep p0 p1)), .unset, .unset, .unset, .unset, .unset, .unset, .unset, .unset] [(.ref w_GOOD)])) _
      refine XS.goto X18.here hx rfl (pc0 := 32) (pc' := 38) rfl (hb hby at_32) (by decide) (by decide) ?_
      show Steps p.tables e below (T18.setTop (mkF m 38 #[.val (.int p0), .val (.int p1), .val (.int p2), .val (.int p3), .val (.int (own_arr p0)), .val (.int (own_dep p0 p1)), .unset, .unset, .unset, .unset, .unset, .unset, .unset, .unset] [(.ref w_GOOD)])) _
      refine XS.astore X18.here hx rfl (hb hby at_38) rfl rfl (l' := #[.val (.int p0), .val (.int p1), .val (.int p2), .val (.int p3), .val (.int (own_arr p0)), .val (.int (own_dep p0 p1)), .val (.ref w_GOOD), .unset, .unset, .unset, .unset, .unset, .unset, .unset]) rfl ?_
      show Steps p.tables e below (T18.setTop (mkF m 40 #[.val (.int p0), .val (.int p1), .val (.int p2), .val (.int p3), .val (.int (own_arr p0)), .val (.int (own_dep p0 p1)), .val (.ref w_GOOD), .unset, .unset, .unset, .unset, .unset, .unset, .unset] [])) _
      refine XS.iloadN X18.here hx rfl (hb hby at_40) rfl ?_
      show Steps p.tables e below (T18.setTop (mkF m 41 #[.val (.int p0), .val (.int p1), .val (.int p2), .val (.int p3), .val (.int (own_arr p0)), .val (.int (own_dep p0 p1)), .val (.ref w_GOOD), .unset, .unset, .unset, .unset, .unset, .unset, .unset] [(.int p2)])) _
      refine XS.iconst X18.here hx rfl (hb hby at_41) ?_
      show Steps p.tables e below (T18.setTop (mkF m 42 #[.val (.int p0), .val (.int p1), .val (.int p2), .val (.int p3), .val (.int (own_arr p0)), .val (.int (own_dep p0 p1)), .val (.ref w_GOOD), .unset, .unset, .unset, .unset, .unset, .unset, .unset] [(.int (2 : Int32)), (.int p2)])) _
      refine XS.iand X18.here hx rfl (hb hby at_42) rfl ?_
      exact kt
    by_cases hc43 : (p2 &&& (2 : Int32)) = (0 : Int32)
    · obtain ⟨T20, h20, X20, e20, E20, A20, D20, -, st20⟩ := newO X18 hx hZ hown (hw _ (List.mem_of_getElem? (i := 4) rfl)) (hw _ (List.mem_of_getElem? (i := 5) rfl)) (hw _ (List.mem_of_getElem? (i := 6) rfl)) e18 (g := (mkF m 58 #[.val (.int p0), .val (.int p1), .val (.int p2), .val (.int p3), .val (.int (own_arr p0)), .val (.int (own_dep p0 p1)), .val (.ref w_GOOD), .val (.int ((p3 &&& (7 : Int32)) - (1 : Int32))), .unset, .unset, .unset, .unset, .unset, .unset] [])) rfl (hb hby at_58) (by decide) (by decide)
      obtain ⟨b20, g20⟩ : ∃ z, z = h0.size := ⟨_, rfl⟩
      rw [← g20] at A20 D20 st20
      have ne_w_GOOD_b20 : w_GOOD ≠ b20 := Nat.ne_of_lt (Nat.lt_of_lt_of_le E_GOOD.lt (Nat.le_of_eq g20.symm))
      have ne_w_CHEAP_b20 : w_CHEAP ≠ b20 := Nat.ne_of_lt (Nat.lt_of_lt_of_le E_CHEAP.lt (Nat.le_of_eq g20.symm))
      have g_b20 : n0 ≤ b20 := Nat.le_trans Z0 (Nat.le_of_eq g20.symm)
      have S_GOOD_20 : Sta Z h20 "com/example/outcry/outcry/allocation/Hotel" "GOOD" "Lcom/example/outcry/outcry/allocation/Hotel;" (.ref w_GOOD) := S_GOOD.ext E20
      have S_CHEAP_20 : Sta Z h20 "com/example/outcry/outcry/allocation/Hotel" "CHEAP" "Lcom/example/outcry/outcry/allocation/Hotel;" (.ref w_CHEAP) := S_CHEAP.ext E20
      have E_GOOD_20 : Exa Z h20 w_GOOD "com/example/outcry/outcry/allocation/Hotel" := E_GOOD.ext E20
      have E_CHEAP_20 : Exa Z h20 w_CHEAP "com/example/outcry/outcry/allocation/Hotel" := E_CHEAP.ext E20
      have hk20' : _ ≤ h20.size := Nat.le_trans hk0 E20.1
      have Z20 : n0 ≤ h20.size := Nat.le_trans Z0 E20.1
      have F_arrival_b20 : Fld Z h20 b20 "com/example/outcry/outcry/allocation/Trip" "arrival" "I" (.int (0 : Int32)) := D20 (Or.inr (hw _ (List.mem_of_getElem? (i := 35) rfl))) (ty := .int) (by decide)
      have F_departure_b20 : Fld Z h20 b20 "com/example/outcry/outcry/allocation/Trip" "departure" "I" (.int (0 : Int32)) := D20 (Or.inr (hw _ (List.mem_of_getElem? (i := 37) rfl))) (ty := .int) (by decide)
      have F_hotel_b20 : Fld Z h20 b20 "com/example/outcry/outcry/allocation/Trip" "hotel" "Lcom/example/outcry/outcry/allocation/Hotel;" .null := D20 (Or.inr (hw _ (List.mem_of_getElem? (i := 39) rfl))) (ty := (.object "com/example/outcry/outcry/allocation/Hotel")) (by decide)
      obtain ⟨_, _, ⟨T21, L21, k21, n21⟩, -, X21, hSq21, gr21, ⟨Lc21, hQ21, l21, y21, z21⟩, st21⟩ := X20.specialBackS hx (y := (⟨"com/example/outcry/outcry/allocation/Trip", "<init>", "(IILcom/example/outcry/outcry/allocation/Hotel;)V"⟩ : MethodName)) rfl hown (mvT hZ (hw _ (List.mem_of_getElem? (i := 7) rfl))) (mvT hZ (hw _ (List.mem_of_getElem? (i := 8) rfl))) (mvT hZ (hw _ (List.mem_of_getElem? (i := 9) rfl))) (by decide) (backOfS (W := 1) (rm_trip l Z a0 hw [] b20 (own_arr p0) (own_dep p0 p1) w_GOOD h20 n0 Z20 A20 F_arrival_b20 F_departure_b20 F_hotel_b20 g_b20 (own_c1 _) (own_c2 _ _) (own_c3 _ _)) hZ (hw _ (List.mem_of_getElem? (i := 9) rfl)) (hw _ (List.mem_of_getElem? (i := 6) rfl)) (by decide) (by decide)) (g := (mkF m 68 #[.val (.int p0), .val (.int p1), .val (.int p2), .val (.int p3), .val (.int (own_arr p0)), .val (.int (own_dep p0 p1)), .val (.ref w_GOOD), .val (.int ((p3 &&& (7 : Int32)) - (1 : Int32))), .unset, .unset, .unset, .unset, .unset, .unset] [(.ref w_GOOD), (.int (own_dep p0 p1)), (.int (own_arr p0)), (.ref b20), (.ref b20)])) rfl (by rw [hml]; rfl) (Steps.refl _) (a := b20) (argsL := [(.int (own_arr p0)), (.int (own_dep p0 p1)), (.ref w_GOOD)]) (rest := [(.ref b20)]) (lenOf pd_3 rfl) rfl (by show 2 * 0 + _ ≤ _; exact Nat.le_of_eq rfl) (hb hby at_68) (fun _ _ => ⟨rfl, e20, (by decide : 1 + 4 ≤ _), (by decide : 3 + 44 ≤ _)⟩)
      dsimp only [Pt.U, Pt.locs, Pt.cells, Pt.slots] at X21 l21 y21 z21 st21 hQ21 hSq21 gr21
      subst l21 y21 z21
      obtain ⟨rfl, N21q, x21_0, x21_1, x21_2, x21_3⟩ := hQ21
      have N21 := Fr.app N0 N21q
      have E_GOOD_21 : Exa Z T21.heap w_GOOD "com/example/outcry/outcry/allocation/Hotel" := E_GOOD_20.keep x21_0
      have E_CHEAP_21 : Exa Z T21.heap w_CHEAP "com/example/outcry/outcry/allocation/Hotel" := E_CHEAP_20.keep x21_0
      have A20_21 : Exa Z T21.heap b20 "com/example/outcry/outcry/allocation/Trip" := A20.keep x21_0
      have hk21' : _ ≤ T21.heap.size := Nat.le_trans hk20' x21_0.1
      have Z21 : n0 ≤ T21.heap.size := Nat.le_trans Z20 x21_0.1
      have X21b : Stand p l e room_1 (s.setVm T21.vm) m #[(.int p0), (.int p1), (.int p2), (.int p3)] below meth c T21 _ _ _ := X21
      have hS21 : s.Since T21.vm T21.heap.size := foldS hS0 (T := T20) (by first | exact hk20' | (rw [e20]; exact hk20')) hSq21 gr21
      have hZ21 : Z.Warmed39 (s.setVm T21.vm).vm := State.Warmed39.trans (t := s.setVm s.vm) hZ hSq21.1
      have hown21 : (s.setVm T21.vm).vm.findClass "com/example/outcry/outcry/allocation/TripStaysNightPinLaw" = some m.cls := by rw [show (s.setVm T21.vm).vm = T21.vm from rfl, hSq21.1.alike.findClass]; exact hown
      have hk21 := Nat.le_refl T21.heap.size
      have k22 : ∀ target, Steps p.tables e below (T21.setTop (mkF m 95 #[.val (.int p0), .val (.int p1), .val (.int p2), .val (.int p3), .val (.int (own_arr p0)), .val (.int (own_dep p0 p1)), .val (.ref w_GOOD), .val (.int ((p3 &&& (7 : Int32)) - (1 : Int32))), .val (.ref b20), .val (.long (((p3 &&& (7 : Int32)) - (1 : Int32)).toInt64 - (own_arr p0).toInt64)), .second, .val (.long ((own_dep p0 p1).toInt64 - (own_arr p0).toInt64)), .second, .unset] [(.int (lcmpW (((p3 &&& (7 : Int32)) - (1 : Int32)).toInt64 - (own_arr p0).toInt64) (0 : Int64)))])) target → Steps p.tables e below (s₁.setTop (mkF m 0 #[.val (.int p0), .val (.int p1), .val (.int p2), .val (.int p3), .unset, .unset, .unset, .unset, .unset, .unset, .unset, .unset, .unset, .unset] [])) target := by
        intro target kt
        refine k19 _ ?_
        show Steps p.tables e below (T18.setTop (mkF m 43 #[.val (.int p0), .val (.int p1), .val (.int p2), .val (.int p3), .val (.int (own_arr p0)), .val (.int (own_dep p0 p1)), .val (.ref w_GOOD), .unset, .unset, .unset, .unset, .unset, .unset, .unset] [(.int (p2 &&& (2 : Int32)))])) _
        refine XS.ifYes X18.here hx rfl (pc0 := 43) (pc' := 50) rfl (hb hby at_43) rfl ((if0 _ _).trans (teq hc43).1) (by decide) (by decide) ?_
        show Steps p.tables e below (T18.setTop (mkF m 50 #[.val (.int p0), .val (.int p1), .val (.int p2), .val (.int p3), .val (.int (own_arr p0)), .val (.int (own_dep p0 p1)), .val (.ref w_GOOD), .unset, .unset, .unset, .unset, .unset, .unset, .unset] [])) _
        refine XS.iloadN X18.here hx rfl (hb hby at_50) rfl ?_
        show Steps p.tables e below (T18.setTop (mkF m 51 #[.val (.int p0), .val (.int p1), .val (.int p2), .val (.int p3), .val (.int (own_arr p0)), .val (.int (own_dep p0 p1)), .val (.ref w_GOOD), .unset, .unset, .unset, .unset, .unset, .unset, .unset] [(.int p3)])) _
        refine XS.bipush X18.here hx rfl (hb hby at_51) ?_
        show Steps p.tables e below (T18.setTop (mkF m 53 #[.val (.int p0), .val (.int p1), .val (.int p2), .val (.int p3), .val (.int (own_arr p0)), .val (.int (own_dep p0 p1)), .val (.ref w_GOOD), .unset, .unset, .unset, .unset, .unset, .unset, .unset] [(.int (7 : Int32)), (.int p3)])) _
        refine XS.iand X18.here hx rfl (hb hby at_53) rfl ?_
        show Steps p.tables e below (T18.setTop (mkF m 54 #[.val (.int p0), .val (.int p1), .val (.int p2), .val (.int p3), .val (.int (own_arr p0)), .val (.int (own_dep p0 p1)), .val (.ref w_GOOD), .unset, .unset, .unset, .unset, .unset, .unset, .unset] [(.int (p3 &&& (7 : Int32)))])) _
        refine XS.iconst X18.here hx rfl (hb hby at_54) ?_
        show Steps p.tables e below (T18.setTop (mkF m 55 #[.val (.int p0), .val (.int p1), .val (.int p2), .val (.int p3), .val (.int (own_arr p0)), .val (.int (own_dep p0 p1)), .val (.ref w_GOOD), .unset, .unset, .unset, .unset, .unset, .unset, .unset] [(.int (1 : Int32)), (.int (p3 &&& (7 : Int32)))])) _
        refine XS.isub X18.here hx rfl (hb hby at_55) rfl ?_
        show Steps p.tables e below (T18.setTop (mkF m 56 #[.val (.int p0), .val (.int p1), .val (.int p2), .val (.int p3), .val (.int (own_arr p0)), .val (.int (own_dep p0 p1)), .val (.ref w_GOOD), .unset, .unset, .unset, .unset, .unset, .unset, .unset] [(.int ((p3 &&& (7 : Int32)) - (1 : Int32)))])) _
        refine XS.istore X18.here hx rfl (hb hby at_56) rfl (l' := #[.val (.int p0), .val (.int p1), .val (.int p2), .val (.int p3), .val (.int (own_arr p0)), .val (.int (own_dep p0 p1)), .val (.ref w_GOOD), .val (.int ((p3 &&& (7 : Int32)) - (1 : Int32))), .unset, .unset, .unset, .unset, .unset, .unset]) rfl ?_
        show Steps p.tables e below (T18.setTop (mkF m 58 #[.val (.int p0), .val (.int p1), .val (.int p2), .val (.int p3), .val (.int (own_arr p0)), .val (.int (own_dep p0 p1)), .val (.ref w_GOOD), .val (.int ((p3 &&& (7 : Int32)) - (1 : Int32))), .unset, .unset, .unset, .unset, .unset, .unset] [])) _
        refine st20 _ ?_
        show Steps p.tables e below (T20.setTop (mkF m 61 #[.val (.int p0), .val (.int p1), .val (.int p2), .val (.int p3), .val (.int (own_arr p0)), .val (.int (own_dep p0 p1)), .val (.ref w_GOOD), .val (.int ((p3 &&& (7 : Int32)) - (1 : Int32))), .unset, .unset, .unset, .unset, .unset, .unset] [(.ref b20)])) _
        refine XS.dup X20.here hx rfl (hb hby at_61) rfl rfl ?_
        show Steps p.tables e below (T20.setTop (mkF m 62 #[.val (.int p0), .val (.int p1), .val (.int p2), .val (.int p3), .val (.int (own_arr p0)), .val (.int (own_dep p0 p1)), .val (.ref w_GOOD), .val (.int ((p3 &&& (7 : Int32)) - (1 : Int32))), .unset, .unset, .unset, .unset, .unset, .unset] [(.ref b20), (.ref b20)])) _
        refine XS.iload X20.here hx rfl (hb hby at_62) rfl ?_
        show Steps p.tables e below (T20.setTop (mkF m 64 #[.val (.int p0), .val (.int p1), .val (.int p2), .val (.int p3), .val (.int (own_arr p0)), .val (.int (own_dep p0 p1)), .val (.ref w_GOOD), .val (.int ((p3 &&& (7 : Int32)) - (1 : Int32))), .unset, .unset, .unset, .unset, .unset, .unset] [(.int (own_arr p0)), (.ref b20), (.ref b20)])) _
        refine XS.iload X20.here hx rfl (hb hby at_64) rfl ?_
        show Steps p.tables e below (T20.setTop (mkF m 66 #[.val (.int p0), .val (.int p1), .val (.int p2), .val (.int p3), .val (.int (own_arr p0)), .val (.int (own_dep p0 p1)), .val (.ref w_GOOD), .val (.int ((p3 &&& (7 : Int32)) - (1 : Int32))), .unset, .unset, .unset, .unset, .unset, .unset] [(.int (own_dep p0 p1)), (.int (own_arr p0)), (.ref b20), (.ref b20)])) _
        refine XS.aload X20.here hx rfl (hb hby at_66) rfl rfl ?_
        show Steps p.tables e below (T20.setTop (mkF m 68 #[.val (.int p0), .val (.int p1), .val (.int p2), .val (.int p3), .val (.int (own_arr p0)), .val (.int (own_dep p0 p1)), .val (.ref w_GOOD), .val (.int ((p3 &&& (7 : Int32)) - (1 : Int32))), .unset, .unset, .unset, .unset, .unset, .unset] [(.ref w_GOOD), (.int (own_dep p0 p1)), (.int (own_arr p0)), (.ref b20), (.ref b20)])) _
        refine st21.trans ?_
        show Steps p.tables e below (T21.setTop (mkF m 71 #[.val (.int p0), .val (.int p1), .val (.int p2), .val (.int p3), .val (.int (own_arr p0)), .val (.int (own_dep p0 p1)), .val (.ref w_GOOD), .val (.int ((p3 &&& (7 : Int32)) - (1 : Int32))), .unset, .unset, .unset, .unset, .unset, .unset] [(.ref b20)])) _
        refine XS.astore X21b.here hx rfl (hb hby at_71) rfl rfl (l' := #[.val (.int p0), .val (.int p1), .val (.int p2), .val (.int p3), .val (.int (own_arr p0)), .val (.int (own_dep p0 p1)), .val (.ref w_GOOD), .val (.int ((p3 &&& (7 : Int32)) - (1 : Int32))), .val (.ref b20), .unset, .unset, .unset, .unset, .unset]) rfl ?_
        show Steps p.tables e below (T21.setTop (mkF m 73 #[.val (.int p0), .val (.int p1), .val (.int p2), .val (.int p3), .val (.int (own_arr p0)), .val (.int (own_dep p0 p1)), .val (.ref w_GOOD), .val (.int ((p3 &&& (7 : Int32)) - (1 : Int32))), .val (.ref b20), .unset, .unset, .unset, .unset, .unset] [])) _
        refine XS.iload X21b.here hx rfl (hb hby at_73) rfl ?_
        show Steps p.tables e below (T21.setTop (mkF m 75 #[.val (.int p0), .val (.int p1), .val (.int p2), .val (.int p3), .val (.int (own_arr p0)), .val (.int (own_dep p0 p1)), .val (.ref w_GOOD), .val (.int ((p3 &&& (7 : Int32)) - (1 : Int32))), .val (.ref b20), .unset, .unset, .unset, .unset, .unset] [(.int ((p3 &&& (7 : Int32)) - (1 : Int32)))])) _
        refine XS.i2l X21b.here hx rfl (hb hby at_75) rfl ?_
        show Steps p.tables e below (T21.setTop (mkF m 76 #[.val (.int p0), .val (.int p1), .val (.int p2), .val (.int p3), .val (.int (own_arr p0)), .val (.int (own_dep p0 p1)), .val (.ref w_GOOD), .val (.int ((p3 &&& (7 : Int32)) - (1 : Int32))), .val (.ref b20), .unset, .unset, .unset, .unset, .unset] [(.long ((p3 &&& (7 : Int32)) - (1 : Int32)).toInt64)])) _
        refine XS.iload X21b.here hx rfl (hb hby at_76) rfl ?_
        show Steps p.tables e below (T21.setTop (mkF m 78 #[.val (.int p0), .val (.int p1), .val (.int p2), .val (.int p3), .val (.int (own_arr p0)), .val (.int (own_dep p0 p1)), .val (.ref w_GOOD), .val (.int ((p3 &&& (7 : Int32)) - (1 : Int32))), .val (.ref b20), .unset, .unset, .unset, .unset, .unset] [(.int (own_arr p0)), (.long ((p3 &&& (7 : Int32)) - (1 : Int32)).toInt64)])) _
        refine XS.i2l X21b.here hx rfl (hb hby at_78) rfl ?_
        show Steps p.tables e below (T21.setTop (mkF m 79 #[.val (.int p0), .val (.int p1), .val (.int p2), .val (.int p3), .val (.int (own_arr p0)), .val (.int (own_dep p0 p1)), .val (.ref w_GOOD), .val (.int ((p3 &&& (7 : Int32)) - (1 : Int32))), .val (.ref b20), .unset, .unset, .unset, .unset, .unset] [(.long (own_arr p0).toInt64), (.long ((p3 &&& (7 : Int32)) - (1 : Int32)).toInt64)])) _
        refine XS.lsub X21b.here hx rfl (hb hby at_79) rfl ?_
        show Steps p.tables e below (T21.setTop (mkF m 80 #[.val (.int p0), .val (.int p1), .val (.int p2), .val (.int p3), .val (.int (own_arr p0)), .val (.int (own_dep p0 p1)), .val (.ref w_GOOD), .val (.int ((p3 &&& (7 : Int32)) - (1 : Int32))), .val (.ref b20), .unset, .unset, .unset, .unset, .unset] [(.long (((p3 &&& (7 : Int32)) - (1 : Int32)).toInt64 - (own_arr p0).toInt64))])) _
        refine XS.lstore X21b.here hx rfl (hb hby at_80) rfl (l' := #[.val (.int p0), .val (.int p1), .val (.int p2), .val (.int p3), .val (.int (own_arr p0)), .val (.int (own_dep p0 p1)), .val (.ref w_GOOD), .val (.int ((p3 &&& (7 : Int32)) - (1 : Int32))), .val (.ref b20), .val (.long (((p3 &&& (7 : Int32)) - (1 : Int32)).toInt64 - (own_arr p0).toInt64)), .second, .unset, .unset, .unset]) rfl ?_
        show Steps p.tables e below (T21.setTop (mkF m 82 #[.val (.int p0), .val (.int p1), .val (.int p2), .val (.int p3), .val (.int (own_arr p0)), .val (.int (own_dep p0 p1)), .val (.ref w_GOOD), .val (.int ((p3 &&& (7 : Int32)) - (1 : Int32))), .val (.ref b20), .val (.long (((p3 &&& (7 : Int32)) - (1 : Int32)).toInt64 - (own_arr p0).toInt64)), .second, .unset, .unset, .unset] [])) _
        refine XS.iload X21b.here hx rfl (hb hby at_82) rfl ?_
        show Steps p.tables e below (T21.setTop (mkF m 84 #[.val (.int p0), .val (.int p1), .val (.int p2), .val (.int p3), .val (.int (own_arr p0)), .val (.int (own_dep p0 p1)), .val (.ref w_GOOD), .val (.int ((p3 &&& (7 : Int32)) - (1 : Int32))), .val (.ref b20), .val (.long (((p3 &&& (7 : Int32)) - (1 : Int32)).toInt64 - (own_arr p0).toInt64)), .second, .unset, .unset, .unset] [(.int (own_dep p0 p1))])) _
        refine XS.i2l X21b.here hx rfl (hb hby at_84) rfl ?_
        show Steps p.tables e below (T21.setTop (mkF m 85 #[.val (.int p0), .val (.int p1), .val (.int p2), .val (.int p3), .val (.int (own_arr p0)), .val (.int (own_dep p0 p1)), .val (.ref w_GOOD), .val (.int ((p3 &&& (7 : Int32)) - (1 : Int32))), .val (.ref b20), .val (.long (((p3 &&& (7 : Int32)) - (1 : Int32)).toInt64 - (own_arr p0).toInt64)), .second, .unset, .unset, .unset] [(.long (own_dep p0 p1).toInt64)])) _
        refine XS.iload X21b.here hx rfl (hb hby at_85) rfl ?_
        show Steps p.tables e below (T21.setTop (mkF m 87 #[.val (.int p0), .val (.int p1), .val (.int p2), .val (.int p3), .val (.int (own_arr p0)), .val (.int (own_dep p0 p1)), .val (.ref w_GOOD), .val (.int ((p3 &&& (7 : Int32)) - (1 : Int32))), .val (.ref b20), .val (.long (((p3 &&& (7 : Int32)) - (1 : Int32)).toInt64 - (own_arr p0).toInt64)), .second, .unset, .unset, .unset] [(.int (own_arr p0)), (.long (own_dep p0 p1).toInt64)])) _
        refine XS.i2l X21b.here hx rfl (hb hby at_87) rfl ?_
        show Steps p.tables e below (T21.setTop (mkF m 88 #[.val (.int p0), .val (.int p1), .val (.int p2), .val (.int p3), .val (.int (own_arr p0)), .val (.int (own_dep p0 p1)), .val (.ref w_GOOD), .val (.int ((p3 &&& (7 : Int32)) - (1 : Int32))), .val (.ref b20), .val (.long (((p3 &&& (7 : Int32)) - (1 : Int32)).toInt64 - (own_arr p0).toInt64)), .second, .unset, .unset, .unset] [(.long (own_arr p0).toInt64), (.long (own_dep p0 p1).toInt64)])) _
        refine XS.lsub X21b.here hx rfl (hb hby at_88) rfl ?_
        show Steps p.tables e below (T21.setTop (mkF m 89 #[.val (.int p0), .val (.int p1), .val (.int p2), .val (.int p3), .val (.int (own_arr p0)), .val (.int (own_dep p0 p1)), .val (.ref w_GOOD), .val (.int ((p3 &&& (7 : Int32)) - (1 : Int32))), .val (.ref b20), .val (.long (((p3 &&& (7 : Int32)) - (1 : Int32)).toInt64 - (own_arr p0).toInt64)), .second, .unset, .unset, .unset] [(.long ((own_dep p0 p1).toInt64 - (own_arr p0).toInt64))])) _
        refine XS.lstore X21b.here hx rfl (hb hby at_89) rfl (l' := #[.val (.int p0), .val (.int p1), .val (.int p2), .val (.int p3), .val (.int (own_arr p0)), .val (.int (own_dep p0 p1)), .val (.ref w_GOOD), .val (.int ((p3 &&& (7 : Int32)) - (1 : Int32))), .val (.ref b20), .val (.long (((p3 &&& (7 : Int32)) - (1 : Int32)).toInt64 - (own_arr p0).toInt64)), .second, .val (.long ((own_dep p0 p1).toInt64 - (own_arr p0).toInt64)), .second, .unset]) rfl ?_
        show Steps p.tables e below (T21.setTop (mkF m 91 #[.val (.int p0), .val (.int p1), .val (.int p2), .val (.int p3), .val (.int (own_arr p0)), .val (.int (own_dep p0 p1)), .val (.ref w_GOOD), .val (.int ((p3 &&& (7 : Int32)) - (1 : Int32))), .val (.ref b20), .val (.long (((p3 &&& (7 : Int32)) - (1 : Int32)).toInt64 - (own_arr p0).toInt64)), .second, .val (.long ((own_dep p0 p1).toInt64 - (own_arr p0).toInt64)), .second, .unset] [])) _
        refine XS.lload X21b.here hx rfl (hb hby at_91) rfl ?_
        show Steps p.tables e below (T21.setTop (mkF m 93 #[.val (.int p0), .val (.int p1), .val (.int p2), .val (.int p3), .val (.int (own_arr p0)), .val (.int (own_dep p0 p1)), .val (.ref w_GOOD), .val (.int ((p3 &&& (7 : Int32)) - (1 : Int32))), .val (.ref b20), .val (.long (((p3 &&& (7 : Int32)) - (1 : Int32)).toInt64 - (own_arr p0).toInt64)), .second, .val (.long ((own_dep p0 p1).toInt64 - (own_arr p0).toInt64)), .second, .unset] [(.long (((p3 &&& (7 : Int32)) - (1 : Int32)).toInt64 - (own_arr p0).toInt64))])) _
        refine XS.lconst X21b.here hx rfl (hb hby at_93) ?_
        show Steps p.tables e below (T21.setTop (mkF m 94 #[.val (.int p0), .val (.int p1), .val (.int p2), .val (.int p3), .val (.int (own_arr p0)), .val (.int (own_dep p0 p1)), .val (.ref w_GOOD), .val (.int ((p3 &&& (7 : Int32)) - (1 : Int32))), .val (.ref b20), .val (.long (((p3 &&& (7 : Int32)) - (1 : Int32)).toInt64 - (own_arr p0).toInt64)), .second, .val (.long ((own_dep p0 p1).toInt64 - (own_arr p0).toInt64)), .second, .unset] [(.long (0 : Int64)), (.long (((p3 &&& (7 : Int32)) - (1 : Int32)).toInt64 - (own_arr p0).toInt64))])) _
        refine XS.lcmp X21b.here hx rfl (hb hby at_94) rfl ?_
        exact kt
      by_cases hc95 : (lcmpW (((p3 &&& (7 : Int32)) - (1 : Int32)).toInt64 - (own_arr p0).toInt64) (0 : Int64)) < (0 : Int32)
      · obtain ⟨cq23, kq23, q23a, q23b, q23c⟩ := isOf hZ21 rfl A20_21
        obtain ⟨_, _, ⟨T23, L23, k23, n23⟩, -, X23, ⟨Lc23, hQ23, l23, y23, z23⟩, st23⟩ := X21b.virtualBack hx (y := (⟨"com/example/outcry/outcry/allocation/Trip", "staysNight", "(I)Z"⟩ : MethodName)) (z := (⟨"com/example/outcry/outcry/allocation/Trip", "staysNight", "(I)Z"⟩ : MethodName)) hown21 (mvT hZ21 (hw _ (List.mem_of_getElem? (i := 40) rfl))) (mvT hZ21 (hw _ (List.mem_of_getElem? (i := 41) rfl))) (notFace_of_selects (args := #[]) (mvT hZ21 (hw _ (List.mem_of_getElem? (i := 43) rfl)))) (mvT hZ21 (hw _ (List.mem_of_getElem? (i := 43) rfl))) (mvT hZ21 (hw _ (List.mem_of_getElem? (i := 42) rfl))) (by decide) (backOf (W := 0) (rm_stay l Z a0 hw [] b20 ((p3 &&& (7 : Int32)) - (1 : Int32)) (own_arr p0) (own_dep p0 p1) T21.heap n0 Z21 x21_1 x21_2) hZ21 (hw _ (List.mem_of_getElem? (i := 44) rfl)) (hw _ (List.mem_of_getElem? (i := 6) rfl)) (by decide) (by decide)) q23a q23c (g := (mkF m 117 #[.val (.int p0), .val (.int p1), .val (.int p2), .val (.int p3), .val (.int (own_arr p0)), .val (.int (own_dep p0 p1)), .val (.ref w_GOOD), .val (.int ((p3 &&& (7 : Int32)) - (1 : Int32))), .val (.ref b20), .val (.long (((p3 &&& (7 : Int32)) - (1 : Int32)).toInt64 - (own_arr p0).toInt64)), .second, .val (.long ((own_dep p0 p1).toInt64 - (own_arr p0).toInt64)), .second, .val (.int (0 : Int32))] [(.int ((p3 &&& (7 : Int32)) - (1 : Int32))), (.ref b20)])) rfl (by rw [hml]; rfl) (Steps.refl _) (argsL := [(.int ((p3 &&& (7 : Int32)) - (1 : Int32)))]) (rest := []) (lenOf pd_4 rfl) rfl (by show 2 * 0 + _ ≤ _; exact Nat.le_of_eq rfl) (hb hby at_117) (fun _ _ => ⟨rfl, rfl, (by decide : 5 + 0 ≤ _), (by decide : 47 + 0 ≤ _)⟩)
        dsimp only [Pt.U, Pt.locs, Pt.cells, Pt.slots] at X23 l23 y23 z23 st23 hQ23
        subst l23 y23 z23
        obtain ⟨rfl, N23q, e23⟩ := hQ23
        have N23 := Fr.app N21 N23q
        obtain ⟨fs, hr, hrun, hended, hREW⟩ := X23.leaveW hS21 (by first | exact hk21 | (rw [e23]; exact hk21)) (v := some (.int (1 : Int32))) (fun h => by rw [Bd.returns] at h; cases h)
        refine ⟨_, _, pre0 _ ?_, hrun, hended, _, _, rfl, ?_, hREW.1, hREW.2.1, hREW.2.2.1, hREW.2.2.2.mono (by decide) (by decide)⟩
        · refine k22 _ ?_
          show Steps p.tables e below (T21.setTop (mkF m 95 #[.val (.int p0), .val (.int p1), .val (.int p2), .val (.int p3), .val (.int (own_arr p0)), .val (.int (own_dep p0 p1)), .val (.ref w_GOOD), .val (.int ((p3 &&& (7 : Int32)) - (1 : Int32))), .val (.ref b20), .val (.long (((p3 &&& (7 : Int32)) - (1 : Int32)).toInt64 - (own_arr p0).toInt64)), .second, .val (.long ((own_dep p0 p1).toInt64 - (own_arr p0).toInt64)), .second, .unset] [(.int (lcmpW (((p3 &&& (7 : Int32)) - (1 : Int32)).toInt64 - (own_arr p0).toInt64) (0 : Int64)))])) _
          refine XS.ifYes X21b.here hx rfl (pc0 := 95) (pc' := 110) rfl (hb hby at_95) rfl ((if0 _ _).trans (tlt hc95).1) (by decide) (by decide) ?_
          show Steps p.tables e below (T21.setTop (mkF m 110 #[.val (.int p0), .val (.int p1), .val (.int p2), .val (.int p3), .val (.int (own_arr p0)), .val (.int (own_dep p0 p1)), .val (.ref w_GOOD), .val (.int ((p3 &&& (7 : Int32)) - (1 : Int32))), .val (.ref b20), .val (.long (((p3 &&& (7 : Int32)) - (1 : Int32)).toInt64 - (own_arr p0).toInt64)), .second, .val (.long ((own_dep p0 p1).toInt64 - (own_arr p0).toInt64)), .second, .unset] [])) _
          refine XS.iconst X21b.here hx rfl (hb hby at_110) ?_
          show Steps p.tables e below (T21.setTop (mkF m 111 #[.val (.int p0), .val (.int p1), .val (.int p2), .val (.int p3), .val (.int (own_arr p0)), .val (.int (own_dep p0 p1)), .val (.ref w_GOOD), .val (.int ((p3 &&& (7 : Int32)) - (1 : Int32))), .val (.ref b20), .val (.long (((p3 &&& (7 : Int32)) - (1 : Int32)).toInt64 - (own_arr p0).toInt64)), .second, .val (.long ((own_dep p0 p1).toInt64 - (own_arr p0).toInt64)), .second, .unset] [(.int (0 : Int32))])) _
          refine XS.istore X21b.here hx rfl (hb hby at_111) rfl (l' := #[.val (.int p0), .val (.int p1), .val (.int p2), .val (.int p3), .val (.int (own_arr p0)), .val (.int (own_dep p0 p1)), .val (.ref w_GOOD), .val (.int ((p3 &&& (7 : Int32)) - (1 : Int32))), .val (.ref b20), .val (.long (((p3 &&& (7 : Int32)) - (1 : Int32)).toInt64 - (own_arr p0).toInt64)), .second, .val (.long ((own_dep p0 p1).toInt64 - (own_arr p0).toInt64)), .second, .val (.int (0 : Int32))]) rfl ?_
          show Steps p.tables e below (T21.setTop (mkF m 113 #[.val (.int p0), .val (.int p1), .val (.int p2), .val (.int p3), .val (.int (own_arr p0)), .val (.int (own_dep p0 p1)), .val (.ref w_GOOD), .val (.int ((p3 &&& (7 : Int32)) - (1 : Int32))), .val (.ref b20), .val (.long (((p3 &&& (7 : Int32)) - (1 : Int32)).toInt64 - (own_arr p0).toInt64)), .second, .val (.long ((own_dep p0 p1).toInt64 - (own_arr p0).toInt64)), .second, .val (.int (0 : Int32))] [])) _
          refine XS.aload X21b.here hx rfl (hb hby at_113) rfl rfl ?_
          show Steps p.tables e below (T21.setTop (mkF m 115 #[.val (.int p0), .val (.int p1), .val (.int p2), .val (.int p3), .val (.int (own_arr p0)), .val (.int (own_dep p0 p1)), .val (.ref w_GOOD), .val (.int ((p3 &&& (7 : Int32)) - (1 : Int32))), .val (.ref b20), .val (.long (((p3 &&& (7 : Int32)) - (1 : Int32)).toInt64 - (own_arr p0).toInt64)), .second, .val (.long ((own_dep p0 p1).toInt64 - (own_arr p0).toInt64)), .second, .val (.int (0 : Int32))] [(.ref b20)])) _
          refine XS.iload X21b.here hx rfl (hb hby at_115) rfl ?_
          show Steps p.tables e below (T21.setTop (mkF m 117 #[.val (.int p0), .val (.int p1), .val (.int p2), .val (.int p3), .val (.int (own_arr p0)), .val (.int (own_dep p0 p1)), .val (.ref w_GOOD), .val (.int ((p3 &&& (7 : Int32)) - (1 : Int32))), .val (.ref b20), .val (.long (((p3 &&& (7 : Int32)) - (1 : Int32)).toInt64 - (own_arr p0).toInt64)), .second, .val (.long ((own_dep p0 p1).toInt64 - (own_arr p0).toInt64)), .second, .val (.int (0 : Int32))] [(.int ((p3 &&& (7 : Int32)) - (1 : Int32))), (.ref b20)])) _
          refine st23.trans ?_
          show Steps p.tables e below (T23.setTop (mkF m 120 #[.val (.int p0), .val (.int p1), .val (.int p2), .val (.int p3), .val (.int (own_arr p0)), .val (.int (own_dep p0 p1)), .val (.ref w_GOOD), .val (.int ((p3 &&& (7 : Int32)) - (1 : Int32))), .val (.ref b20), .val (.long (((p3 &&& (7 : Int32)) - (1 : Int32)).toInt64 - (own_arr p0).toInt64)), .second, .val (.long ((own_dep p0 p1).toInt64 - (own_arr p0).toInt64)), .second, .val (.int (0 : Int32))] [(.int (own_stay (own_arr p0) (own_dep p0 p1) ((p3 &&& (7 : Int32)) - (1 : Int32))))])) _
          refine XS.iload X23.here hx rfl (hb hby at_120) rfl ?_
          show Steps p.tables e below (T23.setTop (mkF m 122 #[.val (.int p0), .val (.int p1), .val (.int p2), .val (.int p3), .val (.int (own_arr p0)), .val (.int (own_dep p0 p1)), .val (.ref w_GOOD), .val (.int ((p3 &&& (7 : Int32)) - (1 : Int32))), .val (.ref b20), .val (.long (((p3 &&& (7 : Int32)) - (1 : Int32)).toInt64 - (own_arr p0).toInt64)), .second, .val (.long ((own_dep p0 p1).toInt64 - (own_arr p0).toInt64)), .second, .val (.int (0 : Int32))] [(.int (0 : Int32)), (.int (own_stay (own_arr p0) (own_dep p0 p1) ((p3 &&& (7 : Int32)) - (1 : Int32))))])) _
          refine XS.icmpNo X23.here hx rfl (hb hby at_122) rfl (teq (own_s0 hc95)).2 ?_
          show Steps p.tables e below (T23.setTop (mkF m 125 #[.val (.int p0), .val (.int p1), .val (.int p2), .val (.int p3), .val (.int (own_arr p0)), .val (.int (own_dep p0 p1)), .val (.ref w_GOOD), .val (.int ((p3 &&& (7 : Int32)) - (1 : Int32))), .val (.ref b20), .val (.long (((p3 &&& (7 : Int32)) - (1 : Int32)).toInt64 - (own_arr p0).toInt64)), .second, .val (.long ((own_dep p0 p1).toInt64 - (own_arr p0).toInt64)), .second, .val (.int (0 : Int32))] [])) _
          refine XS.iconst X23.here hx rfl (hb hby at_125) ?_
          show Steps p.tables e below (T23.setTop (mkF m 126 #[.val (.int p0), .val (.int p1), .val (.int p2), .val (.int p3), .val (.int (own_arr p0)), .val (.int (own_dep p0 p1)), .val (.ref w_GOOD), .val (.int ((p3 &&& (7 : Int32)) - (1 : Int32))), .val (.ref b20), .val (.long (((p3 &&& (7 : Int32)) - (1 : Int32)).toInt64 - (own_arr p0).toInt64)), .second, .val (.long ((own_dep p0 p1).toInt64 - (own_arr p0).toInt64)), .second, .val (.int (0 : Int32))] [(.int (1 : Int32))])) _
          refine XS.goto X23.here hx rfl (pc0 := 126) (pc' := 130) rfl (hb hby at_126) (by decide) (by decide) ?_
          show Steps p.tables e below (T23.setTop (mkF m 130 #[.val (.int p0), .val (.int p1), .val (.int p2), .val (.int p3), .val (.int (own_arr p0)), .val (.int (own_dep p0 p1)), .val (.ref w_GOOD), .val (.int ((p3 &&& (7 : Int32)) - (1 : Int32))), .val (.ref b20), .val (.long (((p3 &&& (7 : Int32)) - (1 : Int32)).toInt64 - (own_arr p0).toInt64)), .second, .val (.long ((own_dep p0 p1).toInt64 - (own_arr p0).toInt64)), .second, .val (.int (0 : Int32))] [(.int (1 : Int32))])) _
          exact retN X23 hx (t := .boolean) Bd.returns (by simp) (hb hby at_130) hr
        · show Q_rm_law Z p0 p1 p2 p3 w_GOOD w_CHEAP h0 n0 _ T23.heap _
          rw [e23]
          exact ⟨rfl, N23, trivial⟩
      · have k24 : ∀ target, Steps p.tables e below (T21.setTop (mkF m 103 #[.val (.int p0), .val (.int p1), .val (.int p2), .val (.int p3), .val (.int (own_arr p0)), .val (.int (own_dep p0 p1)), .val (.ref w_GOOD), .val (.int ((p3 &&& (7 : Int32)) - (1 : Int32))), .val (.ref b20), .val (.long (((p3 &&& (7 : Int32)) - (1 : Int32)).toInt64 - (own_arr p0).toInt64)), .second, .val (.long ((own_dep p0 p1).toInt64 - (own_arr p0).toInt64)), .second, .unset] [(.int (lcmpW (((p3 &&& (7 : Int32)) - (1 : Int32)).toInt64 - (own_arr p0).toInt64) ((own_dep p0 p1).toInt64 - (own_arr p0).toInt64)))])) target → Steps p.tables e below (s₁.setTop (mkF m 0 #[.val (.int p0), .val (.int p1), .val (.int p2), .val (.int p3), .unset, .unset, .unset, .unset, .unset, .unset, .unset, .unset, .unset, .unset] [])) target := by
          intro target kt
          refine k22 _ ?_
          show Steps p.tables e below (T21.setTop (mkF m 95 #[.val (.int p0), .val (.int p1), .val (.int p2), .val (.int p3), .val (.int (own_arr p0)), .val (.int (own_dep p0 p1)), .val (.ref w_GOOD), .val (.int ((p3 &&& (7 : Int32)) - (1 : Int32))), .val (.ref b20), .val (.long (((p3 &&& (7 : Int32)) - (1 : Int32)).toInt64 - (own_arr p0).toInt64)), .second, .val (.long ((own_dep p0 p1).toInt64 - (own_arr p0).toInt64)), .second, .unset] [(.int (lcmpW (((p3 &&& (7 : Int32)) - (1 : Int32)).toInt64 - (own_arr p0).toInt64) (0 : Int64)))])) _
          refine XS.ifNo X21b.here hx rfl (hb hby at_95) rfl ((if0 _ _).trans (flt hc95).1) ?_
          show Steps p.tables e below (T21.setTop (mkF m 98 #[.val (.int p0), .val (.int p1), .val (.int p2), .val (.int p3), .val (.int (own_arr p0)), .val (.int (own_dep p0 p1)), .val (.ref w_GOOD), .val (.int ((p3 &&& (7 : Int32)) - (1 : Int32))), .val (.ref b20), .val (.long (((p3 &&& (7 : Int32)) - (1 : Int32)).toInt64 - (own_arr p0).toInt64)), .second, .val (.long ((own_dep p0 p1).toInt64 - (own_arr p0).toInt64)), .second, .unset] [])) _
          refine XS.lload X21b.here hx rfl (hb hby at_98) rfl ?_
          show Steps p.tables e below (T21.setTop (mkF m 100 #[.val (.int p0), .val (.int p1), .val (.int p2), .val (.int p3), .val (.int (own_arr p0)), .val (.int (own_dep p0 p1)), .val (.ref w_GOOD), .val (.int ((p3 &&& (7 : Int32)) - (1 : Int32))), .val (.ref b20), .val (.long (((p3 &&& (7 : Int32)) - (1 : Int32)).toInt64 - (own_arr p0).toInt64)), .second, .val (.long ((own_dep p0 p1).toInt64 - (own_arr p0).toInt64)), .second, .unset] [(.long (((p3 &&& (7 : Int32)) - (1 : Int32)).toInt64 - (own_arr p0).toInt64))])) _
          refine XS.lload X21b.here hx rfl (hb hby at_100) rfl ?_
          show Steps p.tables e below (T21.setTop (mkF m 102 #[.val (.int p0), .val (.int p1), .val (.int p2), .val (.int p3), .val (.int (own_arr p0)), .val (.int (own_dep p0 p1)), .val (.ref w_GOOD), .val (.int ((p3 &&& (7 : Int32)) - (1 : Int32))), .val (.ref b20), .val (.long (((p3 &&& (7 : Int32)) - (1 : Int32)).toInt64 - (own_arr p0).toInt64)), .second, .val (.long ((own_dep p0 p1).toInt64 - (own_arr p0).toInt64)), .second, .unset] [(.long ((own_dep p0 p1).toInt64 - (own_arr p0).toInt64)), (.long (((p3 &&& (7 : Int32)) - (1 : Int32)).toInt64 - (own_arr p0).toInt64))])) _
          refine XS.lcmp X21b.here hx rfl (hb hby at_102) rfl ?_
          exact kt
        by_cases hc103 : (lcmpW (((p3 &&& (7 : Int32)) - (1 : Int32)).toInt64 - (own_arr p0).toInt64) ((own_dep p0 p1).toInt64 - (own_arr p0).toInt64)) < (0 : Int32)
        · obtain ⟨cq25, kq25, q25a, q25b, q25c⟩ := isOf hZ21 rfl A20_21
          obtain ⟨_, _, ⟨T25, L25, k25, n25⟩, -, X25, ⟨Lc25, hQ25, l25, y25, z25⟩, st25⟩ := X21b.virtualBack hx (y := (⟨"com/example/outcry/outcry/allocation/Trip", "staysNight", "(I)Z"⟩ : MethodName)) (z := (⟨"com/example/outcry/outcry/allocation/Trip", "staysNight", "(I)Z"⟩ : MethodName)) hown21 (mvT hZ21 (hw _ (List.mem_of_getElem? (i := 40) rfl))) (mvT hZ21 (hw _ (List.mem_of_getElem? (i := 41) rfl))) (notFace_of_selects (args := #[]) (mvT hZ21 (hw _ (List.mem_of_getElem? (i := 43) rfl)))) (mvT hZ21 (hw _ (List.mem_of_getElem? (i := 43) rfl))) (mvT hZ21 (hw _ (List.mem_of_getElem? (i := 42) rfl))) (by decide) (backOf (W := 0) (rm_stay l Z a0 hw [] b20 ((p3 &&& (7 : Int32)) - (1 : Int32)) (own_arr p0) (own_dep p0 p1) T21.heap n0 Z21 x21_1 x21_2) hZ21 (hw _ (List.mem_of_getElem? (i := 44) rfl)) (hw _ (List.mem_of_getElem? (i := 6) rfl)) (by decide) (by decide)) q25a q25c (g := (mkF m 117 #[.val (.int p0), .val (.int p1), .val (.int p2), .val (.int p3), .val (.int (own_arr p0)), .val (.int (own_dep p0 p1)), .val (.ref w_GOOD), .val (.int ((p3 &&& (7 : Int32)) - (1 : Int32))), .val (.ref b20), .val (.long (((p3 &&& (7 : Int32)) - (1 : Int32)).toInt64 - (own_arr p0).toInt64)), .second, .val (.long ((own_dep p0 p1).toInt64 - (own_arr p0).toInt64)), .second, .val (.int (1 : Int32))] [(.int ((p3 &&& (7 : Int32)) - (1 : Int32))), (.ref b20)])) rfl (by rw [hml]; rfl) (Steps.refl _) (argsL := [(.int ((p3 &&& (7 : Int32)) - (1 : Int32)))]) (rest := []) (lenOf pd_4 rfl) rfl (by show 2 * 0 + _ ≤ _; exact Nat.le_of_eq rfl) (hb hby at_117) (fun _ _ => ⟨rfl, rfl, (by decide : 5 + 0 ≤ _), (by decide : 47 + 0 ≤ _)⟩)
          dsimp only [Pt.U, Pt.locs, Pt.cells, Pt.slots] at X25 l25 y25 z25 st25 hQ25
          subst l25 y25 z25
          obtain ⟨rfl, N25q, e25⟩ := hQ25
          have N25 := Fr.app N21 N25q
          obtain ⟨fs, hr, hrun, hended, hREW⟩ := X25.leaveW hS21 (by first | exact hk21 | (rw [e25]; exact hk21)) (v := some (.int (1 : Int32))) (fun h => by rw [Bd.returns] at h; cases h)
          refine ⟨_, _, pre0 _ ?_, hrun, hended, _, _, rfl, ?_, hREW.1, hREW.2.1, hREW.2.2.1, hREW.2.2.2.mono (by decide) (by decide)⟩
          · refine k24 _ ?_
            show Steps p.tables e below (T21.setTop (mkF m 103 #[.val (.int p0), .val (.int p1), .val (.int p2), .val (.int p3), .val (.int (own_arr p0)), .val (.int (own_dep p0 p1)), .val (.ref w_GOOD), .val (.int ((p3 &&& (7 : Int32)) - (1 : Int32))), .val (.ref b20), .val (.long (((p3 &&& (7 : Int32)) - (1 : Int32)).toInt64 - (own_arr p0).toInt64)), .second, .val (.long ((own_dep p0 p1).toInt64 - (own_arr p0).toInt64)), .second, .unset] [(.int (lcmpW (((p3 &&& (7 : Int32)) - (1 : Int32)).toInt64 - (own_arr p0).toInt64) ((own_dep p0 p1).toInt64 - (own_arr p0).toInt64)))])) _
            refine XS.ifNo X21b.here hx rfl (hb hby at_103) rfl ((if0 _ _).trans (tlt hc103).2.1) ?_
            show Steps p.tables e below (T21.setTop (mkF m 106 #[.val (.int p0), .val (.int p1), .val (.int p2), .val (.int p3), .val (.int (own_arr p0)), .val (.int (own_dep p0 p1)), .val (.ref w_GOOD), .val (.int ((p3 &&& (7 : Int32)) - (1 : Int32))), .val (.ref b20), .val (.long (((p3 &&& (7 : Int32)) - (1 : Int32)).toInt64 - (own_arr p0).toInt64)), .second, .val (.long ((own_dep p0 p1).toInt64 - (own_arr p0).toInt64)), .second, .unset] [])) _
            refine XS.iconst X21b.here hx rfl (hb hby at_106) ?_
            show Steps p.tables e below (T21.setTop (mkF m 107 #[.val (.int p0), .val (.int p1), .val (.int p2), .val (.int p3), .val (.int (own_arr p0)), .val (.int (own_dep p0 p1)), .val (.ref w_GOOD), .val (.int ((p3 &&& (7 : Int32)) - (1 : Int32))), .val (.ref b20), .val (.long (((p3 &&& (7 : Int32)) - (1 : Int32)).toInt64 - (own_arr p0).toInt64)), .second, .val (.long ((own_dep p0 p1).toInt64 - (own_arr p0).toInt64)), .second, .unset] [(.int (1 : Int32))])) _
            refine XS.goto X21b.here hx rfl (pc0 := 107) (pc' := 111) rfl (hb hby at_107) (by decide) (by decide) ?_
            show Steps p.tables e below (T21.setTop (mkF m 111 #[.val (.int p0), .val (.int p1), .val (.int p2), .val (.int p3), .val (.int (own_arr p0)), .val (.int (own_dep p0 p1)), .val (.ref w_GOOD), .val (.int ((p3 &&& (7 : Int32)) - (1 : Int32))), .val (.ref b20), .val (.long (((p3 &&& (7 : Int32)) - (1 : Int32)).toInt64 - (own_arr p0).toInt64)), .second, .val (.long ((own_dep p0 p1).toInt64 - (own_arr p0).toInt64)), .second, .unset] [(.int (1 : Int32))])) _
            refine XS.istore X21b.here hx rfl (hb hby at_111) rfl (l' := #[.val (.int p0), .val (.int p1), .val (.int p2), .val (.int p3), .val (.int (own_arr p0)), .val (.int (own_dep p0 p1)), .val (.ref w_GOOD), .val (.int ((p3 &&& (7 : Int32)) - (1 : Int32))), .val (.ref b20), .val (.long (((p3 &&& (7 : Int32)) - (1 : Int32)).toInt64 - (own_arr p0).toInt64)), .second, .val (.long ((own_dep p0 p1).toInt64 - (own_arr p0).toInt64)), .second, .val (.int (1 : Int32))]) rfl ?_
            show Steps p.tables e below (T21.setTop (mkF m 113 #[.val (.int p0), .val (.int p1), .val (.int p2), .val (.int p3), .val (.int (own_arr p0)), .val (.int (own_dep p0 p1)), .val (.ref w_GOOD), .val (.int ((p3 &&& (7 : Int32)) - (1 : Int32))), .val (.ref b20), .val (.long (((p3 &&& (7 : Int32)) - (1 : Int32)).toInt64 - (own_arr p0).toInt64)), .second, .val (.long ((own_dep p0 p1).toInt64 - (own_arr p0).toInt64)), .second, .val (.int (1 : Int32))] [])) _
            refine XS.aload X21b.here hx rfl (hb hby at_113) rfl rfl ?_
            show Steps p.tables e below (T21.setTop (mkF m 115 #[.val (.int p0), .val (.int p1), .val (.int p2), .val (.int p3), .val (.int (own_arr p0)), .val (.int (own_dep p0 p1)), .val (.ref w_GOOD), .val (.int ((p3 &&& (7 : Int32)) - (1 : Int32))), .val (.ref b20), .val (.long (((p3 &&& (7 : Int32)) - (1 : Int32)).toInt64 - (own_arr p0).toInt64)), .second, .val (.long ((own_dep p0 p1).toInt64 - (own_arr p0).toInt64)), .second, .val (.int (1 : Int32))] [(.ref b20)])) _
            refine XS.iload X21b.here hx rfl (hb hby at_115) rfl ?_
            show Steps p.tables e below (T21.setTop (mkF m 117 #[.val (.int p0), .val (.int p1), .val (.int p2), .val (.int p3), .val (.int (own_arr p0)), .val (.int (own_dep p0 p1)), .val (.ref w_GOOD), .val (.int ((p3 &&& (7 : Int32)) - (1 : Int32))), .val (.ref b20), .val (.long (((p3 &&& (7 : Int32)) - (1 : Int32)).toInt64 - (own_arr p0).toInt64)), .second, .val (.long ((own_dep p0 p1).toInt64 - (own_arr p0).toInt64)), .second, .val (.int (1 : Int32))] [(.int ((p3 &&& (7 : Int32)) - (1 : Int32))), (.ref b20)])) _
            refine st25.trans ?_
            show Steps p.tables e below (T25.setTop (mkF m 120 #[.val (.int p0), .val (.int p1), .val (.int p2), .val (.int p3), .val (.int (own_arr p0)), .val (.int (own_dep p0 p1)), .val (.ref w_GOOD), .val (.int ((p3 &&& (7 : Int32)) - (1 : Int32))), .val (.ref b20), .val (.long (((p3 &&& (7 : Int32)) - (1 : Int32)).toInt64 - (own_arr p0).toInt64)), .second, .val (.long ((own_dep p0 p1).toInt64 - (own_arr p0).toInt64)), .second, .val (.int (1 : Int32))] [(.int (own_stay (own_arr p0) (own_dep p0 p1) ((p3 &&& (7 : Int32)) - (1 : Int32))))])) _
            refine XS.iload X25.here hx rfl (hb hby at_120) rfl ?_
            show Steps p.tables e below (T25.setTop (mkF m 122 #[.val (.int p0), .val (.int p1), .val (.int p2), .val (.int p3), .val (.int (own_arr p0)), .val (.int (own_dep p0 p1)), .val (.ref w_GOOD), .val (.int ((p3 &&& (7 : Int32)) - (1 : Int32))), .val (.ref b20), .val (.long (((p3 &&& (7 : Int32)) - (1 : Int32)).toInt64 - (own_arr p0).toInt64)), .second, .val (.long ((own_dep p0 p1).toInt64 - (own_arr p0).toInt64)), .second, .val (.int (1 : Int32))] [(.int (1 : Int32)), (.int (own_stay (own_arr p0) (own_dep p0 p1) ((p3 &&& (7 : Int32)) - (1 : Int32))))])) _
            refine XS.icmpNo X25.here hx rfl (hb hby at_122) rfl (teq (own_s1 hc95 hc103)).2 ?_
            show Steps p.tables e below (T25.setTop (mkF m 125 #[.val (.int p0), .val (.int p1), .val (.int p2), .val (.int p3), .val (.int (own_arr p0)), .val (.int (own_dep p0 p1)), .val (.ref w_GOOD), .val (.int ((p3 &&& (7 : Int32)) - (1 : Int32))), .val (.ref b20), .val (.long (((p3 &&& (7 : Int32)) - (1 : Int32)).toInt64 - (own_arr p0).toInt64)), .second, .val (.long ((own_dep p0 p1).toInt64 - (own_arr p0).toInt64)), .second, .val (.int (1 : Int32))] [])) _
            refine XS.iconst X25.here hx rfl (hb hby at_125) ?_
            show Steps p.tables e below (T25.setTop (mkF m 126 #[.val (.int p0), .val (.int p1), .val (.int p2), .val (.int p3), .val (.int (own_arr p0)), .val (.int (own_dep p0 p1)), .val (.ref w_GOOD), .val (.int ((p3 &&& (7 : Int32)) - (1 : Int32))), .val (.ref b20), .val (.long (((p3 &&& (7 : Int32)) - (1 : Int32)).toInt64 - (own_arr p0).toInt64)), .second, .val (.long ((own_dep p0 p1).toInt64 - (own_arr p0).toInt64)), .second, .val (.int (1 : Int32))] [(.int (1 : Int32))])) _
            refine XS.goto X25.here hx rfl (pc0 := 126) (pc' := 130) rfl (hb hby at_126) (by decide) (by decide) ?_
            show Steps p.tables e below (T25.setTop (mkF m 130 #[.val (.int p0), .val (.int p1), .val (.int p2), .val (.int p3), .val (.int (own_arr p0)), .val (.int (own_dep p0 p1)), .val (.ref w_GOOD), .val (.int ((p3 &&& (7 : Int32)) - (1 : Int32))), .val (.ref b20), .val (.long (((p3 &&& (7 : Int32)) - (1 : Int32)).toInt64 - (own_arr p0).toInt64)), .second, .val (.long ((own_dep p0 p1).toInt64 - (own_arr p0).toInt64)), .second, .val (.int (1 : Int32))] [(.int (1 : Int32))])) _
            exact retN X25 hx (t := .boolean) Bd.returns (by simp) (hb hby at_130) hr
          · show Q_rm_law Z p0 p1 p2 p3 w_GOOD w_CHEAP h0 n0 _ T25.heap _
            rw [e25]
            exact ⟨rfl, N25, trivial⟩
        · obtain ⟨cq26, kq26, q26a, q26b, q26c⟩ := isOf hZ21 rfl A20_21
          obtain ⟨_, _, ⟨T26, L26, k26, n26⟩, -, X26, ⟨Lc26, hQ26, l26, y26, z26⟩, st26⟩ := X21b.virtualBack hx (y := (⟨"com/example/outcry/outcry/allocation/Trip", "staysNight", "(I)Z"⟩ : MethodName)) (z := (⟨"com/example/outcry/outcry/allocation/Trip", "staysNight", "(I)Z"⟩ : MethodName)) hown21 (mvT hZ21 (hw _ (List.mem_of_getElem? (i := 40) rfl))) (mvT hZ21 (hw _ (List.mem_of_getElem? (i := 41) rfl))) (notFace_of_selects (args := #[]) (mvT hZ21 (hw _ (List.mem_of_getElem? (i := 43) rfl)))) (mvT hZ21 (hw _ (List.mem_of_getElem? (i := 43) rfl))) (mvT hZ21 (hw _ (List.mem_of_getElem? (i := 42) rfl))) (by decide) (backOf (W := 0) (rm_stay l Z a0 hw [] b20 ((p3 &&& (7 : Int32)) - (1 : Int32)) (own_arr p0) (own_dep p0 p1) T21.heap n0 Z21 x21_1 x21_2) hZ21 (hw _ (List.mem_of_getElem? (i := 44) rfl)) (hw _ (List.mem_of_getElem? (i := 6) rfl)) (by decide) (by decide)) q26a q26c (g := (mkF m 117 #[.val (.int p0), .val (.int p1), .val (.int p2), .val (.int p3), .val (.int (own_arr p0)), .val (.int (own_dep p0 p1)), .val (.ref w_GOOD), .val (.int ((p3 &&& (7 : Int32)) - (1 : Int32))), .val (.ref b20), .val (.long (((p3 &&& (7 : Int32)) - (1 : Int32)).toInt64 - (own_arr p0).toInt64)), .second, .val (.long ((own_dep p0 p1).toInt64 - (own_arr p0).toInt64)), .second, .val (.int (0 : Int32))] [(.int ((p3 &&& (7 : Int32)) - (1 : Int32))), (.ref b20)])) rfl (by rw [hml]; rfl) (Steps.refl _) (argsL := [(.int ((p3 &&& (7 : Int32)) - (1 : Int32)))]) (rest := []) (lenOf pd_4 rfl) rfl (by show 2 * 0 + _ ≤ _; exact Nat.le_of_eq rfl) (hb hby at_117) (fun _ _ => ⟨rfl, rfl, (by decide : 5 + 0 ≤ _), (by decide : 47 + 0 ≤ _)⟩)
          dsimp only [Pt.U, Pt.locs, Pt.cells, Pt.slots] at X26 l26 y26 z26 st26 hQ26
          subst l26 y26 z26
          obtain ⟨rfl, N26q, e26⟩ := hQ26
          have N26 := Fr.app N21 N26q
          obtain ⟨fs, hr, hrun, hended, hREW⟩ := X26.leaveW hS21 (by first | exact hk21 | (rw [e26]; exact hk21)) (v := some (.int (1 : Int32))) (fun h => by rw [Bd.returns] at h; cases h)
          refine ⟨_, _, pre0 _ ?_, hrun, hended, _, _, rfl, ?_, hREW.1, hREW.2.1, hREW.2.2.1, hREW.2.2.2.mono (by decide) (by decide)⟩
          · refine k24 _ ?_
            show Steps p.tables e below (T21.setTop (mkF m 103 #[.val (.int p0), .val (.int p1), .val (.int p2), .val (.int p3), .val (.int (own_arr p0)), .val (.int (own_dep p0 p1)), .val (.ref w_GOOD), .val (.int ((p3 &&& (7 : Int32)) - (1 : Int32))), .val (.ref b20), .val (.long (((p3 &&& (7 : Int32)) - (1 : Int32)).toInt64 - (own_arr p0).toInt64)), .second, .val (.long ((own_dep p0 p1).toInt64 - (own_arr p0).toInt64)), .second, .unset] [(.int (lcmpW (((p3 &&& (7 : Int32)) - (1 : Int32)).toInt64 - (own_arr p0).toInt64) ((own_dep p0 p1).toInt64 - (own_arr p0).toInt64)))])) _
            refine XS.ifYes X21b.here hx rfl (pc0 := 103) (pc' := 110) rfl (hb hby at_103) rfl ((if0 _ _).trans (flt hc103).2.1) (by decide) (by decide) ?_
            show Steps p.tables e below (T21.setTop (mkF m 110 #[.val (.int p0), .val (.int p1), .val (.int p2), .val (.int p3), .val (.int (own_arr p0)), .val (.int (own_dep p0 p1)), .val (.ref w_GOOD), .val (.int ((p3 &&& (7 : Int32)) - (1 : Int32))), .val (.ref b20), .val (.long (((p3 &&& (7 : Int32)) - (1 : Int32)).toInt64 - (own_arr p0).toInt64)), .second, .val (.long ((own_dep p0 p1).toInt64 - (own_arr p0).toInt64)), .second, .unset] [])) _
            refine XS.iconst X21b.here hx rfl (hb hby at_110) ?_
            show Steps p.tables e below (T21.setTop (mkF m 111 #[.val (.int p0), .val (.int p1), .val (.int p2), .val (.int p3), .val (.int (own_arr p0)), .val (.int (own_dep p0 p1)), .val (.ref w_GOOD), .val (.int ((p3 &&& (7 : Int32)) - (1 : Int32))), .val (.ref b20), .val (.long (((p3 &&& (7 : Int32)) - (1 : Int32)).toInt64 - (own_arr p0).toInt64)), .second, .val (.long ((own_dep p0 p1).toInt64 - (own_arr p0).toInt64)), .second, .unset] [(.int (0 : Int32))])) _
            refine XS.istore X21b.here hx rfl (hb hby at_111) rfl (l' := #[.val (.int p0), .val (.int p1), .val (.int p2), .val (.int p3), .val (.int (own_arr p0)), .val (.int (own_dep p0 p1)), .val (.ref w_GOOD), .val (.int ((p3 &&& (7 : Int32)) - (1 : Int32))), .val (.ref b20), .val (.long (((p3 &&& (7 : Int32)) - (1 : Int32)).toInt64 - (own_arr p0).toInt64)), .second, .val (.long ((own_dep p0 p1).toInt64 - (own_arr p0).toInt64)), .second, .val (.int (0 : Int32))]) rfl ?_
            show Steps p.tables e below (T21.setTop (mkF m 113 #[.val (.int p0), .val (.int p1), .val (.int p2), .val (.int p3), .val (.int (own_arr p0)), .val (.int (own_dep p0 p1)), .val (.ref w_GOOD), .val (.int ((p3 &&& (7 : Int32)) - (1 : Int32))), .val (.ref b20), .val (.long (((p3 &&& (7 : Int32)) - (1 : Int32)).toInt64 - (own_arr p0).toInt64)), .second, .val (.long ((own_dep p0 p1).toInt64 - (own_arr p0).toInt64)), .second, .val (.int (0 : Int32))] [])) _
            refine XS.aload X21b.here hx rfl (hb hby at_113) rfl rfl ?_
            show Steps p.tables e below (T21.setTop (mkF m 115 #[.val (.int p0), .val (.int p1), .val (.int p2), .val (.int p3), .val (.int (own_arr p0)), .val (.int (own_dep p0 p1)), .val (.ref w_GOOD), .val (.int ((p3 &&& (7 : Int32)) - (1 : Int32))), .val (.ref b20), .val (.long (((p3 &&& (7 : Int32)) - (1 : Int32)).toInt64 - (own_arr p0).toInt64)), .second, .val (.long ((own_dep p0 p1).toInt64 - (own_arr p0).toInt64)), .second, .val (.int (0 : Int32))] [(.ref b20)])) _
            refine XS.iload X21b.here hx rfl (hb hby at_115) rfl ?_
            show Steps p.tables e below (T21.setTop (mkF m 117 #[.val (.int p0), .val (.int p1), .val (.int p2), .val (.int p3), .val (.int (own_arr p0)), .val (.int (own_dep p0 p1)), .val (.ref w_GOOD), .val (.int ((p3 &&& (7 : Int32)) - (1 : Int32))), .val (.ref b20), .val (.long (((p3 &&& (7 : Int32)) - (1 : Int32)).toInt64 - (own_arr p0).toInt64)), .second, .val (.long ((own_dep p0 p1).toInt64 - (own_arr p0).toInt64)), .second, .val (.int (0 : Int32))] [(.int ((p3 &&& (7 : Int32)) - (1 : Int32))), (.ref b20)])) _
            refine st26.trans ?_
            show Steps p.tables e below (T26.setTop (mkF m 120 #[.val (.int p0), .val (.int p1), .val (.int p2), .val (.int p3), .val (.int (own_arr p0)), .val (.int (own_dep p0 p1)), .val (.ref w_GOOD), .val (.int ((p3 &&& (7 : Int32)) - (1 : Int32))), .val (.ref b20), .val (.long (((p3 &&& (7 : Int32)) - (1 : Int32)).toInt64 - (own_arr p0).toInt64)), .second, .val (.long ((own_dep p0 p1).toInt64 - (own_arr p0).toInt64)), .second, .val (.int (0 : Int32))] [(.int (own_stay (own_arr p0) (own_dep p0 p1) ((p3 &&& (7 : Int32)) - (1 : Int32))))])) _
            refine XS.iload X26.here hx rfl (hb hby at_120) rfl ?_
            show Steps p.tables e below (T26.setTop (mkF m 122 #[.val (.int p0), .val (.int p1), .val (.int p2), .val (.int p3), .val (.int (own_arr p0)), .val (.int (own_dep p0 p1)), .val (.ref w_GOOD), .val (.int ((p3 &&& (7 : Int32)) - (1 : Int32))), .val (.ref b20), .val (.long (((p3 &&& (7 : Int32)) - (1 : Int32)).toInt64 - (own_arr p0).toInt64)), .second, .val (.long ((own_dep p0 p1).toInt64 - (own_arr p0).toInt64)), .second, .val (.int (0 : Int32))] [(.int (0 : Int32)), (.int (own_stay (own_arr p0) (own_dep p0 p1) ((p3 &&& (7 : Int32)) - (1 : Int32))))])) _
            refine XS.icmpNo X26.here hx rfl (hb hby at_122) rfl (teq (own_s2 hc95 hc103)).2 ?_
            show Steps p.tables e below (T26.setTop (mkF m 125 #[.val (.int p0), .val (.int p1), .val (.int p2), .val (.int p3), .val (.int (own_arr p0)), .val (.int (own_dep p0 p1)), .val (.ref w_GOOD), .val (.int ((p3 &&& (7 : Int32)) - (1 : Int32))), .val (.ref b20), .val (.long (((p3 &&& (7 : Int32)) - (1 : Int32)).toInt64 - (own_arr p0).toInt64)), .second, .val (.long ((own_dep p0 p1).toInt64 - (own_arr p0).toInt64)), .second, .val (.int (0 : Int32))] [])) _
            refine XS.iconst X26.here hx rfl (hb hby at_125) ?_
            show Steps p.tables e below (T26.setTop (mkF m 126 #[.val (.int p0), .val (.int p1), .val (.int p2), .val (.int p3), .val (.int (own_arr p0)), .val (.int (own_dep p0 p1)), .val (.ref w_GOOD), .val (.int ((p3 &&& (7 : Int32)) - (1 : Int32))), .val (.ref b20), .val (.long (((p3 &&& (7 : Int32)) - (1 : Int32)).toInt64 - (own_arr p0).toInt64)), .second, .val (.long ((own_dep p0 p1).toInt64 - (own_arr p0).toInt64)), .second, .val (.int (0 : Int32))] [(.int (1 : Int32))])) _
            refine XS.goto X26.here hx rfl (pc0 := 126) (pc' := 130) rfl (hb hby at_126) (by decide) (by decide) ?_
            show Steps p.tables e below (T26.setTop (mkF m 130 #[.val (.int p0), .val (.int p1), .val (.int p2), .val (.int p3), .val (.int (own_arr p0)), .val (.int (own_dep p0 p1)), .val (.ref w_GOOD), .val (.int ((p3 &&& (7 : Int32)) - (1 : Int32))), .val (.ref b20), .val (.long (((p3 &&& (7 : Int32)) - (1 : Int32)).toInt64 - (own_arr p0).toInt64)), .second, .val (.long ((own_dep p0 p1).toInt64 - (own_arr p0).toInt64)), .second, .val (.int (0 : Int32))] [(.int (1 : Int32))])) _
            exact retN X26 hx (t := .boolean) Bd.returns (by simp) (hb hby at_130) hr
          · show Q_rm_law Z p0 p1 p2 p3 w_GOOD w_CHEAP h0 n0 _ T26.heap _
            rw [e26]
            exact ⟨rfl, N26, trivial⟩
    · obtain ⟨T27, h27, X27, e27, E27, A27, D27, -, st27⟩ := newO X18 hx hZ hown (hw _ (List.mem_of_getElem? (i := 4) rfl)) (hw _ (List.mem_of_getElem? (i := 5) rfl)) (hw _ (List.mem_of_getElem? (i := 6) rfl)) e18 (g := (mkF m 58 #[.val (.int p0), .val (.int p1), .val (.int p2), .val (.int p3), .val (.int (own_arr p0)), .val (.int (own_dep p0 p1)), .val (.ref w_GOOD), .val (.int p3), .unset, .unset, .unset, .unset, .unset, .unset] [])) rfl (hb hby at_58) (by decide) (by decide)
      obtain ⟨b27, g27⟩ : ∃ z, z = h0.size := ⟨_, rfl⟩
      rw [← g27] at A27 D27 st27
      have ne_w_GOOD_b27 : w_GOOD ≠ b27 := Nat.ne_of_lt (Nat.lt_of_lt_of_le E_GOOD.lt (Nat.le_of_eq g27.symm))
      have ne_w_CHEAP_b27 : w_CHEAP ≠ b27 := Nat.ne_of_lt (Nat.lt_of_lt_of_le E_CHEAP.lt (Nat.le_of_eq g27.symm))
      have g_b27 : n0 ≤ b27 := Nat.le_trans Z0 (Nat.le_of_eq g27.symm)
      have S_GOOD_27 : Sta Z h27 "com/example/outcry/outcry/allocation/Hotel" "GOOD" "Lcom/example/outcry/outcry/allocation/Hotel;" (.ref w_GOOD) := S_GOOD.ext E27
      have S_CHEAP_27 : Sta Z h27 "com/example/outcry/outcry/allocation/Hotel" "CHEAP" "Lcom/example/outcry/outcry/allocation/Hotel;" (.ref w_CHEAP) := S_CHEAP.ext E27
      have E_GOOD_27 : Exa Z h27 w_GOOD "com/example/outcry/outcry/allocation/Hotel" := E_GOOD.ext E27
      have E_CHEAP_27 : Exa Z h27 w_CHEAP "com/example/outcry/outcry/allocation/Hotel" := E_CHEAP.ext E27
      have hk27' : _ ≤ h27.size := Nat.le_trans hk0 E27.1
      have Z27 : n0 ≤ h27.size := Nat.le_trans Z0 E27.1
      have F_arrival_b27 : Fld Z h27 b27 "com/example/outcry/outcry/allocation/Trip" "arrival" "I" (.int (0 : Int32)) := D27 (Or.inr (hw _ (List.mem_of_getElem? (i := 35) rfl))) (ty := .int) (by decide)
      have F_departure_b27 : Fld Z h27 b27 "com/example/outcry/outcry/allocation/Trip" "departure" "I" (.int (0 : Int32)) := D27 (Or.inr (hw _ (List.mem_of_getElem? (i := 37) rfl))) (ty := .int) (by decide)
      have F_hotel_b27 : Fld Z h27 b27 "com/example/outcry/outcry/allocation/Trip" "hotel" "Lcom/example/outcry/outcry/allocation/Hotel;" .null := D27 (Or.inr (hw _ (List.mem_of_getElem? (i := 39) rfl))) (ty := (.object "com/example/outcry/outcry/allocation/Hotel")) (by decide)
      obtain ⟨_, _, ⟨T28, L28, k28, n28⟩, -, X28, hSq28, gr28, ⟨Lc28, hQ28, l28, y28, z28⟩, st28⟩ := X27.specialBackS hx (y := (⟨"com/example/outcry/outcry/allocation/Trip", "<init>", "(IILcom/example/outcry/outcry/allocation/Hotel;)V"⟩ : MethodName)) rfl hown (mvT hZ (hw _ (List.mem_of_getElem? (i := 7) rfl))) (mvT hZ (hw _ (List.mem_of_getElem? (i := 8) rfl))) (mvT hZ (hw _ (List.mem_of_getElem? (i := 9) rfl))) (by decide) (backOfS (W := 1) (rm_trip l Z a0 hw [] b27 (own_arr p0) (own_dep p0 p1) w_GOOD h27 n0 Z27 A27 F_arrival_b27 F_departure_b27 F_hotel_b27 g_b27 (own_c1 _) (own_c2 _ _) (own_c3 _ _)) hZ (hw _ (List.mem_of_getElem? (i := 9) rfl)) (hw _ (List.mem_of_getElem? (i := 6) rfl)) (by decide) (by decide)) (g := (mkF m 68 #[.val (.int p0), .val (.int p1), .val (.int p2), .val (.int p3), .val (.int (own_arr p0)), .val (.int (own_dep p0 p1)), .val (.ref w_GOOD), .val (.int p3), .unset, .unset, .unset, .unset, .unset, .unset] [(.ref w_GOOD), (.int (own_dep p0 p1)), (.int (own_arr p0)), (.ref b27), (.ref b27)])) rfl (by rw [hml]; rfl) (Steps.refl _) (a := b27) (argsL := [(.int (own_arr p0)), (.int (own_dep p0 p1)), (.ref w_GOOD)]) (rest := [(.ref b27)]) (lenOf pd_3 rfl) rfl (by show 2 * 0 + _ ≤ _; exact Nat.le_of_eq rfl) (hb hby at_68) (fun _ _ => ⟨rfl, e27, (by decide : 1 + 4 ≤ _), (by decide : 3 + 44 ≤ _)⟩)
      dsimp only [Pt.U, Pt.locs, Pt.cells, Pt.slots] at X28 l28 y28 z28 st28 hQ28 hSq28 gr28
      subst l28 y28 z28
      obtain ⟨rfl, N28q, x28_0, x28_1, x28_2, x28_3⟩ := hQ28
      have N28 := Fr.app N0 N28q
      have E_GOOD_28 : Exa Z T28.heap w_GOOD "com/example/outcry/outcry/allocation/Hotel" := E_GOOD_27.keep x28_0
      have E_CHEAP_28 : Exa Z T28.heap w_CHEAP "com/example/outcry/outcry/allocation/Hotel" := E_CHEAP_27.keep x28_0
      have A27_28 : Exa Z T28.heap b27 "com/example/outcry/outcry/allocation/Trip" := A27.keep x28_0
      have hk28' : _ ≤ T28.heap.size := Nat.le_trans hk27' x28_0.1
      have Z28 : n0 ≤ T28.heap.size := Nat.le_trans Z27 x28_0.1
      have X28b : Stand p l e room_1 (s.setVm T28.vm) m #[(.int p0), (.int p1), (.int p2), (.int p3)] below meth c T28 _ _ _ := X28
      have hS28 : s.Since T28.vm T28.heap.size := foldS hS0 (T := T27) (by first | exact hk27' | (rw [e27]; exact hk27')) hSq28 gr28
      have hZ28 : Z.Warmed39 (s.setVm T28.vm).vm := State.Warmed39.trans (t := s.setVm s.vm) hZ hSq28.1
      have hown28 : (s.setVm T28.vm).vm.findClass "com/example/outcry/outcry/allocation/TripStaysNightPinLaw" = some m.cls := by rw [show (s.setVm T28.vm).vm = T28.vm from rfl, hSq28.1.alike.findClass]; exact hown
      have hk28 := Nat.le_refl T28.heap.size
      have k29 : ∀ target, Steps p.tables e below (T28.setTop (mkF m 95 #[.val (.int p0), .val (.int p1), .val (.int p2), .val (.int p3), .val (.int (own_arr p0)), .val (.int (own_dep p0 p1)), .val (.ref w_GOOD), .val (.int p3), .val (.ref b27), .val (.long (p3.toInt64 - (own_arr p0).toInt64)), .second, .val (.long ((own_dep p0 p1).toInt64 - (own_arr p0).toInt64)), .second, .unset] [(.int (lcmpW (p3.toInt64 - (own_arr p0).toInt64) (0 : Int64)))])) target → Steps p.tables e below (s₁.setTop (mkF m 0 #[.val (.int p0), .val (.int p1), .val (.int p2), .val (.int p3), .unset, .unset, .unset, .unset, .unset, .unset, .unset, .unset, .unset, .unset] [])) target := by
        intro target kt
        refine k19 _ ?_
        show Steps p.tables e below (T18.setTop (mkF m 43 #[.val (.int p0), .val (.int p1), .val (.int p2), .val (.int p3), .val (.int (own_arr p0)), .val (.int (own_dep p0 p1)), .val (.ref w_GOOD), .unset, .unset, .unset, .unset, .unset, .unset, .unset] [(.int (p2 &&& (2 : Int32)))])) _
        refine XS.ifNo X18.here hx rfl (hb hby at_43) rfl ((if0 _ _).trans (feq hc43).1) ?_
        show Steps p.tables e below (T18.setTop (mkF m 46 #[.val (.int p0), .val (.int p1), .val (.int p2), .val (.int p3), .val (.int (own_arr p0)), .val (.int (own_dep p0 p1)), .val (.ref w_GOOD), .unset, .unset, .unset, .unset, .unset, .unset, .unset] [])) _
        refine XS.iloadN X18.here hx rfl (hb hby at_46) rfl ?_
        show Steps p.tables e below (T18.setTop (mkF m 47 #[.val (.int p0), .val (.int p1), .val (.int p2), .val (.int p3), .val (.int (own_arr p0)), .val (.int (own_dep p0 p1)), .val (.ref w_GOOD), .unset, .unset, .unset, .unset, .unset, .unset, .unset] [(.int p3)])) _
        refine XS.goto X18.here hx rfl (pc0 := 47) (pc' := 56) rfl (hb hby at_47) (by decide) (by decide) ?_
        show Steps p.tables e below (T18.setTop (mkF m 56 #[.val (.int p0), .val (.int p1), .val (.int p2), .val (.int p3), .val (.int (own_arr p0)), .val (.int (own_dep p0 p1)), .val (.ref w_GOOD), .unset, .unset, .unset, .unset, .unset, .unset, .unset] [(.int p3)])) _
        refine XS.istore X18.here hx rfl (hb hby at_56) rfl (l' := #[.val (.int p0), .val (.int p1), .val (.int p2), .val (.int p3), .val (.int (own_arr p0)), .val (.int (own_dep p0 p1)), .val (.ref w_GOOD), .val (.int p3), .unset, .unset, .unset, .unset, .unset, .unset]) rfl ?_
        show Steps p.tables e below (T18.setTop (mkF m 58 #[.val (.int p0), .val (.int p1), .val (.int p2), .val (.int p3), .val (.int (own_arr p0)), .val (.int (own_dep p0 p1)), .val (.ref w_GOOD), .val (.int p3), .unset, .unset, .unset, .unset, .unset, .unset] [])) _
        refine st27 _ ?_
        show Steps p.tables e below (T27.setTop (mkF m 61 #[.val (.int p0), .val (.int p1), .val (.int p2), .val (.int p3), .val (.int (own_arr p0)), .val (.int (own_dep p0 p1)), .val (.ref w_GOOD), .val (.int p3), .unset, .unset, .unset, .unset, .unset, .unset] [(.ref b27)])) _
        refine XS.dup X27.here hx rfl (hb hby at_61) rfl rfl ?_
        show Steps p.tables e below (T27.setTop (mkF m 62 #[.val (.int p0), .val (.int p1), .val (.int p2), .val (.int p3), .val (.int (own_arr p0)), .val (.int (own_dep p0 p1)), .val (.ref w_GOOD), .val (.int p3), .unset, .unset, .unset, .unset, .unset, .unset] [(.ref b27), (.ref b27)])) _
        refine XS.iload X27.here hx rfl (hb hby at_62) rfl ?_
        show Steps p.tables e below (T27.setTop (mkF m 64 #[.val (.int p0), .val (.int p1), .val (.int p2), .val (.int p3), .val (.int (own_arr p0)), .val (.int (own_dep p0 p1)), .val (.ref w_GOOD), .val (.int p3), .unset, .unset, .unset, .unset, .unset, .unset] [(.int (own_arr p0)), (.ref b27), (.ref b27)])) _
        refine XS.iload X27.here hx rfl (hb hby at_64) rfl ?_
        show Steps p.tables e below (T27.setTop (mkF m 66 #[.val (.int p0), .val (.int p1), .val (.int p2), .val (.int p3), .val (.int (own_arr p0)), .val (.int (own_dep p0 p1)), .val (.ref w_GOOD), .val (.int p3), .unset, .unset, .unset, .unset, .unset, .unset] [(.int (own_dep p0 p1)), (.int (own_arr p0)), (.ref b27), (.ref b27)])) _
        refine XS.aload X27.here hx rfl (hb hby at_66) rfl rfl ?_
        show Steps p.tables e below (T27.setTop (mkF m 68 #[.val (.int p0), .val (.int p1), .val (.int p2), .val (.int p3), .val (.int (own_arr p0)), .val (.int (own_dep p0 p1)), .val (.ref w_GOOD), .val (.int p3), .unset, .unset, .unset, .unset, .unset, .unset] [(.ref w_GOOD), (.int (own_dep p0 p1)), (.int (own_arr p0)), (.ref b27), (.ref b27)])) _
        refine st28.trans ?_
        show Steps p.tables e below (T28.setTop (mkF m 71 #[.val (.int p0), .val (.int p1), .val (.int p2), .val (.int p3), .val (.int (own_arr p0)), .val (.int (own_dep p0 p1)), .val (.ref w_GOOD), .val (.int p3), .unset, .unset, .unset, .unset, .unset, .unset] [(.ref b27)])) _
        refine XS.astore X28b.here hx rfl (hb hby at_71) rfl rfl (l' := #[.val (.int p0), .val (.int p1), .val (.int p2), .val (.int p3), .val (.int (own_arr p0)), .val (.int (own_dep p0 p1)), .val (.ref w_GOOD), .val (.int p3), .val (.ref b27), .unset, .unset, .unset, .unset, .unset]) rfl ?_
        show Steps p.tables e below (T28.setTop (mkF m 73 #[.val (.int p0), .val (.int p1), .val (.int p2), .val (.int p3), .val (.int (own_arr p0)), .val (.int (own_dep p0 p1)), .val (.ref w_GOOD), .val (.int p3), .val (.ref b27), .unset, .unset, .unset, .unset, .unset] [])) _
        refine XS.iload X28b.here hx rfl (hb hby at_73) rfl ?_
        show Steps p.tables e below (T28.setTop (mkF m 75 #[.val (.int p0), .val (.int p1), .val (.int p2), .val (.int p3), .val (.int (own_arr p0)), .val (.int (own_dep p0 p1)), .val (.ref w_GOOD), .val (.int p3), .val (.ref b27), .unset, .unset, .unset, .unset, .unset] [(.int p3)])) _
        refine XS.i2l X28b.here hx rfl (hb hby at_75) rfl ?_
        show Steps p.tables e below (T28.setTop (mkF m 76 #[.val (.int p0), .val (.int p1), .val (.int p2), .val (.int p3), .val (.int (own_arr p0)), .val (.int (own_dep p0 p1)), .val (.ref w_GOOD), .val (.int p3), .val (.ref b27), .unset, .unset, .unset, .unset, .unset] [(.long p3.toInt64)])) _
        refine XS.iload X28b.here hx rfl (hb hby at_76) rfl ?_
        show Steps p.tables e below (T28.setTop (mkF m 78 #[.val (.int p0), .val (.int p1), .val (.int p2), .val (.int p3), .val (.int (own_arr p0)), .val (.int (own_dep p0 p1)), .val (.ref w_GOOD), .val (.int p3), .val (.ref b27), .unset, .unset, .unset, .unset, .unset] [(.int (own_arr p0)), (.long p3.toInt64)])) _
        refine XS.i2l X28b.here hx rfl (hb hby at_78) rfl ?_
        show Steps p.tables e below (T28.setTop (mkF m 79 #[.val (.int p0), .val (.int p1), .val (.int p2), .val (.int p3), .val (.int (own_arr p0)), .val (.int (own_dep p0 p1)), .val (.ref w_GOOD), .val (.int p3), .val (.ref b27), .unset, .unset, .unset, .unset, .unset] [(.long (own_arr p0).toInt64), (.long p3.toInt64)])) _
        refine XS.lsub X28b.here hx rfl (hb hby at_79) rfl ?_
        show Steps p.tables e below (T28.setTop (mkF m 80 #[.val (.int p0), .val (.int p1), .val (.int p2), .val (.int p3), .val (.int (own_arr p0)), .val (.int (own_dep p0 p1)), .val (.ref w_GOOD), .val (.int p3), .val (.ref b27), .unset, .unset, .unset, .unset, .unset] [(.long (p3.toInt64 - (own_arr p0).toInt64))])) _
        refine XS.lstore X28b.here hx rfl (hb hby at_80) rfl (l' := #[.val (.int p0), .val (.int p1), .val (.int p2), .val (.int p3), .val (.int (own_arr p0)), .val (.int (own_dep p0 p1)), .val (.ref w_GOOD), .val (.int p3), .val (.ref b27), .val (.long (p3.toInt64 - (own_arr p0).toInt64)), .second, .unset, .unset, .unset]) rfl ?_
        show Steps p.tables e below (T28.setTop (mkF m 82 #[.val (.int p0), .val (.int p1), .val (.int p2), .val (.int p3), .val (.int (own_arr p0)), .val (.int (own_dep p0 p1)), .val (.ref w_GOOD), .val (.int p3), .val (.ref b27), .val (.long (p3.toInt64 - (own_arr p0).toInt64)), .second, .unset, .unset, .unset] [])) _
        refine XS.iload X28b.here hx rfl (hb hby at_82) rfl ?_
        show Steps p.tables e below (T28.setTop (mkF m 84 #[.val (.int p0), .val (.int p1), .val (.int p2), .val (.int p3), .val (.int (own_arr p0)), .val (.int (own_dep p0 p1)), .val (.ref w_GOOD), .val (.int p3), .val (.ref b27), .val (.long (p3.toInt64 - (own_arr p0).toInt64)), .second, .unset, .unset, .unset] [(.int (own_dep p0 p1))])) _
        refine XS.i2l X28b.here hx rfl (hb hby at_84) rfl ?_
        show Steps p.tables e below (T28.setTop (mkF m 85 #[.val (.int p0), .val (.int p1), .val (.int p2), .val (.int p3), .val (.int (own_arr p0)), .val (.int (own_dep p0 p1)), .val (.ref w_GOOD), .val (.int p3), .val (.ref b27), .val (.long (p3.toInt64 - (own_arr p0).toInt64)), .second, .unset, .unset, .unset] [(.long (own_dep p0 p1).toInt64)])) _
        refine XS.iload X28b.here hx rfl (hb hby at_85) rfl ?_
        show Steps p.tables e below (T28.setTop (mkF m 87 #[.val (.int p0), .val (.int p1), .val (.int p2), .val (.int p3), .val (.int (own_arr p0)), .val (.int (own_dep p0 p1)), .val (.ref w_GOOD), .val (.int p3), .val (.ref b27), .val (.long (p3.toInt64 - (own_arr p0).toInt64)), .second, .unset, .unset, .unset] [(.int (own_arr p0)), (.long (own_dep p0 p1).toInt64)])) _
        refine XS.i2l X28b.here hx rfl (hb hby at_87) rfl ?_
        show Steps p.tables e below (T28.setTop (mkF m 88 #[.val (.int p0), .val (.int p1), .val (.int p2), .val (.int p3), .val (.int (own_arr p0)), .val (.int (own_dep p0 p1)), .val (.ref w_GOOD), .val (.int p3), .val (.ref b27), .val (.long (p3.toInt64 - (own_arr p0).toInt64)), .second, .unset, .unset, .unset] [(.long (own_arr p0).toInt64), (.long (own_dep p0 p1).toInt64)])) _
        refine XS.lsub X28b.here hx rfl (hb hby at_88) rfl ?_
        show Steps p.tables e below (T28.setTop (mkF m 89 #[.val (.int p0), .val (.int p1), .val (.int p2), .val (.int p3), .val (.int (own_arr p0)), .val (.int (own_dep p0 p1)), .val (.ref w_GOOD), .val (.int p3), .val (.ref b27), .val (.long (p3.toInt64 - (own_arr p0).toInt64)), .second, .unset, .unset, .unset] [(.long ((own_dep p0 p1).toInt64 - (own_arr p0).toInt64))])) _
        refine XS.lstore X28b.here hx rfl (hb hby at_89) rfl (l' := #[.val (.int p0), .val (.int p1), .val (.int p2), .val (.int p3), .val (.int (own_arr p0)), .val (.int (own_dep p0 p1)), .val (.ref w_GOOD), .val (.int p3), .val (.ref b27), .val (.long (p3.toInt64 - (own_arr p0).toInt64)), .second, .val (.long ((own_dep p0 p1).toInt64 - (own_arr p0).toInt64)), .second, .unset]) rfl ?_
        show Steps p.tables e below (T28.setTop (mkF m 91 #[.val (.int p0), .val (.int p1), .val (.int p2), .val (.int p3), .val (.int (own_arr p0)), .val (.int (own_dep p0 p1)), .val (.ref w_GOOD), .val (.int p3), .val (.ref b27), .val (.long (p3.toInt64 - (own_arr p0).toInt64)), .second, .val (.long ((own_dep p0 p1).toInt64 - (own_arr p0).toInt64)), .second, .unset] [])) _
        refine XS.lload X28b.here hx rfl (hb hby at_91) rfl ?_
        show Steps p.tables e below (T28.setTop (mkF m 93 #[.val (.int p0), .val (.int p1), .val (.int p2), .val (.int p3), .val (.int (own_arr p0)), .val (.int (own_dep p0 p1)), .val (.ref w_GOOD), .val (.int p3), .val (.ref b27), .val (.long (p3.toInt64 - (own_arr p0).toInt64)), .second, .val (.long ((own_dep p0 p1).toInt64 - (own_arr p0).toInt64)), .second, .unset] [(.long (p3.toInt64 - (own_arr p0).toInt64))])) _
        refine XS.lconst X28b.here hx rfl (hb hby at_93) ?_
        show Steps p.tables e below (T28.setTop (mkF m 94 #[.val (.int p0), .val (.int p1), .val (.int p2), .val (.int p3), .val (.int (own_arr p0)), .val (.int (own_dep p0 p1)), .val (.ref w_GOOD), .val (.int p3), .val (.ref b27), .val (.long (p3.toInt64 - (own_arr p0).toInt64)), .second, .val (.long ((own_dep p0 p1).toInt64 - (own_arr p0).toInt64)), .second, .unset] [(.long (0 : Int64)), (.long (p3.toInt64 - (own_arr p0).toInt64))])) _
        refine XS.lcmp X28b.here hx rfl (hb hby at_94) rfl ?_
        exact kt
      by_cases hc95 : (lcmpW (p3.toInt64 - (own_arr p0).toInt64) (0 : Int64)) < (0 : Int32)
      · obtain ⟨cq30, kq30, q30a, q30b, q30c⟩ := isOf hZ28 rfl A27_28
        obtain ⟨_, _, ⟨T30, L30, k30, n30⟩, -, X30, ⟨Lc30, hQ30, l30, y30, z30⟩, st30⟩ := X28b.virtualBack hx (y := (⟨"com/example/outcry/outcry/allocation/Trip", "staysNight", "(I)Z"⟩ : MethodName)) (z := (⟨"com/example/outcry/outcry/allocation/Trip", "staysNight", "(I)Z"⟩ : MethodName)) hown28 (mvT hZ28 (hw _ (List.mem_of_getElem? (i := 40) rfl))) (mvT hZ28 (hw _ (List.mem_of_getElem? (i := 41) rfl))) (notFace_of_selects (args := #[]) (mvT hZ28 (hw _ (List.mem_of_getElem? (i := 43) rfl)))) (mvT hZ28 (hw _ (List.mem_of_getElem? (i := 43) rfl))) (mvT hZ28 (hw _ (List.mem_of_getElem? (i := 42) rfl))) (by decide) (backOf (W := 0) (rm_stay l Z a0 hw [] b27 p3 (own_arr p0) (own_dep p0 p1) T28.heap n0 Z28 x28_1 x28_2) hZ28 (hw _ (List.mem_of_getElem? (i := 44) rfl)) (hw _ (List.mem_of_getElem? (i := 6) rfl)) (by decide) (by decide)) q30a q30c (g := (mkF m 117 #[.val (.int p0), .val (.int p1), .val (.int p2), .val (.int p3), .val (.int (own_arr p0)), .val (.int (own_dep p0 p1)), .val (.ref w_GOOD), .val (.int p3), .val (.ref b27), .val (.long (p3.toInt64 - (own_arr p0).toInt64)), .second, .val (.long ((own_dep p0 p1).toInt64 - (own_arr p0).toInt64)), .second, .val (.int (0 : Int32))] [(.int p3), (.ref b27)])) rfl (by rw [hml]; rfl) (Steps.refl _) (argsL := [(.int p3)]) (rest := []) (lenOf pd_4 rfl) rfl (by show 2 * 0 + _ ≤ _; exact Nat.le_of_eq rfl) (hb hby at_117) (fun _ _ => ⟨rfl, rfl, (by decide : 5 + 0 ≤ _), (by decide : 47 + 0 ≤ _)⟩)
        dsimp only [Pt.U, Pt.locs, Pt.cells, Pt.slots] at X30 l30 y30 z30 st30 hQ30
        subst l30 y30 z30
        obtain ⟨rfl, N30q, e30⟩ := hQ30
        have N30 := Fr.app N28 N30q
        obtain ⟨fs, hr, hrun, hended, hREW⟩ := X30.leaveW hS28 (by first | exact hk28 | (rw [e30]; exact hk28)) (v := some (.int (1 : Int32))) (fun h => by rw [Bd.returns] at h; cases h)
        refine ⟨_, _, pre0 _ ?_, hrun, hended, _, _, rfl, ?_, hREW.1, hREW.2.1, hREW.2.2.1, hREW.2.2.2.mono (by decide) (by decide)⟩
        · refine k29 _ ?_
          show Steps p.tables e below (T28.setTop (mkF m 95 #[.val (.int p0), .val (.int p1), .val (.int p2), .val (.int p3), .val (.int (own_arr p0)), .val (.int (own_dep p0 p1)), .val (.ref w_GOOD), .val (.int p3), .val (.ref b27), .val (.long (p3.toInt64 - (own_arr p0).toInt64)), .second, .val (.long ((own_dep p0 p1).toInt64 - (own_arr p0).toInt64)), .second, .unset] [(.int (lcmpW (p3.toInt64 - (own_arr p0).toInt64) (0 : Int64)))])) _
          refine XS.ifYes X28b.here hx rfl (pc0 := 95) (pc' := 110) rfl (hb hby at_95) rfl ((if0 _ _).trans (tlt hc95).1) (by decide) (by decide) ?_
          show Steps p.tables e below (T28.setTop (mkF m 110 #[.val (.int p0), .val (.int p1), .val (.int p2), .val (.int p3), .val (.int (own_arr p0)), .val (.int (own_dep p0 p1)), .val (.ref w_GOOD), .val (.int p3), .val (.ref b27), .val (.long (p3.toInt64 - (own_arr p0).toInt64)), .second, .val (.long ((own_dep p0 p1).toInt64 - (own_arr p0).toInt64)), .second, .unset] [])) _
          refine XS.iconst X28b.here hx rfl (hb hby at_110) ?_
          show Steps p.tables e below (T28.setTop (mkF m 111 #[.val (.int p0), .val (.int p1), .val (.int p2), .val (.int p3), .val (.int (own_arr p0)), .val (.int (own_dep p0 p1)), .val (.ref w_GOOD), .val (.int p3), .val (.ref b27), .val (.long (p3.toInt64 - (own_arr p0).toInt64)), .second, .val (.long ((own_dep p0 p1).toInt64 - (own_arr p0).toInt64)), .second, .unset] [(.int (0 : Int32))])) _
          refine XS.istore X28b.here hx rfl (hb hby at_111) rfl (l' := #[.val (.int p0), .val (.int p1), .val (.int p2), .val (.int p3), .val (.int (own_arr p0)), .val (.int (own_dep p0 p1)), .val (.ref w_GOOD), .val (.int p3), .val (.ref b27), .val (.long (p3.toInt64 - (own_arr p0).toInt64)), .second, .val (.long ((own_dep p0 p1).toInt64 - (own_arr p0).toInt64)), .second, .val (.int (0 : Int32))]) rfl ?_
          show Steps p.tables e below (T28.setTop (mkF m 113 #[.val (.int p0), .val (.int p1), .val (.int p2), .val (.int p3), .val (.int (own_arr p0)), .val (.int (own_dep p0 p1)), .val (.ref w_GOOD), .val (.int p3), .val (.ref b27), .val (.long (p3.toInt64 - (own_arr p0).toInt64)), .second, .val (.long ((own_dep p0 p1).toInt64 - (own_arr p0).toInt64)), .second, .val (.int (0 : Int32))] [])) _
          refine XS.aload X28b.here hx rfl (hb hby at_113) rfl rfl ?_
          show Steps p.tables e below (T28.setTop (mkF m 115 #[.val (.int p0), .val (.int p1), .val (.int p2), .val (.int p3), .val (.int (own_arr p0)), .val (.int (own_dep p0 p1)), .val (.ref w_GOOD), .val (.int p3), .val (.ref b27), .val (.long (p3.toInt64 - (own_arr p0).toInt64)), .second, .val (.long ((own_dep p0 p1).toInt64 - (own_arr p0).toInt64)), .second, .val (.int (0 : Int32))] [(.ref b27)])) _
          refine XS.iload X28b.here hx rfl (hb hby at_115) rfl ?_
          show Steps p.tables e below (T28.setTop (mkF m 117 #[.val (.int p0), .val (.int p1), .val (.int p2), .val (.int p3), .val (.int (own_arr p0)), .val (.int (own_dep p0 p1)), .val (.ref w_GOOD), .val (.int p3), .val (.ref b27), .val (.long (p3.toInt64 - (own_arr p0).toInt64)), .second, .val (.long ((own_dep p0 p1).toInt64 - (own_arr p0).toInt64)), .second, .val (.int (0 : Int32))] [(.int p3), (.ref b27)])) _
          refine st30.trans ?_
          show Steps p.tables e below (T30.setTop (mkF m 120 #[.val (.int p0), .val (.int p1), .val (.int p2), .val (.int p3), .val (.int (own_arr p0)), .val (.int (own_dep p0 p1)), .val (.ref w_GOOD), .val (.int p3), .val (.ref b27), .val (.long (p3.toInt64 - (own_arr p0).toInt64)), .second, .val (.long ((own_dep p0 p1).toInt64 - (own_arr p0).toInt64)), .second, .val (.int (0 : Int32))] [(.int (own_stay (own_arr p0) (own_dep p0 p1) p3))])) _
          refine XS.iload X30.here hx rfl (hb hby at_120) rfl ?_
          show Steps p.tables e below (T30.setTop (mkF m 122 #[.val (.int p0), .val (.int p1), .val (.int p2), .val (.int p3), .val (.int (own_arr p0)), .val (.int (own_dep p0 p1)), .val (.ref w_GOOD), .val (.int p3), .val (.ref b27), .val (.long (p3.toInt64 - (own_arr p0).toInt64)), .second, .val (.long ((own_dep p0 p1).toInt64 - (own_arr p0).toInt64)), .second, .val (.int (0 : Int32))] [(.int (0 : Int32)), (.int (own_stay (own_arr p0) (own_dep p0 p1) p3))])) _
          refine XS.icmpNo X30.here hx rfl (hb hby at_122) rfl (teq (own_s0 hc95)).2 ?_
          show Steps p.tables e below (T30.setTop (mkF m 125 #[.val (.int p0), .val (.int p1), .val (.int p2), .val (.int p3), .val (.int (own_arr p0)), .val (.int (own_dep p0 p1)), .val (.ref w_GOOD), .val (.int p3), .val (.ref b27), .val (.long (p3.toInt64 - (own_arr p0).toInt64)), .second, .val (.long ((own_dep p0 p1).toInt64 - (own_arr p0).toInt64)), .second, .val (.int (0 : Int32))] [])) _
          refine XS.iconst X30.here hx rfl (hb hby at_125) ?_
          show Steps p.tables e below (T30.setTop (mkF m 126 #[.val (.int p0), .val (.int p1), .val (.int p2), .val (.int p3), .val (.int (own_arr p0)), .val (.int (own_dep p0 p1)), .val (.ref w_GOOD), .val (.int p3), .val (.ref b27), .val (.long (p3.toInt64 - (own_arr p0).toInt64)), .second, .val (.long ((own_dep p0 p1).toInt64 - (own_arr p0).toInt64)), .second, .val (.int (0 : Int32))] [(.int (1 : Int32))])) _
          refine XS.goto X30.here hx rfl (pc0 := 126) (pc' := 130) rfl (hb hby at_126) (by decide) (by decide) ?_
          show Steps p.tables e below (T30.setTop (mkF m 130 #[.val (.int p0), .val (.int p1), .val (.int p2), .val (.int p3), .val (.int (own_arr p0)), .val (.int (own_dep p0 p1)), .val (.ref w_GOOD), .val (.int p3), .val (.ref b27), .val (.long (p3.toInt64 - (own_arr p0).toInt64)), .second, .val (.long ((own_dep p0 p1).toInt64 - (own_arr p0).toInt64)), .second, .val (.int (0 : Int32))] [(.int (1 : Int32))])) _
          exact retN X30 hx (t := .boolean) Bd.returns (by simp) (hb hby at_130) hr
        · show Q_rm_law Z p0 p1 p2 p3 w_GOOD w_CHEAP h0 n0 _ T30.heap _
          rw [e30]
          exact ⟨rfl, N30, trivial⟩
      · have k31 : ∀ target, Steps p.tables e below (T28.setTop (mkF m 103 #[.val (.int p0), .val (.int p1), .val (.int p2), .val (.int p3), .val (.int (own_arr p0)), .val (.int (own_dep p0 p1)), .val (.ref w_GOOD), .val (.int p3), .val (.ref b27), .val (.long (p3.toInt64 - (own_arr p0).toInt64)), .second, .val (.long ((own_dep p0 p1).toInt64 - (own_arr p0).toInt64)), .second, .unset] [(.int (lcmpW (p3.toInt64 - (own_arr p0).toInt64) ((own_dep p0 p1).toInt64 - (own_arr p0).toInt64)))])) target → Steps p.tables e below (s₁.setTop (mkF m 0 #[.val (.int p0), .val (.int p1), .val (.int p2), .val (.int p3), .unset, .unset, .unset, .unset, .unset, .unset, .unset, .unset, .unset, .unset] [])) target := by
          intro target kt
          refine k29 _ ?_
          show Steps p.tables e below (T28.setTop (mkF m 95 #[.val (.int p0), .val (.int p1), .val (.int p2), .val (.int p3), .val (.int (own_arr p0)), .val (.int (own_dep p0 p1)), .val (.ref w_GOOD), .val (.int p3), .val (.ref b27), .val (.long (p3.toInt64 - (own_arr p0).toInt64)), .second, .val (.long ((own_dep p0 p1).toInt64 - (own_arr p0).toInt64)), .second, .unset] [(.int (lcmpW (p3.toInt64 - (own_arr p0).toInt64) (0 : Int64)))])) _
          refine XS.ifNo X28b.here hx rfl (hb hby at_95) rfl ((if0 _ _).trans (flt hc95).1) ?_
          show Steps p.tables e below (T28.setTop (mkF m 98 #[.val (.int p0), .val (.int p1), .val (.int p2), .val (.int p3), .val (.int (own_arr p0)), .val (.int (own_dep p0 p1)), .val (.ref w_GOOD), .val (.int p3), .val (.ref b27), .val (.long (p3.toInt64 - (own_arr p0).toInt64)), .second, .val (.long ((own_dep p0 p1).toInt64 - (own_arr p0).toInt64)), .second, .unset] [])) _
          refine XS.lload X28b.here hx rfl (hb hby at_98) rfl ?_
          show Steps p.tables e below (T28.setTop (mkF m 100 #[.val (.int p0), .val (.int p1), .val (.int p2), .val (.int p3), .val (.int (own_arr p0)), .val (.int (own_dep p0 p1)), .val (.ref w_GOOD), .val (.int p3), .val (.ref b27), .val (.long (p3.toInt64 - (own_arr p0).toInt64)), .second, .val (.long ((own_dep p0 p1).toInt64 - (own_arr p0).toInt64)), .second, .unset] [(.long (p3.toInt64 - (own_arr p0).toInt64))])) _
          refine XS.lload X28b.here hx rfl (hb hby at_100) rfl ?_
          show Steps p.tables e below (T28.setTop (mkF m 102 #[.val (.int p0), .val (.int p1), .val (.int p2), .val (.int p3), .val (.int (own_arr p0)), .val (.int (own_dep p0 p1)), .val (.ref w_GOOD), .val (.int p3), .val (.ref b27), .val (.long (p3.toInt64 - (own_arr p0).toInt64)), .second, .val (.long ((own_dep p0 p1).toInt64 - (own_arr p0).toInt64)), .second, .unset] [(.long ((own_dep p0 p1).toInt64 - (own_arr p0).toInt64)), (.long (p3.toInt64 - (own_arr p0).toInt64))])) _
          refine XS.lcmp X28b.here hx rfl (hb hby at_102) rfl ?_
          exact kt
        by_cases hc103 : (lcmpW (p3.toInt64 - (own_arr p0).toInt64) ((own_dep p0 p1).toInt64 - (own_arr p0).toInt64)) < (0 : Int32)
        · obtain ⟨cq32, kq32, q32a, q32b, q32c⟩ := isOf hZ28 rfl A27_28
          obtain ⟨_, _, ⟨T32, L32, k32, n32⟩, -, X32, ⟨Lc32, hQ32, l32, y32, z32⟩, st32⟩ := X28b.virtualBack hx (y := (⟨"com/example/outcry/outcry/allocation/Trip", "staysNight", "(I)Z"⟩ : MethodName)) (z := (⟨"com/example/outcry/outcry/allocation/Trip", "staysNight", "(I)Z"⟩ : MethodName)) hown28 (mvT hZ28 (hw _ (List.mem_of_getElem? (i := 40) rfl))) (mvT hZ28 (hw _ (List.mem_of_getElem? (i := 41) rfl))) (notFace_of_selects (args := #[]) (mvT hZ28 (hw _ (List.mem_of_getElem? (i := 43) rfl)))) (mvT hZ28 (hw _ (List.mem_of_getElem? (i := 43) rfl))) (mvT hZ28 (hw _ (List.mem_of_getElem? (i := 42) rfl))) (by decide) (backOf (W := 0) (rm_stay l Z a0 hw [] b27 p3 (own_arr p0) (own_dep p0 p1) T28.heap n0 Z28 x28_1 x28_2) hZ28 (hw _ (List.mem_of_getElem? (i := 44) rfl)) (hw _ (List.mem_of_getElem? (i := 6) rfl)) (by decide) (by decide)) q32a q32c (g := (mkF m 117 #[.val (.int p0), .val (.int p1), .val (.int p2), .val (.int p3), .val (.int (own_arr p0)), .val (.int (own_dep p0 p1)), .val (.ref w_GOOD), .val (.int p3), .val (.ref b27), .val (.long (p3.toInt64 - (own_arr p0).toInt64)), .second, .val (.long ((own_dep p0 p1).toInt64 - (own_arr p0).toInt64)), .second, .val (.int (1 : Int32))] [(.int p3), (.ref b27)])) rfl (by rw [hml]; rfl) (Steps.refl _) (argsL := [(.int p3)]) (rest := []) (lenOf pd_4 rfl) rfl (by show 2 * 0 + _ ≤ _; exact Nat.le_of_eq rfl) (hb hby at_117) (fun _ _ => ⟨rfl, rfl, (by decide : 5 + 0 ≤ _), (by decide : 47 + 0 ≤ _)⟩)
          dsimp only [Pt.U, Pt.locs, Pt.cells, Pt.slots] at X32 l32 y32 z32 st32 hQ32
          subst l32 y32 z32
          obtain ⟨rfl, N32q, e32⟩ := hQ32
          have N32 := Fr.app N28 N32q
          obtain ⟨fs, hr, hrun, hended, hREW⟩ := X32.leaveW hS28 (by first | exact hk28 | (rw [e32]; exact hk28)) (v := some (.int (1 : Int32))) (fun h => by rw [Bd.returns] at h; cases h)
          refine ⟨_, _, pre0 _ ?_, hrun, hended, _, _, rfl, ?_, hREW.1, hREW.2.1, hREW.2.2.1, hREW.2.2.2.mono (by decide) (by decide)⟩
          · refine k31 _ ?_
            show Steps p.tables e below (T28.setTop (mkF m 103 #[.val (.int p0), .val (.int p1), .val (.int p2), .val (.int p3), .val (.int (own_arr p0)), .val (.int (own_dep p0 p1)), .val (.ref w_GOOD), .val (.int p3), .val (.ref b27), .val (.long (p3.toInt64 - (own_arr p0).toInt64)), .second, .val (.long ((own_dep p0 p1).toInt64 - (own_arr p0).toInt64)), .second, .unset] [(.int (lcmpW (p3.toInt64 - (own_arr p0).toInt64) ((own_dep p0 p1).toInt64 - (own_arr p0).toInt64)))])) _
            refine XS.ifNo X28b.here hx rfl (hb hby at_103) rfl ((if0 _ _).trans (tlt hc103).2.1) ?_
            show Steps p.tables e below (T28.setTop (mkF m 106 #[.val (.int p0), .val (.int p1), .val (.int p2), .val (.int p3), .val (.int (own_arr p0)), .val (.int (own_dep p0 p1)), .val (.ref w_GOOD), .val (.int p3), .val (.ref b27), .val (.long (p3.toInt64 - (own_arr p0).toInt64)), .second, .val (.long ((own_dep p0 p1).toInt64 - (own_arr p0).toInt64)), .second, .unset] [])) _
            refine XS.iconst X28b.here hx rfl (hb hby at_106) ?_
            show Steps p.tables e below (T28.setTop (mkF m 107 #[.val (.int p0), .val (.int p1), .val (.int p2), .val (.int p3), .val (.int (own_arr p0)), .val (.int (own_dep p0 p1)), .val (.ref w_GOOD), .val (.int p3), .val (.ref b27), .val (.long (p3.toInt64 - (own_arr p0).toInt64)), .second, .val (.long ((own_dep p0 p1).toInt64 - (own_arr p0).toInt64)), .second, .unset] [(.int (1 : Int32))])) _
            refine XS.goto X28b.here hx rfl (pc0 := 107) (pc' := 111) rfl (hb hby at_107) (by decide) (by decide) ?_
            show Steps p.tables e below (T28.setTop (mkF m 111 #[.val (.int p0), .val (.int p1), .val (.int p2), .val (.int p3), .val (.int (own_arr p0)), .val (.int (own_dep p0 p1)), .val (.ref w_GOOD), .val (.int p3), .val (.ref b27), .val (.long (p3.toInt64 - (own_arr p0).toInt64)), .second, .val (.long ((own_dep p0 p1).toInt64 - (own_arr p0).toInt64)), .second, .unset] [(.int (1 : Int32))])) _
            refine XS.istore X28b.here hx rfl (hb hby at_111) rfl (l' := #[.val (.int p0), .val (.int p1), .val (.int p2), .val (.int p3), .val (.int (own_arr p0)), .val (.int (own_dep p0 p1)), .val (.ref w_GOOD), .val (.int p3), .val (.ref b27), .val (.long (p3.toInt64 - (own_arr p0).toInt64)), .second, .val (.long ((own_dep p0 p1).toInt64 - (own_arr p0).toInt64)), .second, .val (.int (1 : Int32))]) rfl ?_
            show Steps p.tables e below (T28.setTop (mkF m 113 #[.val (.int p0), .val (.int p1), .val (.int p2), .val (.int p3), .val (.int (own_arr p0)), .val (.int (own_dep p0 p1)), .val (.ref w_GOOD), .val (.int p3), .val (.ref b27), .val (.long (p3.toInt64 - (own_arr p0).toInt64)), .second, .val (.long ((own_dep p0 p1).toInt64 - (own_arr p0).toInt64)), .second, .val (.int (1 : Int32))] [])) _
            refine XS.aload X28b.here hx rfl (hb hby at_113) rfl rfl ?_
            show Steps p.tables e below (T28.setTop (mkF m 115 #[.val (.int p0), .val (.int p1), .val (.int p2), .val (.int p3), .val (.int (own_arr p0)), .val (.int (own_dep p0 p1)), .val (.ref w_GOOD), .val (.int p3), .val (.ref b27), .val (.long (p3.toInt64 - (own_arr p0).toInt64)), .second, .val (.long ((own_dep p0 p1).toInt64 - (own_arr p0).toInt64)), .second, .val (.int (1 : Int32))] [(.ref b27)])) _
            refine XS.iload X28b.here hx rfl (hb hby at_115) rfl ?_
            show Steps p.tables e below (T28.setTop (mkF m 117 #[.val (.int p0), .val (.int p1), .val (.int p2), .val (.int p3), .val (.int (own_arr p0)), .val (.int (own_dep p0 p1)), .val (.ref w_GOOD), .val (.int p3), .val (.ref b27), .val (.long (p3.toInt64 - (own_arr p0).toInt64)), .second, .val (.long ((own_dep p0 p1).toInt64 - (own_arr p0).toInt64)), .second, .val (.int (1 : Int32))] [(.int p3), (.ref b27)])) _
            refine st32.trans ?_
            show Steps p.tables e below (T32.setTop (mkF m 120 #[.val (.int p0), .val (.int p1), .val (.int p2), .val (.int p3), .val (.int (own_arr p0)), .val (.int (own_dep p0 p1)), .val (.ref w_GOOD), .val (.int p3), .val (.ref b27), .val (.long (p3.toInt64 - (own_arr p0).toInt64)), .second, .val (.long ((own_dep p0 p1).toInt64 - (own_arr p0).toInt64)), .second, .val (.int (1 : Int32))] [(.int (own_stay (own_arr p0) (own_dep p0 p1) p3))])) _
            refine XS.iload X32.here hx rfl (hb hby at_120) rfl ?_
            show Steps p.tables e below (T32.setTop (mkF m 122 #[.val (.int p0), .val (.int p1), .val (.int p2), .val (.int p3), .val (.int (own_arr p0)), .val (.int (own_dep p0 p1)), .val (.ref w_GOOD), .val (.int p3), .val (.ref b27), .val (.long (p3.toInt64 - (own_arr p0).toInt64)), .second, .val (.long ((own_dep p0 p1).toInt64 - (own_arr p0).toInt64)), .second, .val (.int (1 : Int32))] [(.int (1 : Int32)), (.int (own_stay (own_arr p0) (own_dep p0 p1) p3))])) _
            refine XS.icmpNo X32.here hx rfl (hb hby at_122) rfl (teq (own_s1 hc95 hc103)).2 ?_
            show Steps p.tables e below (T32.setTop (mkF m 125 #[.val (.int p0), .val (.int p1), .val (.int p2), .val (.int p3), .val (.int (own_arr p0)), .val (.int (own_dep p0 p1)), .val (.ref w_GOOD), .val (.int p3), .val (.ref b27), .val (.long (p3.toInt64 - (own_arr p0).toInt64)), .second, .val (.long ((own_dep p0 p1).toInt64 - (own_arr p0).toInt64)), .second, .val (.int (1 : Int32))] [])) _
            refine XS.iconst X32.here hx rfl (hb hby at_125) ?_
            show Steps p.tables e below (T32.setTop (mkF m 126 #[.val (.int p0), .val (.int p1), .val (.int p2), .val (.int p3), .val (.int (own_arr p0)), .val (.int (own_dep p0 p1)), .val (.ref w_GOOD), .val (.int p3), .val (.ref b27), .val (.long (p3.toInt64 - (own_arr p0).toInt64)), .second, .val (.long ((own_dep p0 p1).toInt64 - (own_arr p0).toInt64)), .second, .val (.int (1 : Int32))] [(.int (1 : Int32))])) _
            refine XS.goto X32.here hx rfl (pc0 := 126) (pc' := 130) rfl (hb hby at_126) (by decide) (by decide) ?_
            show Steps p.tables e below (T32.setTop (mkF m 130 #[.val (.int p0), .val (.int p1), .val (.int p2), .val (.int p3), .val (.int (own_arr p0)), .val (.int (own_dep p0 p1)), .val (.ref w_GOOD), .val (.int p3), .val (.ref b27), .val (.long (p3.toInt64 - (own_arr p0).toInt64)), .second, .val (.long ((own_dep p0 p1).toInt64 - (own_arr p0).toInt64)), .second, .val (.int (1 : Int32))] [(.int (1 : Int32))])) _
            exact retN X32 hx (t := .boolean) Bd.returns (by simp) (hb hby at_130) hr
          · show Q_rm_law Z p0 p1 p2 p3 w_GOOD w_CHEAP h0 n0 _ T32.heap _
            rw [e32]
            exact ⟨rfl, N32, trivial⟩
        · obtain ⟨cq33, kq33, q33a, q33b, q33c⟩ := isOf hZ28 rfl A27_28
          obtain ⟨_, _, ⟨T33, L33, k33, n33⟩, -, X33, ⟨Lc33, hQ33, l33, y33, z33⟩, st33⟩ := X28b.virtualBack hx (y := (⟨"com/example/outcry/outcry/allocation/Trip", "staysNight", "(I)Z"⟩ : MethodName)) (z := (⟨"com/example/outcry/outcry/allocation/Trip", "staysNight", "(I)Z"⟩ : MethodName)) hown28 (mvT hZ28 (hw _ (List.mem_of_getElem? (i := 40) rfl))) (mvT hZ28 (hw _ (List.mem_of_getElem? (i := 41) rfl))) (notFace_of_selects (args := #[]) (mvT hZ28 (hw _ (List.mem_of_getElem? (i := 43) rfl)))) (mvT hZ28 (hw _ (List.mem_of_getElem? (i := 43) rfl))) (mvT hZ28 (hw _ (List.mem_of_getElem? (i := 42) rfl))) (by decide) (backOf (W := 0) (rm_stay l Z a0 hw [] b27 p3 (own_arr p0) (own_dep p0 p1) T28.heap n0 Z28 x28_1 x28_2) hZ28 (hw _ (List.mem_of_getElem? (i := 44) rfl)) (hw _ (List.mem_of_getElem? (i := 6) rfl)) (by decide) (by decide)) q33a q33c (g := (mkF m 117 #[.val (.int p0), .val (.int p1), .val (.int p2), .val (.int p3), .val (.int (own_arr p0)), .val (.int (own_dep p0 p1)), .val (.ref w_GOOD), .val (.int p3), .val (.ref b27), .val (.long (p3.toInt64 - (own_arr p0).toInt64)), .second, .val (.long ((own_dep p0 p1).toInt64 - (own_arr p0).toInt64)), .second, .val (.int (0 : Int32))] [(.int p3), (.ref b27)])) rfl (by rw [hml]; rfl) (Steps.refl _) (argsL := [(.int p3)]) (rest := []) (lenOf pd_4 rfl) rfl (by show 2 * 0 + _ ≤ _; exact Nat.le_of_eq rfl) (hb hby at_117) (fun _ _ => ⟨rfl, rfl, (by decide : 5 + 0 ≤ _), (by decide : 47 + 0 ≤ _)⟩)
          dsimp only [Pt.U, Pt.locs, Pt.cells, Pt.slots] at X33 l33 y33 z33 st33 hQ33
          subst l33 y33 z33
          obtain ⟨rfl, N33q, e33⟩ := hQ33
          have N33 := Fr.app N28 N33q
          obtain ⟨fs, hr, hrun, hended, hREW⟩ := X33.leaveW hS28 (by first | exact hk28 | (rw [e33]; exact hk28)) (v := some (.int (1 : Int32))) (fun h => by rw [Bd.returns] at h; cases h)
          refine ⟨_, _, pre0 _ ?_, hrun, hended, _, _, rfl, ?_, hREW.1, hREW.2.1, hREW.2.2.1, hREW.2.2.2.mono (by decide) (by decide)⟩
          · refine k31 _ ?_
            show Steps p.tables e below (T28.setTop (mkF m 103 #[.val (.int p0), .val (.int p1), .val (.int p2), .val (.int p3), .val (.int (own_arr p0)), .val (.int (own_dep p0 p1)), .val (.ref w_GOOD), .val (.int p3), .val (.ref b27), .val (.long (p3.toInt64 - (own_arr p0).toInt64)), .second, .val (.long ((own_dep p0 p1).toInt64 - (own_arr p0).toInt64)), .second, .unset] [(.int (lcmpW (p3.toInt64 - (own_arr p0).toInt64) ((own_dep p0 p1).toInt64 - (own_arr p0).toInt64)))])) _
            refine XS.ifYes X28b.here hx rfl (pc0 := 103) (pc' := 110) rfl (hb hby at_103) rfl ((if0 _ _).trans (flt hc103).2.1) (by decide) (by decide) ?_
            show Steps p.tables e below (T28.setTop (mkF m 110 #[.val (.int p0), .val (.int p1), .val (.int p2), .val (.int p3), .val (.int (own_arr p0)), .val (.int (own_dep p0 p1)), .val (.ref w_GOOD), .val (.int p3), .val (.ref b27), .val (.long (p3.toInt64 - (own_arr p0).toInt64)), .second, .val (.long ((own_dep p0 p1).toInt64 - (own_arr p0).toInt64)), .second, .unset] [])) _
            refine XS.iconst X28b.here hx rfl (hb hby at_110) ?_
            show Steps p.tables e below (T28.setTop (mkF m 111 #[.val (.int p0), .val (.int p1), .val (.int p2), .val (.int p3), .val (.int (own_arr p0)), .val (.int (own_dep p0 p1)), .val (.ref w_GOOD), .val (.int p3), .val (.ref b27), .val (.long (p3.toInt64 - (own_arr p0).toInt64)), .second, .val (.long ((own_dep p0 p1).toInt64 - (own_arr p0).toInt64)), .second, .unset] [(.int (0 : Int32))])) _
            refine XS.istore X28b.here hx rfl (hb hby at_111) rfl (l' := #[.val (.int p0), .val (.int p1), .val (.int p2), .val (.int p3), .val (.int (own_arr p0)), .val (.int (own_dep p0 p1)), .val (.ref w_GOOD), .val (.int p3), .val (.ref b27), .val (.long (p3.toInt64 - (own_arr p0).toInt64)), .second, .val (.long ((own_dep p0 p1).toInt64 - (own_arr p0).toInt64)), .second, .val (.int (0 : Int32))]) rfl ?_
            show Steps p.tables e below (T28.setTop (mkF m 113 #[.val (.int p0), .val (.int p1), .val (.int p2), .val (.int p3), .val (.int (own_arr p0)), .val (.int (own_dep p0 p1)), .val (.ref w_GOOD), .val (.int p3), .val (.ref b27), .val (.long (p3.toInt64 - (own_arr p0).toInt64)), .second, .val (.long ((own_dep p0 p1).toInt64 - (own_arr p0).toInt64)), .second, .val (.int (0 : Int32))] [])) _
            refine XS.aload X28b.here hx rfl (hb hby at_113) rfl rfl ?_
            show Steps p.tables e below (T28.setTop (mkF m 115 #[.val (.int p0), .val (.int p1), .val (.int p2), .val (.int p3), .val (.int (own_arr p0)), .val (.int (own_dep p0 p1)), .val (.ref w_GOOD), .val (.int p3), .val (.ref b27), .val (.long (p3.toInt64 - (own_arr p0).toInt64)), .second, .val (.long ((own_dep p0 p1).toInt64 - (own_arr p0).toInt64)), .second, .val (.int (0 : Int32))] [(.ref b27)])) _
            refine XS.iload X28b.here hx rfl (hb hby at_115) rfl ?_
            show Steps p.tables e below (T28.setTop (mkF m 117 #[.val (.int p0), .val (.int p1), .val (.int p2), .val (.int p3), .val (.int (own_arr p0)), .val (.int (own_dep p0 p1)), .val (.ref w_GOOD), .val (.int p3), .val (.ref b27), .val (.long (p3.toInt64 - (own_arr p0).toInt64)), .second, .val (.long ((own_dep p0 p1).toInt64 - (own_arr p0).toInt64)), .second, .val (.int (0 : Int32))] [(.int p3), (.ref b27)])) _
            refine st33.trans ?_
            show Steps p.tables e below (T33.setTop (mkF m 120 #[.val (.int p0), .val (.int p1), .val (.int p2), .val (.int p3), .val (.int (own_arr p0)), .val (.int (own_dep p0 p1)), .val (.ref w_GOOD), .val (.int p3), .val (.ref b27), .val (.long (p3.toInt64 - (own_arr p0).toInt64)), .second, .val (.long ((own_dep p0 p1).toInt64 - (own_arr p0).toInt64)), .second, .val (.int (0 : Int32))] [(.int (own_stay (own_arr p0) (own_dep p0 p1) p3))])) _
            refine XS.iload X33.here hx rfl (hb hby at_120) rfl ?_
            show Steps p.tables e below (T33.setTop (mkF m 122 #[.val (.int p0), .val (.int p1), .val (.int p2), .val (.int p3), .val (.int (own_arr p0)), .val (.int (own_dep p0 p1)), .val (.ref w_GOOD), .val (.int p3), .val (.ref b27), .val (.long (p3.toInt64 - (own_arr p0).toInt64)), .second, .val (.long ((own_dep p0 p1).toInt64 - (own_arr p0).toInt64)), .second, .val (.int (0 : Int32))] [(.int (0 : Int32)), (.int (own_stay (own_arr p0) (own_dep p0 p1) p3))])) _
            refine XS.icmpNo X33.here hx rfl (hb hby at_122) rfl (teq (own_s2 hc95 hc103)).2 ?_
            show Steps p.tables e below (T33.setTop (mkF m 125 #[.val (.int p0), .val (.int p1), .val (.int p2), .val (.int p3), .val (.int (own_arr p0)), .val (.int (own_dep p0 p1)), .val (.ref w_GOOD), .val (.int p3), .val (.ref b27), .val (.long (p3.toInt64 - (own_arr p0).toInt64)), .second, .val (.long ((own_dep p0 p1).toInt64 - (own_arr p0).toInt64)), .second, .val (.int (0 : Int32))] [])) _
            refine XS.iconst X33.here hx rfl (hb hby at_125) ?_
            show Steps p.tables e below (T33.setTop (mkF m 126 #[.val (.int p0), .val (.int p1), .val (.int p2), .val (.int p3), .val (.int (own_arr p0)), .val (.int (own_dep p0 p1)), .val (.ref w_GOOD), .val (.int p3), .val (.ref b27), .val (.long (p3.toInt64 - (own_arr p0).toInt64)), .second, .val (.long ((own_dep p0 p1).toInt64 - (own_arr p0).toInt64)), .second, .val (.int (0 : Int32))] [(.int (1 : Int32))])) _
            refine XS.goto X33.here hx rfl (pc0 := 126) (pc' := 130) rfl (hb hby at_126) (by decide) (by decide) ?_
            show Steps p.tables e below (T33.setTop (mkF m 130 #[.val (.int p0), .val (.int p1), .val (.int p2), .val (.int p3), .val (.int (own_arr p0)), .val (.int (own_dep p0 p1)), .val (.ref w_GOOD), .val (.int p3), .val (.ref b27), .val (.long (p3.toInt64 - (own_arr p0).toInt64)), .second, .val (.long ((own_dep p0 p1).toInt64 - (own_arr p0).toInt64)), .second, .val (.int (0 : Int32))] [(.int (1 : Int32))])) _
            exact retN X33 hx (t := .boolean) Bd.returns (by simp) (hb hby at_130) hr
          · show Q_rm_law Z p0 p1 p2 p3 w_GOOD w_CHEAP h0 n0 _ T33.heap _
            rw [e33]
            exact ⟨rfl, N33, trivial⟩
set_option maxRecDepth 65536 in
set_option maxHeartbeats 40000000 in
theorem comes_1 {Post : Tables → Env → Array Value → State → Outcome → State → Prop} (hpost : ∀ tb e args s v u, (limb_1_1.after args s (.returned v) u = true ∧ limb_1_2.after args s (.returned v) u = true ∧ True) → ReturnedEndW s (.returned v) u (Jvm.fieldLocs frame_1_writes args s ++ Jvm.arrayLocs frame_1_arrays args s ++ Jvm.staticLocs frame_1_statics s) 16 2176 → Post tb e args s (.returned v) u) :
    ArmFor flags0 classFile x code maxLocals ret World_1 tables_1 room_1 Calls_1 rest_1 Pre_1 Post := by
  intro l hfl _ _ p e ha hc hk s m args below hf hA hF happ hP
  obtain ⟨hcalls, hrest, hpre⟩ := hP
  obtain ⟨-, -, -, hnamed, -, -, -, hat⟩ := (Spec.applies_iff hf).mp happ
  obtain ⟨hg, hn⟩ := and_e (Cond.before_iff.mp (show (Jvm.Cond.and given_1 narrow_1).before args s = true from hpre))
  obtain ⟨hcnt, hgv0⟩ := and_e hg
  obtain ⟨hg0, hgv1⟩ := and_e hgv0
  obtain ⟨hg1, hgv2⟩ := and_e hgv1
  obtain ⟨hg2, hgv3⟩ := and_e hgv2
  have hg3 := hgv3
  obtain ⟨w0, w1, w2, w3, rfl⟩ : ∃ w0 w1 w2 w3 : Value, args = #[w0, w1, w2, w3] := by
    have hs : args.size = 4 := by simpa [Cond.value, given_1] using hcnt
    obtain ⟨L⟩ := args
    match L, hs with
    | [w0, w1, w2, w3], _ => exact ⟨w0, w1, w2, w3, rfl⟩
  have hw := fun d (hd : d ∈ tables_1) => atoms_spec (ws := Jvm.Cond.code x code maxLocals ret :: tables_1) hat d (List.mem_cons_of_mem _ hd)
  have hfit : Fit s := fun {y c} hc i hi => by
    obtain ⟨ha, rfl⟩ := Array.getElem?_eq_some_iff.mp hc
    have q := List.all_eq_true.mp ((Array.all_eq_true_iff_forall_mem.mp hF) _ (Array.getElem_mem ha)) i (List.mem_range.mpr hi)
    simpa [Array.getElem?_eq_getElem hi] using q
  obtain ⟨i0, ei0⟩ := is_v hg0
  obtain rfl : w0 = (.int i0) := Option.some.inj ei0
  obtain ⟨i1, ei1⟩ := is_v hg1
  obtain rfl : w1 = (.int i1) := Option.some.inj ei1
  obtain ⟨i2, ei2⟩ := is_v hg2
  obtain rfl : w2 = (.int i2) := Option.some.inj ei2
  obtain ⟨i3, ei3⟩ := is_v hg3
  obtain rfl : w3 = (.int i3) := Option.some.inj ei3
  obtain ⟨hn0, hnr0⟩ := and_e hn
  have hn1 := hnr0
  obtain ⟨w_CHEAP, ev_CHEAP⟩ := exa_v hn0
  have E_CHEAP := Exa.start ev_CHEAP hn0
  have S_CHEAP : Sta s s.heap "com/example/outcry/outcry/allocation/Hotel" "CHEAP" "Lcom/example/outcry/outcry/allocation/Hotel;" (.ref w_CHEAP) := Sta.start ev_CHEAP (Or.inr ⟨(hw _ (List.mem_of_getElem? (i := 2) rfl)), (hw _ (List.mem_of_getElem? (i := 3) rfl))⟩)
  obtain ⟨w_GOOD, ev_GOOD⟩ := exa_v hn1
  have E_GOOD := Exa.start ev_GOOD hn1
  have S_GOOD : Sta s s.heap "com/example/outcry/outcry/allocation/Hotel" "GOOD" "Lcom/example/outcry/outcry/allocation/Hotel;" (.ref w_GOOD) := Sta.start ev_GOOD (Or.inr ⟨(hw _ (List.mem_of_getElem? (i := 2) rfl)), (hw _ (List.mem_of_getElem? (i := 46) rfl))⟩)
  obtain ⟨n, o, h1, h2, h3, _, L, rfl, hQL, hq⟩ := rm_law l s _ hw tables_1 i0 i1 i2 i3 w_GOOD w_CHEAP s.heap s.heap.size (Nat.le_refl _) S_GOOD S_CHEAP E_GOOD E_CHEAP p e ha hc hk s m _ below hf ((Spec.applies_iff_loose hf).mp happ).1 ⟨rfl, State.Warmed39.refl s, rfl⟩ trivial
  obtain ⟨rfl, N, -⟩ := hQL
  refine ⟨n, _, h1, h2, h3, hpost _ _ _ _ _ _ ⟨Cond.after_iff.mpr rfl, Cond.after_iff.mpr (eq_i res_at (Term.int_eval (1)) rfl), trivial⟩ ⟨hq.1, hq.2.1, hq.2.2.1, (hq.2.2.2.sift fun y hy => Or.inr (N y hy)).mono (by decide) (by decide)⟩⟩
theorem main_1_1 : Claimed_1_1 := comes_1 fun _ _ _ _ _ _ h hF => ⟨h.1, hF⟩
theorem main_1_2 : Claimed_1_2 := comes_1 fun _ _ _ _ _ _ h hF => ⟨h.2.1, hF⟩
end Jvm.Pilot.@@N@@
namespace Jvm.Pilot.@@N@@
open Jvm Jvm.ClassFile Sem Op Lib Jvm.Free Jvm.Stand Jvm.Pilot.@@N@@.Jvm.D
/-! MADE BY PROGRAM (witnessworld.py) out of the Statement's table words and the real class files: 18 classes; the members and pool entries that the words name. The judged class is class 1, her method 1. -/
namespace start1
open Jvm.ClassFile
def u (s : String) : CpInfo := .utf8 (stringToUtf16 s)
/-- a pool by its gaps: so many unusable entries, then the entry; so many at the end -/
def gap : Nat → List CpInfo → List CpInfo
  | 0, r => r
  | n + 1, r => .unusable :: gap n r
def poolList (es : List (Nat × CpInfo)) (last : Nat) : List CpInfo := es.foldr (fun e r => gap e.1 (e.2 :: r)) (gap last [])
def pool (es : List (Nat × CpInfo)) (last : Nat) : Array CpInfo := ⟨poolList es last⟩
def fileOf (pool : Array CpInfo) (this : Nat) (attrs : Array Attribute := #[]) (ms : Array MethodInfo := #[]) (fl : Nat := 33) (sup : Nat := 0) (ifs : Array Nat := #[]) (fds : Array FieldInfo := #[]) : ClassFile where
  minorVersion := 0
  majorVersion := 65
  constantPool := pool
  accessFlags := fl
  thisClass := this
  superClass := sup
  interfaces := ifs
  fields := fds
  methods := ms
  attributes := attrs
def plain (name : String) (sup : Option ClassId) : Class where
  name := name
  kind := .ordinary
  loader := none
  accessFlags := 33
  super := sup
  interfaces := #[]
  cf := none
  fields := #[]
  methods := #[]
  instanceTypes := #[]
  staticTypes := #[]
  resolved := #[]
  callSites := []
  init := .initialized
  statics := none
  mirror := none

def pool0 : Array CpInfo := pool [(5, u "<init>"), (0, u "()V"), (1, .class_ 10), (1, u "java/lang/Object")] 113

def k0c0 : Code := { maxStack := 0, maxLocals := 1, code := object_method_1_code, exceptionTable := #[], attributes := #[] }
def k0m0 : Method := { name := "<init>", desc := "()V", sig := { parameters := [], returnType := none }, accessFlags := 1, code := some k0c0 }
/-- java/lang/Object -/
def k0 : Class := { plain "java/lang/Object" none with
  accessFlags := 33
  interfaces := #[]
  cf := some (fileOf pool0 8 #[] #[{ accessFlags := 1, nameIndex := 5, descriptorIndex := 6, attributes := #[] }] 33 0 #[] #[])
  fields := #[]
  methods := #[k0m0]
  instanceTypes := #[]
  staticTypes := #[]
  resolved := Array.replicate 124 none
  statics := none }

def pool1 : Array CpInfo := pool [(2, .class_ 4), (1, u "java/lang/Object"), (0, u "<init>"), (0, u "()V"), (0, .integer 2147483647), (0, .fieldref 9 10), (0, .class_ 11), (0, .nameAndType 12 13), (0, u "com/example/outcry/outcry/allocation/Hotel"), (0, u "GOOD"), (0, u "Lcom/example/outcry/outcry/allocation/Hotel;"), (0, .fieldref 9 15), (0, .nameAndType 16 13), (0, u "CHEAP"), (0, .class_ 18), (0, u "com/example/outcry/outcry/allocation/Trip"), (0, .methodref 17 20), (0, .nameAndType 5 21), (0, u "(IILcom/example/outcry/outcry/allocation/Hotel;)V"), (0, .methodref 17 23), (0, .nameAndType 24 25), (0, u "staysNight"), (0, u "(I)Z"), (0, .class_ 27), (0, u "com/example/outcry/outcry/allocation/TripStaysNightPinLaw"), (2, u "law"), (0, u "(IIII)Z")] 3

def k1m0 : Method := { name := "<init>", desc := "()V", sig := { parameters := [], returnType := none }, accessFlags := 1, code := none }
def k1c1 : Code := { maxStack := 5, maxLocals := 14, code := code, exceptionTable := #[], attributes := #[] }
def k1m1 : Method := { name := "law", desc := "(IIII)Z", sig := { parameters := [.int, .int, .int, .int], returnType := some .boolean }, accessFlags := 9, code := some k1c1 }
/-- com/example/outcry/outcry/allocation/TripStaysNightPinLaw -/
def k1 : Class := { plain "com/example/outcry/outcry/allocation/TripStaysNightPinLaw" (some 0) with
  accessFlags := 49
  interfaces := #[]
  cf := some (fileOf pool1 26 #[] #[{ accessFlags := 1, nameIndex := 5, descriptorIndex := 6, attributes := #[] }, { accessFlags := 9, nameIndex := 30, descriptorIndex := 31, attributes := #[] }] 49 2 #[] #[])
  fields := #[]
  methods := #[k1m0, k1m1]
  instanceTypes := #[]
  staticTypes := #[]
  resolved := Array.replicate 35 none
  statics := none }

def pool2 : Array CpInfo := pool [(1, .class_ 2), (0, u "java/lang/constant/Constable"), (0, .class_ 4), (0, u "java/lang/Object")] 6

/-- java/lang/constant/Constable -/
def k2 : Class := { plain "java/lang/constant/Constable" (some 0) with
  accessFlags := 1537
  interfaces := #[]
  cf := some (fileOf pool2 1 #[] #[] 1537 3 #[] #[])
  fields := #[]
  methods := #[]
  instanceTypes := #[]
  staticTypes := #[]
  resolved := Array.replicate 11 none
  statics := none }

def pool3 : Array CpInfo := pool [(1, .class_ 2), (0, u "java/lang/Comparable"), (0, .class_ 4), (0, u "java/lang/Object")] 7

/-- java/lang/Comparable -/
def k3 : Class := { plain "java/lang/Comparable" (some 0) with
  accessFlags := 1537
  interfaces := #[]
  cf := some (fileOf pool3 1 #[] #[] 1537 3 #[] #[])
  fields := #[]
  methods := #[]
  instanceTypes := #[]
  staticTypes := #[]
  resolved := Array.replicate 12 none
  statics := none }

def pool4 : Array CpInfo := pool [(1, .class_ 2), (0, u "java/io/Serializable"), (0, .class_ 4), (0, u "java/lang/Object")] 2

/-- java/io/Serializable -/
def k4 : Class := { plain "java/io/Serializable" (some 0) with
  accessFlags := 1537
  interfaces := #[]
  cf := some (fileOf pool4 1 #[] #[] 1537 3 #[] #[])
  fields := #[]
  methods := #[]
  instanceTypes := #[]
  staticTypes := #[]
  resolved := Array.replicate 7 none
  statics := none }

def pool5 : Array CpInfo := pool [(2, .class_ 4), (1, u "java/lang/Enum"), (0, u "name"), (0, u "Ljava/lang/String;"), (2, u "ordinal"), (0, u "I"), (1, .class_ 14), (1, u "java/lang/Object"), (4, u "hash"), (86, .class_ 108), (1, u "java/lang/Enum$EnumDesc"), (2, .class_ 112), (0, u "java/lang/constant/Constable"), (0, .class_ 114), (0, u "java/lang/Comparable"), (0, .class_ 116), (0, u "java/io/Serializable")] 87

/-- java/lang/Enum -/
def k5 : Class := { plain "java/lang/Enum" (some 0) with
  accessFlags := 1057
  interfaces := #[2, 3, 4]
  cf := some (fileOf pool5 2 #[.nestMembers #[106]] #[] 1057 12 #[111, 113, 115] #[{ accessFlags := 18, nameIndex := 5, descriptorIndex := 6, attributes := #[] }, { accessFlags := 18, nameIndex := 9, descriptorIndex := 10, attributes := #[] }, { accessFlags := 2, nameIndex := 19, descriptorIndex := 10, attributes := #[] }])
  fields := #[{ name := "name", type := (.object "java/lang/String"), accessFlags := 18, slot := 0, constantValue := 0 }, { name := "ordinal", type := .int, accessFlags := 18, slot := 1, constantValue := 0 }, { name := "hash", type := .int, accessFlags := 2, slot := 2, constantValue := 0 }]
  methods := #[]
  instanceTypes := #[(.object "java/lang/String"), .int, .int]
  staticTypes := #[]
  resolved := Array.replicate 204 none
  statics := none }

def pool6 : Array CpInfo := pool [(1, .class_ 2), (0, u "com/example/outcry/outcry/allocation/Hotel"), (2, u "GOOD"), (0, u "Lcom/example/outcry/outcry/allocation/Hotel;"), (2, u "CHEAP"), (2, u "$VALUES"), (0, u "[Lcom/example/outcry/outcry/allocation/Hotel;"), (6, .class_ 22), (1, u "java/lang/Enum")] 24

/-- com/example/outcry/outcry/allocation/Hotel -/
def k6 : Class := { plain "com/example/outcry/outcry/allocation/Hotel" (some 5) with
  accessFlags := 16433
  interfaces := #[]
  cf := some (fileOf pool6 1 #[] #[] 16433 20 #[] #[{ accessFlags := 16409, nameIndex := 5, descriptorIndex := 6, attributes := #[] }, { accessFlags := 16409, nameIndex := 9, descriptorIndex := 6, attributes := #[] }, { accessFlags := 4122, nameIndex := 12, descriptorIndex := 13, attributes := #[] }])
  fields := #[{ name := "GOOD", type := (.object "com/example/outcry/outcry/allocation/Hotel"), accessFlags := 16409, slot := 0, constantValue := 0 }, { name := "CHEAP", type := (.object "com/example/outcry/outcry/allocation/Hotel"), accessFlags := 16409, slot := 1, constantValue := 0 }, { name := "$VALUES", type := (.array (.object "com/example/outcry/outcry/allocation/Hotel")), accessFlags := 4122, slot := 2, constantValue := 0 }]
  methods := #[]
  instanceTypes := #[(.object "java/lang/String"), .int, .int]
  staticTypes := #[(.object "com/example/outcry/outcry/allocation/Hotel"), (.object "com/example/outcry/outcry/allocation/Hotel"), (.array (.object "com/example/outcry/outcry/allocation/Hotel"))]
  resolved := Array.replicate 47 none
  statics := some 0 }

def pool7 : Array CpInfo := pool [(1, .methodref 2 3), (0, .class_ 4), (0, .nameAndType 5 6), (0, u "java/lang/Object"), (0, u "<init>"), (0, u "()V"), (0, .class_ 8), (0, u "java/lang/Record")] 13

def k7c0 : Code := { maxStack := 1, maxLocals := 1, code := jdk_30_method_1_code, exceptionTable := #[], attributes := #[] }
def k7m0 : Method := { name := "<init>", desc := "()V", sig := { parameters := [], returnType := none }, accessFlags := 4, code := some k7c0 }
/-- java/lang/Record -/
def k7 : Class := { plain "java/lang/Record" (some 0) with
  accessFlags := 1057
  interfaces := #[]
  cf := some (fileOf pool7 7 #[] #[{ accessFlags := 4, nameIndex := 5, descriptorIndex := 6, attributes := #[] }] 1057 2 #[] #[])
  fields := #[]
  methods := #[k7m0]
  instanceTypes := #[]
  staticTypes := #[]
  resolved := Array.replicate 22 none
  statics := none }

def pool8 : Array CpInfo := pool [(1, .methodref 2 3), (0, .class_ 4), (0, .nameAndType 5 6), (0, u "java/lang/Record"), (0, u "<init>"), (0, u "()V"), (0, .string 8), (0, u "trip"), (0, .methodref 10 11), (0, .class_ 12), (0, .nameAndType 13 14), (0, u "com/example/outcry/outcry/allocation/Trip"), (0, u "requireDays"), (0, u "(Ljava/lang/String;II)V"), (0, .string 16), (0, u "hotel"), (0, .methodref 18 19), (0, .class_ 20), (0, .nameAndType 21 22), (0, u "java/util/Objects"), (0, u "requireNonNull"), (0, u "(Ljava/lang/Object;Ljava/lang/String;)Ljava/lang/Object;"), (0, .fieldref 10 24), (0, .nameAndType 25 26), (0, u "arrival"), (0, u "I"), (0, .fieldref 10 28), (0, .nameAndType 29 26), (0, u "departure"), (0, .fieldref 10 31), (0, .nameAndType 16 32), (0, u "Lcom/example/outcry/outcry/allocation/Hotel;"), (33, u "FIRST_DAY"), (2, u "LAST_DAY"), (1, u "(IILcom/example/outcry/outcry/allocation/Hotel;)V"), (3, u "staysNight"), (0, u "(I)Z")] 27

def k8c0 : Code := { maxStack := 3, maxLocals := 4, code := prog_46_method_1_code, exceptionTable := #[], attributes := #[] }
def k8m0 : Method := { name := "<init>", desc := "(IILcom/example/outcry/outcry/allocation/Hotel;)V", sig := { parameters := [.int, .int, (.object "com/example/outcry/outcry/allocation/Hotel")], returnType := none }, accessFlags := 1, code := some k8c0 }
def k8c1 : Code := { maxStack := 2, maxLocals := 2, code := prog_46_method_2_code, exceptionTable := #[], attributes := #[] }
def k8m1 : Method := { name := "staysNight", desc := "(I)Z", sig := { parameters := [.int], returnType := some .boolean }, accessFlags := 1, code := some k8c1 }
def k8c2 : Code := { maxStack := 7, maxLocals := 3, code := prog_46_method_3_code, exceptionTable := #[], attributes := #[] }
def k8m2 : Method := { name := "requireDays", desc := "(Ljava/lang/String;II)V", sig := { parameters := [(.object "java/lang/String"), .int, .int], returnType := none }, accessFlags := 8, code := some k8c2 }
/-- com/example/outcry/outcry/allocation/Trip -/
def k8 : Class := { plain "com/example/outcry/outcry/allocation/Trip" (some 7) with
  accessFlags := 49
  interfaces := #[]
  cf := some (fileOf pool8 10 #[] #[{ accessFlags := 1, nameIndex := 5, descriptorIndex := 71, attributes := #[] }, { accessFlags := 1, nameIndex := 75, descriptorIndex := 76, attributes := #[] }, { accessFlags := 8, nameIndex := 13, descriptorIndex := 14, attributes := #[] }] 49 2 #[] #[{ accessFlags := 18, nameIndex := 25, descriptorIndex := 26, attributes := #[] }, { accessFlags := 18, nameIndex := 29, descriptorIndex := 26, attributes := #[] }, { accessFlags := 18, nameIndex := 16, descriptorIndex := 32, attributes := #[] }, { accessFlags := 25, nameIndex := 66, descriptorIndex := 26, attributes := #[] }, { accessFlags := 25, nameIndex := 69, descriptorIndex := 26, attributes := #[] }])
  fields := #[{ name := "arrival", type := .int, accessFlags := 18, slot := 0, constantValue := 0 }, { name := "departure", type := .int, accessFlags := 18, slot := 1, constantValue := 0 }, { name := "hotel", type := (.object "com/example/outcry/outcry/allocation/Hotel"), accessFlags := 18, slot := 2, constantValue := 0 }, { name := "FIRST_DAY", type := .int, accessFlags := 25, slot := 0, constantValue := 0 }, { name := "LAST_DAY", type := .int, accessFlags := 25, slot := 1, constantValue := 0 }]
  methods := #[k8m0, k8m1, k8m2]
  instanceTypes := #[.int, .int, (.object "com/example/outcry/outcry/allocation/Hotel")]
  staticTypes := #[.int, .int]
  resolved := Array.replicate 104 none
  statics := none }

def pool9 : Array CpInfo := pool [(2, .class_ 4), (1, u "java/lang/CharSequence"), (42, .class_ 48), (0, u "java/lang/CharSequence$1CodePointIterator"), (10, .class_ 60), (0, u "java/lang/CharSequence$1CharIterator"), (5, .class_ 67), (0, u "java/lang/Object")] 63

/-- java/lang/CharSequence -/
def k9 : Class := { plain "java/lang/CharSequence" (some 0) with
  accessFlags := 1537
  interfaces := #[]
  cf := some (fileOf pool9 2 #[.nestMembers #[47, 59]] #[] 1537 66 #[] #[])
  fields := #[]
  methods := #[]
  instanceTypes := #[]
  staticTypes := #[]
  resolved := Array.replicate 131 none
  statics := none }

def pool10 : Array CpInfo := pool [(1, .class_ 2), (0, u "java/lang/constant/ConstantDesc"), (0, .class_ 4), (0, u "java/lang/Object")] 32

/-- java/lang/constant/ConstantDesc -/
def k10 : Class := { plain "java/lang/constant/ConstantDesc" (some 0) with
  accessFlags := 1537
  interfaces := #[]
  cf := some (fileOf pool10 1 #[] #[] 1537 3 #[] #[])
  fields := #[]
  methods := #[]
  instanceTypes := #[]
  staticTypes := #[]
  resolved := Array.replicate 37 none
  statics := none }

def pool11 : Array CpInfo := pool [(2, .class_ 4), (1, u "java/lang/Object"), (0, u "<init>"), (0, u "()V"), (3, .class_ 12), (1, u "java/lang/String"), (0, u "value"), (0, u "[B"), (2, u "coder"), (0, u "B"), (2, u "hash"), (0, u "I"), (2, u "hashIsZero"), (0, u "Z"), (13, u "COMPACT_STRINGS"), (534, .class_ 576), (0, u "java/lang/CharSequence"), (22, u "CASE_INSENSITIVE_ORDER"), (0, u "Ljava/util/Comparator;"), (500, u "serialPersistentFields"), (0, u "[Ljava/io/ObjectStreamField;"), (0, .class_ 1104), (0, u "java/lang/String$CaseInsensitiveComparator"), (1, .class_ 1107), (0, u "java/io/Serializable"), (0, .class_ 1109), (0, u "java/lang/Comparable"), (0, .class_ 1111), (0, u "java/lang/constant/Constable"), (0, .class_ 1113), (0, u "java/lang/constant/ConstantDesc"), (2, u "serialVersionUID"), (0, u "J"), (3, u "REPL"), (0, u "C"), (2, u "LATIN1"), (1, u "UTF16")] 323

def k11m0 : Method := { name := "<init>", desc := "()V", sig := { parameters := [], returnType := none }, accessFlags := 1, code := none }
/-- java/lang/String -/
def k11 : Class := { plain "java/lang/String" (some 0) with
  accessFlags := 49
  interfaces := #[4, 3, 9, 2, 10]
  cf := some (fileOf pool11 10 #[.nestMembers #[1103]] #[{ accessFlags := 1, nameIndex := 5, descriptorIndex := 6, attributes := #[] }] 49 2 #[1106, 1108, 575, 1110, 1112] #[{ accessFlags := 18, nameIndex := 13, descriptorIndex := 14, attributes := #[] }, { accessFlags := 18, nameIndex := 17, descriptorIndex := 18, attributes := #[] }, { accessFlags := 2, nameIndex := 21, descriptorIndex := 22, attributes := #[] }, { accessFlags := 2, nameIndex := 25, descriptorIndex := 26, attributes := #[] }, { accessFlags := 26, nameIndex := 1116, descriptorIndex := 1117, attributes := #[] }, { accessFlags := 24, nameIndex := 40, descriptorIndex := 26, attributes := #[] }, { accessFlags := 26, nameIndex := 1101, descriptorIndex := 1102, attributes := #[] }, { accessFlags := 26, nameIndex := 1121, descriptorIndex := 1122, attributes := #[] }, { accessFlags := 25, nameIndex := 599, descriptorIndex := 600, attributes := #[] }, { accessFlags := 24, nameIndex := 1125, descriptorIndex := 18, attributes := #[] }, { accessFlags := 24, nameIndex := 1127, descriptorIndex := 18, attributes := #[] }])
  fields := #[{ name := "value", type := (.array .byte), accessFlags := 18, slot := 0, constantValue := 0 }, { name := "coder", type := .byte, accessFlags := 18, slot := 1, constantValue := 0 }, { name := "hash", type := .int, accessFlags := 2, slot := 2, constantValue := 0 }, { name := "hashIsZero", type := .boolean, accessFlags := 2, slot := 3, constantValue := 0 }, { name := "serialVersionUID", type := .long, accessFlags := 26, slot := 0, constantValue := 0 }, { name := "COMPACT_STRINGS", type := .boolean, accessFlags := 24, slot := 1, constantValue := 0 }, { name := "serialPersistentFields", type := (.array (.object "java/io/ObjectStreamField")), accessFlags := 26, slot := 2, constantValue := 0 }, { name := "REPL", type := .char, accessFlags := 26, slot := 3, constantValue := 0 }, { name := "CASE_INSENSITIVE_ORDER", type := (.object "java/util/Comparator"), accessFlags := 25, slot := 4, constantValue := 0 }, { name := "LATIN1", type := .byte, accessFlags := 24, slot := 5, constantValue := 0 }, { name := "UTF16", type := .byte, accessFlags := 24, slot := 6, constantValue := 0 }]
  methods := #[k11m0]
  instanceTypes := #[(.array .byte), .byte, .int, .boolean]
  staticTypes := #[.long, .boolean, (.array (.object "java/io/ObjectStreamField")), .char, (.object "java/util/Comparator"), .byte, .byte]
  resolved := Array.replicate 1451 none
  statics := none }

def pool12 : Array CpInfo := pool [(2, .class_ 4), (1, u "java/lang/Object"), (0, u "<init>"), (0, u "()V"), (35, .class_ 44), (1, u "java/util/Objects"), (0, u "requireNonNull"), (48, u "(Ljava/lang/Object;Ljava/lang/String;)Ljava/lang/Object;")] 89

def k12m0 : Method := { name := "<init>", desc := "()V", sig := { parameters := [], returnType := none }, accessFlags := 2, code := none }
def k12c1 : Code := { maxStack := 3, maxLocals := 2, code := jdk_31_method_11_code, exceptionTable := #[], attributes := #[] }
def k12m1 : Method := { name := "requireNonNull", desc := "(Ljava/lang/Object;Ljava/lang/String;)Ljava/lang/Object;", sig := { parameters := [(.object "java/lang/Object"), (.object "java/lang/String")], returnType := some (.object "java/lang/Object") }, accessFlags := 9, code := some k12c1 }
/-- java/util/Objects -/
def k12 : Class := { plain "java/util/Objects" (some 0) with
  accessFlags := 49
  interfaces := #[]
  cf := some (fileOf pool12 42 #[] #[{ accessFlags := 2, nameIndex := 5, descriptorIndex := 6, attributes := #[] }, { accessFlags := 9, nameIndex := 45, descriptorIndex := 94, attributes := #[] }] 49 2 #[] #[])
  fields := #[]
  methods := #[k12m0, k12m1]
  instanceTypes := #[]
  staticTypes := #[]
  resolved := Array.replicate 184 none
  statics := none }

def pool13 : Array CpInfo := pool [(1, u "java/lang/Cloneable"), (0, .class_ 1), (0, u "java/lang/Object"), (0, .class_ 3)] 3

/-- java/lang/Cloneable -/
def k13 : Class := { plain "java/lang/Cloneable" (some 0) with
  accessFlags := 1537
  interfaces := #[]
  cf := some (fileOf pool13 2 #[] #[] 1537 4 #[] #[])
  fields := #[]
  methods := #[]
  instanceTypes := #[]
  staticTypes := #[]
  resolved := Array.replicate 8 none
  statics := none }

/-- the primitive byte -/
def k14 : Class := { plain "byte" none with kind := .primitive 'B', accessFlags := 0x411 }
/-- [B -/
def k15 : Class := { plain "[B" (some 0) with kind := .array 14 .byte, interfaces := #[13, 4], accessFlags := 1041 }

/-- the primitive int -/
def k16 : Class := { plain "int" none with kind := .primitive 'I', accessFlags := 0x411 }
/-- [I -/
def k17 : Class := { plain "[I" (some 0) with kind := .array 16 .int, interfaces := #[13, 4], accessFlags := 1041 }

def heap : Heap := #[{ cls := 6, slots := #[.ref 2, .ref 1, .null], vm := .statics 6 },
  { cls := 6, slots := #[.null, .int 0, .int 0], vm := .none },
  { cls := 6, slots := #[.null, .int 0, .int 0], vm := .none }]
def classes : Array Class := #[k0, k1, k2, k3, k4, k5, k6, k7, k8, k9, k10, k11, k12, k13, k14, k15, k16, k17]
def interned : List (Array UInt16 × Addr) := []
def slotsUsed : Nat := 9
def theMethod : MethodId := ⟨1, 1⟩
def args0 : Array Value := #[.int 5, .int 5, .int 5, .int 5]
def aboutOver (below : List Frame) : State where
  vm := { classes := classes, interned := interned.toArray }
  heap := heap
  slotsUsed := slotsUsed
  threads := #[{ frames := .invoking theMethod args0 :: below }]
def below0 : List Frame := [.native { method := ⟨0, 0⟩, args := #[] }]
def about1 : State := aboutOver below0
def p0 : Program := .bare "" "" ""
def e0 : Env := launch0.env 0 0 0
theorem w_frames : about1.frames = Frame.invoking theMethod args0 :: below0 := rfl
set_option maxRecDepth 65536 in
theorem w_args : argsFit about1.vm theMethod args0 = true := by decide +kernel
set_option maxRecDepth 65536 in
theorem w_heap : heapFits about1 = true := by decide +kernel
set_option maxRecDepth 65536 in
theorem w_runnable : about1.curStatus? = some .runnable := by decide +kernel
set_option maxRecDepth 65536 in
theorem w_alone : about1.alone = true := by decide +kernel
set_option maxRecDepth 65536 in
theorem w_named : about1.methodNamed? x = some theMethod := by decide +kernel
set_option maxRecDepth 65536 in
theorem w_hears : about1.hears theMethod below0 = true := by decide +kernel
set_option maxRecDepth 65536 in
theorem w_ripe : about1.ripe theMethod args0 below0 = true := by decide +kernel
theorem w_running : about1.status = .running := rfl
set_option maxRecDepth 65536 in
theorem w_room : about1.hasRoom e0.platform room_1 = true :=
  launch0.hasRoom_least _ room_1 (by decide +kernel) (by decide +kernel) (by decide +kernel) (by decide +kernel) (by decide +kernel) (by decide +kernel)
theorem allAtoms_all (ts : List Jvm.Cond) (a : Array Jvm.Value) (st : Jvm.State) : (allAtoms ts).before a st = ts.all (fun c => c.before a st) := by
  induction ts with
  | nil => rfl
  | cons c t ih =>
    show (Jvm.Cond.and c (allAtoms t)).before a st = _
    rw [Jvm.Cond.before_and, ih, List.all_cons]
def words1 : List Jvm.Cond := Jvm.Cond.code x code maxLocals ret :: tables_1
/-- a 'code' word, met by the world's own term for the bytes: nothing is compared byte by byte -/
theorem code_word {y : MethodName} {bytes : ByteArray} {mx : Nat} {rt : Option FieldType} {a : Array Value} {s : State} {m : MethodId} {meth : Method} {c : Code} (h1 : s.methodNamed? y = some m) (h2 : s.vm.method? m = some meth) (h3 : meth.code = some c) (h4 : c.code = bytes)
    (h5 : (c.maxLocals == mx && c.exceptionTable.isEmpty && decide (c.maxStack ≤ mostOperands) && decide (meth.sig.returnType = rt) && !meth.locks && decide (parseMethodDescriptor y.desc = some meth.sig)) = true) : (Jvm.Cond.code y bytes mx rt).before a s = true := by
  simp only [Bool.and_eq_true, beq_iff_eq, Bool.not_eq_true', decide_eq_true_eq] at h5
  obtain ⟨⟨⟨⟨⟨g1, g2⟩, g3⟩, g4⟩, g5⟩, g6⟩ := h5
  simp [Cond.before, Cond.holds, Cond.value, h1, h2, h3, h4, g1, g2, g3, g4, g5, g6]
def isCode : Jvm.Cond → Bool
  | .code _ _ _ _ => true
  | _ => false
theorem all_split {L : List Jvm.Cond} {P : Jvm.Cond → Bool} (h1 : L.all (fun c => isCode c || P c) = true) (h2 : ∀ c ∈ L.filter isCode, P c = true) : L.all P = true := by
  refine List.all_eq_true.mpr fun c hc => ?_
  have h := List.all_eq_true.mp h1 c hc
  rcases Bool.eq_false_or_eq_true (isCode c) with hi | hi
  · exact h2 c (List.mem_filter.mpr ⟨hc, hi⟩)
  · simpa [hi] using h
set_option maxRecDepth 65536 in
theorem w_c0 : (Jvm.Cond.code x code maxLocals ret).before args0 about1 = true := code_word (m := ⟨1, 1⟩) (meth := k1m1) (c := k1c1) (by decide +kernel) rfl rfl rfl (by decide +kernel)
set_option maxRecDepth 65536 in
theorem w_c1 : (Jvm.Cond.code ({ cls := "com/example/outcry/outcry/allocation/Trip", name := "<init>", desc := "(IILcom/example/outcry/outcry/allocation/Hotel;)V" } : Jvm.MethodName) prog_46_method_1_code (4 : Nat) (Option.none : Option Jvm.ClassFile.FieldType)).before args0 about1 = true := code_word (m := ⟨8, 0⟩) (meth := k8m0) (c := k8c0) (by decide +kernel) rfl rfl rfl (by decide +kernel)
set_option maxRecDepth 65536 in
theorem w_c2 : (Jvm.Cond.code ({ cls := "java/lang/Record", name := "<init>", desc := "()V" } : Jvm.MethodName) jdk_30_method_1_code (1 : Nat) (Option.none : Option Jvm.ClassFile.FieldType)).before args0 about1 = true := code_word (m := ⟨7, 0⟩) (meth := k7m0) (c := k7c0) (by decide +kernel) rfl rfl rfl (by decide +kernel)
set_option maxRecDepth 65536 in
theorem w_c3 : (Jvm.Cond.code ({ cls := "java/lang/Object", name := "<init>", desc := "()V" } : Jvm.MethodName) object_method_1_code (1 : Nat) (Option.none : Option Jvm.ClassFile.FieldType)).before args0 about1 = true := code_word (m := ⟨0, 0⟩) (meth := k0m0) (c := k0c0) (by decide +kernel) rfl rfl rfl (by decide +kernel)
set_option maxRecDepth 65536 in
theorem w_c4 : (Jvm.Cond.code ({ cls := "com/example/outcry/outcry/allocation/Trip", name := "requireDays", desc := "(Ljava/lang/String;II)V" } : Jvm.MethodName) prog_46_method_3_code (3 : Nat) (Option.none : Option Jvm.ClassFile.FieldType)).before args0 about1 = true := code_word (m := ⟨8, 2⟩) (meth := k8m2) (c := k8c2) (by decide +kernel) rfl rfl rfl (by decide +kernel)
set_option maxRecDepth 65536 in
theorem w_c5 : (Jvm.Cond.code ({ cls := "java/util/Objects", name := "requireNonNull", desc := "(Ljava/lang/Object;Ljava/lang/String;)Ljava/lang/Object;" } : Jvm.MethodName) jdk_31_method_11_code (2 : Nat) (Option.some (Jvm.ClassFile.FieldType.object "java/lang/Object"))).before args0 about1 = true := code_word (m := ⟨12, 1⟩) (meth := k12m1) (c := k12c1) (by decide +kernel) rfl rfl rfl (by decide +kernel)
set_option maxRecDepth 65536 in
theorem w_c6 : (Jvm.Cond.code ({ cls := "com/example/outcry/outcry/allocation/Trip", name := "staysNight", desc := "(I)Z" } : Jvm.MethodName) prog_46_method_2_code (2 : Nat) (Option.some Jvm.ClassFile.FieldType.boolean)).before args0 about1 = true := code_word (m := ⟨8, 1⟩) (meth := k8m1) (c := k8c1) (by decide +kernel) rfl rfl rfl (by decide +kernel)
def codes1 : List Jvm.Cond := [Jvm.Cond.code x code maxLocals ret, Jvm.Cond.code ({ cls := "com/example/outcry/outcry/allocation/Trip", name := "<init>", desc := "(IILcom/example/outcry/outcry/allocation/Hotel;)V" } : Jvm.MethodName) prog_46_method_1_code (4 : Nat) (Option.none : Option Jvm.ClassFile.FieldType), Jvm.Cond.code ({ cls := "java/lang/Record", name := "<init>", desc := "()V" } : Jvm.MethodName) jdk_30_method_1_code (1 : Nat) (Option.none : Option Jvm.ClassFile.FieldType), Jvm.Cond.code ({ cls := "java/lang/Object", name := "<init>", desc := "()V" } : Jvm.MethodName) object_method_1_code (1 : Nat) (Option.none : Option Jvm.ClassFile.FieldType), Jvm.Cond.code ({ cls := "com/example/outcry/outcry/allocation/Trip", name := "requireDays", desc := "(Ljava/lang/String;II)V" } : Jvm.MethodName) prog_46_method_3_code (3 : Nat) (Option.none : Option Jvm.ClassFile.FieldType), Jvm.Cond.code ({ cls := "java/util/Objects", name := "requireNonNull", desc := "(Ljava/lang/Object;Ljava/lang/String;)Ljava/lang/Object;" } : Jvm.MethodName) jdk_31_method_11_code (2 : Nat) (Option.some (Jvm.ClassFile.FieldType.object "java/lang/Object")), Jvm.Cond.code ({ cls := "com/example/outcry/outcry/allocation/Trip", name := "staysNight", desc := "(I)Z" } : Jvm.MethodName) prog_46_method_2_code (2 : Nat) (Option.some Jvm.ClassFile.FieldType.boolean)]
set_option maxRecDepth 65536 in
theorem codes_eq : words1.filter isCode = codes1 := rfl
theorem w_codes : ∀ c ∈ words1.filter isCode, c.before args0 about1 = true := by
  rw [codes_eq]
  intro c hc
  simp only [codes1, List.mem_cons, List.not_mem_nil, or_false] at hc
  rcases hc with rfl | rfl | rfl | rfl | rfl | rfl | rfl
  · exact w_c0
  · exact w_c1
  · exact w_c2
  · exact w_c3
  · exact w_c4
  · exact w_c5
  · exact w_c6
set_option maxRecDepth 65536 in
theorem w_t1 : (words1.take 24).all (fun c => isCode c || c.before args0 about1) = true := by decide +kernel
set_option maxRecDepth 65536 in
theorem w_t2 : (words1.drop 24).all (fun c => isCode c || c.before args0 about1) = true := by decide +kernel
theorem w_tables : (allAtoms (Jvm.Cond.code x code maxLocals ret :: tables_1)).before args0 about1 = true := by
  rw [allAtoms_all]
  show words1.all (fun c => c.before args0 about1) = true
  refine all_split ?_ w_codes
  rw [← List.take_append_drop 24 words1, List.all_append, w_t1, w_t2]
  rfl
set_option maxRecDepth 65536 in
theorem w_case : (Jvm.Cond.and given_1 narrow_1).before args0 about1 = true := by decide +kernel
theorem w_applies : (headSpec (Jvm.Cond.code x code maxLocals ret :: tables_1) room_1).applies x e0.platform about1 = true :=
  (Spec.applies_iff w_frames).mpr ⟨w_running, w_runnable, w_alone, w_named, w_hears, w_ripe, w_room, w_tables⟩
theorem atStart : AtStart classFile x code maxLocals ret World_1 tables_1 room_1 Calls_1 rest_1 Pre_1 launch0 p0 e0 about1 theMethod args0 below0 :=
  ⟨lists_1, trivial, launch0.admits_env _ _ _, launch0.least_env, fairChoices_fair.cas, fairChoices_fair.clock, w_frames, w_args, w_heap, w_applies, trivial, trivial, w_case⟩
end start1
theorem witness_1 : WitnessClaimed_1 := ⟨start1.p0, start1.e0, start1.about1, start1.theMethod, start1.args0, start1.below0, start1.atStart⟩
end Jvm.Pilot.@@N@@
