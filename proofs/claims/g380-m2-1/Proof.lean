import JvmDerived
import JvmDerived.Pilot.@@N@@Statement
import JvmDerived.Pilot.@@N@@Code
set_option linter.unusedVariables false
set_option linter.unusedSimpArgs false

namespace Jvm.RoadKit
open Sem ClassFile Op Lib Jvm.Stand Jvm.Free Jvm.LawKit
section New
variable {p : Program} {l : Launch} {e : Env} {R : Room} {s : State} {m : MethodId} {args : Array Value} {below : List Frame} {meth : Method} {c : Code} {T : State} {locs : List Loc} {cells slots : Nat}
theorem retI (X : Stand p l e R s m args below meth c T locs cells slots) (hx : p.tables.exec = Jvm.exec) {pc : Nat} {Ls : Array Slot} {z : Int32} {rest : List Value} (hret : meth.sig.returnType = some .int) (hd : decode c.code pc = .ok (.ireturn, 1)) {fs : List Frame}
    (hl : ∀ (f : JFrame) (acts : List Action), f.method = m → f.locked = none → f.entered = [] → (doReturn e (T.setTop f) acts (some (.int z))).1 = T.setFrames fs) : Steps p.tables e below (T.setTop (mkF m pc Ls (.int z :: rest))) (T.setFrames fs) := by
  have hm' : T.vm.method? m = some meth := X.method'
  have hn : narrow .int (.int z) = .int z := rfl
  show Steps p.tables e below (T.setTop { method := m, pc := pc, locals := Ls, stack := _ :: rest, locked := none }) _
  jvm_step X.here [X.here.top, hx, hd, hm', hret, hn]
  first | (intro acts; rw [hl _ acts rfl rfl rfl]) | rw [hl _ _ rfl rfl rfl]
  exact Steps.refl _
end New
end Jvm.RoadKit

namespace Jvm.Pilot.@@N@@
open Jvm Jvm.ClassFile Sem Op Lib Jvm.Free Jvm.Stand Jvm.LawKit Jvm.RoadKit Bundle Jvm.Pilot.@@N@@.Jvm.D
def own_hex (c : Int32) : Int32 := if (¬ c < 48 ∧ ¬ 57 < c) ∨ (¬ c < 97 ∧ ¬ 102 < c) ∨ (¬ c < 65 ∧ ¬ 70 < c) then 1 else 0
theorem own_or_small : ∀ n : Fin 128, (97 ≤ (n.val ||| 32) ∧ (n.val ||| 32) ≤ 102) ↔ ((97 ≤ n.val ∧ n.val ≤ 102) ∨ (65 ≤ n.val ∧ n.val ≤ 70)) := by decide
theorem own_or (c : Int32) : (97 ≤ (c ||| 32).toInt ∧ (c ||| 32).toInt ≤ 102) ↔ ((97 ≤ c.toInt ∧ c.toInt ≤ 102) ∨ (65 ≤ c.toInt ∧ c.toInt ≤ 70)) := by
  have hb : (c ||| 32).toInt = (c.toBitVec ||| 32#32).toInt := rfl
  have hc : c.toInt = c.toBitVec.toInt := rfl
  rw [hb, hc]
  generalize c.toBitVec = b
  have hn : (b ||| 32#32).toNat = b.toNat ||| 32 := by rw [BitVec.toNat_or]; rfl
  have hl : b.toNat ≤ (b.toNat ||| 32) := Nat.left_le_or
  have hm : (b ||| 32#32).msb = b.msb := by rw [BitVec.msb_or]; simp [show (32#32 : BitVec 32).msb = false from by decide]
  have lt1 := b.isLt
  have lt2 := (b ||| 32#32).isLt
  rw [BitVec.toInt_eq_msb_cond, BitVec.toInt_eq_msb_cond, hm]
  by_cases q : b.msb = true
  · rw [if_pos q, if_pos q]
    omega
  · rw [if_neg q, if_neg q, hn]
    by_cases r : b.toNat < 128
    · have := own_or_small ⟨b.toNat, r⟩
      simp only at this
      omega
    · omega
theorem own_i2l (c : Int32) : c.toInt64.toInt = c.toInt := Int32.toInt_toInt64 c
theorem own_bnd (c : Int32) : -2147483648 ≤ c.toInt ∧ c.toInt < 2147483648 := ⟨Int32.le_toInt c, Int32.toInt_lt c⟩
theorem own_sub (c : Int32) (k : Int64) (h0 : 0 ≤ k.toInt) (h1 : k.toInt < 1000) : (c.toInt64 - k).toInt = c.toInt - k.toInt := by
  have := own_bnd c
  rw [Int64.toInt_sub, own_i2l]
  exact Int.bmod_eq_of_le (by omega) (by omega)
theorem own_lc (c : Int32) (k m : Int64) (h0 : 0 ≤ k.toInt) (h1 : k.toInt < 1000) : lcmpW (c.toInt64 - k) m < 0 ↔ c.toInt < k.toInt + m.toInt := by
  rw [lcW, lc_lt, Int64.lt_iff_toInt_lt, own_sub c k h0 h1]; omega
theorem own_hex_iff (c : Int32) : own_hex c = 1 ↔ ((48 ≤ c.toInt ∧ c.toInt ≤ 57) ∨ (97 ≤ c.toInt ∧ c.toInt ≤ 102) ∨ (65 ≤ c.toInt ∧ c.toInt ≤ 70)) := by
  unfold own_hex
  have e48 : (48 : Int32).toInt = 48 := rfl
  have e57 : (57 : Int32).toInt = 57 := rfl
  have e97 : (97 : Int32).toInt = 97 := rfl
  have e102 : (102 : Int32).toInt = 102 := rfl
  have e65 : (65 : Int32).toInt = 65 := rfl
  have e70 : (70 : Int32).toInt = 70 := rfl
  simp only [Int32.lt_iff_toInt_lt, e48, e57, e97, e102, e65, e70]
  split
  · simp; omega
  · simp; omega
theorem own_hex_01 (c : Int32) : own_hex c = 0 ∨ own_hex c = 1 := by unfold own_hex; split <;> simp
theorem own_hex_d {c : Int32} (h1 : ¬ lcmpW (c.toInt64 - 48) 0 < 0) (h2 : lcmpW (c.toInt64 - 48) 10 < 0) : own_hex c = 1 := by
  rw [own_lc _ _ _ (by decide) (by decide)] at h1 h2
  have e48 : (48 : Int64).toInt = 48 := rfl
  have e0 : (0 : Int64).toInt = 0 := rfl
  have e10 : (10 : Int64).toInt = 10 := rfl
  rw [own_hex_iff]; omega
theorem own_hex_l {c : Int32} (h1 : ¬ lcmpW ((c ||| 32).toInt64 - 97) 0 < 0) (h2 : lcmpW ((c ||| 32).toInt64 - 97) 6 < 0) : own_hex c = 1 := by
  rw [own_lc _ _ _ (by decide) (by decide)] at h1 h2
  have e97 : (97 : Int64).toInt = 97 := rfl
  have e0 : (0 : Int64).toInt = 0 := rfl
  have e6 : (6 : Int64).toInt = 6 := rfl
  rw [own_hex_iff]
  have := (own_or c).mp (by omega)
  omega
theorem own_hex_n {c : Int32} (h : lcmpW (c.toInt64 - 48) 0 < 0 ∨ ¬ lcmpW (c.toInt64 - 48) 10 < 0) (k : lcmpW ((c ||| 32).toInt64 - 97) 0 < 0 ∨ ¬ lcmpW ((c ||| 32).toInt64 - 97) 6 < 0) : own_hex c = 0 := by
  simp only [own_lc _ _ _ (show 0 ≤ (48 : Int64).toInt by decide) (show (48 : Int64).toInt < 1000 by decide), own_lc _ _ _ (show 0 ≤ (97 : Int64).toInt by decide) (show (97 : Int64).toInt < 1000 by decide)] at h k
  rcases own_hex_01 c with q | q
  · exact q
  · exfalso
    have q := (own_hex_iff c).mp q
    have := own_or c
    have e48 : (48 : Int64).toInt = 48 := rfl
    have e97 : (97 : Int64).toInt = 97 := rfl
    have e0 : (0 : Int64).toInt = 0 := rfl
    have e6 : (6 : Int64).toInt = 6 := rfl
    have e10 : (10 : Int64).toInt = 10 := rfl
    rw [e48, e0, e10] at h
    rw [e97, e0, e6] at k
    omega
theorem d1_0 : decode prog_52_method_9_code 0 = .ok (.iload_n 0, 1) := by decide +kernel
theorem d1_1 : decode prog_52_method_9_code 1 = .ok (.bipush 48, 2) := by decide +kernel
theorem d1_3 : decode prog_52_method_9_code 3 = .ok (.if_icmp .lt 9, 3) := by decide +kernel
theorem d1_12 : decode prog_52_method_9_code 12 = .ok (.iload_n 0, 1) := by decide +kernel
theorem d1_13 : decode prog_52_method_9_code 13 = .ok (.bipush 97, 2) := by decide +kernel
theorem d1_15 : decode prog_52_method_9_code 15 = .ok (.if_icmp .lt 9, 3) := by decide +kernel
theorem d1_24 : decode prog_52_method_9_code 24 = .ok (.iload_n 0, 1) := by decide +kernel
theorem d1_25 : decode prog_52_method_9_code 25 = .ok (.bipush 65, 2) := by decide +kernel
theorem d1_27 : decode prog_52_method_9_code 27 = .ok (.if_icmp .lt 13, 3) := by decide +kernel
theorem d1_40 : decode prog_52_method_9_code 40 = .ok (.iconst 0, 1) := by decide +kernel
theorem d1_41 : decode prog_52_method_9_code 41 = .ok (.ireturn, 1) := by decide +kernel
theorem d1_30 : decode prog_52_method_9_code 30 = .ok (.iload_n 0, 1) := by decide +kernel
theorem d1_31 : decode prog_52_method_9_code 31 = .ok (.bipush 70, 2) := by decide +kernel
theorem d1_33 : decode prog_52_method_9_code 33 = .ok (.if_icmp .gt 7, 3) := by decide +kernel
theorem d1_36 : decode prog_52_method_9_code 36 = .ok (.iconst 1, 1) := by decide +kernel
theorem d1_37 : decode prog_52_method_9_code 37 = .ok (.goto 4, 3) := by decide +kernel
theorem d1_18 : decode prog_52_method_9_code 18 = .ok (.iload_n 0, 1) := by decide +kernel
theorem d1_19 : decode prog_52_method_9_code 19 = .ok (.bipush 102, 2) := by decide +kernel
theorem d1_21 : decode prog_52_method_9_code 21 = .ok (.if_icmp .le 15, 3) := by decide +kernel
theorem d1_6 : decode prog_52_method_9_code 6 = .ok (.iload_n 0, 1) := by decide +kernel
theorem d1_7 : decode prog_52_method_9_code 7 = .ok (.bipush 57, 2) := by decide +kernel
theorem d1_9 : decode prog_52_method_9_code 9 = .ok (.if_icmp .le 27, 3) := by decide +kernel
theorem pn_0 : plainName "com/example/ambit/ambit/SourceReader" = true := by first | (simp [plainName, overriddenIn]; done) | decide +kernel
theorem ef_1 (m : MethodId) (x0 : Int32) : entryFrame m #[(.int x0)] 1 = mkF m 0 #[.val (.int x0)] [] := by first | (simp [entryFrame, mkF, argsToLocals, Value.category]; done) | rfl
def Q_rm_hex (Z : State) (p0 : Int32) (h0 : Heap) (n0 : Nat) (v : Option Value) (h : Heap) (L : List Loc) : Prop := v = some (.int (own_hex p0)) ∧ Fr n0 L ∧ h = h0
set_option maxRecDepth 65536 in
set_option maxHeartbeats 40000000 in
theorem rm_hex (l : Launch) (Z : State) (a0 : Array Value) (hw : ∀ d ∈ tables_1, d.before a0 Z = true) (ws : List Jvm.Cond) (p0 : Int32) (h0 : Heap) (n0 : Nat) (Z0 : n0 ≤ h0.size)  :
    MetFree l (⟨"com/example/ambit/ambit/SourceReader", "isHexDigit", "(I)Z"⟩ : MethodName) (head1 (Jvm.Cond.code (⟨"com/example/ambit/ambit/SourceReader", "isHexDigit", "(I)Z"⟩ : MethodName) prog_52_method_9_code 1 (some .boolean) :: ws) ({ frames := 0, cells := 0, slots := 0, locals := 0 } : Room)) (fun a U => a = #[(.int p0)] ∧ Z.Warmed39 U.vm ∧ U.heap = h0) (fun _ _ _ _ _ => True) (fun _ U o U' => ∃ v L, o = .returned v ∧ Q_rm_hex Z p0 h0 n0 v U'.heap L ∧ FrameEnd U o U' L ({ frames := 0, cells := 0, slots := 0, locals := 0 } : Room).cells ({ frames := 0, cells := 0, slots := 0, locals := 0 } : Room).slots) := by
  refine MetFree.of_bodySF (plainFor_of_name pn_0) hisR ?_
  intro p e s m args below meth c s₁ Bd hml0 hP hK
  obtain ⟨rfl, hZ, hh⟩ := hP
  have hx := Bd.exec
  have hby := Bd.bytes
  have hml : c.maxLocals = 1 := hml0
  have hown : s.vm.findClass "com/example/ambit/ambit/SourceReader" = some m.cls := findClass_of_methodNamed Bd.named
  have hnm := (name_of_methodNamed Bd.named Bd.method).1
  have X0 : Stand p l e ({ frames := 0, cells := 0, slots := 0, locals := 0 } : Room) s m #[(.int p0)] below meth c s₁ [] 0 0 := Stand.of_body Bd
  have e0 : s₁.heap = h0 := by rw [← hh, Bd.state]; rfl
  have N0 := Fr.nil n0
  have pre0 : ∀ t, Steps p.tables e below (s₁.setTop (mkF m 0 #[.val (.int p0)] [])) t → Steps p.tables e below (s₁.setTop (entryFrame m #[(.int p0)] 1)) t := fun t k => castTop (ef_1 m p0) k
  have k1 : ∀ target, Steps p.tables e below (s₁.setTop (mkF m 3 #[.val (.int p0)] [(.int (48 : Int32)), (.int p0)])) target → Steps p.tables e below (s₁.setTop (mkF m 0 #[.val (.int p0)] [])) target := by
    intro target kt
    show Steps p.tables e below (s₁.setTop (mkF m 0 #[.val (.int p0)] [])) _
    refine XS.iloadN X0.here hx rfl (hb hby d1_0) rfl ?_
    show Steps p.tables e below (s₁.setTop (mkF m 1 #[.val (.int p0)] [(.int p0)])) _
    refine XS.bipush X0.here hx rfl (hb hby d1_1) ?_
    exact kt
  by_cases hc3 : p0 < (48 : Int32)
  · have k2 : ∀ target, Steps p.tables e below (s₁.setTop (mkF m 15 #[.val (.int p0)] [(.int (97 : Int32)), (.int p0)])) target → Steps p.tables e below (s₁.setTop (mkF m 0 #[.val (.int p0)] [])) target := by
      intro target kt
      refine k1 _ ?_
      show Steps p.tables e below (s₁.setTop (mkF m 3 #[.val (.int p0)] [(.int (48 : Int32)), (.int p0)])) _
      refine XS.icmpYes X0.here hx rfl (pc0 := 3) (pc' := 12) rfl (hb hby d1_3) rfl (tlt hc3).1 (by decide) (by decide) ?_
      show Steps p.tables e below (s₁.setTop (mkF m 12 #[.val (.int p0)] [])) _
      refine XS.iloadN X0.here hx rfl (hb hby d1_12) rfl ?_
      show Steps p.tables e below (s₁.setTop (mkF m 13 #[.val (.int p0)] [(.int p0)])) _
      refine XS.bipush X0.here hx rfl (hb hby d1_13) ?_
      exact kt
    by_cases hc15 : p0 < (97 : Int32)
    · have k3 : ∀ target, Steps p.tables e below (s₁.setTop (mkF m 27 #[.val (.int p0)] [(.int (65 : Int32)), (.int p0)])) target → Steps p.tables e below (s₁.setTop (mkF m 0 #[.val (.int p0)] [])) target := by
        intro target kt
        refine k2 _ ?_
        show Steps p.tables e below (s₁.setTop (mkF m 15 #[.val (.int p0)] [(.int (97 : Int32)), (.int p0)])) _
        refine XS.icmpYes X0.here hx rfl (pc0 := 15) (pc' := 24) rfl (hb hby d1_15) rfl (tlt hc15).1 (by decide) (by decide) ?_
        show Steps p.tables e below (s₁.setTop (mkF m 24 #[.val (.int p0)] [])) _
        refine XS.iloadN X0.here hx rfl (hb hby d1_24) rfl ?_
        show Steps p.tables e below (s₁.setTop (mkF m 25 #[.val (.int p0)] [(.int p0)])) _
        refine XS.bipush X0.here hx rfl (hb hby d1_25) ?_
        exact kt
      by_cases hc27 : p0 < (65 : Int32)
      · obtain ⟨fs, hr, hrun, hended, hW, hsame⟩ := X0.leave (v := some (.int (0 : Int32))) (fun h => by rw [Bd.returns] at h; cases h)
        refine ⟨_, _, pre0 _ ?_, hrun, hended, _, _, rfl, ?_, ⟨_, rfl⟩, hW, hsame.mono (by decide) (by decide)⟩
        · refine k3 _ ?_
          show Steps p.tables e below (s₁.setTop (mkF m 27 #[.val (.int p0)] [(.int (65 : Int32)), (.int p0)])) _
          refine XS.icmpYes X0.here hx rfl (pc0 := 27) (pc' := 40) rfl (hb hby d1_27) rfl (tlt hc27).1 (by decide) (by decide) ?_
          show Steps p.tables e below (s₁.setTop (mkF m 40 #[.val (.int p0)] [])) _
          refine XS.iconst X0.here hx rfl (hb hby d1_40) ?_
          show Steps p.tables e below (s₁.setTop (mkF m 41 #[.val (.int p0)] [(.int (0 : Int32))])) _
          exact retN X0 hx (t := .boolean) Bd.returns (by simp) (hb hby d1_41) hr
        · show Q_rm_hex Z p0 h0 n0 _ s₁.heap _
          rw [e0]
          exact ⟨(by simp [own_hex, hc3, hc15, hc27]), N0, rfl⟩
      · have k4 : ∀ target, Steps p.tables e below (s₁.setTop (mkF m 33 #[.val (.int p0)] [(.int (70 : Int32)), (.int p0)])) target → Steps p.tables e below (s₁.setTop (mkF m 0 #[.val (.int p0)] [])) target := by
          intro target kt
          refine k3 _ ?_
          show Steps p.tables e below (s₁.setTop (mkF m 27 #[.val (.int p0)] [(.int (65 : Int32)), (.int p0)])) _
          refine XS.icmpNo X0.here hx rfl (hb hby d1_27) rfl (flt hc27).1 ?_
          show Steps p.tables e below (s₁.setTop (mkF m 30 #[.val (.int p0)] [])) _
          refine XS.iloadN X0.here hx rfl (hb hby d1_30) rfl ?_
          show Steps p.tables e below (s₁.setTop (mkF m 31 #[.val (.int p0)] [(.int p0)])) _
          refine XS.bipush X0.here hx rfl (hb hby d1_31) ?_
          exact kt
        by_cases hc33 : (70 : Int32) < p0
        · obtain ⟨fs, hr, hrun, hended, hW, hsame⟩ := X0.leave (v := some (.int (0 : Int32))) (fun h => by rw [Bd.returns] at h; cases h)
          refine ⟨_, _, pre0 _ ?_, hrun, hended, _, _, rfl, ?_, ⟨_, rfl⟩, hW, hsame.mono (by decide) (by decide)⟩
          · refine k4 _ ?_
            show Steps p.tables e below (s₁.setTop (mkF m 33 #[.val (.int p0)] [(.int (70 : Int32)), (.int p0)])) _
            refine XS.icmpYes X0.here hx rfl (pc0 := 33) (pc' := 40) rfl (hb hby d1_33) rfl (tlt hc33).2.2.1 (by decide) (by decide) ?_
            show Steps p.tables e below (s₁.setTop (mkF m 40 #[.val (.int p0)] [])) _
            refine XS.iconst X0.here hx rfl (hb hby d1_40) ?_
            show Steps p.tables e below (s₁.setTop (mkF m 41 #[.val (.int p0)] [(.int (0 : Int32))])) _
            exact retN X0 hx (t := .boolean) Bd.returns (by simp) (hb hby d1_41) hr
          · show Q_rm_hex Z p0 h0 n0 _ s₁.heap _
            rw [e0]
            exact ⟨(by simp [own_hex, hc3, hc15, hc27, hc33]), N0, rfl⟩
        · obtain ⟨fs, hr, hrun, hended, hW, hsame⟩ := X0.leave (v := some (.int (1 : Int32))) (fun h => by rw [Bd.returns] at h; cases h)
          refine ⟨_, _, pre0 _ ?_, hrun, hended, _, _, rfl, ?_, ⟨_, rfl⟩, hW, hsame.mono (by decide) (by decide)⟩
          · refine k4 _ ?_
            show Steps p.tables e below (s₁.setTop (mkF m 33 #[.val (.int p0)] [(.int (70 : Int32)), (.int p0)])) _
            refine XS.icmpNo X0.here hx rfl (hb hby d1_33) rfl (flt hc33).2.2.1 ?_
            show Steps p.tables e below (s₁.setTop (mkF m 36 #[.val (.int p0)] [])) _
            refine XS.iconst X0.here hx rfl (hb hby d1_36) ?_
            show Steps p.tables e below (s₁.setTop (mkF m 37 #[.val (.int p0)] [(.int (1 : Int32))])) _
            refine XS.goto X0.here hx rfl (pc0 := 37) (pc' := 41) rfl (hb hby d1_37) (by decide) (by decide) ?_
            show Steps p.tables e below (s₁.setTop (mkF m 41 #[.val (.int p0)] [(.int (1 : Int32))])) _
            exact retN X0 hx (t := .boolean) Bd.returns (by simp) (hb hby d1_41) hr
          · show Q_rm_hex Z p0 h0 n0 _ s₁.heap _
            rw [e0]
            exact ⟨(by simp [own_hex, hc3, hc15, hc27, hc33]), N0, rfl⟩
    · have k5 : ∀ target, Steps p.tables e below (s₁.setTop (mkF m 21 #[.val (.int p0)] [(.int (102 : Int32)), (.int p0)])) target → Steps p.tables e below (s₁.setTop (mkF m 0 #[.val (.int p0)] [])) target := by
        intro target kt
        refine k2 _ ?_
        show Steps p.tables e below (s₁.setTop (mkF m 15 #[.val (.int p0)] [(.int (97 : Int32)), (.int p0)])) _
        refine XS.icmpNo X0.here hx rfl (hb hby d1_15) rfl (flt hc15).1 ?_
        show Steps p.tables e below (s₁.setTop (mkF m 18 #[.val (.int p0)] [])) _
        refine XS.iloadN X0.here hx rfl (hb hby d1_18) rfl ?_
        show Steps p.tables e below (s₁.setTop (mkF m 19 #[.val (.int p0)] [(.int p0)])) _
        refine XS.bipush X0.here hx rfl (hb hby d1_19) ?_
        exact kt
      by_cases hc21 : (102 : Int32) < p0
      · have k6 : ∀ target, Steps p.tables e below (s₁.setTop (mkF m 27 #[.val (.int p0)] [(.int (65 : Int32)), (.int p0)])) target → Steps p.tables e below (s₁.setTop (mkF m 0 #[.val (.int p0)] [])) target := by
          intro target kt
          refine k5 _ ?_
          show Steps p.tables e below (s₁.setTop (mkF m 21 #[.val (.int p0)] [(.int (102 : Int32)), (.int p0)])) _
          refine XS.icmpNo X0.here hx rfl (hb hby d1_21) rfl (tlt hc21).2.2.2 ?_
          show Steps p.tables e below (s₁.setTop (mkF m 24 #[.val (.int p0)] [])) _
          refine XS.iloadN X0.here hx rfl (hb hby d1_24) rfl ?_
          show Steps p.tables e below (s₁.setTop (mkF m 25 #[.val (.int p0)] [(.int p0)])) _
          refine XS.bipush X0.here hx rfl (hb hby d1_25) ?_
          exact kt
        by_cases hc27 : p0 < (65 : Int32)
        · obtain ⟨fs, hr, hrun, hended, hW, hsame⟩ := X0.leave (v := some (.int (0 : Int32))) (fun h => by rw [Bd.returns] at h; cases h)
          refine ⟨_, _, pre0 _ ?_, hrun, hended, _, _, rfl, ?_, ⟨_, rfl⟩, hW, hsame.mono (by decide) (by decide)⟩
          · refine k6 _ ?_
            show Steps p.tables e below (s₁.setTop (mkF m 27 #[.val (.int p0)] [(.int (65 : Int32)), (.int p0)])) _
            refine XS.icmpYes X0.here hx rfl (pc0 := 27) (pc' := 40) rfl (hb hby d1_27) rfl (tlt hc27).1 (by decide) (by decide) ?_
            show Steps p.tables e below (s₁.setTop (mkF m 40 #[.val (.int p0)] [])) _
            refine XS.iconst X0.here hx rfl (hb hby d1_40) ?_
            show Steps p.tables e below (s₁.setTop (mkF m 41 #[.val (.int p0)] [(.int (0 : Int32))])) _
            exact retN X0 hx (t := .boolean) Bd.returns (by simp) (hb hby d1_41) hr
          · show Q_rm_hex Z p0 h0 n0 _ s₁.heap _
            rw [e0]
            exact ⟨(by simp [own_hex, hc3, hc15, hc21, hc27]), N0, rfl⟩
        · have k7 : ∀ target, Steps p.tables e below (s₁.setTop (mkF m 33 #[.val (.int p0)] [(.int (70 : Int32)), (.int p0)])) target → Steps p.tables e below (s₁.setTop (mkF m 0 #[.val (.int p0)] [])) target := by
            intro target kt
            refine k6 _ ?_
            show Steps p.tables e below (s₁.setTop (mkF m 27 #[.val (.int p0)] [(.int (65 : Int32)), (.int p0)])) _
            refine XS.icmpNo X0.here hx rfl (hb hby d1_27) rfl (flt hc27).1 ?_
            show Steps p.tables e below (s₁.setTop (mkF m 30 #[.val (.int p0)] [])) _
            refine XS.iloadN X0.here hx rfl (hb hby d1_30) rfl ?_
            show Steps p.tables e below (s₁.setTop (mkF m 31 #[.val (.int p0)] [(.int p0)])) _
            refine XS.bipush X0.here hx rfl (hb hby d1_31) ?_
            exact kt
          by_cases hc33 : (70 : Int32) < p0
          · obtain ⟨fs, hr, hrun, hended, hW, hsame⟩ := X0.leave (v := some (.int (0 : Int32))) (fun h => by rw [Bd.returns] at h; cases h)
            refine ⟨_, _, pre0 _ ?_, hrun, hended, _, _, rfl, ?_, ⟨_, rfl⟩, hW, hsame.mono (by decide) (by decide)⟩
            · refine k7 _ ?_
              show Steps p.tables e below (s₁.setTop (mkF m 33 #[.val (.int p0)] [(.int (70 : Int32)), (.int p0)])) _
              refine XS.icmpYes X0.here hx rfl (pc0 := 33) (pc' := 40) rfl (hb hby d1_33) rfl (tlt hc33).2.2.1 (by decide) (by decide) ?_
              show Steps p.tables e below (s₁.setTop (mkF m 40 #[.val (.int p0)] [])) _
              refine XS.iconst X0.here hx rfl (hb hby d1_40) ?_
              show Steps p.tables e below (s₁.setTop (mkF m 41 #[.val (.int p0)] [(.int (0 : Int32))])) _
              exact retN X0 hx (t := .boolean) Bd.returns (by simp) (hb hby d1_41) hr
            · show Q_rm_hex Z p0 h0 n0 _ s₁.heap _
              rw [e0]
              exact ⟨(by simp [own_hex, hc3, hc15, hc21, hc27, hc33]), N0, rfl⟩
          · obtain ⟨fs, hr, hrun, hended, hW, hsame⟩ := X0.leave (v := some (.int (1 : Int32))) (fun h => by rw [Bd.returns] at h; cases h)
            refine ⟨_, _, pre0 _ ?_, hrun, hended, _, _, rfl, ?_, ⟨_, rfl⟩, hW, hsame.mono (by decide) (by decide)⟩
            · refine k7 _ ?_
              show Steps p.tables e below (s₁.setTop (mkF m 33 #[.val (.int p0)] [(.int (70 : Int32)), (.int p0)])) _
              refine XS.icmpNo X0.here hx rfl (hb hby d1_33) rfl (flt hc33).2.2.1 ?_
              show Steps p.tables e below (s₁.setTop (mkF m 36 #[.val (.int p0)] [])) _
              refine XS.iconst X0.here hx rfl (hb hby d1_36) ?_
              show Steps p.tables e below (s₁.setTop (mkF m 37 #[.val (.int p0)] [(.int (1 : Int32))])) _
              refine XS.goto X0.here hx rfl (pc0 := 37) (pc' := 41) rfl (hb hby d1_37) (by decide) (by decide) ?_
              show Steps p.tables e below (s₁.setTop (mkF m 41 #[.val (.int p0)] [(.int (1 : Int32))])) _
              exact retN X0 hx (t := .boolean) Bd.returns (by simp) (hb hby d1_41) hr
            · show Q_rm_hex Z p0 h0 n0 _ s₁.heap _
              rw [e0]
              exact ⟨(by simp [own_hex, hc3, hc15, hc21, hc27, hc33]), N0, rfl⟩
      · obtain ⟨fs, hr, hrun, hended, hW, hsame⟩ := X0.leave (v := some (.int (1 : Int32))) (fun h => by rw [Bd.returns] at h; cases h)
        refine ⟨_, _, pre0 _ ?_, hrun, hended, _, _, rfl, ?_, ⟨_, rfl⟩, hW, hsame.mono (by decide) (by decide)⟩
        · refine k5 _ ?_
          show Steps p.tables e below (s₁.setTop (mkF m 21 #[.val (.int p0)] [(.int (102 : Int32)), (.int p0)])) _
          refine XS.icmpYes X0.here hx rfl (pc0 := 21) (pc' := 36) rfl (hb hby d1_21) rfl (flt hc21).2.2.2 (by decide) (by decide) ?_
          show Steps p.tables e below (s₁.setTop (mkF m 36 #[.val (.int p0)] [])) _
          refine XS.iconst X0.here hx rfl (hb hby d1_36) ?_
          show Steps p.tables e below (s₁.setTop (mkF m 37 #[.val (.int p0)] [(.int (1 : Int32))])) _
          refine XS.goto X0.here hx rfl (pc0 := 37) (pc' := 41) rfl (hb hby d1_37) (by decide) (by decide) ?_
          show Steps p.tables e below (s₁.setTop (mkF m 41 #[.val (.int p0)] [(.int (1 : Int32))])) _
          exact retN X0 hx (t := .boolean) Bd.returns (by simp) (hb hby d1_41) hr
        · show Q_rm_hex Z p0 h0 n0 _ s₁.heap _
          rw [e0]
          exact ⟨(by simp [own_hex, hc3, hc15, hc21]), N0, rfl⟩
  · have k8 : ∀ target, Steps p.tables e below (s₁.setTop (mkF m 9 #[.val (.int p0)] [(.int (57 : Int32)), (.int p0)])) target → Steps p.tables e below (s₁.setTop (mkF m 0 #[.val (.int p0)] [])) target := by
      intro target kt
      refine k1 _ ?_
      show Steps p.tables e below (s₁.setTop (mkF m 3 #[.val (.int p0)] [(.int (48 : Int32)), (.int p0)])) _
      refine XS.icmpNo X0.here hx rfl (hb hby d1_3) rfl (flt hc3).1 ?_
      show Steps p.tables e below (s₁.setTop (mkF m 6 #[.val (.int p0)] [])) _
      refine XS.iloadN X0.here hx rfl (hb hby d1_6) rfl ?_
      show Steps p.tables e below (s₁.setTop (mkF m 7 #[.val (.int p0)] [(.int p0)])) _
      refine XS.bipush X0.here hx rfl (hb hby d1_7) ?_
      exact kt
    by_cases hc9 : (57 : Int32) < p0
    · have k9 : ∀ target, Steps p.tables e below (s₁.setTop (mkF m 15 #[.val (.int p0)] [(.int (97 : Int32)), (.int p0)])) target → Steps p.tables e below (s₁.setTop (mkF m 0 #[.val (.int p0)] [])) target := by
        intro target kt
        refine k8 _ ?_
        show Steps p.tables e below (s₁.setTop (mkF m 9 #[.val (.int p0)] [(.int (57 : Int32)), (.int p0)])) _
        refine XS.icmpNo X0.here hx rfl (hb hby d1_9) rfl (tlt hc9).2.2.2 ?_
        show Steps p.tables e below (s₁.setTop (mkF m 12 #[.val (.int p0)] [])) _
        refine XS.iloadN X0.here hx rfl (hb hby d1_12) rfl ?_
        show Steps p.tables e below (s₁.setTop (mkF m 13 #[.val (.int p0)] [(.int p0)])) _
        refine XS.bipush X0.here hx rfl (hb hby d1_13) ?_
        exact kt
      by_cases hc15 : p0 < (97 : Int32)
      · have k10 : ∀ target, Steps p.tables e below (s₁.setTop (mkF m 27 #[.val (.int p0)] [(.int (65 : Int32)), (.int p0)])) target → Steps p.tables e below (s₁.setTop (mkF m 0 #[.val (.int p0)] [])) target := by
          intro target kt
          refine k9 _ ?_
          show Steps p.tables e below (s₁.setTop (mkF m 15 #[.val (.int p0)] [(.int (97 : Int32)), (.int p0)])) _
          refine XS.icmpYes X0.here hx rfl (pc0 := 15) (pc' := 24) rfl (hb hby d1_15) rfl (tlt hc15).1 (by decide) (by decide) ?_
          show Steps p.tables e below (s₁.setTop (mkF m 24 #[.val (.int p0)] [])) _
          refine XS.iloadN X0.here hx rfl (hb hby d1_24) rfl ?_
          show Steps p.tables e below (s₁.setTop (mkF m 25 #[.val (.int p0)] [(.int p0)])) _
          refine XS.bipush X0.here hx rfl (hb hby d1_25) ?_
          exact kt
        by_cases hc27 : p0 < (65 : Int32)
        · obtain ⟨fs, hr, hrun, hended, hW, hsame⟩ := X0.leave (v := some (.int (0 : Int32))) (fun h => by rw [Bd.returns] at h; cases h)
          refine ⟨_, _, pre0 _ ?_, hrun, hended, _, _, rfl, ?_, ⟨_, rfl⟩, hW, hsame.mono (by decide) (by decide)⟩
          · refine k10 _ ?_
            show Steps p.tables e below (s₁.setTop (mkF m 27 #[.val (.int p0)] [(.int (65 : Int32)), (.int p0)])) _
            refine XS.icmpYes X0.here hx rfl (pc0 := 27) (pc' := 40) rfl (hb hby d1_27) rfl (tlt hc27).1 (by decide) (by decide) ?_
            show Steps p.tables e below (s₁.setTop (mkF m 40 #[.val (.int p0)] [])) _
            refine XS.iconst X0.here hx rfl (hb hby d1_40) ?_
            show Steps p.tables e below (s₁.setTop (mkF m 41 #[.val (.int p0)] [(.int (0 : Int32))])) _
            exact retN X0 hx (t := .boolean) Bd.returns (by simp) (hb hby d1_41) hr
          · show Q_rm_hex Z p0 h0 n0 _ s₁.heap _
            rw [e0]
            exact ⟨(by simp [own_hex, hc3, hc9, hc15, hc27]), N0, rfl⟩
        · have k11 : ∀ target, Steps p.tables e below (s₁.setTop (mkF m 33 #[.val (.int p0)] [(.int (70 : Int32)), (.int p0)])) target → Steps p.tables e below (s₁.setTop (mkF m 0 #[.val (.int p0)] [])) target := by
            intro target kt
            refine k10 _ ?_
            show Steps p.tables e below (s₁.setTop (mkF m 27 #[.val (.int p0)] [(.int (65 : Int32)), (.int p0)])) _
            refine XS.icmpNo X0.here hx rfl (hb hby d1_27) rfl (flt hc27).1 ?_
            show Steps p.tables e below (s₁.setTop (mkF m 30 #[.val (.int p0)] [])) _
            refine XS.iloadN X0.here hx rfl (hb hby d1_30) rfl ?_
            show Steps p.tables e below (s₁.setTop (mkF m 31 #[.val (.int p0)] [(.int p0)])) _
            refine XS.bipush X0.here hx rfl (hb hby d1_31) ?_
            exact kt
          by_cases hc33 : (70 : Int32) < p0
          · obtain ⟨fs, hr, hrun, hended, hW, hsame⟩ := X0.leave (v := some (.int (0 : Int32))) (fun h => by rw [Bd.returns] at h; cases h)
            refine ⟨_, _, pre0 _ ?_, hrun, hended, _, _, rfl, ?_, ⟨_, rfl⟩, hW, hsame.mono (by decide) (by decide)⟩
            · refine k11 _ ?_
              show Steps p.tables e below (s₁.setTop (mkF m 33 #[.val (.int p0)] [(.int (70 : Int32)), (.int p0)])) _
              refine XS.icmpYes X0.here hx rfl (pc0 := 33) (pc' := 40) rfl (hb hby d1_33) rfl (tlt hc33).2.2.1 (by decide) (by decide) ?_
              show Steps p.tables e below (s₁.setTop (mkF m 40 #[.val (.int p0)] [])) _
              refine XS.iconst X0.here hx rfl (hb hby d1_40) ?_
              show Steps p.tables e below (s₁.setTop (mkF m 41 #[.val (.int p0)] [(.int (0 : Int32))])) _
              exact retN X0 hx (t := .boolean) Bd.returns (by simp) (hb hby d1_41) hr
            · show Q_rm_hex Z p0 h0 n0 _ s₁.heap _
              rw [e0]
              exact ⟨(by simp [own_hex, hc3, hc9, hc15, hc27, hc33]), N0, rfl⟩
          · obtain ⟨fs, hr, hrun, hended, hW, hsame⟩ := X0.leave (v := some (.int (1 : Int32))) (fun h => by rw [Bd.returns] at h; cases h)
            refine ⟨_, _, pre0 _ ?_, hrun, hended, _, _, rfl, ?_, ⟨_, rfl⟩, hW, hsame.mono (by decide) (by decide)⟩
            · refine k11 _ ?_
              show Steps p.tables e below (s₁.setTop (mkF m 33 #[.val (.int p0)] [(.int (70 : Int32)), (.int p0)])) _
              refine XS.icmpNo X0.here hx rfl (hb hby d1_33) rfl (flt hc33).2.2.1 ?_
              show Steps p.tables e below (s₁.setTop (mkF m 36 #[.val (.int p0)] [])) _
              refine XS.iconst X0.here hx rfl (hb hby d1_36) ?_
              show Steps p.tables e below (s₁.setTop (mkF m 37 #[.val (.int p0)] [(.int (1 : Int32))])) _
              refine XS.goto X0.here hx rfl (pc0 := 37) (pc' := 41) rfl (hb hby d1_37) (by decide) (by decide) ?_
              show Steps p.tables e below (s₁.setTop (mkF m 41 #[.val (.int p0)] [(.int (1 : Int32))])) _
              exact retN X0 hx (t := .boolean) Bd.returns (by simp) (hb hby d1_41) hr
            · show Q_rm_hex Z p0 h0 n0 _ s₁.heap _
              rw [e0]
              exact ⟨(by simp [own_hex, hc3, hc9, hc15, hc27, hc33]), N0, rfl⟩
      · have k12 : ∀ target, Steps p.tables e below (s₁.setTop (mkF m 21 #[.val (.int p0)] [(.int (102 : Int32)), (.int p0)])) target → Steps p.tables e below (s₁.setTop (mkF m 0 #[.val (.int p0)] [])) target := by
          intro target kt
          refine k9 _ ?_
          show Steps p.tables e below (s₁.setTop (mkF m 15 #[.val (.int p0)] [(.int (97 : Int32)), (.int p0)])) _
          refine XS.icmpNo X0.here hx rfl (hb hby d1_15) rfl (flt hc15).1 ?_
          show Steps p.tables e below (s₁.setTop (mkF m 18 #[.val (.int p0)] [])) _
          refine XS.iloadN X0.here hx rfl (hb hby d1_18) rfl ?_
          show Steps p.tables e below (s₁.setTop (mkF m 19 #[.val (.int p0)] [(.int p0)])) _
          refine XS.bipush X0.here hx rfl (hb hby d1_19) ?_
          exact kt
        by_cases hc21 : (102 : Int32) < p0
        · have k13 : ∀ target, Steps p.tables e below (s₁.setTop (mkF m 27 #[.val (.int p0)] [(.int (65 : Int32)), (.int p0)])) target → Steps p.tables e below (s₁.setTop (mkF m 0 #[.val (.int p0)] [])) target := by
            intro target kt
            refine k12 _ ?_
            show Steps p.tables e below (s₁.setTop (mkF m 21 #[.val (.int p0)] [(.int (102 : Int32)), (.int p0)])) _
            refine XS.icmpNo X0.here hx rfl (hb hby d1_21) rfl (tlt hc21).2.2.2 ?_
            show Steps p.tables e below (s₁.setTop (mkF m 24 #[.val (.int p0)] [])) _
            refine XS.iloadN X0.here hx rfl (hb hby d1_24) rfl ?_
            show Steps p.tables e below (s₁.setTop (mkF m 25 #[.val (.int p0)] [(.int p0)])) _
            refine XS.bipush X0.here hx rfl (hb hby d1_25) ?_
            exact kt
          by_cases hc27 : p0 < (65 : Int32)
          · obtain ⟨fs, hr, hrun, hended, hW, hsame⟩ := X0.leave (v := some (.int (0 : Int32))) (fun h => by rw [Bd.returns] at h; cases h)
            refine ⟨_, _, pre0 _ ?_, hrun, hended, _, _, rfl, ?_, ⟨_, rfl⟩, hW, hsame.mono (by decide) (by decide)⟩
            · refine k13 _ ?_
              show Steps p.tables e below (s₁.setTop (mkF m 27 #[.val (.int p0)] [(.int (65 : Int32)), (.int p0)])) _
              refine XS.icmpYes X0.here hx rfl (pc0 := 27) (pc' := 40) rfl (hb hby d1_27) rfl (tlt hc27).1 (by decide) (by decide) ?_
              show Steps p.tables e below (s₁.setTop (mkF m 40 #[.val (.int p0)] [])) _
              refine XS.iconst X0.here hx rfl (hb hby d1_40) ?_
              show Steps p.tables e below (s₁.setTop (mkF m 41 #[.val (.int p0)] [(.int (0 : Int32))])) _
              exact retN X0 hx (t := .boolean) Bd.returns (by simp) (hb hby d1_41) hr
            · show Q_rm_hex Z p0 h0 n0 _ s₁.heap _
              rw [e0]
              exact ⟨(by simp [own_hex, hc3, hc9, hc15, hc21, hc27]), N0, rfl⟩
          · have k14 : ∀ target, Steps p.tables e below (s₁.setTop (mkF m 33 #[.val (.int p0)] [(.int (70 : Int32)), (.int p0)])) target → Steps p.tables e below (s₁.setTop (mkF m 0 #[.val (.int p0)] [])) target := by
              intro target kt
              refine k13 _ ?_
              show Steps p.tables e below (s₁.setTop (mkF m 27 #[.val (.int p0)] [(.int (65 : Int32)), (.int p0)])) _
              refine XS.icmpNo X0.here hx rfl (hb hby d1_27) rfl (flt hc27).1 ?_
              show Steps p.tables e below (s₁.setTop (mkF m 30 #[.val (.int p0)] [])) _
              refine XS.iloadN X0.here hx rfl (hb hby d1_30) rfl ?_
              show Steps p.tables e below (s₁.setTop (mkF m 31 #[.val (.int p0)] [(.int p0)])) _
              refine XS.bipush X0.here hx rfl (hb hby d1_31) ?_
              exact kt
            by_cases hc33 : (70 : Int32) < p0
            · obtain ⟨fs, hr, hrun, hended, hW, hsame⟩ := X0.leave (v := some (.int (0 : Int32))) (fun h => by rw [Bd.returns] at h; cases h)
              refine ⟨_, _, pre0 _ ?_, hrun, hended, _, _, rfl, ?_, ⟨_, rfl⟩, hW, hsame.mono (by decide) (by decide)⟩
              · refine k14 _ ?_
                show Steps p.tables e below (s₁.setTop (mkF m 33 #[.val (.int p0)] [(.int (70 : Int32)), (.int p0)])) _
                refine XS.icmpYes X0.here hx rfl (pc0 := 33) (pc' := 40) rfl (hb hby d1_33) rfl (tlt hc33).2.2.1 (by decide) (by decide) ?_
                show Steps p.tables e below (s₁.setTop (mkF m 40 #[.val (.int p0)] [])) _
                refine XS.iconst X0.here hx rfl (hb hby d1_40) ?_
                show Steps p.tables e below (s₁.setTop (mkF m 41 #[.val (.int p0)] [(.int (0 : Int32))])) _
                exact retN X0 hx (t := .boolean) Bd.returns (by simp) (hb hby d1_41) hr
              · show Q_rm_hex Z p0 h0 n0 _ s₁.heap _
                rw [e0]
                exact ⟨(by simp [own_hex, hc3, hc9, hc15, hc21, hc27, hc33]), N0, rfl⟩
            · obtain ⟨fs, hr, hrun, hended, hW, hsame⟩ := X0.leave (v := some (.int (1 : Int32))) (fun h => by rw [Bd.returns] at h; cases h)
              refine ⟨_, _, pre0 _ ?_, hrun, hended, _, _, rfl, ?_, ⟨_, rfl⟩, hW, hsame.mono (by decide) (by decide)⟩
              · refine k14 _ ?_
                show Steps p.tables e below (s₁.setTop (mkF m 33 #[.val (.int p0)] [(.int (70 : Int32)), (.int p0)])) _
                refine XS.icmpNo X0.here hx rfl (hb hby d1_33) rfl (flt hc33).2.2.1 ?_
                show Steps p.tables e below (s₁.setTop (mkF m 36 #[.val (.int p0)] [])) _
                refine XS.iconst X0.here hx rfl (hb hby d1_36) ?_
                show Steps p.tables e below (s₁.setTop (mkF m 37 #[.val (.int p0)] [(.int (1 : Int32))])) _
                refine XS.goto X0.here hx rfl (pc0 := 37) (pc' := 41) rfl (hb hby d1_37) (by decide) (by decide) ?_
                show Steps p.tables e below (s₁.setTop (mkF m 41 #[.val (.int p0)] [(.int (1 : Int32))])) _
                exact retN X0 hx (t := .boolean) Bd.returns (by simp) (hb hby d1_41) hr
              · show Q_rm_hex Z p0 h0 n0 _ s₁.heap _
                rw [e0]
                exact ⟨(by simp [own_hex, hc3, hc9, hc15, hc21, hc27, hc33]), N0, rfl⟩
        · obtain ⟨fs, hr, hrun, hended, hW, hsame⟩ := X0.leave (v := some (.int (1 : Int32))) (fun h => by rw [Bd.returns] at h; cases h)
          refine ⟨_, _, pre0 _ ?_, hrun, hended, _, _, rfl, ?_, ⟨_, rfl⟩, hW, hsame.mono (by decide) (by decide)⟩
          · refine k12 _ ?_
            show Steps p.tables e below (s₁.setTop (mkF m 21 #[.val (.int p0)] [(.int (102 : Int32)), (.int p0)])) _
            refine XS.icmpYes X0.here hx rfl (pc0 := 21) (pc' := 36) rfl (hb hby d1_21) rfl (flt hc21).2.2.2 (by decide) (by decide) ?_
            show Steps p.tables e below (s₁.setTop (mkF m 36 #[.val (.int p0)] [])) _
            refine XS.iconst X0.here hx rfl (hb hby d1_36) ?_
            show Steps p.tables e below (s₁.setTop (mkF m 37 #[.val (.int p0)] [(.int (1 : Int32))])) _
            refine XS.goto X0.here hx rfl (pc0 := 37) (pc' := 41) rfl (hb hby d1_37) (by decide) (by decide) ?_
            show Steps p.tables e below (s₁.setTop (mkF m 41 #[.val (.int p0)] [(.int (1 : Int32))])) _
            exact retN X0 hx (t := .boolean) Bd.returns (by simp) (hb hby d1_41) hr
          · show Q_rm_hex Z p0 h0 n0 _ s₁.heap _
            rw [e0]
            exact ⟨(by simp [own_hex, hc3, hc9, hc15, hc21]), N0, rfl⟩
    · obtain ⟨fs, hr, hrun, hended, hW, hsame⟩ := X0.leave (v := some (.int (1 : Int32))) (fun h => by rw [Bd.returns] at h; cases h)
      refine ⟨_, _, pre0 _ ?_, hrun, hended, _, _, rfl, ?_, ⟨_, rfl⟩, hW, hsame.mono (by decide) (by decide)⟩
      · refine k8 _ ?_
        show Steps p.tables e below (s₁.setTop (mkF m 9 #[.val (.int p0)] [(.int (57 : Int32)), (.int p0)])) _
        refine XS.icmpYes X0.here hx rfl (pc0 := 9) (pc' := 36) rfl (hb hby d1_9) rfl (flt hc9).2.2.2 (by decide) (by decide) ?_
        show Steps p.tables e below (s₁.setTop (mkF m 36 #[.val (.int p0)] [])) _
        refine XS.iconst X0.here hx rfl (hb hby d1_36) ?_
        show Steps p.tables e below (s₁.setTop (mkF m 37 #[.val (.int p0)] [(.int (1 : Int32))])) _
        refine XS.goto X0.here hx rfl (pc0 := 37) (pc' := 41) rfl (hb hby d1_37) (by decide) (by decide) ?_
        show Steps p.tables e below (s₁.setTop (mkF m 41 #[.val (.int p0)] [(.int (1 : Int32))])) _
        exact retN X0 hx (t := .boolean) Bd.returns (by simp) (hb hby d1_41) hr
      · show Q_rm_hex Z p0 h0 n0 _ s₁.heap _
        rw [e0]
        exact ⟨(by simp [own_hex, hc3, hc9]), N0, rfl⟩
theorem pd_0 : parseMethodDescriptor "(I)Z" = some ⟨[.int], some .boolean⟩ := by decide +kernel
theorem pn_1 : plainName "com/example/ambit/ambit/SourceReaderIsHexDigitPinLaw" = true := by first | (simp [plainName, overriddenIn]; done) | decide +kernel
theorem ef_0 (m : MethodId) (x0 : Int32) (x1 : Int32) : entryFrame m #[(.int x0), (.int x1)] maxLocals = mkF m 0 #[.val (.int x0), .val (.int x1), .unset, .unset, .unset, .unset, .unset, .unset] [] := by first | (simp [entryFrame, mkF, argsToLocals, Value.category, maxLocals]; done) | rfl
def Q_rm_law (Z : State) (p0 : Int32) (p1 : Int32) (h0 : Heap) (n0 : Nat) (v : Option Value) (h : Heap) (L : List Loc) : Prop := v = some (.int (1 : Int32)) ∧ Fr n0 L ∧ h = h0
set_option maxRecDepth 65536 in
set_option maxHeartbeats 40000000 in
theorem rm_law (l : Launch) (Z : State) (a0 : Array Value) (hw : ∀ d ∈ tables_1, d.before a0 Z = true) (ws : List Jvm.Cond) (p0 : Int32) (p1 : Int32) (h0 : Heap) (n0 : Nat) (Z0 : n0 ≤ h0.size)  :
    MetFree l x (head1 (Jvm.Cond.code x code maxLocals ret :: ws) room_1) (fun a U => a = #[(.int p0), (.int p1)] ∧ Z.Warmed39 U.vm ∧ U.heap = h0) (fun _ _ _ _ _ => True) (fun _ U o U' => ∃ v L, o = .returned v ∧ Q_rm_law Z p0 p1 h0 n0 v U'.heap L ∧ FrameEnd U o U' L room_1.cells room_1.slots) := by
  refine MetFree.of_bodySF (plainFor_of_name pn_1) hisR ?_
  intro p e s m args below meth c s₁ Bd hml0 hP hK
  obtain ⟨rfl, hZ, hh⟩ := hP
  have hx := Bd.exec
  have hby := Bd.bytes
  have hml : c.maxLocals = 8 := hml0
  have hown : s.vm.findClass "com/example/ambit/ambit/SourceReaderIsHexDigitPinLaw" = some m.cls := findClass_of_methodNamed Bd.named
  have hnm := (name_of_methodNamed Bd.named Bd.method).1
  have X0 : Stand p l e room_1 s m #[(.int p0), (.int p1)] below meth c s₁ [] 0 0 := Stand.of_body Bd
  have e0 : s₁.heap = h0 := by rw [← hh, Bd.state]; rfl
  have N0 := Fr.nil n0
  have pre0 : ∀ t, Steps p.tables e below (s₁.setTop (mkF m 0 #[.val (.int p0), .val (.int p1), .unset, .unset, .unset, .unset, .unset, .unset] [])) t → Steps p.tables e below (s₁.setTop (entryFrame m #[(.int p0), (.int p1)] maxLocals)) t := fun t k => castTop (ef_0 m p0 p1) k
  have k1 : ∀ target, Steps p.tables e below (s₁.setTop (mkF m 3 #[.val (.int p0), .val (.int p1), .unset, .unset, .unset, .unset, .unset, .unset] [(.int (p1 &&& (1 : Int32)))])) target → Steps p.tables e below (s₁.setTop (mkF m 0 #[.val (.int p0), .val (.int p1), .unset, .unset, .unset, .unset, .unset, .unset] [])) target := by
    intro target kt
    show Steps p.tables e below (s₁.setTop (mkF m 0 #[.val (.int p0), .val (.int p1), .unset, .unset, .unset, .unset, .unset, .unset] [])) _
    refine XS.iloadN X0.here hx rfl (hb hby at_0) rfl ?_
    show Steps p.tables e below (s₁.setTop (mkF m 1 #[.val (.int p0), .val (.int p1), .unset, .unset, .unset, .unset, .unset, .unset] [(.int p1)])) _
    refine XS.iconst X0.here hx rfl (hb hby at_1) ?_
    show Steps p.tables e below (s₁.setTop (mkF m 2 #[.val (.int p0), .val (.int p1), .unset, .unset, .unset, .unset, .unset, .unset] [(.int (1 : Int32)), (.int p1)])) _
    refine XS.iand X0.here hx rfl (hb hby at_2) rfl ?_
    exact kt
  by_cases hc3 : (p1 &&& (1 : Int32)) = (0 : Int32)
  · have k2 : ∀ target, Steps p.tables e below (s₁.setTop (mkF m 42 #[.val (.int p0), .val (.int p1), .val (.int p0), .val (.long (p0.toInt64 - (48 : Int64))), .second, .val (.long ((p0 ||| (32 : Int32)).toInt64 - (97 : Int64))), .second, .unset] [(.int (lcmpW (p0.toInt64 - (48 : Int64)) (0 : Int64)))])) target → Steps p.tables e below (s₁.setTop (mkF m 0 #[.val (.int p0), .val (.int p1), .unset, .unset, .unset, .unset, .unset, .unset] [])) target := by
      intro target kt
      refine k1 _ ?_
      show Steps p.tables e below (s₁.setTop (mkF m 3 #[.val (.int p0), .val (.int p1), .unset, .unset, .unset, .unset, .unset, .unset] [(.int (p1 &&& (1 : Int32)))])) _
      refine XS.ifYes X0.here hx rfl (pc0 := 3) (pc' := 19) rfl (hb hby at_3) rfl ((if0 _ _).trans (teq hc3).1) (by decide) (by decide) ?_
      show Steps p.tables e below (s₁.setTop (mkF m 19 #[.val (.int p0), .val (.int p1), .unset, .unset, .unset, .unset, .unset, .unset] [])) _
      refine XS.iloadN X0.here hx rfl (hb hby at_19) rfl ?_
      show Steps p.tables e below (s₁.setTop (mkF m 20 #[.val (.int p0), .val (.int p1), .unset, .unset, .unset, .unset, .unset, .unset] [(.int p0)])) _
      refine XS.istoreN X0.here hx rfl (hb hby at_20) rfl (l' := #[.val (.int p0), .val (.int p1), .val (.int p0), .unset, .unset, .unset, .unset, .unset]) rfl ?_
      show Steps p.tables e below (s₁.setTop (mkF m 21 #[.val (.int p0), .val (.int p1), .val (.int p0), .unset, .unset, .unset, .unset, .unset] [])) _
      refine XS.iloadN X0.here hx rfl (hb hby at_21) rfl ?_
      show Steps p.tables e below (s₁.setTop (mkF m 22 #[.val (.int p0), .val (.int p1), .val (.int p0), .unset, .unset, .unset, .unset, .unset] [(.int p0)])) _
      refine XS.i2l X0.here hx rfl (hb hby at_22) rfl ?_
      show Steps p.tables e below (s₁.setTop (mkF m 23 #[.val (.int p0), .val (.int p1), .val (.int p0), .unset, .unset, .unset, .unset, .unset] [(.long p0.toInt64)])) _
      refine X0.ldc2Long hx hown (mvT hZ (hw _ (List.mem_of_getElem? (i := 1) rfl))) (g := (mkF m 23 #[.val (.int p0), .val (.int p1), .val (.int p0), .unset, .unset, .unset, .unset, .unset] [(.long p0.toInt64)])) rfl (hb hby at_23) _ ?_
      show Steps p.tables e below (s₁.setTop (mkF m 26 #[.val (.int p0), .val (.int p1), .val (.int p0), .unset, .unset, .unset, .unset, .unset] [(.long (48 : Int64)), (.long p0.toInt64)])) _
      refine XS.lsub X0.here hx rfl (hb hby at_26) rfl ?_
      show Steps p.tables e below (s₁.setTop (mkF m 27 #[.val (.int p0), .val (.int p1), .val (.int p0), .unset, .unset, .unset, .unset, .unset] [(.long (p0.toInt64 - (48 : Int64)))])) _
      refine XS.lstoreN X0.here hx rfl (hb hby at_27) rfl (l' := #[.val (.int p0), .val (.int p1), .val (.int p0), .val (.long (p0.toInt64 - (48 : Int64))), .second, .unset, .unset, .unset]) rfl ?_
      show Steps p.tables e below (s₁.setTop (mkF m 28 #[.val (.int p0), .val (.int p1), .val (.int p0), .val (.long (p0.toInt64 - (48 : Int64))), .second, .unset, .unset, .unset] [])) _
      refine XS.iloadN X0.here hx rfl (hb hby at_28) rfl ?_
      show Steps p.tables e below (s₁.setTop (mkF m 29 #[.val (.int p0), .val (.int p1), .val (.int p0), .val (.long (p0.toInt64 - (48 : Int64))), .second, .unset, .unset, .unset] [(.int p0)])) _
      refine XS.bipush X0.here hx rfl (hb hby at_29) ?_
      show Steps p.tables e below (s₁.setTop (mkF m 31 #[.val (.int p0), .val (.int p1), .val (.int p0), .val (.long (p0.toInt64 - (48 : Int64))), .second, .unset, .unset, .unset] [(.int (32 : Int32)), (.int p0)])) _
      refine XS.ior X0.here hx rfl (hb hby at_31) rfl ?_
      show Steps p.tables e below (s₁.setTop (mkF m 32 #[.val (.int p0), .val (.int p1), .val (.int p0), .val (.long (p0.toInt64 - (48 : Int64))), .second, .unset, .unset, .unset] [(.int (p0 ||| (32 : Int32)))])) _
      refine XS.i2l X0.here hx rfl (hb hby at_32) rfl ?_
      show Steps p.tables e below (s₁.setTop (mkF m 33 #[.val (.int p0), .val (.int p1), .val (.int p0), .val (.long (p0.toInt64 - (48 : Int64))), .second, .unset, .unset, .unset] [(.long (p0 ||| (32 : Int32)).toInt64)])) _
      refine X0.ldc2Long hx hown (mvT hZ (hw _ (List.mem_of_getElem? (i := 2) rfl))) (g := (mkF m 33 #[.val (.int p0), .val (.int p1), .val (.int p0), .val (.long (p0.toInt64 - (48 : Int64))), .second, .unset, .unset, .unset] [(.long (p0 ||| (32 : Int32)).toInt64)])) rfl (hb hby at_33) _ ?_
      show Steps p.tables e below (s₁.setTop (mkF m 36 #[.val (.int p0), .val (.int p1), .val (.int p0), .val (.long (p0.toInt64 - (48 : Int64))), .second, .unset, .unset, .unset] [(.long (97 : Int64)), (.long (p0 ||| (32 : Int32)).toInt64)])) _
      refine XS.lsub X0.here hx rfl (hb hby at_36) rfl ?_
      show Steps p.tables e below (s₁.setTop (mkF m 37 #[.val (.int p0), .val (.int p1), .val (.int p0), .val (.long (p0.toInt64 - (48 : Int64))), .second, .unset, .unset, .unset] [(.long ((p0 ||| (32 : Int32)).toInt64 - (97 : Int64)))])) _
      refine XS.lstore X0.here hx rfl (hb hby at_37) rfl (l' := #[.val (.int p0), .val (.int p1), .val (.int p0), .val (.long (p0.toInt64 - (48 : Int64))), .second, .val (.long ((p0 ||| (32 : Int32)).toInt64 - (97 : Int64))), .second, .unset]) rfl ?_
      show Steps p.tables e below (s₁.setTop (mkF m 39 #[.val (.int p0), .val (.int p1), .val (.int p0), .val (.long (p0.toInt64 - (48 : Int64))), .second, .val (.long ((p0 ||| (32 : Int32)).toInt64 - (97 : Int64))), .second, .unset] [])) _
      refine XS.lloadN X0.here hx rfl (hb hby at_39) rfl ?_
      show Steps p.tables e below (s₁.setTop (mkF m 40 #[.val (.int p0), .val (.int p1), .val (.int p0), .val (.long (p0.toInt64 - (48 : Int64))), .second, .val (.long ((p0 ||| (32 : Int32)).toInt64 - (97 : Int64))), .second, .unset] [(.long (p0.toInt64 - (48 : Int64)))])) _
      refine XS.lconst X0.here hx rfl (hb hby at_40) ?_
      show Steps p.tables e below (s₁.setTop (mkF m 41 #[.val (.int p0), .val (.int p1), .val (.int p0), .val (.long (p0.toInt64 - (48 : Int64))), .second, .val (.long ((p0 ||| (32 : Int32)).toInt64 - (97 : Int64))), .second, .unset] [(.long (0 : Int64)), (.long (p0.toInt64 - (48 : Int64)))])) _
      refine XS.lcmp X0.here hx rfl (hb hby at_41) rfl ?_
      exact kt
    by_cases hc42 : (lcmpW (p0.toInt64 - (48 : Int64)) (0 : Int64)) < (0 : Int32)
    · have k3 : ∀ target, Steps p.tables e below (s₁.setTop (mkF m 57 #[.val (.int p0), .val (.int p1), .val (.int p0), .val (.long (p0.toInt64 - (48 : Int64))), .second, .val (.long ((p0 ||| (32 : Int32)).toInt64 - (97 : Int64))), .second, .unset] [(.int (lcmpW ((p0 ||| (32 : Int32)).toInt64 - (97 : Int64)) (0 : Int64)))])) target → Steps p.tables e below (s₁.setTop (mkF m 0 #[.val (.int p0), .val (.int p1), .unset, .unset, .unset, .unset, .unset, .unset] [])) target := by
        intro target kt
        refine k2 _ ?_
        show Steps p.tables e below (s₁.setTop (mkF m 42 #[.val (.int p0), .val (.int p1), .val (.int p0), .val (.long (p0.toInt64 - (48 : Int64))), .second, .val (.long ((p0 ||| (32 : Int32)).toInt64 - (97 : Int64))), .second, .unset] [(.int (lcmpW (p0.toInt64 - (48 : Int64)) (0 : Int64)))])) _
        refine XS.ifYes X0.here hx rfl (pc0 := 42) (pc' := 53) rfl (hb hby at_42) rfl ((if0 _ _).trans (tlt hc42).1) (by decide) (by decide) ?_
        show Steps p.tables e below (s₁.setTop (mkF m 53 #[.val (.int p0), .val (.int p1), .val (.int p0), .val (.long (p0.toInt64 - (48 : Int64))), .second, .val (.long ((p0 ||| (32 : Int32)).toInt64 - (97 : Int64))), .second, .unset] [])) _
        refine XS.lload X0.here hx rfl (hb hby at_53) rfl ?_
        show Steps p.tables e below (s₁.setTop (mkF m 55 #[.val (.int p0), .val (.int p1), .val (.int p0), .val (.long (p0.toInt64 - (48 : Int64))), .second, .val (.long ((p0 ||| (32 : Int32)).toInt64 - (97 : Int64))), .second, .unset] [(.long ((p0 ||| (32 : Int32)).toInt64 - (97 : Int64)))])) _
        refine XS.lconst X0.here hx rfl (hb hby at_55) ?_
        show Steps p.tables e below (s₁.setTop (mkF m 56 #[.val (.int p0), .val (.int p1), .val (.int p0), .val (.long (p0.toInt64 - (48 : Int64))), .second, .val (.long ((p0 ||| (32 : Int32)).toInt64 - (97 : Int64))), .second, .unset] [(.long (0 : Int64)), (.long ((p0 ||| (32 : Int32)).toInt64 - (97 : Int64)))])) _
        refine XS.lcmp X0.here hx rfl (hb hby at_56) rfl ?_
        exact kt
      by_cases hc57 : (lcmpW ((p0 ||| (32 : Int32)).toInt64 - (97 : Int64)) (0 : Int64)) < (0 : Int32)
      · obtain ⟨_, _, ⟨T4, L4, k4, n4⟩, -, X4, ⟨Lc4, hQ4, l4, y4, z4⟩, st4⟩ := Jvm.LawKit.callS X0 hx (y := (⟨"com/example/ambit/ambit/SourceReader", "isHexDigit", "(I)Z"⟩ : MethodName)) hown (mvT hZ (hw _ (List.mem_of_getElem? (i := 3) rfl))) (mvT hZ (hw _ (List.mem_of_getElem? (i := 4) rfl))) (mvT hZ (hw _ (List.mem_of_getElem? (i := 5) rfl))) (mvT hZ (hw _ (List.mem_of_getElem? (i := 6) rfl))) (by decide) (backOf (W := 0) (rm_hex l Z a0 hw [] p0 h0 n0 Z0) hZ (hw _ (List.mem_of_getElem? (i := 6) rfl)) (hw _ (List.mem_of_getElem? (i := 5) rfl)) (by decide) (by decide)) (g := (mkF m 77 #[.val (.int p0), .val (.int p1), .val (.int p0), .val (.long (p0.toInt64 - (48 : Int64))), .second, .val (.long ((p0 ||| (32 : Int32)).toInt64 - (97 : Int64))), .second, .val (.int (0 : Int32))] [(.int p0)])) rfl (by rw [hml]; rfl) (argsL := [(.int p0)]) (rest := []) (lenOf pd_0 rfl) rfl (by show 2 * 0 + _ ≤ _; exact Nat.le_of_eq rfl) (hb hby at_77) (fun _ _ => ⟨rfl, e0, (by decide : 0 + 0 ≤ _), (by decide : 0 + 0 ≤ _)⟩)
        dsimp only [Pt.U, Pt.locs, Pt.cells, Pt.slots] at X4 l4 y4 z4 st4 hQ4
        subst l4 y4 z4
        obtain ⟨rfl, N4q, e4⟩ := hQ4
        have N4 := Fr.app N0 N4q
        obtain ⟨fs, hr, hrun, hended, hW, hsame⟩ := X4.leave (v := some (.int (1 : Int32))) (fun h => by rw [Bd.returns] at h; cases h)
        refine ⟨_, _, pre0 _ ?_, hrun, hended, _, _, rfl, ?_, ⟨_, rfl⟩, hW, hsame.mono (by decide) (by decide)⟩
        · refine k3 _ ?_
          show Steps p.tables e below (s₁.setTop (mkF m 57 #[.val (.int p0), .val (.int p1), .val (.int p0), .val (.long (p0.toInt64 - (48 : Int64))), .second, .val (.long ((p0 ||| (32 : Int32)).toInt64 - (97 : Int64))), .second, .unset] [(.int (lcmpW ((p0 ||| (32 : Int32)).toInt64 - (97 : Int64)) (0 : Int64)))])) _
          refine XS.ifYes X0.here hx rfl (pc0 := 57) (pc' := 73) rfl (hb hby at_57) rfl ((if0 _ _).trans (tlt hc57).1) (by decide) (by decide) ?_
          show Steps p.tables e below (s₁.setTop (mkF m 73 #[.val (.int p0), .val (.int p1), .val (.int p0), .val (.long (p0.toInt64 - (48 : Int64))), .second, .val (.long ((p0 ||| (32 : Int32)).toInt64 - (97 : Int64))), .second, .unset] [])) _
          refine XS.iconst X0.here hx rfl (hb hby at_73) ?_
          show Steps p.tables e below (s₁.setTop (mkF m 74 #[.val (.int p0), .val (.int p1), .val (.int p0), .val (.long (p0.toInt64 - (48 : Int64))), .second, .val (.long ((p0 ||| (32 : Int32)).toInt64 - (97 : Int64))), .second, .unset] [(.int (0 : Int32))])) _
          refine XS.istore X0.here hx rfl (hb hby at_74) rfl (l' := #[.val (.int p0), .val (.int p1), .val (.int p0), .val (.long (p0.toInt64 - (48 : Int64))), .second, .val (.long ((p0 ||| (32 : Int32)).toInt64 - (97 : Int64))), .second, .val (.int (0 : Int32))]) rfl ?_
          show Steps p.tables e below (s₁.setTop (mkF m 76 #[.val (.int p0), .val (.int p1), .val (.int p0), .val (.long (p0.toInt64 - (48 : Int64))), .second, .val (.long ((p0 ||| (32 : Int32)).toInt64 - (97 : Int64))), .second, .val (.int (0 : Int32))] [])) _
          refine XS.iloadN X0.here hx rfl (hb hby at_76) rfl ?_
          show Steps p.tables e below (s₁.setTop (mkF m 77 #[.val (.int p0), .val (.int p1), .val (.int p0), .val (.long (p0.toInt64 - (48 : Int64))), .second, .val (.long ((p0 ||| (32 : Int32)).toInt64 - (97 : Int64))), .second, .val (.int (0 : Int32))] [(.int p0)])) _
          refine st4 _ ?_
          show Steps p.tables e below (T4.setTop (mkF m 80 #[.val (.int p0), .val (.int p1), .val (.int p0), .val (.long (p0.toInt64 - (48 : Int64))), .second, .val (.long ((p0 ||| (32 : Int32)).toInt64 - (97 : Int64))), .second, .val (.int (0 : Int32))] [(.int (own_hex p0))])) _
          refine XS.iload X4.here hx rfl (hb hby at_80) rfl ?_
          show Steps p.tables e below (T4.setTop (mkF m 82 #[.val (.int p0), .val (.int p1), .val (.int p0), .val (.long (p0.toInt64 - (48 : Int64))), .second, .val (.long ((p0 ||| (32 : Int32)).toInt64 - (97 : Int64))), .second, .val (.int (0 : Int32))] [(.int (0 : Int32)), (.int (own_hex p0))])) _
          refine XS.icmpNo X4.here hx rfl (hb hby at_82) rfl (teq (own_hex_n (Or.inl hc42) (Or.inl hc57))).2 ?_
          show Steps p.tables e below (T4.setTop (mkF m 85 #[.val (.int p0), .val (.int p1), .val (.int p0), .val (.long (p0.toInt64 - (48 : Int64))), .second, .val (.long ((p0 ||| (32 : Int32)).toInt64 - (97 : Int64))), .second, .val (.int (0 : Int32))] [])) _
          refine XS.iconst X4.here hx rfl (hb hby at_85) ?_
          show Steps p.tables e below (T4.setTop (mkF m 86 #[.val (.int p0), .val (.int p1), .val (.int p0), .val (.long (p0.toInt64 - (48 : Int64))), .second, .val (.long ((p0 ||| (32 : Int32)).toInt64 - (97 : Int64))), .second, .val (.int (0 : Int32))] [(.int (1 : Int32))])) _
          refine XS.goto X4.here hx rfl (pc0 := 86) (pc' := 90) rfl (hb hby at_86) (by decide) (by decide) ?_
          show Steps p.tables e below (T4.setTop (mkF m 90 #[.val (.int p0), .val (.int p1), .val (.int p0), .val (.long (p0.toInt64 - (48 : Int64))), .second, .val (.long ((p0 ||| (32 : Int32)).toInt64 - (97 : Int64))), .second, .val (.int (0 : Int32))] [(.int (1 : Int32))])) _
          exact retN X4 hx (t := .boolean) Bd.returns (by simp) (hb hby at_90) hr
        · show Q_rm_law Z p0 p1 h0 n0 _ T4.heap _
          rw [e4]
          exact ⟨rfl, N4, rfl⟩
      · have k5 : ∀ target, Steps p.tables e below (s₁.setTop (mkF m 66 #[.val (.int p0), .val (.int p1), .val (.int p0), .val (.long (p0.toInt64 - (48 : Int64))), .second, .val (.long ((p0 ||| (32 : Int32)).toInt64 - (97 : Int64))), .second, .unset] [(.int (lcmpW ((p0 ||| (32 : Int32)).toInt64 - (97 : Int64)) (6 : Int64)))])) target → Steps p.tables e below (s₁.setTop (mkF m 0 #[.val (.int p0), .val (.int p1), .unset, .unset, .unset, .unset, .unset, .unset] [])) target := by
          intro target kt
          refine k3 _ ?_
          show Steps p.tables e below (s₁.setTop (mkF m 57 #[.val (.int p0), .val (.int p1), .val (.int p0), .val (.long (p0.toInt64 - (48 : Int64))), .second, .val (.long ((p0 ||| (32 : Int32)).toInt64 - (97 : Int64))), .second, .unset] [(.int (lcmpW ((p0 ||| (32 : Int32)).toInt64 - (97 : Int64)) (0 : Int64)))])) _
          refine XS.ifNo X0.here hx rfl (hb hby at_57) rfl ((if0 _ _).trans (flt hc57).1) ?_
          show Steps p.tables e below (s₁.setTop (mkF m 60 #[.val (.int p0), .val (.int p1), .val (.int p0), .val (.long (p0.toInt64 - (48 : Int64))), .second, .val (.long ((p0 ||| (32 : Int32)).toInt64 - (97 : Int64))), .second, .unset] [])) _
          refine XS.lload X0.here hx rfl (hb hby at_60) rfl ?_
          show Steps p.tables e below (s₁.setTop (mkF m 62 #[.val (.int p0), .val (.int p1), .val (.int p0), .val (.long (p0.toInt64 - (48 : Int64))), .second, .val (.long ((p0 ||| (32 : Int32)).toInt64 - (97 : Int64))), .second, .unset] [(.long ((p0 ||| (32 : Int32)).toInt64 - (97 : Int64)))])) _
          refine X0.ldc2Long hx hown (mvT hZ (hw _ (List.mem_of_getElem? (i := 8) rfl))) (g := (mkF m 62 #[.val (.int p0), .val (.int p1), .val (.int p0), .val (.long (p0.toInt64 - (48 : Int64))), .second, .val (.long ((p0 ||| (32 : Int32)).toInt64 - (97 : Int64))), .second, .unset] [(.long ((p0 ||| (32 : Int32)).toInt64 - (97 : Int64)))])) rfl (hb hby at_62) _ ?_
          show Steps p.tables e below (s₁.setTop (mkF m 65 #[.val (.int p0), .val (.int p1), .val (.int p0), .val (.long (p0.toInt64 - (48 : Int64))), .second, .val (.long ((p0 ||| (32 : Int32)).toInt64 - (97 : Int64))), .second, .unset] [(.long (6 : Int64)), (.long ((p0 ||| (32 : Int32)).toInt64 - (97 : Int64)))])) _
          refine XS.lcmp X0.here hx rfl (hb hby at_65) rfl ?_
          exact kt
        by_cases hc66 : (lcmpW ((p0 ||| (32 : Int32)).toInt64 - (97 : Int64)) (6 : Int64)) < (0 : Int32)
        · obtain ⟨_, _, ⟨T6, L6, k6, n6⟩, -, X6, ⟨Lc6, hQ6, l6, y6, z6⟩, st6⟩ := Jvm.LawKit.callS X0 hx (y := (⟨"com/example/ambit/ambit/SourceReader", "isHexDigit", "(I)Z"⟩ : MethodName)) hown (mvT hZ (hw _ (List.mem_of_getElem? (i := 3) rfl))) (mvT hZ (hw _ (List.mem_of_getElem? (i := 4) rfl))) (mvT hZ (hw _ (List.mem_of_getElem? (i := 5) rfl))) (mvT hZ (hw _ (List.mem_of_getElem? (i := 6) rfl))) (by decide) (backOf (W := 0) (rm_hex l Z a0 hw [] p0 h0 n0 Z0) hZ (hw _ (List.mem_of_getElem? (i := 6) rfl)) (hw _ (List.mem_of_getElem? (i := 5) rfl)) (by decide) (by decide)) (g := (mkF m 77 #[.val (.int p0), .val (.int p1), .val (.int p0), .val (.long (p0.toInt64 - (48 : Int64))), .second, .val (.long ((p0 ||| (32 : Int32)).toInt64 - (97 : Int64))), .second, .val (.int (1 : Int32))] [(.int p0)])) rfl (by rw [hml]; rfl) (argsL := [(.int p0)]) (rest := []) (lenOf pd_0 rfl) rfl (by show 2 * 0 + _ ≤ _; exact Nat.le_of_eq rfl) (hb hby at_77) (fun _ _ => ⟨rfl, e0, (by decide : 0 + 0 ≤ _), (by decide : 0 + 0 ≤ _)⟩)
          dsimp only [Pt.U, Pt.locs, Pt.cells, Pt.slots] at X6 l6 y6 z6 st6 hQ6
          subst l6 y6 z6
          obtain ⟨rfl, N6q, e6⟩ := hQ6
          have N6 := Fr.app N0 N6q
          obtain ⟨fs, hr, hrun, hended, hW, hsame⟩ := X6.leave (v := some (.int (1 : Int32))) (fun h => by rw [Bd.returns] at h; cases h)
          refine ⟨_, _, pre0 _ ?_, hrun, hended, _, _, rfl, ?_, ⟨_, rfl⟩, hW, hsame.mono (by decide) (by decide)⟩
          · refine k5 _ ?_
            show Steps p.tables e below (s₁.setTop (mkF m 66 #[.val (.int p0), .val (.int p1), .val (.int p0), .val (.long (p0.toInt64 - (48 : Int64))), .second, .val (.long ((p0 ||| (32 : Int32)).toInt64 - (97 : Int64))), .second, .unset] [(.int (lcmpW ((p0 ||| (32 : Int32)).toInt64 - (97 : Int64)) (6 : Int64)))])) _
            refine XS.ifNo X0.here hx rfl (hb hby at_66) rfl ((if0 _ _).trans (tlt hc66).2.1) ?_
            show Steps p.tables e below (s₁.setTop (mkF m 69 #[.val (.int p0), .val (.int p1), .val (.int p0), .val (.long (p0.toInt64 - (48 : Int64))), .second, .val (.long ((p0 ||| (32 : Int32)).toInt64 - (97 : Int64))), .second, .unset] [])) _
            refine XS.iconst X0.here hx rfl (hb hby at_69) ?_
            show Steps p.tables e below (s₁.setTop (mkF m 70 #[.val (.int p0), .val (.int p1), .val (.int p0), .val (.long (p0.toInt64 - (48 : Int64))), .second, .val (.long ((p0 ||| (32 : Int32)).toInt64 - (97 : Int64))), .second, .unset] [(.int (1 : Int32))])) _
            refine XS.goto X0.here hx rfl (pc0 := 70) (pc' := 74) rfl (hb hby at_70) (by decide) (by decide) ?_
            show Steps p.tables e below (s₁.setTop (mkF m 74 #[.val (.int p0), .val (.int p1), .val (.int p0), .val (.long (p0.toInt64 - (48 : Int64))), .second, .val (.long ((p0 ||| (32 : Int32)).toInt64 - (97 : Int64))), .second, .unset] [(.int (1 : Int32))])) _
            refine XS.istore X0.here hx rfl (hb hby at_74) rfl (l' := #[.val (.int p0), .val (.int p1), .val (.int p0), .val (.long (p0.toInt64 - (48 : Int64))), .second, .val (.long ((p0 ||| (32 : Int32)).toInt64 - (97 : Int64))), .second, .val (.int (1 : Int32))]) rfl ?_
            show Steps p.tables e below (s₁.setTop (mkF m 76 #[.val (.int p0), .val (.int p1), .val (.int p0), .val (.long (p0.toInt64 - (48 : Int64))), .second, .val (.long ((p0 ||| (32 : Int32)).toInt64 - (97 : Int64))), .second, .val (.int (1 : Int32))] [])) _
            refine XS.iloadN X0.here hx rfl (hb hby at_76) rfl ?_
            show Steps p.tables e below (s₁.setTop (mkF m 77 #[.val (.int p0), .val (.int p1), .val (.int p0), .val (.long (p0.toInt64 - (48 : Int64))), .second, .val (.long ((p0 ||| (32 : Int32)).toInt64 - (97 : Int64))), .second, .val (.int (1 : Int32))] [(.int p0)])) _
            refine st6 _ ?_
            show Steps p.tables e below (T6.setTop (mkF m 80 #[.val (.int p0), .val (.int p1), .val (.int p0), .val (.long (p0.toInt64 - (48 : Int64))), .second, .val (.long ((p0 ||| (32 : Int32)).toInt64 - (97 : Int64))), .second, .val (.int (1 : Int32))] [(.int (own_hex p0))])) _
            refine XS.iload X6.here hx rfl (hb hby at_80) rfl ?_
            show Steps p.tables e below (T6.setTop (mkF m 82 #[.val (.int p0), .val (.int p1), .val (.int p0), .val (.long (p0.toInt64 - (48 : Int64))), .second, .val (.long ((p0 ||| (32 : Int32)).toInt64 - (97 : Int64))), .second, .val (.int (1 : Int32))] [(.int (1 : Int32)), (.int (own_hex p0))])) _
            refine XS.icmpNo X6.here hx rfl (hb hby at_82) rfl (teq (own_hex_l hc57 hc66)).2 ?_
            show Steps p.tables e below (T6.setTop (mkF m 85 #[.val (.int p0), .val (.int p1), .val (.int p0), .val (.long (p0.toInt64 - (48 : Int64))), .second, .val (.long ((p0 ||| (32 : Int32)).toInt64 - (97 : Int64))), .second, .val (.int (1 : Int32))] [])) _
            refine XS.iconst X6.here hx rfl (hb hby at_85) ?_
            show Steps p.tables e below (T6.setTop (mkF m 86 #[.val (.int p0), .val (.int p1), .val (.int p0), .val (.long (p0.toInt64 - (48 : Int64))), .second, .val (.long ((p0 ||| (32 : Int32)).toInt64 - (97 : Int64))), .second, .val (.int (1 : Int32))] [(.int (1 : Int32))])) _
            refine XS.goto X6.here hx rfl (pc0 := 86) (pc' := 90) rfl (hb hby at_86) (by decide) (by decide) ?_
            show Steps p.tables e below (T6.setTop (mkF m 90 #[.val (.int p0), .val (.int p1), .val (.int p0), .val (.long (p0.toInt64 - (48 : Int64))), .second, .val (.long ((p0 ||| (32 : Int32)).toInt64 - (97 : Int64))), .second, .val (.int (1 : Int32))] [(.int (1 : Int32))])) _
            exact retN X6 hx (t := .boolean) Bd.returns (by simp) (hb hby at_90) hr
          · show Q_rm_law Z p0 p1 h0 n0 _ T6.heap _
            rw [e6]
            exact ⟨rfl, N6, rfl⟩
        · obtain ⟨_, _, ⟨T7, L7, k7, n7⟩, -, X7, ⟨Lc7, hQ7, l7, y7, z7⟩, st7⟩ := Jvm.LawKit.callS X0 hx (y := (⟨"com/example/ambit/ambit/SourceReader", "isHexDigit", "(I)Z"⟩ : MethodName)) hown (mvT hZ (hw _ (List.mem_of_getElem? (i := 3) rfl))) (mvT hZ (hw _ (List.mem_of_getElem? (i := 4) rfl))) (mvT hZ (hw _ (List.mem_of_getElem? (i := 5) rfl))) (mvT hZ (hw _ (List.mem_of_getElem? (i := 6) rfl))) (by decide) (backOf (W := 0) (rm_hex l Z a0 hw [] p0 h0 n0 Z0) hZ (hw _ (List.mem_of_getElem? (i := 6) rfl)) (hw _ (List.mem_of_getElem? (i := 5) rfl)) (by decide) (by decide)) (g := (mkF m 77 #[.val (.int p0), .val (.int p1), .val (.int p0), .val (.long (p0.toInt64 - (48 : Int64))), .second, .val (.long ((p0 ||| (32 : Int32)).toInt64 - (97 : Int64))), .second, .val (.int (0 : Int32))] [(.int p0)])) rfl (by rw [hml]; rfl) (argsL := [(.int p0)]) (rest := []) (lenOf pd_0 rfl) rfl (by show 2 * 0 + _ ≤ _; exact Nat.le_of_eq rfl) (hb hby at_77) (fun _ _ => ⟨rfl, e0, (by decide : 0 + 0 ≤ _), (by decide : 0 + 0 ≤ _)⟩)
          dsimp only [Pt.U, Pt.locs, Pt.cells, Pt.slots] at X7 l7 y7 z7 st7 hQ7
          subst l7 y7 z7
          obtain ⟨rfl, N7q, e7⟩ := hQ7
          have N7 := Fr.app N0 N7q
          obtain ⟨fs, hr, hrun, hended, hW, hsame⟩ := X7.leave (v := some (.int (1 : Int32))) (fun h => by rw [Bd.returns] at h; cases h)
          refine ⟨_, _, pre0 _ ?_, hrun, hended, _, _, rfl, ?_, ⟨_, rfl⟩, hW, hsame.mono (by decide) (by decide)⟩
          · refine k5 _ ?_
            show Steps p.tables e below (s₁.setTop (mkF m 66 #[.val (.int p0), .val (.int p1), .val (.int p0), .val (.long (p0.toInt64 - (48 : Int64))), .second, .val (.long ((p0 ||| (32 : Int32)).toInt64 - (97 : Int64))), .second, .unset] [(.int (lcmpW ((p0 ||| (32 : Int32)).toInt64 - (97 : Int64)) (6 : Int64)))])) _
            refine XS.ifYes X0.here hx rfl (pc0 := 66) (pc' := 73) rfl (hb hby at_66) rfl ((if0 _ _).trans (flt hc66).2.1) (by decide) (by decide) ?_
            show Steps p.tables e below (s₁.setTop (mkF m 73 #[.val (.int p0), .val (.int p1), .val (.int p0), .val (.long (p0.toInt64 - (48 : Int64))), .second, .val (.long ((p0 ||| (32 : Int32)).toInt64 - (97 : Int64))), .second, .unset] [])) _
            refine XS.iconst X0.here hx rfl (hb hby at_73) ?_
            show Steps p.tables e below (s₁.setTop (mkF m 74 #[.val (.int p0), .val (.int p1), .val (.int p0), .val (.long (p0.toInt64 - (48 : Int64))), .second, .val (.long ((p0 ||| (32 : Int32)).toInt64 - (97 : Int64))), .second, .unset] [(.int (0 : Int32))])) _
            refine XS.istore X0.here hx rfl (hb hby at_74) rfl (l' := #[.val (.int p0), .val (.int p1), .val (.int p0), .val (.long (p0.toInt64 - (48 : Int64))), .second, .val (.long ((p0 ||| (32 : Int32)).toInt64 - (97 : Int64))), .second, .val (.int (0 : Int32))]) rfl ?_
            show Steps p.tables e below (s₁.setTop (mkF m 76 #[.val (.int p0), .val (.int p1), .val (.int p0), .val (.long (p0.toInt64 - (48 : Int64))), .second, .val (.long ((p0 ||| (32 : Int32)).toInt64 - (97 : Int64))), .second, .val (.int (0 : Int32))] [])) _
            refine XS.iloadN X0.here hx rfl (hb hby at_76) rfl ?_
            show Steps p.tables e below (s₁.setTop (mkF m 77 #[.val (.int p0), .val (.int p1), .val (.int p0), .val (.long (p0.toInt64 - (48 : Int64))), .second, .val (.long ((p0 ||| (32 : Int32)).toInt64 - (97 : Int64))), .second, .val (.int (0 : Int32))] [(.int p0)])) _
            refine st7 _ ?_
            show Steps p.tables e below (T7.setTop (mkF m 80 #[.val (.int p0), .val (.int p1), .val (.int p0), .val (.long (p0.toInt64 - (48 : Int64))), .second, .val (.long ((p0 ||| (32 : Int32)).toInt64 - (97 : Int64))), .second, .val (.int (0 : Int32))] [(.int (own_hex p0))])) _
            refine XS.iload X7.here hx rfl (hb hby at_80) rfl ?_
            show Steps p.tables e below (T7.setTop (mkF m 82 #[.val (.int p0), .val (.int p1), .val (.int p0), .val (.long (p0.toInt64 - (48 : Int64))), .second, .val (.long ((p0 ||| (32 : Int32)).toInt64 - (97 : Int64))), .second, .val (.int (0 : Int32))] [(.int (0 : Int32)), (.int (own_hex p0))])) _
            refine XS.icmpNo X7.here hx rfl (hb hby at_82) rfl (teq (own_hex_n (Or.inl hc42) (Or.inr hc66))).2 ?_
            show Steps p.tables e below (T7.setTop (mkF m 85 #[.val (.int p0), .val (.int p1), .val (.int p0), .val (.long (p0.toInt64 - (48 : Int64))), .second, .val (.long ((p0 ||| (32 : Int32)).toInt64 - (97 : Int64))), .second, .val (.int (0 : Int32))] [])) _
            refine XS.iconst X7.here hx rfl (hb hby at_85) ?_
            show Steps p.tables e below (T7.setTop (mkF m 86 #[.val (.int p0), .val (.int p1), .val (.int p0), .val (.long (p0.toInt64 - (48 : Int64))), .second, .val (.long ((p0 ||| (32 : Int32)).toInt64 - (97 : Int64))), .second, .val (.int (0 : Int32))] [(.int (1 : Int32))])) _
            refine XS.goto X7.here hx rfl (pc0 := 86) (pc' := 90) rfl (hb hby at_86) (by decide) (by decide) ?_
            show Steps p.tables e below (T7.setTop (mkF m 90 #[.val (.int p0), .val (.int p1), .val (.int p0), .val (.long (p0.toInt64 - (48 : Int64))), .second, .val (.long ((p0 ||| (32 : Int32)).toInt64 - (97 : Int64))), .second, .val (.int (0 : Int32))] [(.int (1 : Int32))])) _
            exact retN X7 hx (t := .boolean) Bd.returns (by simp) (hb hby at_90) hr
          · show Q_rm_law Z p0 p1 h0 n0 _ T7.heap _
            rw [e7]
            exact ⟨rfl, N7, rfl⟩
    · have k8 : ∀ target, Steps p.tables e below (s₁.setTop (mkF m 50 #[.val (.int p0), .val (.int p1), .val (.int p0), .val (.long (p0.toInt64 - (48 : Int64))), .second, .val (.long ((p0 ||| (32 : Int32)).toInt64 - (97 : Int64))), .second, .unset] [(.int (lcmpW (p0.toInt64 - (48 : Int64)) (10 : Int64)))])) target → Steps p.tables e below (s₁.setTop (mkF m 0 #[.val (.int p0), .val (.int p1), .unset, .unset, .unset, .unset, .unset, .unset] [])) target := by
        intro target kt
        refine k2 _ ?_
        show Steps p.tables e below (s₁.setTop (mkF m 42 #[.val (.int p0), .val (.int p1), .val (.int p0), .val (.long (p0.toInt64 - (48 : Int64))), .second, .val (.long ((p0 ||| (32 : Int32)).toInt64 - (97 : Int64))), .second, .unset] [(.int (lcmpW (p0.toInt64 - (48 : Int64)) (0 : Int64)))])) _
        refine XS.ifNo X0.here hx rfl (hb hby at_42) rfl ((if0 _ _).trans (flt hc42).1) ?_
        show Steps p.tables e below (s₁.setTop (mkF m 45 #[.val (.int p0), .val (.int p1), .val (.int p0), .val (.long (p0.toInt64 - (48 : Int64))), .second, .val (.long ((p0 ||| (32 : Int32)).toInt64 - (97 : Int64))), .second, .unset] [])) _
        refine XS.lloadN X0.here hx rfl (hb hby at_45) rfl ?_
        show Steps p.tables e below (s₁.setTop (mkF m 46 #[.val (.int p0), .val (.int p1), .val (.int p0), .val (.long (p0.toInt64 - (48 : Int64))), .second, .val (.long ((p0 ||| (32 : Int32)).toInt64 - (97 : Int64))), .second, .unset] [(.long (p0.toInt64 - (48 : Int64)))])) _
        refine X0.ldc2Long hx hown (mvT hZ (hw _ (List.mem_of_getElem? (i := 7) rfl))) (g := (mkF m 46 #[.val (.int p0), .val (.int p1), .val (.int p0), .val (.long (p0.toInt64 - (48 : Int64))), .second, .val (.long ((p0 ||| (32 : Int32)).toInt64 - (97 : Int64))), .second, .unset] [(.long (p0.toInt64 - (48 : Int64)))])) rfl (hb hby at_46) _ ?_
        show Steps p.tables e below (s₁.setTop (mkF m 49 #[.val (.int p0), .val (.int p1), .val (.int p0), .val (.long (p0.toInt64 - (48 : Int64))), .second, .val (.long ((p0 ||| (32 : Int32)).toInt64 - (97 : Int64))), .second, .unset] [(.long (10 : Int64)), (.long (p0.toInt64 - (48 : Int64)))])) _
        refine XS.lcmp X0.here hx rfl (hb hby at_49) rfl ?_
        exact kt
      by_cases hc50 : (lcmpW (p0.toInt64 - (48 : Int64)) (10 : Int64)) < (0 : Int32)
      · obtain ⟨_, _, ⟨T9, L9, k9, n9⟩, -, X9, ⟨Lc9, hQ9, l9, y9, z9⟩, st9⟩ := Jvm.LawKit.callS X0 hx (y := (⟨"com/example/ambit/ambit/SourceReader", "isHexDigit", "(I)Z"⟩ : MethodName)) hown (mvT hZ (hw _ (List.mem_of_getElem? (i := 3) rfl))) (mvT hZ (hw _ (List.mem_of_getElem? (i := 4) rfl))) (mvT hZ (hw _ (List.mem_of_getElem? (i := 5) rfl))) (mvT hZ (hw _ (List.mem_of_getElem? (i := 6) rfl))) (by decide) (backOf (W := 0) (rm_hex l Z a0 hw [] p0 h0 n0 Z0) hZ (hw _ (List.mem_of_getElem? (i := 6) rfl)) (hw _ (List.mem_of_getElem? (i := 5) rfl)) (by decide) (by decide)) (g := (mkF m 77 #[.val (.int p0), .val (.int p1), .val (.int p0), .val (.long (p0.toInt64 - (48 : Int64))), .second, .val (.long ((p0 ||| (32 : Int32)).toInt64 - (97 : Int64))), .second, .val (.int (1 : Int32))] [(.int p0)])) rfl (by rw [hml]; rfl) (argsL := [(.int p0)]) (rest := []) (lenOf pd_0 rfl) rfl (by show 2 * 0 + _ ≤ _; exact Nat.le_of_eq rfl) (hb hby at_77) (fun _ _ => ⟨rfl, e0, (by decide : 0 + 0 ≤ _), (by decide : 0 + 0 ≤ _)⟩)
        dsimp only [Pt.U, Pt.locs, Pt.cells, Pt.slots] at X9 l9 y9 z9 st9 hQ9
        subst l9 y9 z9
        obtain ⟨rfl, N9q, e9⟩ := hQ9
        have N9 := Fr.app N0 N9q
        obtain ⟨fs, hr, hrun, hended, hW, hsame⟩ := X9.leave (v := some (.int (1 : Int32))) (fun h => by rw [Bd.returns] at h; cases h)
        refine ⟨_, _, pre0 _ ?_, hrun, hended, _, _, rfl, ?_, ⟨_, rfl⟩, hW, hsame.mono (by decide) (by decide)⟩
        · refine k8 _ ?_
          show Steps p.tables e below (s₁.setTop (mkF m 50 #[.val (.int p0), .val (.int p1), .val (.int p0), .val (.long (p0.toInt64 - (48 : Int64))), .second, .val (.long ((p0 ||| (32 : Int32)).toInt64 - (97 : Int64))), .second, .unset] [(.int (lcmpW (p0.toInt64 - (48 : Int64)) (10 : Int64)))])) _
          refine XS.ifYes X0.here hx rfl (pc0 := 50) (pc' := 69) rfl (hb hby at_50) rfl ((if0 _ _).trans (tlt hc50).1) (by decide) (by decide) ?_
          show Steps p.tables e below (s₁.setTop (mkF m 69 #[.val (.int p0), .val (.int p1), .val (.int p0), .val (.long (p0.toInt64 - (48 : Int64))), .second, .val (.long ((p0 ||| (32 : Int32)).toInt64 - (97 : Int64))), .second, .unset] [])) _
          refine XS.iconst X0.here hx rfl (hb hby at_69) ?_
          show Steps p.tables e below (s₁.setTop (mkF m 70 #[.val (.int p0), .val (.int p1), .val (.int p0), .val (.long (p0.toInt64 - (48 : Int64))), .second, .val (.long ((p0 ||| (32 : Int32)).toInt64 - (97 : Int64))), .second, .unset] [(.int (1 : Int32))])) _
          refine XS.goto X0.here hx rfl (pc0 := 70) (pc' := 74) rfl (hb hby at_70) (by decide) (by decide) ?_
          show Steps p.tables e below (s₁.setTop (mkF m 74 #[.val (.int p0), .val (.int p1), .val (.int p0), .val (.long (p0.toInt64 - (48 : Int64))), .second, .val (.long ((p0 ||| (32 : Int32)).toInt64 - (97 : Int64))), .second, .unset] [(.int (1 : Int32))])) _
          refine XS.istore X0.here hx rfl (hb hby at_74) rfl (l' := #[.val (.int p0), .val (.int p1), .val (.int p0), .val (.long (p0.toInt64 - (48 : Int64))), .second, .val (.long ((p0 ||| (32 : Int32)).toInt64 - (97 : Int64))), .second, .val (.int (1 : Int32))]) rfl ?_
          show Steps p.tables e below (s₁.setTop (mkF m 76 #[.val (.int p0), .val (.int p1), .val (.int p0), .val (.long (p0.toInt64 - (48 : Int64))), .second, .val (.long ((p0 ||| (32 : Int32)).toInt64 - (97 : Int64))), .second, .val (.int (1 : Int32))] [])) _
          refine XS.iloadN X0.here hx rfl (hb hby at_76) rfl ?_
          show Steps p.tables e below (s₁.setTop (mkF m 77 #[.val (.int p0), .val (.int p1), .val (.int p0), .val (.long (p0.toInt64 - (48 : Int64))), .second, .val (.long ((p0 ||| (32 : Int32)).toInt64 - (97 : Int64))), .second, .val (.int (1 : Int32))] [(.int p0)])) _
          refine st9 _ ?_
          show Steps p.tables e below (T9.setTop (mkF m 80 #[.val (.int p0), .val (.int p1), .val (.int p0), .val (.long (p0.toInt64 - (48 : Int64))), .second, .val (.long ((p0 ||| (32 : Int32)).toInt64 - (97 : Int64))), .second, .val (.int (1 : Int32))] [(.int (own_hex p0))])) _
          refine XS.iload X9.here hx rfl (hb hby at_80) rfl ?_
          show Steps p.tables e below (T9.setTop (mkF m 82 #[.val (.int p0), .val (.int p1), .val (.int p0), .val (.long (p0.toInt64 - (48 : Int64))), .second, .val (.long ((p0 ||| (32 : Int32)).toInt64 - (97 : Int64))), .second, .val (.int (1 : Int32))] [(.int (1 : Int32)), (.int (own_hex p0))])) _
          refine XS.icmpNo X9.here hx rfl (hb hby at_82) rfl (teq (own_hex_d hc42 hc50)).2 ?_
          show Steps p.tables e below (T9.setTop (mkF m 85 #[.val (.int p0), .val (.int p1), .val (.int p0), .val (.long (p0.toInt64 - (48 : Int64))), .second, .val (.long ((p0 ||| (32 : Int32)).toInt64 - (97 : Int64))), .second, .val (.int (1 : Int32))] [])) _
          refine XS.iconst X9.here hx rfl (hb hby at_85) ?_
          show Steps p.tables e below (T9.setTop (mkF m 86 #[.val (.int p0), .val (.int p1), .val (.int p0), .val (.long (p0.toInt64 - (48 : Int64))), .second, .val (.long ((p0 ||| (32 : Int32)).toInt64 - (97 : Int64))), .second, .val (.int (1 : Int32))] [(.int (1 : Int32))])) _
          refine XS.goto X9.here hx rfl (pc0 := 86) (pc' := 90) rfl (hb hby at_86) (by decide) (by decide) ?_
          show Steps p.tables e below (T9.setTop (mkF m 90 #[.val (.int p0), .val (.int p1), .val (.int p0), .val (.long (p0.toInt64 - (48 : Int64))), .second, .val (.long ((p0 ||| (32 : Int32)).toInt64 - (97 : Int64))), .second, .val (.int (1 : Int32))] [(.int (1 : Int32))])) _
          exact retN X9 hx (t := .boolean) Bd.returns (by simp) (hb hby at_90) hr
        · show Q_rm_law Z p0 p1 h0 n0 _ T9.heap _
          rw [e9]
          exact ⟨rfl, N9, rfl⟩
      · have k10 : ∀ target, Steps p.tables e below (s₁.setTop (mkF m 57 #[.val (.int p0), .val (.int p1), .val (.int p0), .val (.long (p0.toInt64 - (48 : Int64))), .second, .val (.long ((p0 ||| (32 : Int32)).toInt64 - (97 : Int64))), .second, .unset] [(.int (lcmpW ((p0 ||| (32 : Int32)).toInt64 - (97 : Int64)) (0 : Int64)))])) target → Steps p.tables e below (s₁.setTop (mkF m 0 #[.val (.int p0), .val (.int p1), .unset, .unset, .unset, .unset, .unset, .unset] [])) target := by
          intro target kt
          refine k8 _ ?_
          show Steps p.tables e below (s₁.setTop (mkF m 50 #[.val (.int p0), .val (.int p1), .val (.int p0), .val (.long (p0.toInt64 - (48 : Int64))), .second, .val (.long ((p0 ||| (32 : Int32)).toInt64 - (97 : Int64))), .second, .unset] [(.int (lcmpW (p0.toInt64 - (48 : Int64)) (10 : Int64)))])) _
          refine XS.ifNo X0.here hx rfl (hb hby at_50) rfl ((if0 _ _).trans (flt hc50).1) ?_
          show Steps p.tables e below (s₁.setTop (mkF m 53 #[.val (.int p0), .val (.int p1), .val (.int p0), .val (.long (p0.toInt64 - (48 : Int64))), .second, .val (.long ((p0 ||| (32 : Int32)).toInt64 - (97 : Int64))), .second, .unset] [])) _
          refine XS.lload X0.here hx rfl (hb hby at_53) rfl ?_
          show Steps p.tables e below (s₁.setTop (mkF m 55 #[.val (.int p0), .val (.int p1), .val (.int p0), .val (.long (p0.toInt64 - (48 : Int64))), .second, .val (.long ((p0 ||| (32 : Int32)).toInt64 - (97 : Int64))), .second, .unset] [(.long ((p0 ||| (32 : Int32)).toInt64 - (97 : Int64)))])) _
          refine XS.lconst X0.here hx rfl (hb hby at_55) ?_
          show Steps p.tables e below (s₁.setTop (mkF m 56 #[.val (.int p0), .val (.int p1), .val (.int p0), .val (.long (p0.toInt64 - (48 : Int64))), .second, .val (.long ((p0 ||| (32 : Int32)).toInt64 - (97 : Int64))), .second, .unset] [(.long (0 : Int64)), (.long ((p0 ||| (32 : Int32)).toInt64 - (97 : Int64)))])) _
          refine XS.lcmp X0.here hx rfl (hb hby at_56) rfl ?_
          exact kt
        by_cases hc57 : (lcmpW ((p0 ||| (32 : Int32)).toInt64 - (97 : Int64)) (0 : Int64)) < (0 : Int32)
        · obtain ⟨_, _, ⟨T11, L11, k11, n11⟩, -, X11, ⟨Lc11, hQ11, l11, y11, z11⟩, st11⟩ := Jvm.LawKit.callS X0 hx (y := (⟨"com/example/ambit/ambit/SourceReader", "isHexDigit", "(I)Z"⟩ : MethodName)) hown (mvT hZ (hw _ (List.mem_of_getElem? (i := 3) rfl))) (mvT hZ (hw _ (List.mem_of_getElem? (i := 4) rfl))) (mvT hZ (hw _ (List.mem_of_getElem? (i := 5) rfl))) (mvT hZ (hw _ (List.mem_of_getElem? (i := 6) rfl))) (by decide) (backOf (W := 0) (rm_hex l Z a0 hw [] p0 h0 n0 Z0) hZ (hw _ (List.mem_of_getElem? (i := 6) rfl)) (hw _ (List.mem_of_getElem? (i := 5) rfl)) (by decide) (by decide)) (g := (mkF m 77 #[.val (.int p0), .val (.int p1), .val (.int p0), .val (.long (p0.toInt64 - (48 : Int64))), .second, .val (.long ((p0 ||| (32 : Int32)).toInt64 - (97 : Int64))), .second, .val (.int (0 : Int32))] [(.int p0)])) rfl (by rw [hml]; rfl) (argsL := [(.int p0)]) (rest := []) (lenOf pd_0 rfl) rfl (by show 2 * 0 + _ ≤ _; exact Nat.le_of_eq rfl) (hb hby at_77) (fun _ _ => ⟨rfl, e0, (by decide : 0 + 0 ≤ _), (by decide : 0 + 0 ≤ _)⟩)
          dsimp only [Pt.U, Pt.locs, Pt.cells, Pt.slots] at X11 l11 y11 z11 st11 hQ11
          subst l11 y11 z11
          obtain ⟨rfl, N11q, e11⟩ := hQ11
          have N11 := Fr.app N0 N11q
          obtain ⟨fs, hr, hrun, hended, hW, hsame⟩ := X11.leave (v := some (.int (1 : Int32))) (fun h => by rw [Bd.returns] at h; cases h)
          refine ⟨_, _, pre0 _ ?_, hrun, hended, _, _, rfl, ?_, ⟨_, rfl⟩, hW, hsame.mono (by decide) (by decide)⟩
          · refine k10 _ ?_
            show Steps p.tables e below (s₁.setTop (mkF m 57 #[.val (.int p0), .val (.int p1), .val (.int p0), .val (.long (p0.toInt64 - (48 : Int64))), .second, .val (.long ((p0 ||| (32 : Int32)).toInt64 - (97 : Int64))), .second, .unset] [(.int (lcmpW ((p0 ||| (32 : Int32)).toInt64 - (97 : Int64)) (0 : Int64)))])) _
            refine XS.ifYes X0.here hx rfl (pc0 := 57) (pc' := 73) rfl (hb hby at_57) rfl ((if0 _ _).trans (tlt hc57).1) (by decide) (by decide) ?_
            show Steps p.tables e below (s₁.setTop (mkF m 73 #[.val (.int p0), .val (.int p1), .val (.int p0), .val (.long (p0.toInt64 - (48 : Int64))), .second, .val (.long ((p0 ||| (32 : Int32)).toInt64 - (97 : Int64))), .second, .unset] [])) _
            refine XS.iconst X0.here hx rfl (hb hby at_73) ?_
            show Steps p.tables e below (s₁.setTop (mkF m 74 #[.val (.int p0), .val (.int p1), .val (.int p0), .val (.long (p0.toInt64 - (48 : Int64))), .second, .val (.long ((p0 ||| (32 : Int32)).toInt64 - (97 : Int64))), .second, .unset] [(.int (0 : Int32))])) _
            refine XS.istore X0.here hx rfl (hb hby at_74) rfl (l' := #[.val (.int p0), .val (.int p1), .val (.int p0), .val (.long (p0.toInt64 - (48 : Int64))), .second, .val (.long ((p0 ||| (32 : Int32)).toInt64 - (97 : Int64))), .second, .val (.int (0 : Int32))]) rfl ?_
            show Steps p.tables e below (s₁.setTop (mkF m 76 #[.val (.int p0), .val (.int p1), .val (.int p0), .val (.long (p0.toInt64 - (48 : Int64))), .second, .val (.long ((p0 ||| (32 : Int32)).toInt64 - (97 : Int64))), .second, .val (.int (0 : Int32))] [])) _
            refine XS.iloadN X0.here hx rfl (hb hby at_76) rfl ?_
            show Steps p.tables e below (s₁.setTop (mkF m 77 #[.val (.int p0), .val (.int p1), .val (.int p0), .val (.long (p0.toInt64 - (48 : Int64))), .second, .val (.long ((p0 ||| (32 : Int32)).toInt64 - (97 : Int64))), .second, .val (.int (0 : Int32))] [(.int p0)])) _
            refine st11 _ ?_
            show Steps p.tables e below (T11.setTop (mkF m 80 #[.val (.int p0), .val (.int p1), .val (.int p0), .val (.long (p0.toInt64 - (48 : Int64))), .second, .val (.long ((p0 ||| (32 : Int32)).toInt64 - (97 : Int64))), .second, .val (.int (0 : Int32))] [(.int (own_hex p0))])) _
            refine XS.iload X11.here hx rfl (hb hby at_80) rfl ?_
            show Steps p.tables e below (T11.setTop (mkF m 82 #[.val (.int p0), .val (.int p1), .val (.int p0), .val (.long (p0.toInt64 - (48 : Int64))), .second, .val (.long ((p0 ||| (32 : Int32)).toInt64 - (97 : Int64))), .second, .val (.int (0 : Int32))] [(.int (0 : Int32)), (.int (own_hex p0))])) _
            refine XS.icmpNo X11.here hx rfl (hb hby at_82) rfl (teq (own_hex_n (Or.inr hc50) (Or.inl hc57))).2 ?_
            show Steps p.tables e below (T11.setTop (mkF m 85 #[.val (.int p0), .val (.int p1), .val (.int p0), .val (.long (p0.toInt64 - (48 : Int64))), .second, .val (.long ((p0 ||| (32 : Int32)).toInt64 - (97 : Int64))), .second, .val (.int (0 : Int32))] [])) _
            refine XS.iconst X11.here hx rfl (hb hby at_85) ?_
            show Steps p.tables e below (T11.setTop (mkF m 86 #[.val (.int p0), .val (.int p1), .val (.int p0), .val (.long (p0.toInt64 - (48 : Int64))), .second, .val (.long ((p0 ||| (32 : Int32)).toInt64 - (97 : Int64))), .second, .val (.int (0 : Int32))] [(.int (1 : Int32))])) _
            refine XS.goto X11.here hx rfl (pc0 := 86) (pc' := 90) rfl (hb hby at_86) (by decide) (by decide) ?_
            show Steps p.tables e below (T11.setTop (mkF m 90 #[.val (.int p0), .val (.int p1), .val (.int p0), .val (.long (p0.toInt64 - (48 : Int64))), .second, .val (.long ((p0 ||| (32 : Int32)).toInt64 - (97 : Int64))), .second, .val (.int (0 : Int32))] [(.int (1 : Int32))])) _
            exact retN X11 hx (t := .boolean) Bd.returns (by simp) (hb hby at_90) hr
          · show Q_rm_law Z p0 p1 h0 n0 _ T11.heap _
            rw [e11]
            exact ⟨rfl, N11, rfl⟩
        · have k12 : ∀ target, Steps p.tables e below (s₁.setTop (mkF m 66 #[.val (.int p0), .val (.int p1), .val (.int p0), .val (.long (p0.toInt64 - (48 : Int64))), .second, .val (.long ((p0 ||| (32 : Int32)).toInt64 - (97 : Int64))), .second, .unset] [(.int (lcmpW ((p0 ||| (32 : Int32)).toInt64 - (97 : Int64)) (6 : Int64)))])) target → Steps p.tables e below (s₁.setTop (mkF m 0 #[.val (.int p0), .val (.int p1), .unset, .unset, .unset, .unset, .unset, .unset] [])) target := by
            intro target kt
            refine k10 _ ?_
            show Steps p.tables e below (s₁.setTop (mkF m 57 #[.val (.int p0), .val (.int p1), .val (.int p0), .val (.long (p0.toInt64 - (48 : Int64))), .second, .val (.long ((p0 ||| (32 : Int32)).toInt64 - (97 : Int64))), .second, .unset] [(.int (lcmpW ((p0 ||| (32 : Int32)).toInt64 - (97 : Int64)) (0 : Int64)))])) _
            refine XS.ifNo X0.here hx rfl (hb hby at_57) rfl ((if0 _ _).trans (flt hc57).1) ?_
            show Steps p.tables e below (s₁.setTop (mkF m 60 #[.val (.int p0), .val (.int p1), .val (.int p0), .val (.long (p0.toInt64 - (48 : Int64))), .second, .val (.long ((p0 ||| (32 : Int32)).toInt64 - (97 : Int64))), .second, .unset] [])) _
            refine XS.lload X0.here hx rfl (hb hby at_60) rfl ?_
            show Steps p.tables e below (s₁.setTop (mkF m 62 #[.val (.int p0), .val (.int p1), .val (.int p0), .val (.long (p0.toInt64 - (48 : Int64))), .second, .val (.long ((p0 ||| (32 : Int32)).toInt64 - (97 : Int64))), .second, .unset] [(.long ((p0 ||| (32 : Int32)).toInt64 - (97 : Int64)))])) _
            refine X0.ldc2Long hx hown (mvT hZ (hw _ (List.mem_of_getElem? (i := 8) rfl))) (g := (mkF m 62 #[.val (.int p0), .val (.int p1), .val (.int p0), .val (.long (p0.toInt64 - (48 : Int64))), .second, .val (.long ((p0 ||| (32 : Int32)).toInt64 - (97 : Int64))), .second, .unset] [(.long ((p0 ||| (32 : Int32)).toInt64 - (97 : Int64)))])) rfl (hb hby at_62) _ ?_
            show Steps p.tables e below (s₁.setTop (mkF m 65 #[.val (.int p0), .val (.int p1), .val (.int p0), .val (.long (p0.toInt64 - (48 : Int64))), .second, .val (.long ((p0 ||| (32 : Int32)).toInt64 - (97 : Int64))), .second, .unset] [(.long (6 : Int64)), (.long ((p0 ||| (32 : Int32)).toInt64 - (97 : Int64)))])) _
            refine XS.lcmp X0.here hx rfl (hb hby at_65) rfl ?_
            exact kt
          by_cases hc66 : (lcmpW ((p0 ||| (32 : Int32)).toInt64 - (97 : Int64)) (6 : Int64)) < (0 : Int32)
          · obtain ⟨_, _, ⟨T13, L13, k13, n13⟩, -, X13, ⟨Lc13, hQ13, l13, y13, z13⟩, st13⟩ := Jvm.LawKit.callS X0 hx (y := (⟨"com/example/ambit/ambit/SourceReader", "isHexDigit", "(I)Z"⟩ : MethodName)) hown (mvT hZ (hw _ (List.mem_of_getElem? (i := 3) rfl))) (mvT hZ (hw _ (List.mem_of_getElem? (i := 4) rfl))) (mvT hZ (hw _ (List.mem_of_getElem? (i := 5) rfl))) (mvT hZ (hw _ (List.mem_of_getElem? (i := 6) rfl))) (by decide) (backOf (W := 0) (rm_hex l Z a0 hw [] p0 h0 n0 Z0) hZ (hw _ (List.mem_of_getElem? (i := 6) rfl)) (hw _ (List.mem_of_getElem? (i := 5) rfl)) (by decide) (by decide)) (g := (mkF m 77 #[.val (.int p0), .val (.int p1), .val (.int p0), .val (.long (p0.toInt64 - (48 : Int64))), .second, .val (.long ((p0 ||| (32 : Int32)).toInt64 - (97 : Int64))), .second, .val (.int (1 : Int32))] [(.int p0)])) rfl (by rw [hml]; rfl) (argsL := [(.int p0)]) (rest := []) (lenOf pd_0 rfl) rfl (by show 2 * 0 + _ ≤ _; exact Nat.le_of_eq rfl) (hb hby at_77) (fun _ _ => ⟨rfl, e0, (by decide : 0 + 0 ≤ _), (by decide : 0 + 0 ≤ _)⟩)
            dsimp only [Pt.U, Pt.locs, Pt.cells, Pt.slots] at X13 l13 y13 z13 st13 hQ13
            subst l13 y13 z13
            obtain ⟨rfl, N13q, e13⟩ := hQ13
            have N13 := Fr.app N0 N13q
            obtain ⟨fs, hr, hrun, hended, hW, hsame⟩ := X13.leave (v := some (.int (1 : Int32))) (fun h => by rw [Bd.returns] at h; cases h)
            refine ⟨_, _, pre0 _ ?_, hrun, hended, _, _, rfl, ?_, ⟨_, rfl⟩, hW, hsame.mono (by decide) (by decide)⟩
            · refine k12 _ ?_
              show Steps p.tables e below (s₁.setTop (mkF m 66 #[.val (.int p0), .val (.int p1), .val (.int p0), .val (.long (p0.toInt64 - (48 : Int64))), .second, .val (.long ((p0 ||| (32 : Int32)).toInt64 - (97 : Int64))), .second, .unset] [(.int (lcmpW ((p0 ||| (32 : Int32)).toInt64 - (97 : Int64)) (6 : Int64)))])) _
              refine XS.ifNo X0.here hx rfl (hb hby at_66) rfl ((if0 _ _).trans (tlt hc66).2.1) ?_
              show Steps p.tables e below (s₁.setTop (mkF m 69 #[.val (.int p0), .val (.int p1), .val (.int p0), .val (.long (p0.toInt64 - (48 : Int64))), .second, .val (.long ((p0 ||| (32 : Int32)).toInt64 - (97 : Int64))), .second, .unset] [])) _
              refine XS.iconst X0.here hx rfl (hb hby at_69) ?_
              show Steps p.tables e below (s₁.setTop (mkF m 70 #[.val (.int p0), .val (.int p1), .val (.int p0), .val (.long (p0.toInt64 - (48 : Int64))), .second, .val (.long ((p0 ||| (32 : Int32)).toInt64 - (97 : Int64))), .second, .unset] [(.int (1 : Int32))])) _
              refine XS.goto X0.here hx rfl (pc0 := 70) (pc' := 74) rfl (hb hby at_70) (by decide) (by decide) ?_
              show Steps p.tables e below (s₁.setTop (mkF m 74 #[.val (.int p0), .val (.int p1), .val (.int p0), .val (.long (p0.toInt64 - (48 : Int64))), .second, .val (.long ((p0 ||| (32 : Int32)).toInt64 - (97 : Int64))), .second, .unset] [(.int (1 : Int32))])) _
              refine XS.istore X0.here hx rfl (hb hby at_74) rfl (l' := #[.val (.int p0), .val (.int p1), .val (.int p0), .val (.long (p0.toInt64 - (48 : Int64))), .second, .val (.long ((p0 ||| (32 : Int32)).toInt64 - (97 : Int64))), .second, .val (.int (1 : Int32))]) rfl ?_
              show Steps p.tables e below (s₁.setTop (mkF m 76 #[.val (.int p0), .val (.int p1), .val (.int p0), .val (.long (p0.toInt64 - (48 : Int64))), .second, .val (.long ((p0 ||| (32 : Int32)).toInt64 - (97 : Int64))), .second, .val (.int (1 : Int32))] [])) _
              refine XS.iloadN X0.here hx rfl (hb hby at_76) rfl ?_
              show Steps p.tables e below (s₁.setTop (mkF m 77 #[.val (.int p0), .val (.int p1), .val (.int p0), .val (.long (p0.toInt64 - (48 : Int64))), .second, .val (.long ((p0 ||| (32 : Int32)).toInt64 - (97 : Int64))), .second, .val (.int (1 : Int32))] [(.int p0)])) _
              refine st13 _ ?_
              show Steps p.tables e below (T13.setTop (mkF m 80 #[.val (.int p0), .val (.int p1), .val (.int p0), .val (.long (p0.toInt64 - (48 : Int64))), .second, .val (.long ((p0 ||| (32 : Int32)).toInt64 - (97 : Int64))), .second, .val (.int (1 : Int32))] [(.int (own_hex p0))])) _
              refine XS.iload X13.here hx rfl (hb hby at_80) rfl ?_
              show Steps p.tables e below (T13.setTop (mkF m 82 #[.val (.int p0), .val (.int p1), .val (.int p0), .val (.long (p0.toInt64 - (48 : Int64))), .second, .val (.long ((p0 ||| (32 : Int32)).toInt64 - (97 : Int64))), .second, .val (.int (1 : Int32))] [(.int (1 : Int32)), (.int (own_hex p0))])) _
              refine XS.icmpNo X13.here hx rfl (hb hby at_82) rfl (teq (own_hex_l hc57 hc66)).2 ?_
              show Steps p.tables e below (T13.setTop (mkF m 85 #[.val (.int p0), .val (.int p1), .val (.int p0), .val (.long (p0.toInt64 - (48 : Int64))), .second, .val (.long ((p0 ||| (32 : Int32)).toInt64 - (97 : Int64))), .second, .val (.int (1 : Int32))] [])) _
              refine XS.iconst X13.here hx rfl (hb hby at_85) ?_
              show Steps p.tables e below (T13.setTop (mkF m 86 #[.val (.int p0), .val (.int p1), .val (.int p0), .val (.long (p0.toInt64 - (48 : Int64))), .second, .val (.long ((p0 ||| (32 : Int32)).toInt64 - (97 : Int64))), .second, .val (.int (1 : Int32))] [(.int (1 : Int32))])) _
              refine XS.goto X13.here hx rfl (pc0 := 86) (pc' := 90) rfl (hb hby at_86) (by decide) (by decide) ?_
              show Steps p.tables e below (T13.setTop (mkF m 90 #[.val (.int p0), .val (.int p1), .val (.int p0), .val (.long (p0.toInt64 - (48 : Int64))), .second, .val (.long ((p0 ||| (32 : Int32)).toInt64 - (97 : Int64))), .second, .val (.int (1 : Int32))] [(.int (1 : Int32))])) _
              exact retN X13 hx (t := .boolean) Bd.returns (by simp) (hb hby at_90) hr
            · show Q_rm_law Z p0 p1 h0 n0 _ T13.heap _
              rw [e13]
              exact ⟨rfl, N13, rfl⟩
          · obtain ⟨_, _, ⟨T14, L14, k14, n14⟩, -, X14, ⟨Lc14, hQ14, l14, y14, z14⟩, st14⟩ := Jvm.LawKit.callS X0 hx (y := (⟨"com/example/ambit/ambit/SourceReader", "isHexDigit", "(I)Z"⟩ : MethodName)) hown (mvT hZ (hw _ (List.mem_of_getElem? (i := 3) rfl))) (mvT hZ (hw _ (List.mem_of_getElem? (i := 4) rfl))) (mvT hZ (hw _ (List.mem_of_getElem? (i := 5) rfl))) (mvT hZ (hw _ (List.mem_of_getElem? (i := 6) rfl))) (by decide) (backOf (W := 0) (rm_hex l Z a0 hw [] p0 h0 n0 Z0) hZ (hw _ (List.mem_of_getElem? (i := 6) rfl)) (hw _ (List.mem_of_getElem? (i := 5) rfl)) (by decide) (by decide)) (g := (mkF m 77 #[.val (.int p0), .val (.int p1), .val (.int p0), .val (.long (p0.toInt64 - (48 : Int64))), .second, .val (.long ((p0 ||| (32 : Int32)).toInt64 - (97 : Int64))), .second, .val (.int (0 : Int32))] [(.int p0)])) rfl (by rw [hml]; rfl) (argsL := [(.int p0)]) (rest := []) (lenOf pd_0 rfl) rfl (by show 2 * 0 + _ ≤ _; exact Nat.le_of_eq rfl) (hb hby at_77) (fun _ _ => ⟨rfl, e0, (by decide : 0 + 0 ≤ _), (by decide : 0 + 0 ≤ _)⟩)
            dsimp only [Pt.U, Pt.locs, Pt.cells, Pt.slots] at X14 l14 y14 z14 st14 hQ14
            subst l14 y14 z14
            obtain ⟨rfl, N14q, e14⟩ := hQ14
            have N14 := Fr.app N0 N14q
            obtain ⟨fs, hr, hrun, hended, hW, hsame⟩ := X14.leave (v := some (.int (1 : Int32))) (fun h => by rw [Bd.returns] at h; cases h)
            refine ⟨_, _, pre0 _ ?_, hrun, hended, _, _, rfl, ?_, ⟨_, rfl⟩, hW, hsame.mono (by decide) (by decide)⟩
            · refine k12 _ ?_
              show Steps p.tables e below (s₁.setTop (mkF m 66 #[.val (.int p0), .val (.int p1), .val (.int p0), .val (.long (p0.toInt64 - (48 : Int64))), .second, .val (.long ((p0 ||| (32 : Int32)).toInt64 - (97 : Int64))), .second, .unset] [(.int (lcmpW ((p0 ||| (32 : Int32)).toInt64 - (97 : Int64)) (6 : Int64)))])) _
              refine XS.ifYes X0.here hx rfl (pc0 := 66) (pc' := 73) rfl (hb hby at_66) rfl ((if0 _ _).trans (flt hc66).2.1) (by decide) (by decide) ?_
              show Steps p.tables e below (s₁.setTop (mkF m 73 #[.val (.int p0), .val (.int p1), .val (.int p0), .val (.long (p0.toInt64 - (48 : Int64))), .second, .val (.long ((p0 ||| (32 : Int32)).toInt64 - (97 : Int64))), .second, .unset] [])) _
              refine XS.iconst X0.here hx rfl (hb hby at_73) ?_
              show Steps p.tables e below (s₁.setTop (mkF m 74 #[.val (.int p0), .val (.int p1), .val (.int p0), .val (.long (p0.toInt64 - (48 : Int64))), .second, .val (.long ((p0 ||| (32 : Int32)).toInt64 - (97 : Int64))), .second, .unset] [(.int (0 : Int32))])) _
              refine XS.istore X0.here hx rfl (hb hby at_74) rfl (l' := #[.val (.int p0), .val (.int p1), .val (.int p0), .val (.long (p0.toInt64 - (48 : Int64))), .second, .val (.long ((p0 ||| (32 : Int32)).toInt64 - (97 : Int64))), .second, .val (.int (0 : Int32))]) rfl ?_
              show Steps p.tables e below (s₁.setTop (mkF m 76 #[.val (.int p0), .val (.int p1), .val (.int p0), .val (.long (p0.toInt64 - (48 : Int64))), .second, .val (.long ((p0 ||| (32 : Int32)).toInt64 - (97 : Int64))), .second, .val (.int (0 : Int32))] [])) _
              refine XS.iloadN X0.here hx rfl (hb hby at_76) rfl ?_
              show Steps p.tables e below (s₁.setTop (mkF m 77 #[.val (.int p0), .val (.int p1), .val (.int p0), .val (.long (p0.toInt64 - (48 : Int64))), .second, .val (.long ((p0 ||| (32 : Int32)).toInt64 - (97 : Int64))), .second, .val (.int (0 : Int32))] [(.int p0)])) _
              refine st14 _ ?_
              show Steps p.tables e below (T14.setTop (mkF m 80 #[.val (.int p0), .val (.int p1), .val (.int p0), .val (.long (p0.toInt64 - (48 : Int64))), .second, .val (.long ((p0 ||| (32 : Int32)).toInt64 - (97 : Int64))), .second, .val (.int (0 : Int32))] [(.int (own_hex p0))])) _
              refine XS.iload X14.here hx rfl (hb hby at_80) rfl ?_
              show Steps p.tables e below (T14.setTop (mkF m 82 #[.val (.int p0), .val (.int p1), .val (.int p0), .val (.long (p0.toInt64 - (48 : Int64))), .second, .val (.long ((p0 ||| (32 : Int32)).toInt64 - (97 : Int64))), .second, .val (.int (0 : Int32))] [(.int (0 : Int32)), (.int (own_hex p0))])) _
              refine XS.icmpNo X14.here hx rfl (hb hby at_82) rfl (teq (own_hex_n (Or.inr hc50) (Or.inr hc66))).2 ?_
              show Steps p.tables e below (T14.setTop (mkF m 85 #[.val (.int p0), .val (.int p1), .val (.int p0), .val (.long (p0.toInt64 - (48 : Int64))), .second, .val (.long ((p0 ||| (32 : Int32)).toInt64 - (97 : Int64))), .second, .val (.int (0 : Int32))] [])) _
              refine XS.iconst X14.here hx rfl (hb hby at_85) ?_
              show Steps p.tables e below (T14.setTop (mkF m 86 #[.val (.int p0), .val (.int p1), .val (.int p0), .val (.long (p0.toInt64 - (48 : Int64))), .second, .val (.long ((p0 ||| (32 : Int32)).toInt64 - (97 : Int64))), .second, .val (.int (0 : Int32))] [(.int (1 : Int32))])) _
              refine XS.goto X14.here hx rfl (pc0 := 86) (pc' := 90) rfl (hb hby at_86) (by decide) (by decide) ?_
              show Steps p.tables e below (T14.setTop (mkF m 90 #[.val (.int p0), .val (.int p1), .val (.int p0), .val (.long (p0.toInt64 - (48 : Int64))), .second, .val (.long ((p0 ||| (32 : Int32)).toInt64 - (97 : Int64))), .second, .val (.int (0 : Int32))] [(.int (1 : Int32))])) _
              exact retN X14 hx (t := .boolean) Bd.returns (by simp) (hb hby at_90) hr
            · show Q_rm_law Z p0 p1 h0 n0 _ T14.heap _
              rw [e14]
              exact ⟨rfl, N14, rfl⟩
  · have k15 : ∀ target, Steps p.tables e below (s₁.setTop (mkF m 42 #[.val (.int p0), .val (.int p1), .val (.int ((47 : Int32) + ((p0 &&& (2147483647 : Int32)) % (80 : Int32)))), .val (.long (((47 : Int32) + ((p0 &&& (2147483647 : Int32)) % (80 : Int32))).toInt64 - (48 : Int64))), .second, .val (.long ((((47 : Int32) + ((p0 &&& (2147483647 : Int32)) % (80 : Int32))) ||| (32 : Int32)).toInt64 - (97 : Int64))), .second, .unset] [(.int (lcmpW (((47 : Int32) + ((p0 &&& (2147483647 : Int32)) % (80 : Int32))).toInt64 - (48 : Int64)) (0 : Int64)))])) target → Steps p.tables e below (s₁.setTop (mkF m 0 #[.val (.int p0), .val (.int p1), .unset, .unset, .unset, .unset, .unset, .unset] [])) target := by
      intro target kt
      refine k1 _ ?_
      show Steps p.tables e below (s₁.setTop (mkF m 3 #[.val (.int p0), .val (.int p1), .unset, .unset, .unset, .unset, .unset, .unset] [(.int (p1 &&& (1 : Int32)))])) _
      refine XS.ifNo X0.here hx rfl (hb hby at_3) rfl ((if0 _ _).trans (feq hc3).1) ?_
      show Steps p.tables e below (s₁.setTop (mkF m 6 #[.val (.int p0), .val (.int p1), .unset, .unset, .unset, .unset, .unset, .unset] [])) _
      refine XS.bipush X0.here hx rfl (hb hby at_6) ?_
      show Steps p.tables e below (s₁.setTop (mkF m 8 #[.val (.int p0), .val (.int p1), .unset, .unset, .unset, .unset, .unset, .unset] [(.int (47 : Int32))])) _
      refine XS.iloadN X0.here hx rfl (hb hby at_8) rfl ?_
      show Steps p.tables e below (s₁.setTop (mkF m 9 #[.val (.int p0), .val (.int p1), .unset, .unset, .unset, .unset, .unset, .unset] [(.int p0), (.int (47 : Int32))])) _
      refine X0.ldcInt hx hown (mvT hZ (hw _ (List.mem_of_getElem? (i := 0) rfl))) (g := (mkF m 9 #[.val (.int p0), .val (.int p1), .unset, .unset, .unset, .unset, .unset, .unset] [(.int p0), (.int (47 : Int32))])) rfl (hb hby at_9) _ ?_
      show Steps p.tables e below (s₁.setTop (mkF m 11 #[.val (.int p0), .val (.int p1), .unset, .unset, .unset, .unset, .unset, .unset] [(.int (2147483647 : Int32)), (.int p0), (.int (47 : Int32))])) _
      refine XS.iand X0.here hx rfl (hb hby at_11) rfl ?_
      show Steps p.tables e below (s₁.setTop (mkF m 12 #[.val (.int p0), .val (.int p1), .unset, .unset, .unset, .unset, .unset, .unset] [(.int (p0 &&& (2147483647 : Int32))), (.int (47 : Int32))])) _
      refine XS.bipush X0.here hx rfl (hb hby at_12) ?_
      show Steps p.tables e below (s₁.setTop (mkF m 14 #[.val (.int p0), .val (.int p1), .unset, .unset, .unset, .unset, .unset, .unset] [(.int (80 : Int32)), (.int (p0 &&& (2147483647 : Int32))), (.int (47 : Int32))])) _
      refine iremM X0 hx rfl (hb hby at_14) rfl (by decide) ?_
      show Steps p.tables e below (s₁.setTop (mkF m 15 #[.val (.int p0), .val (.int p1), .unset, .unset, .unset, .unset, .unset, .unset] [(.int ((p0 &&& (2147483647 : Int32)) % (80 : Int32))), (.int (47 : Int32))])) _
      refine XS.iadd X0.here hx rfl (hb hby at_15) rfl ?_
      show Steps p.tables e below (s₁.setTop (mkF m 16 #[.val (.int p0), .val (.int p1), .unset, .unset, .unset, .unset, .unset, .unset] [(.int ((47 : Int32) + ((p0 &&& (2147483647 : Int32)) % (80 : Int32))))])) _
      refine XS.goto X0.here hx rfl (pc0 := 16) (pc' := 20) rfl (hb hby at_16) (by decide) (by decide) ?_
      show Steps p.tables e below (s₁.setTop (mkF m 20 #[.val (.int p0), .val (.int p1), .unset, .unset, .unset, .unset, .unset, .unset] [(.int ((47 : Int32) + ((p0 &&& (2147483647 : Int32)) % (80 : Int32))))])) _
      refine XS.istoreN X0.here hx rfl (hb hby at_20) rfl (l' := #[.val (.int p0), .val (.int p1), .val (.int ((47 : Int32) + ((p0 &&& (2147483647 : Int32)) % (80 : Int32)))), .unset, .unset, .unset, .unset, .unset]) rfl ?_
      show Steps p.tables e below (s₁.setTop (mkF m 21 #[.val (.int p0), .val (.int p1), .val (.int ((47 : Int32) + ((p0 &&& (2147483647 : Int32)) % (80 : Int32)))), .unset, .unset, .unset, .unset, .unset] [])) _
      refine XS.iloadN X0.here hx rfl (hb hby at_21) rfl ?_
      show Steps p.tables e below (s₁.setTop (mkF m 22 #[.val (.int p0), .val (.int p1), .val (.int ((47 : Int32) + ((p0 &&& (2147483647 : Int32)) % (80 : Int32)))), .unset, .unset, .unset, .unset, .unset] [(.int ((47 : Int32) + ((p0 &&& (2147483647 : Int32)) % (80 : Int32))))])) _
      refine XS.i2l X0.here hx rfl (hb hby at_22) rfl ?_
      show Steps p.tables e below (s₁.setTop (mkF m 23 #[.val (.int p0), .val (.int p1), .val (.int ((47 : Int32) + ((p0 &&& (2147483647 : Int32)) % (80 : Int32)))), .unset, .unset, .unset, .unset, .unset] [(.long ((47 : Int32) + ((p0 &&& (2147483647 : Int32)) % (80 : Int32))).toInt64)])) _
      refine X0.ldc2Long hx hown (mvT hZ (hw _ (List.mem_of_getElem? (i := 1) rfl))) (g := (mkF m 23 #[.val (.int p0), .val (.int p1), .val (.int ((47 : Int32) + ((p0 &&& (2147483647 : Int32)) % (80 : Int32)))), .unset, .unset, .unset, .unset, .unset] [(.long ((47 : Int32) + ((p0 &&& (2147483647 : Int32)) % (80 : Int32))).toInt64)])) rfl (hb hby at_23) _ ?_
      show Steps p.tables e below (s₁.setTop (mkF m 26 #[.val (.int p0), .val (.int p1), .val (.int ((47 : Int32) + ((p0 &&& (2147483647 : Int32)) % (80 : Int32)))), .unset, .unset, .unset, .unset, .unset] [(.long (48 : Int64)), (.long ((47 : Int32) + ((p0 &&& (2147483647 : Int32)) % (80 : Int32))).toInt64)])) _
      refine XS.lsub X0.here hx rfl (hb hby at_26) rfl ?_
      show Steps p.tables e below (s₁.setTop (mkF m 27 #[.val (.int p0), .val (.int p1), .val (.int ((47 : Int32) + ((p0 &&& (2147483647 : Int32)) % (80 : Int32)))), .unset, .unset, .unset, .unset, .unset] [(.long (((47 : Int32) + ((p0 &&& (2147483647 : Int32)) % (80 : Int32))).toInt64 - (48 : Int64)))])) _
      refine XS.lstoreN X0.here hx rfl (hb hby at_27) rfl (l' := #[.val (.int p0), .val (.int p1), .val (.int ((47 : Int32) + ((p0 &&& (2147483647 : Int32)) % (80 : Int32)))), .val (.long (((47 : Int32) + ((p0 &&& (2147483647 : Int32)) % (80 : Int32))).toInt64 - (48 : Int64))), .second, .unset, .unset, .unset]) rfl ?_
      show Steps p.tables e below (s₁.setTop (mkF m 28 #[.val (.int p0), .val (.int p1), .val (.int ((47 : Int32) + ((p0 &&& (2147483647 : Int32)) % (80 : Int32)))), .val (.long (((47 : Int32) + ((p0 &&& (2147483647 : Int32)) % (80 : Int32))).toInt64 - (48 : Int64))), .second, .unset, .unset, .unset] [])) _
      refine XS.iloadN X0.here hx rfl (hb hby at_28) rfl ?_
      show Steps p.tables e below (s₁.setTop (mkF m 29 #[.val (.int p0), .val (.int p1), .val (.int ((47 : Int32) + ((p0 &&& (2147483647 : Int32)) % (80 : Int32)))), .val (.long (((47 : Int32) + ((p0 &&& (2147483647 : Int32)) % (80 : Int32))).toInt64 - (48 : Int64))), .second, .unset, .unset, .unset] [(.int ((47 : Int32) + ((p0 &&& (2147483647 : Int32)) % (80 : Int32))))])) _
      refine XS.bipush X0.here hx rfl (hb hby at_29) ?_
      show Steps p.tables e below (s₁.setTop (mkF m 31 #[.val (.int p0), .val (.int p1), .val (.int ((47 : Int32) + ((p0 &&& (2147483647 : Int32)) % (80 : Int32)))), .val (.long (((47 : Int32) + ((p0 &&& (2147483647 : Int32)) % (80 : Int32))).toInt64 - (48 : Int64))), .second, .unset, .unset, .unset] [(.int (32 : Int32)), (.int ((47 : Int32) + ((p0 &&& (2147483647 : Int32)) % (80 : Int32))))])) _
      refine XS.ior X0.here hx rfl (hb hby at_31) rfl ?_
      show Steps p.tables e below (s₁.setTop (mkF m 32 #[.val (.int p0), .val (.int p1), .val (.int ((47 : Int32) + ((p0 &&& (2147483647 : Int32)) % (80 : Int32)))), .val (.long (((47 : Int32) + ((p0 &&& (2147483647 : Int32)) % (80 : Int32))).toInt64 - (48 : Int64))), .second, .unset, .unset, .unset] [(.int (((47 : Int32) + ((p0 &&& (2147483647 : Int32)) % (80 : Int32))) ||| (32 : Int32)))])) _
      refine XS.i2l X0.here hx rfl (hb hby at_32) rfl ?_
      show Steps p.tables e below (s₁.setTop (mkF m 33 #[.val (.int p0), .val (.int p1), .val (.int ((47 : Int32) + ((p0 &&& (2147483647 : Int32)) % (80 : Int32)))), .val (.long (((47 : Int32) + ((p0 &&& (2147483647 : Int32)) % (80 : Int32))).toInt64 - (48 : Int64))), .second, .unset, .unset, .unset] [(.long (((47 : Int32) + ((p0 &&& (2147483647 : Int32)) % (80 : Int32))) ||| (32 : Int32)).toInt64)])) _
      refine X0.ldc2Long hx hown (mvT hZ (hw _ (List.mem_of_getElem? (i := 2) rfl))) (g := (mkF m 33 #[.val (.int p0), .val (.int p1), .val (.int ((47 : Int32) + ((p0 &&& (2147483647 : Int32)) % (80 : Int32)))), .val (.long (((47 : Int32) + ((p0 &&& (2147483647 : Int32)) % (80 : Int32))).toInt64 - (48 : Int64))), .second, .unset, .unset, .unset] [(.long (((47 : Int32) + ((p0 &&& (2147483647 : Int32)) % (80 : Int32))) ||| (32 : Int32)).toInt64)])) rfl (hb hby at_33) _ ?_
      show Steps p.tables e below (s₁.setTop (mkF m 36 #[.val (.int p0), .val (.int p1), .val (.int ((47 : Int32) + ((p0 &&& (2147483647 : Int32)) % (80 : Int32)))), .val (.long (((47 : Int32) + ((p0 &&& (2147483647 : Int32)) % (80 : Int32))).toInt64 - (48 : Int64))), .second, .unset, .unset, .unset] [(.long (97 : Int64)), (.long (((47 : Int32) + ((p0 &&& (2147483647 : Int32)) % (80 : Int32))) ||| (32 : Int32)).toInt64)])) _
      refine XS.lsub X0.here hx rfl (hb hby at_36) rfl ?_
      show Steps p.tables e below (s₁.setTop (mkF m 37 #[.val (.int p0), .val (.int p1), .val (.int ((47 : Int32) + ((p0 &&& (2147483647 : Int32)) % (80 : Int32)))), .val (.long (((47 : Int32) + ((p0 &&& (2147483647 : Int32)) % (80 : Int32))).toInt64 - (48 : Int64))), .second, .unset, .unset, .unset] [(.long ((((47 : Int32) + ((p0 &&& (2147483647 : Int32)) % (80 : Int32))) ||| (32 : Int32)).toInt64 - (97 : Int64)))])) _
      refine XS.lstore X0.here hx rfl (hb hby at_37) rfl (l' := #[.val (.int p0), .val (.int p1), .val (.int ((47 : Int32) + ((p0 &&& (2147483647 : Int32)) % (80 : Int32)))), .val (.long (((47 : Int32) + ((p0 &&& (2147483647 : Int32)) % (80 : Int32))).toInt64 - (48 : Int64))), .second, .val (.long ((((47 : Int32) + ((p0 &&& (2147483647 : Int32)) % (80 : Int32))) ||| (32 : Int32)).toInt64 - (97 : Int64))), .second, .unset]) rfl ?_
      show Steps p.tables e below (s₁.setTop (mkF m 39 #[.val (.int p0), .val (.int p1), .val (.int ((47 : Int32) + ((p0 &&& (2147483647 : Int32)) % (80 : Int32)))), .val (.long (((47 : Int32) + ((p0 &&& (2147483647 : Int32)) % (80 : Int32))).toInt64 - (48 : Int64))), .second, .val (.long ((((47 : Int32) + ((p0 &&& (2147483647 : Int32)) % (80 : Int32))) ||| (32 : Int32)).toInt64 - (97 : Int64))), .second, .unset] [])) _
      refine XS.lloadN X0.here hx rfl (hb hby at_39) rfl ?_
      show Steps p.tables e below (s₁.setTop (mkF m 40 #[.val (.int p0), .val (.int p1), .val (.int ((47 : Int32) + ((p0 &&& (2147483647 : Int32)) % (80 : Int32)))), .val (.long (((47 : Int32) + ((p0 &&& (2147483647 : Int32)) % (80 : Int32))).toInt64 - (48 : Int64))), .second, .val (.long ((((47 : Int32) + ((p0 &&& (2147483647 : Int32)) % (80 : Int32))) ||| (32 : Int32)).toInt64 - (97 : Int64))), .second, .unset] [(.long (((47 : Int32) + ((p0 &&& (2147483647 : Int32)) % (80 : Int32))).toInt64 - (48 : Int64)))])) _
      refine XS.lconst X0.here hx rfl (hb hby at_40) ?_
      show Steps p.tables e below (s₁.setTop (mkF m 41 #[.val (.int p0), .val (.int p1), .val (.int ((47 : Int32) + ((p0 &&& (2147483647 : Int32)) % (80 : Int32)))), .val (.long (((47 : Int32) + ((p0 &&& (2147483647 : Int32)) % (80 : Int32))).toInt64 - (48 : Int64))), .second, .val (.long ((((47 : Int32) + ((p0 &&& (2147483647 : Int32)) % (80 : Int32))) ||| (32 : Int32)).toInt64 - (97 : Int64))), .second, .unset] [(.long (0 : Int64)), (.long (((47 : Int32) + ((p0 &&& (2147483647 : Int32)) % (80 : Int32))).toInt64 - (48 : Int64)))])) _
      refine XS.lcmp X0.here hx rfl (hb hby at_41) rfl ?_
      exact kt
    by_cases hc42 : (lcmpW (((47 : Int32) + ((p0 &&& (2147483647 : Int32)) % (80 : Int32))).toInt64 - (48 : Int64)) (0 : Int64)) < (0 : Int32)
    · have k16 : ∀ target, Steps p.tables e below (s₁.setTop (mkF m 57 #[.val (.int p0), .val (.int p1), .val (.int ((47 : Int32) + ((p0 &&& (2147483647 : Int32)) % (80 : Int32)))), .val (.long (((47 : Int32) + ((p0 &&& (2147483647 : Int32)) % (80 : Int32))).toInt64 - (48 : Int64))), .second, .val (.long ((((47 : Int32) + ((p0 &&& (2147483647 : Int32)) % (80 : Int32))) ||| (32 : Int32)).toInt64 - (97 : Int64))), .second, .unset] [(.int (lcmpW ((((47 : Int32) + ((p0 &&& (2147483647 : Int32)) % (80 : Int32))) ||| (32 : Int32)).toInt64 - (97 : Int64)) (0 : Int64)))])) target → Steps p.tables e below (s₁.setTop (mkF m 0 #[.val (.int p0), .val (.int p1), .unset, .unset, .unset, .unset, .unset, .unset] [])) target := by
        intro target kt
        refine k15 _ ?_
        show Steps p.tables e below (s₁.setTop (mkF m 42 #[.val (.int p0), .val (.int p1), .val (.int ((47 : Int32) + ((p0 &&& (2147483647 : Int32)) % (80 : Int32)))), .val (.long (((47 : Int32) + ((p0 &&& (2147483647 : Int32)) % (80 : Int32))).toInt64 - (48 : Int64))), .second, .val (.long ((((47 : Int32) + ((p0 &&& (2147483647 : Int32)) % (80 : Int32))) ||| (32 : Int32)).toInt64 - (97 : Int64))), .second, .unset] [(.int (lcmpW (((47 : Int32) + ((p0 &&& (2147483647 : Int32)) % (80 : Int32))).toInt64 - (48 : Int64)) (0 : Int64)))])) _
        refine XS.ifYes X0.here hx rfl (pc0 := 42) (pc' := 53) rfl (hb hby at_42) rfl ((if0 _ _).trans (tlt hc42).1) (by decide) (by decide) ?_
        show Steps p.tables e below (s₁.setTop (mkF m 53 #[.val (.int p0), .val (.int p1), .val (.int ((47 : Int32) + ((p0 &&& (2147483647 : Int32)) % (80 : Int32)))), .val (.long (((47 : Int32) + ((p0 &&& (2147483647 : Int32)) % (80 : Int32))).toInt64 - (48 : Int64))), .second, .val (.long ((((47 : Int32) + ((p0 &&& (2147483647 : Int32)) % (80 : Int32))) ||| (32 : Int32)).toInt64 - (97 : Int64))), .second, .unset] [])) _
        refine XS.lload X0.here hx rfl (hb hby at_53) rfl ?_
        show Steps p.tables e below (s₁.setTop (mkF m 55 #[.val (.int p0), .val (.int p1), .val (.int ((47 : Int32) + ((p0 &&& (2147483647 : Int32)) % (80 : Int32)))), .val (.long (((47 : Int32) + ((p0 &&& (2147483647 : Int32)) % (80 : Int32))).toInt64 - (48 : Int64))), .second, .val (.long ((((47 : Int32) + ((p0 &&& (2147483647 : Int32)) % (80 : Int32))) ||| (32 : Int32)).toInt64 - (97 : Int64))), .second, .unset] [(.long ((((47 : Int32) + ((p0 &&& (2147483647 : Int32)) % (80 : Int32))) ||| (32 : Int32)).toInt64 - (97 : Int64)))])) _
        refine XS.lconst X0.here hx rfl (hb hby at_55) ?_
        show Steps p.tables e below (s₁.setTop (mkF m 56 #[.val (.int p0), .val (.int p1), .val (.int ((47 : Int32) + ((p0 &&& (2147483647 : Int32)) % (80 : Int32)))), .val (.long (((47 : Int32) + ((p0 &&& (2147483647 : Int32)) % (80 : Int32))).toInt64 - (48 : Int64))), .second, .val (.long ((((47 : Int32) + ((p0 &&& (2147483647 : Int32)) % (80 : Int32))) ||| (32 : Int32)).toInt64 - (97 : Int64))), .second, .unset] [(.long (0 : Int64)), (.long ((((47 : Int32) + ((p0 &&& (2147483647 : Int32)) % (80 : Int32))) ||| (32 : Int32)).toInt64 - (97 : Int64)))])) _
        refine XS.lcmp X0.here hx rfl (hb hby at_56) rfl ?_
        exact kt
      by_cases hc57 : (lcmpW ((((47 : Int32) + ((p0 &&& (2147483647 : Int32)) % (80 : Int32))) ||| (32 : Int32)).toInt64 - (97 : Int64)) (0 : Int64)) < (0 : Int32)
      · obtain ⟨_, _, ⟨T17, L17, k17, n17⟩, -, X17, ⟨Lc17, hQ17, l17, y17, z17⟩, st17⟩ := Jvm.LawKit.callS X0 hx (y := (⟨"com/example/ambit/ambit/SourceReader", "isHexDigit", "(I)Z"⟩ : MethodName)) hown (mvT hZ (hw _ (List.mem_of_getElem? (i := 3) rfl))) (mvT hZ (hw _ (List.mem_of_getElem? (i := 4) rfl))) (mvT hZ (hw _ (List.mem_of_getElem? (i := 5) rfl))) (mvT hZ (hw _ (List.mem_of_getElem? (i := 6) rfl))) (by decide) (backOf (W := 0) (rm_hex l Z a0 hw [] ((47 : Int32) + ((p0 &&& (2147483647 : Int32)) % (80 : Int32))) h0 n0 Z0) hZ (hw _ (List.mem_of_getElem? (i := 6) rfl)) (hw _ (List.mem_of_getElem? (i := 5) rfl)) (by decide) (by decide)) (g := (mkF m 77 #[.val (.int p0), .val (.int p1), .val (.int ((47 : Int32) + ((p0 &&& (2147483647 : Int32)) % (80 : Int32)))), .val (.long (((47 : Int32) + ((p0 &&& (2147483647 : Int32)) % (80 : Int32))).toInt64 - (48 : Int64))), .second, .val (.long ((((47 : Int32) + ((p0 &&& (2147483647 : Int32)) % (80 : Int32))) ||| (32 : Int32)).toInt64 - (97 : Int64))), .second, .val (.int (0 : Int32))] [(.int ((47 : Int32) + ((p0 &&& (2147483647 : Int32)) % (80 : Int32))))])) rfl (by rw [hml]; rfl) (argsL := [(.int ((47 : Int32) + ((p0 &&& (2147483647 : Int32)) % (80 : Int32))))]) (rest := []) (lenOf pd_0 rfl) rfl (by show 2 * 0 + _ ≤ _; exact Nat.le_of_eq rfl) (hb hby at_77) (fun _ _ => ⟨rfl, e0, (by decide : 0 + 0 ≤ _), (by decide : 0 + 0 ≤ _)⟩)
        dsimp only [Pt.U, Pt.locs, Pt.cells, Pt.slots] at X17 l17 y17 z17 st17 hQ17
        subst l17 y17 z17
        obtain ⟨rfl, N17q, e17⟩ := hQ17
        have N17 := Fr.app N0 N17q
        obtain ⟨fs, hr, hrun, hended, hW, hsame⟩ := X17.leave (v := some (.int (1 : Int32))) (fun h => by rw [Bd.returns] at h; cases h)
        refine ⟨_, _, pre0 _ ?_, hrun, hended, _, _, rfl, ?_, ⟨_, rfl⟩, hW, hsame.mono (by decide) (by decide)⟩
        · refine k16 _ ?_
          show Steps p.tables e below (s₁.setTop (mkF m 57 #[.val (.int p0), .val (.int p1), .val (.int ((47 : Int32) + ((p0 &&& (2147483647 : Int32)) % (80 : Int32)))), .val (.long (((47 : Int32) + ((p0 &&& (2147483647 : Int32)) % (80 : Int32))).toInt64 - (48 : Int64))), .second, .val (.long ((((47 : Int32) + ((p0 &&& (2147483647 : Int32)) % (80 : Int32))) ||| (32 : Int32)).toInt64 - (97 : Int64))), .second, .unset] [(.int (lcmpW ((((47 : Int32) + ((p0 &&& (2147483647 : Int32)) % (80 : Int32))) ||| (32 : Int32)).toInt64 - (97 : Int64)) (0 : Int64)))])) _
          refine XS.ifYes X0.here hx rfl (pc0 := 57) (pc' := 73) rfl (hb hby at_57) rfl ((if0 _ _).trans (tlt hc57).1) (by decide) (by decide) ?_
          show Steps p.tables e below (s₁.setTop (mkF m 73 #[.val (.int p0), .val (.int p1), .val (.int ((47 : Int32) + ((p0 &&& (2147483647 : Int32)) % (80 : Int32)))), .val (.long (((47 : Int32) + ((p0 &&& (2147483647 : Int32)) % (80 : Int32))).toInt64 - (48 : Int64))), .second, .val (.long ((((47 : Int32) + ((p0 &&& (2147483647 : Int32)) % (80 : Int32))) ||| (32 : Int32)).toInt64 - (97 : Int64))), .second, .unset] [])) _
          refine XS.iconst X0.here hx rfl (hb hby at_73) ?_
          show Steps p.tables e below (s₁.setTop (mkF m 74 #[.val (.int p0), .val (.int p1), .val (.int ((47 : Int32) + ((p0 &&& (2147483647 : Int32)) % (80 : Int32)))), .val (.long (((47 : Int32) + ((p0 &&& (2147483647 : Int32)) % (80 : Int32))).toInt64 - (48 : Int64))), .second, .val (.long ((((47 : Int32) + ((p0 &&& (2147483647 : Int32)) % (80 : Int32))) ||| (32 : Int32)).toInt64 - (97 : Int64))), .second, .unset] [(.int (0 : Int32))])) _
          refine XS.istore X0.here hx rfl (hb hby at_74) rfl (l' := #[.val (.int p0), .val (.int p1), .val (.int ((47 : Int32) + ((p0 &&& (2147483647 : Int32)) % (80 : Int32)))), .val (.long (((47 : Int32) + ((p0 &&& (2147483647 : Int32)) % (80 : Int32))).toInt64 - (48 : Int64))), .second, .val (.long ((((47 : Int32) + ((p0 &&& (2147483647 : Int32)) % (80 : Int32))) ||| (32 : Int32)).toInt64 - (97 : Int64))), .second, .val (.int (0 : Int32))]) rfl ?_
          show Steps p.tables e below (s₁.setTop (mkF m 76 #[.val (.int p0), .val (.int p1), .val (.int ((47 : Int32) + ((p0 &&& (2147483647 : Int32)) % (80 : Int32)))), .val (.long (((47 : Int32) + ((p0 &&& (2147483647 : Int32)) % (80 : Int32))).toInt64 - (48 : Int64))), .second, .val (.long ((((47 : Int32) + ((p0 &&& (2147483647 : Int32)) % (80 : Int32))) ||| (32 : Int32)).toInt64 - (97 : Int64))), .second, .val (.int (0 : Int32))] [])) _
          refine XS.iloadN X0.here hx rfl (hb hby at_76) rfl ?_
          show Steps p.tables e below (s₁.setTop (mkF m 77 #[.val (.int p0), .val (.int p1), .val (.int ((47 : Int32) + ((p0 &&& (2147483647 : Int32)) % (80 : Int32)))), .val (.long (((47 : Int32) + ((p0 &&& (2147483647 : Int32)) % (80 : Int32))).toInt64 - (48 : Int64))), .second, .val (.long ((((47 : Int32) + ((p0 &&& (2147483647 : Int32)) % (80 : Int32))) ||| (32 : Int32)).toInt64 - (97 : Int64))), .second, .val (.int (0 : Int32))] [(.int ((47 : Int32) + ((p0 &&& (2147483647 : Int32)) % (80 : Int32))))])) _
          refine st17 _ ?_
          show Steps p.tables e below (T17.setTop (mkF m 80 #[.val (.int p0), .val (.int p1), .val (.int ((47 : Int32) + ((p0 &&& (2147483647 : Int32)) % (80 : Int32)))), .val (.long (((47 : Int32) + ((p0 &&& (2147483647 : Int32)) % (80 : Int32))).toInt64 - (48 : Int64))), .second, .val (.long ((((47 : Int32) + ((p0 &&& (2147483647 : Int32)) % (80 : Int32))) ||| (32 : Int32)).toInt64 - (97 : Int64))), .second, .val (.int (0 : Int32))] [(.int (own_hex ((47 : Int32) + ((p0 &&& (2147483647 : Int32)) % (80 : Int32)))))])) _
          refine XS.iload X17.here hx rfl (hb hby at_80) rfl ?_
          show Steps p.tables e below (T17.setTop (mkF m 82 #[.val (.int p0), .val (.int p1), .val (.int ((47 : Int32) + ((p0 &&& (2147483647 : Int32)) % (80 : Int32)))), .val (.long (((47 : Int32) + ((p0 &&& (2147483647 : Int32)) % (80 : Int32))).toInt64 - (48 : Int64))), .second, .val (.long ((((47 : Int32) + ((p0 &&& (2147483647 : Int32)) % (80 : Int32))) ||| (32 : Int32)).toInt64 - (97 : Int64))), .second, .val (.int (0 : Int32))] [(.int (0 : Int32)), (.int (own_hex ((47 : Int32) + ((p0 &&& (2147483647 : Int32)) % (80 : Int32)))))])) _
          refine XS.icmpNo X17.here hx rfl (hb hby at_82) rfl (teq (own_hex_n (Or.inl hc42) (Or.inl hc57))).2 ?_
          show Steps p.tables e below (T17.setTop (mkF m 85 #[.val (.int p0), .val (.int p1), .val (.int ((47 : Int32) + ((p0 &&& (2147483647 : Int32)) % (80 : Int32)))), .val (.long (((47 : Int32) + ((p0 &&& (2147483647 : Int32)) % (80 : Int32))).toInt64 - (48 : Int64))), .second, .val (.long ((((47 : Int32) + ((p0 &&& (2147483647 : Int32)) % (80 : Int32))) ||| (32 : Int32)).toInt64 - (97 : Int64))), .second, .val (.int (0 : Int32))] [])) _
          refine XS.iconst X17.here hx rfl (hb hby at_85) ?_
          show Steps p.tables e below (T17.setTop (mkF m 86 #[.val (.int p0), .val (.int p1), .val (.int ((47 : Int32) + ((p0 &&& (2147483647 : Int32)) % (80 : Int32)))), .val (.long (((47 : Int32) + ((p0 &&& (2147483647 : Int32)) % (80 : Int32))).toInt64 - (48 : Int64))), .second, .val (.long ((((47 : Int32) + ((p0 &&& (2147483647 : Int32)) % (80 : Int32))) ||| (32 : Int32)).toInt64 - (97 : Int64))), .second, .val (.int (0 : Int32))] [(.int (1 : Int32))])) _
          refine XS.goto X17.here hx rfl (pc0 := 86) (pc' := 90) rfl (hb hby at_86) (by decide) (by decide) ?_
          show Steps p.tables e below (T17.setTop (mkF m 90 #[.val (.int p0), .val (.int p1), .val (.int ((47 : Int32) + ((p0 &&& (2147483647 : Int32)) % (80 : Int32)))), .val (.long (((47 : Int32) + ((p0 &&& (2147483647 : Int32)) % (80 : Int32))).toInt64 - (48 : Int64))), .second, .val (.long ((((47 : Int32) + ((p0 &&& (2147483647 : Int32)) % (80 : Int32))) ||| (32 : Int32)).toInt64 - (97 : Int64))), .second, .val (.int (0 : Int32))] [(.int (1 : Int32))])) _
          exact retN X17 hx (t := .boolean) Bd.returns (by simp) (hb hby at_90) hr
        · show Q_rm_law Z p0 p1 h0 n0 _ T17.heap _
          rw [e17]
          exact ⟨rfl, N17, rfl⟩
      · have k18 : ∀ target, Steps p.tables e below (s₁.setTop (mkF m 66 #[.val (.int p0), .val (.int p1), .val (.int ((47 : Int32) + ((p0 &&& (2147483647 : Int32)) % (80 : Int32)))), .val (.long (((47 : Int32) + ((p0 &&& (2147483647 : Int32)) % (80 : Int32))).toInt64 - (48 : Int64))), .second, .val (.long ((((47 : Int32) + ((p0 &&& (2147483647 : Int32)) % (80 : Int32))) ||| (32 : Int32)).toInt64 - (97 : Int64))), .second, .unset] [(.int (lcmpW ((((47 : Int32) + ((p0 &&& (2147483647 : Int32)) % (80 : Int32))) ||| (32 : Int32)).toInt64 - (97 : Int64)) (6 : Int64)))])) target → Steps p.tables e below (s₁.setTop (mkF m 0 #[.val (.int p0), .val (.int p1), .unset, .unset, .unset, .unset, .unset, .unset] [])) target := by
          intro target kt
          refine k16 _ ?_
          show Steps p.tables e below (s₁.setTop (mkF m 57 #[.val (.int p0), .val (.int p1), .val (.int ((47 : Int32) + ((p0 &&& (2147483647 : Int32)) % (80 : Int32)))), .val (.long (((47 : Int32) + ((p0 &&& (2147483647 : Int32)) % (80 : Int32))).toInt64 - (48 : Int64))), .second, .val (.long ((((47 : Int32) + ((p0 &&& (2147483647 : Int32)) % (80 : Int32))) ||| (32 : Int32)).toInt64 - (97 : Int64))), .second, .unset] [(.int (lcmpW ((((47 : Int32) + ((p0 &&& (2147483647 : Int32)) % (80 : Int32))) ||| (32 : Int32)).toInt64 - (97 : Int64)) (0 : Int64)))])) _
          refine XS.ifNo X0.here hx rfl (hb hby at_57) rfl ((if0 _ _).trans (flt hc57).1) ?_
          show Steps p.tables e below (s₁.setTop (mkF m 60 #[.val (.int p0), .val (.int p1), .val (.int ((47 : Int32) + ((p0 &&& (2147483647 : Int32)) % (80 : Int32)))), .val (.long (((47 : Int32) + ((p0 &&& (2147483647 : Int32)) % (80 : Int32))).toInt64 - (48 : Int64))), .second, .val (.long ((((47 : Int32) + ((p0 &&& (2147483647 : Int32)) % (80 : Int32))) ||| (32 : Int32)).toInt64 - (97 : Int64))), .second, .unset] [])) _
          refine XS.lload X0.here hx rfl (hb hby at_60) rfl ?_
          show Steps p.tables e below (s₁.setTop (mkF m 62 #[.val (.int p0), .val (.int p1), .val (.int ((47 : Int32) + ((p0 &&& (2147483647 : Int32)) % (80 : Int32)))), .val (.long (((47 : Int32) + ((p0 &&& (2147483647 : Int32)) % (80 : Int32))).toInt64 - (48 : Int64))), .second, .val (.long ((((47 : Int32) + ((p0 &&& (2147483647 : Int32)) % (80 : Int32))) ||| (32 : Int32)).toInt64 - (97 : Int64))), .second, .unset] [(.long ((((47 : Int32) + ((p0 &&& (2147483647 : Int32)) % (80 : Int32))) ||| (32 : Int32)).toInt64 - (97 : Int64)))])) _
          refine X0.ldc2Long hx hown (mvT hZ (hw _ (List.mem_of_getElem? (i := 8) rfl))) (g := (mkF m 62 #[.val (.int p0), .val (.int p1), .val (.int ((47 : Int32) + ((p0 &&& (2147483647 : Int32)) % (80 : Int32)))), .val (.long (((47 : Int32) + ((p0 &&& (2147483647 : Int32)) % (80 : Int32))).toInt64 - (48 : Int64))), .second, .val (.long ((((47 : Int32) + ((p0 &&& (2147483647 : Int32)) % (80 : Int32))) ||| (32 : Int32)).toInt64 - (97 : Int64))), .second, .unset] [(.long ((((47 : Int32) + ((p0 &&& (2147483647 : Int32)) % (80 : Int32))) ||| (32 : Int32)).toInt64 - (97 : Int64)))])) rfl (hb hby at_62) _ ?_
          show Steps p.tables e below (s₁.setTop (mkF m 65 #[.val (.int p0), .val (.int p1), .val (.int ((47 : Int32) + ((p0 &&& (2147483647 : Int32)) % (80 : Int32)))), .val (.long (((47 : Int32) + ((p0 &&& (2147483647 : Int32)) % (80 : Int32))).toInt64 - (48 : Int64))), .second, .val (.long ((((47 : Int32) + ((p0 &&& (2147483647 : Int32)) % (80 : Int32))) ||| (32 : Int32)).toInt64 - (97 : Int64))), .second, .unset] [(.long (6 : Int64)), (.long ((((47 : Int32) + ((p0 &&& (2147483647 : Int32)) % (80 : Int32))) ||| (32 : Int32)).toInt64 - (97 : Int64)))])) _
          refine XS.lcmp X0.here hx rfl (hb hby at_65) rfl ?_
          exact kt
        by_cases hc66 : (lcmpW ((((47 : Int32) + ((p0 &&& (2147483647 : Int32)) % (80 : Int32))) ||| (32 : Int32)).toInt64 - (97 : Int64)) (6 : Int64)) < (0 : Int32)
        · obtain ⟨_, _, ⟨T19, L19, k19, n19⟩, -, X19, ⟨Lc19, hQ19, l19, y19, z19⟩, st19⟩ := Jvm.LawKit.callS X0 hx (y := (⟨"com/example/ambit/ambit/SourceReader", "isHexDigit", "(I)Z"⟩ : MethodName)) hown (mvT hZ (hw _ (List.mem_of_getElem? (i := 3) rfl))) (mvT hZ (hw _ (List.mem_of_getElem? (i := 4) rfl))) (mvT hZ (hw _ (List.mem_of_getElem? (i := 5) rfl))) (mvT hZ (hw _ (List.mem_of_getElem? (i := 6) rfl))) (by decide) (backOf (W := 0) (rm_hex l Z a0 hw [] ((47 : Int32) + ((p0 &&& (2147483647 : Int32)) % (80 : Int32))) h0 n0 Z0) hZ (hw _ (List.mem_of_getElem? (i := 6) rfl)) (hw _ (List.mem_of_getElem? (i := 5) rfl)) (by decide) (by decide)) (g := (mkF m 77 #[.val (.int p0), .val (.int p1), .val (.int ((47 : Int32) + ((p0 &&& (2147483647 : Int32)) % (80 : Int32)))), .val (.long (((47 : Int32) + ((p0 &&& (2147483647 : Int32)) % (80 : Int32))).toInt64 - (48 : Int64))), .second, .val (.long ((((47 : Int32) + ((p0 &&& (2147483647 : Int32)) % (80 : Int32))) ||| (32 : Int32)).toInt64 - (97 : Int64))), .second, .val (.int (1 : Int32))] [(.int ((47 : Int32) + ((p0 &&& (2147483647 : Int32)) % (80 : Int32))))])) rfl (by rw [hml]; rfl) (argsL := [(.int ((47 : Int32) + ((p0 &&& (2147483647 : Int32)) % (80 : Int32))))]) (rest := []) (lenOf pd_0 rfl) rfl (by show 2 * 0 + _ ≤ _; exact Nat.le_of_eq rfl) (hb hby at_77) (fun _ _ => ⟨rfl, e0, (by decide : 0 + 0 ≤ _), (by decide : 0 + 0 ≤ _)⟩)
          dsimp only [Pt.U, Pt.locs, Pt.cells, Pt.slots] at X19 l19 y19 z19 st19 hQ19
          subst l19 y19 z19
          obtain ⟨rfl, N19q, e19⟩ := hQ19
          have N19 := Fr.app N0 N19q
          obtain ⟨fs, hr, hrun, hended, hW, hsame⟩ := X19.leave (v := some (.int (1 : Int32))) (fun h => by rw [Bd.returns] at h; cases h)
          refine ⟨_, _, pre0 _ ?_, hrun, hended, _, _, rfl, ?_, ⟨_, rfl⟩, hW, hsame.mono (by decide) (by decide)⟩
          · refine k18 _ ?_
            show Steps p.tables e below (s₁.setTop (mkF m 66 #[.val (.int p0), .val (.int p1), .val (.int ((47 : Int32) + ((p0 &&& (2147483647 : Int32)) % (80 : Int32)))), .val (.long (((47 : Int32) + ((p0 &&& (2147483647 : Int32)) % (80 : Int32))).toInt64 - (48 : Int64))), .second, .val (.long ((((47 : Int32) + ((p0 &&& (2147483647 : Int32)) % (80 : Int32))) ||| (32 : Int32)).toInt64 - (97 : Int64))), .second, .unset] [(.int (lcmpW ((((47 : Int32) + ((p0 &&& (2147483647 : Int32)) % (80 : Int32))) ||| (32 : Int32)).toInt64 - (97 : Int64)) (6 : Int64)))])) _
            refine XS.ifNo X0.here hx rfl (hb hby at_66) rfl ((if0 _ _).trans (tlt hc66).2.1) ?_
            show Steps p.tables e below (s₁.setTop (mkF m 69 #[.val (.int p0), .val (.int p1), .val (.int ((47 : Int32) + ((p0 &&& (2147483647 : Int32)) % (80 : Int32)))), .val (.long (((47 : Int32) + ((p0 &&& (2147483647 : Int32)) % (80 : Int32))).toInt64 - (48 : Int64))), .second, .val (.long ((((47 : Int32) + ((p0 &&& (2147483647 : Int32)) % (80 : Int32))) ||| (32 : Int32)).toInt64 - (97 : Int64))), .second, .unset] [])) _
            refine XS.iconst X0.here hx rfl (hb hby at_69) ?_
            show Steps p.tables e below (s₁.setTop (mkF m 70 #[.val (.int p0), .val (.int p1), .val (.int ((47 : Int32) + ((p0 &&& (2147483647 : Int32)) % (80 : Int32)))), .val (.long (((47 : Int32) + ((p0 &&& (2147483647 : Int32)) % (80 : Int32))).toInt64 - (48 : Int64))), .second, .val (.long ((((47 : Int32) + ((p0 &&& (2147483647 : Int32)) % (80 : Int32))) ||| (32 : Int32)).toInt64 - (97 : Int64))), .second, .unset] [(.int (1 : Int32))])) _
            refine XS.goto X0.here hx rfl (pc0 := 70) (pc' := 74) rfl (hb hby at_70) (by decide) (by decide) ?_
            show Steps p.tables e below (s₁.setTop (mkF m 74 #[.val (.int p0), .val (.int p1), .val (.int ((47 : Int32) + ((p0 &&& (2147483647 : Int32)) % (80 : Int32)))), .val (.long (((47 : Int32) + ((p0 &&& (2147483647 : Int32)) % (80 : Int32))).toInt64 - (48 : Int64))), .second, .val (.long ((((47 : Int32) + ((p0 &&& (2147483647 : Int32)) % (80 : Int32))) ||| (32 : Int32)).toInt64 - (97 : Int64))), .second, .unset] [(.int (1 : Int32))])) _
            refine XS.istore X0.here hx rfl (hb hby at_74) rfl (l' := #[.val (.int p0), .val (.int p1), .val (.int ((47 : Int32) + ((p0 &&& (2147483647 : Int32)) % (80 : Int32)))), .val (.long (((47 : Int32) + ((p0 &&& (2147483647 : Int32)) % (80 : Int32))).toInt64 - (48 : Int64))), .second, .val (.long ((((47 : Int32) + ((p0 &&& (2147483647 : Int32)) % (80 : Int32))) ||| (32 : Int32)).toInt64 - (97 : Int64))), .second, .val (.int (1 : Int32))]) rfl ?_
            show Steps p.tables e below (s₁.setTop (mkF m 76 #[.val (.int p0), .val (.int p1), .val (.int ((47 : Int32) + ((p0 &&& (2147483647 : Int32)) % (80 : Int32)))), .val (.long (((47 : Int32) + ((p0 &&& (2147483647 : Int32)) % (80 : Int32))).toInt64 - (48 : Int64))), .second, .val (.long ((((47 : Int32) + ((p0 &&& (2147483647 : Int32)) % (80 : Int32))) ||| (32 : Int32)).toInt64 - (97 : Int64))), .second, .val (.int (1 : Int32))] [])) _
            refine XS.iloadN X0.here hx rfl (hb hby at_76) rfl ?_
            show Steps p.tables e below (s₁.setTop (mkF m 77 #[.val (.int p0), .val (.int p1), .val (.int ((47 : Int32) + ((p0 &&& (2147483647 : Int32)) % (80 : Int32)))), .val (.long (((47 : Int32) + ((p0 &&& (2147483647 : Int32)) % (80 : Int32))).toInt64 - (48 : Int64))), .second, .val (.long ((((47 : Int32) + ((p0 &&& (2147483647 : Int32)) % (80 : Int32))) ||| (32 : Int32)).toInt64 - (97 : Int64))), .second, .val (.int (1 : Int32))] [(.int ((47 : Int32) + ((p0 &&& (2147483647 : Int32)) % (80 : Int32))))])) _
            refine st19 _ ?_
            show Steps p.tables e below (T19.setTop (mkF m 80 #[.val (.int p0), .val (.int p1), .val (.int ((47 : Int32) + ((p0 &&& (2147483647 : Int32)) % (80 : Int32)))), .val (.long (((47 : Int32) + ((p0 &&& (2147483647 : Int32)) % (80 : Int32))).toInt64 - (48 : Int64))), .second, .val (.long ((((47 : Int32) + ((p0 &&& (2147483647 : Int32)) % (80 : Int32))) ||| (32 : Int32)).toInt64 - (97 : Int64))), .second, .val (.int (1 : Int32))] [(.int (own_hex ((47 : Int32) + ((p0 &&& (2147483647 : Int32)) % (80 : Int32)))))])) _
            refine XS.iload X19.here hx rfl (hb hby at_80) rfl ?_
            show Steps p.tables e below (T19.setTop (mkF m 82 #[.val (.int p0), .val (.int p1), .val (.int ((47 : Int32) + ((p0 &&& (2147483647 : Int32)) % (80 : Int32)))), .val (.long (((47 : Int32) + ((p0 &&& (2147483647 : Int32)) % (80 : Int32))).toInt64 - (48 : Int64))), .second, .val (.long ((((47 : Int32) + ((p0 &&& (2147483647 : Int32)) % (80 : Int32))) ||| (32 : Int32)).toInt64 - (97 : Int64))), .second, .val (.int (1 : Int32))] [(.int (1 : Int32)), (.int (own_hex ((47 : Int32) + ((p0 &&& (2147483647 : Int32)) % (80 : Int32)))))])) _
            refine XS.icmpNo X19.here hx rfl (hb hby at_82) rfl (teq (own_hex_l hc57 hc66)).2 ?_
            show Steps p.tables e below (T19.setTop (mkF m 85 #[.val (.int p0), .val (.int p1), .val (.int ((47 : Int32) + ((p0 &&& (2147483647 : Int32)) % (80 : Int32)))), .val (.long (((47 : Int32) + ((p0 &&& (2147483647 : Int32)) % (80 : Int32))).toInt64 - (48 : Int64))), .second, .val (.long ((((47 : Int32) + ((p0 &&& (2147483647 : Int32)) % (80 : Int32))) ||| (32 : Int32)).toInt64 - (97 : Int64))), .second, .val (.int (1 : Int32))] [])) _
            refine XS.iconst X19.here hx rfl (hb hby at_85) ?_
            show Steps p.tables e below (T19.setTop (mkF m 86 #[.val (.int p0), .val (.int p1), .val (.int ((47 : Int32) + ((p0 &&& (2147483647 : Int32)) % (80 : Int32)))), .val (.long (((47 : Int32) + ((p0 &&& (2147483647 : Int32)) % (80 : Int32))).toInt64 - (48 : Int64))), .second, .val (.long ((((47 : Int32) + ((p0 &&& (2147483647 : Int32)) % (80 : Int32))) ||| (32 : Int32)).toInt64 - (97 : Int64))), .second, .val (.int (1 : Int32))] [(.int (1 : Int32))])) _
            refine XS.goto X19.here hx rfl (pc0 := 86) (pc' := 90) rfl (hb hby at_86) (by decide) (by decide) ?_
            show Steps p.tables e below (T19.setTop (mkF m 90 #[.val (.int p0), .val (.int p1), .val (.int ((47 : Int32) + ((p0 &&& (2147483647 : Int32)) % (80 : Int32)))), .val (.long (((47 : Int32) + ((p0 &&& (2147483647 : Int32)) % (80 : Int32))).toInt64 - (48 : Int64))), .second, .val (.long ((((47 : Int32) + ((p0 &&& (2147483647 : Int32)) % (80 : Int32))) ||| (32 : Int32)).toInt64 - (97 : Int64))), .second, .val (.int (1 : Int32))] [(.int (1 : Int32))])) _
            exact retN X19 hx (t := .boolean) Bd.returns (by simp) (hb hby at_90) hr
          · show Q_rm_law Z p0 p1 h0 n0 _ T19.heap _
            rw [e19]
            exact ⟨rfl, N19, rfl⟩
        · obtain ⟨_, _, ⟨T20, L20, k20, n20⟩, -, X20, ⟨Lc20, hQ20, l20, y20, z20⟩, st20⟩ := Jvm.LawKit.callS X0 hx (y := (⟨"com/example/ambit/ambit/SourceReader", "isHexDigit", "(I)Z"⟩ : MethodName)) hown (mvT hZ (hw _ (List.mem_of_getElem? (i := 3) rfl))) (mvT hZ (hw _ (List.mem_of_getElem? (i := 4) rfl))) (mvT hZ (hw _ (List.mem_of_getElem? (i := 5) rfl))) (mvT hZ (hw _ (List.mem_of_getElem? (i := 6) rfl))) (by decide) (backOf (W := 0) (rm_hex l Z a0 hw [] ((47 : Int32) + ((p0 &&& (2147483647 : Int32)) % (80 : Int32))) h0 n0 Z0) hZ (hw _ (List.mem_of_getElem? (i := 6) rfl)) (hw _ (List.mem_of_getElem? (i := 5) rfl)) (by decide) (by decide)) (g := (mkF m 77 #[.val (.int p0), .val (.int p1), .val (.int ((47 : Int32) + ((p0 &&& (2147483647 : Int32)) % (80 : Int32)))), .val (.long (((47 : Int32) + ((p0 &&& (2147483647 : Int32)) % (80 : Int32))).toInt64 - (48 : Int64))), .second, .val (.long ((((47 : Int32) + ((p0 &&& (2147483647 : Int32)) % (80 : Int32))) ||| (32 : Int32)).toInt64 - (97 : Int64))), .second, .val (.int (0 : Int32))] [(.int ((47 : Int32) + ((p0 &&& (2147483647 : Int32)) % (80 : Int32))))])) rfl (by rw [hml]; rfl) (argsL := [(.int ((47 : Int32) + ((p0 &&& (2147483647 : Int32)) % (80 : Int32))))]) (rest := []) (lenOf pd_0 rfl) rfl (by show 2 * 0 + _ ≤ _; exact Nat.le_of_eq rfl) (hb hby at_77) (fun _ _ => ⟨rfl, e0, (by decide : 0 + 0 ≤ _), (by decide : 0 + 0 ≤ _)⟩)
          dsimp only [Pt.U, Pt.locs, Pt.cells, Pt.slots] at X20 l20 y20 z20 st20 hQ20
          subst l20 y20 z20
          obtain ⟨rfl, N20q, e20⟩ := hQ20
          have N20 := Fr.app N0 N20q
          obtain ⟨fs, hr, hrun, hended, hW, hsame⟩ := X20.leave (v := some (.int (1 : Int32))) (fun h => by rw [Bd.returns] at h; cases h)
          refine ⟨_, _, pre0 _ ?_, hrun, hended, _, _, rfl, ?_, ⟨_, rfl⟩, hW, hsame.mono (by decide) (by decide)⟩
          · refine k18 _ ?_
            show Steps p.tables e below (s₁.setTop (mkF m 66 #[.val (.int p0), .val (.int p1), .val (.int ((47 : Int32) + ((p0 &&& (2147483647 : Int32)) % (80 : Int32)))), .val (.long (((47 : Int32) + ((p0 &&& (2147483647 : Int32)) % (80 : Int32))).toInt64 - (48 : Int64))), .second, .val (.long ((((47 : Int32) + ((p0 &&& (2147483647 : Int32)) % (80 : Int32))) ||| (32 : Int32)).toInt64 - (97 : Int64))), .second, .unset] [(.int (lcmpW ((((47 : Int32) + ((p0 &&& (2147483647 : Int32)) % (80 : Int32))) ||| (32 : Int32)).toInt64 - (97 : Int64)) (6 : Int64)))])) _
            refine XS.ifYes X0.here hx rfl (pc0 := 66) (pc' := 73) rfl (hb hby at_66) rfl ((if0 _ _).trans (flt hc66).2.1) (by decide) (by decide) ?_
            show Steps p.tables e below (s₁.setTop (mkF m 73 #[.val (.int p0), .val (.int p1), .val (.int ((47 : Int32) + ((p0 &&& (2147483647 : Int32)) % (80 : Int32)))), .val (.long (((47 : Int32) + ((p0 &&& (2147483647 : Int32)) % (80 : Int32))).toInt64 - (48 : Int64))), .second, .val (.long ((((47 : Int32) + ((p0 &&& (2147483647 : Int32)) % (80 : Int32))) ||| (32 : Int32)).toInt64 - (97 : Int64))), .second, .unset] [])) _
            refine XS.iconst X0.here hx rfl (hb hby at_73) ?_
            show Steps p.tables e below (s₁.setTop (mkF m 74 #[.val (.int p0), .val (.int p1), .val (.int ((47 : Int32) + ((p0 &&& (2147483647 : Int32)) % (80 : Int32)))), .val (.long (((47 : Int32) + ((p0 &&& (2147483647 : Int32)) % (80 : Int32))).toInt64 - (48 : Int64))), .second, .val (.long ((((47 : Int32) + ((p0 &&& (2147483647 : Int32)) % (80 : Int32))) ||| (32 : Int32)).toInt64 - (97 : Int64))), .second, .unset] [(.int (0 : Int32))])) _
            refine XS.istore X0.here hx rfl (hb hby at_74) rfl (l' := #[.val (.int p0), .val (.int p1), .val (.int ((47 : Int32) + ((p0 &&& (2147483647 : Int32)) % (80 : Int32)))), .val (.long (((47 : Int32) + ((p0 &&& (2147483647 : Int32)) % (80 : Int32))).toInt64 - (48 : Int64))), .second, .val (.long ((((47 : Int32) + ((p0 &&& (2147483647 : Int32)) % (80 : Int32))) ||| (32 : Int32)).toInt64 - (97 : Int64))), .second, .val (.int (0 : Int32))]) rfl ?_
            show Steps p.tables e below (s₁.setTop (mkF m 76 #[.val (.int p0), .val (.int p1), .val (.int ((47 : Int32) + ((p0 &&& (2147483647 : Int32)) % (80 : Int32)))), .val (.long (((47 : Int32) + ((p0 &&& (2147483647 : Int32)) % (80 : Int32))).toInt64 - (48 : Int64))), .second, .val (.long ((((47 : Int32) + ((p0 &&& (2147483647 : Int32)) % (80 : Int32))) ||| (32 : Int32)).toInt64 - (97 : Int64))), .second, .val (.int (0 : Int32))] [])) _
            refine XS.iloadN X0.here hx rfl (hb hby at_76) rfl ?_
            show Steps p.tables e below (s₁.setTop (mkF m 77 #[.val (.int p0), .val (.int p1), .val (.int ((47 : Int32) + ((p0 &&& (2147483647 : Int32)) % (80 : Int32)))), .val (.long (((47 : Int32) + ((p0 &&& (2147483647 : Int32)) % (80 : Int32))).toInt64 - (48 : Int64))), .second, .val (.long ((((47 : Int32) + ((p0 &&& (2147483647 : Int32)) % (80 : Int32))) ||| (32 : Int32)).toInt64 - (97 : Int64))), .second, .val (.int (0 : Int32))] [(.int ((47 : Int32) + ((p0 &&& (2147483647 : Int32)) % (80 : Int32))))])) _
            refine st20 _ ?_
            show Steps p.tables e below (T20.setTop (mkF m 80 #[.val (.int p0), .val (.int p1), .val (.int ((47 : Int32) + ((p0 &&& (2147483647 : Int32)) % (80 : Int32)))), .val (.long (((47 : Int32) + ((p0 &&& (2147483647 : Int32)) % (80 : Int32))).toInt64 - (48 : Int64))), .second, .val (.long ((((47 : Int32) + ((p0 &&& (2147483647 : Int32)) % (80 : Int32))) ||| (32 : Int32)).toInt64 - (97 : Int64))), .second, .val (.int (0 : Int32))] [(.int (own_hex ((47 : Int32) + ((p0 &&& (2147483647 : Int32)) % (80 : Int32)))))])) _
            refine XS.iload X20.here hx rfl (hb hby at_80) rfl ?_
            show Steps p.tables e below (T20.setTop (mkF m 82 #[.val (.int p0), .val (.int p1), .val (.int ((47 : Int32) + ((p0 &&& (2147483647 : Int32)) % (80 : Int32)))), .val (.long (((47 : Int32) + ((p0 &&& (2147483647 : Int32)) % (80 : Int32))).toInt64 - (48 : Int64))), .second, .val (.long ((((47 : Int32) + ((p0 &&& (2147483647 : Int32)) % (80 : Int32))) ||| (32 : Int32)).toInt64 - (97 : Int64))), .second, .val (.int (0 : Int32))] [(.int (0 : Int32)), (.int (own_hex ((47 : Int32) + ((p0 &&& (2147483647 : Int32)) % (80 : Int32)))))])) _
            refine XS.icmpNo X20.here hx rfl (hb hby at_82) rfl (teq (own_hex_n (Or.inl hc42) (Or.inr hc66))).2 ?_
            show Steps p.tables e below (T20.setTop (mkF m 85 #[.val (.int p0), .val (.int p1), .val (.int ((47 : Int32) + ((p0 &&& (2147483647 : Int32)) % (80 : Int32)))), .val (.long (((47 : Int32) + ((p0 &&& (2147483647 : Int32)) % (80 : Int32))).toInt64 - (48 : Int64))), .second, .val (.long ((((47 : Int32) + ((p0 &&& (2147483647 : Int32)) % (80 : Int32))) ||| (32 : Int32)).toInt64 - (97 : Int64))), .second, .val (.int (0 : Int32))] [])) _
            refine XS.iconst X20.here hx rfl (hb hby at_85) ?_
            show Steps p.tables e below (T20.setTop (mkF m 86 #[.val (.int p0), .val (.int p1), .val (.int ((47 : Int32) + ((p0 &&& (2147483647 : Int32)) % (80 : Int32)))), .val (.long (((47 : Int32) + ((p0 &&& (2147483647 : Int32)) % (80 : Int32))).toInt64 - (48 : Int64))), .second, .val (.long ((((47 : Int32) + ((p0 &&& (2147483647 : Int32)) % (80 : Int32))) ||| (32 : Int32)).toInt64 - (97 : Int64))), .second, .val (.int (0 : Int32))] [(.int (1 : Int32))])) _
            refine XS.goto X20.here hx rfl (pc0 := 86) (pc' := 90) rfl (hb hby at_86) (by decide) (by decide) ?_
            show Steps p.tables e below (T20.setTop (mkF m 90 #[.val (.int p0), .val (.int p1), .val (.int ((47 : Int32) + ((p0 &&& (2147483647 : Int32)) % (80 : Int32)))), .val (.long (((47 : Int32) + ((p0 &&& (2147483647 : Int32)) % (80 : Int32))).toInt64 - (48 : Int64))), .second, .val (.long ((((47 : Int32) + ((p0 &&& (2147483647 : Int32)) % (80 : Int32))) ||| (32 : Int32)).toInt64 - (97 : Int64))), .second, .val (.int (0 : Int32))] [(.int (1 : Int32))])) _
            exact retN X20 hx (t := .boolean) Bd.returns (by simp) (hb hby at_90) hr
          · show Q_rm_law Z p0 p1 h0 n0 _ T20.heap _
            rw [e20]
            exact ⟨rfl, N20, rfl⟩
    · have k21 : ∀ target, Steps p.tables e below (s₁.setTop (mkF m 50 #[.val (.int p0), .val (.int p1), .val (.int ((47 : Int32) + ((p0 &&& (2147483647 : Int32)) % (80 : Int32)))), .val (.long (((47 : Int32) + ((p0 &&& (2147483647 : Int32)) % (80 : Int32))).toInt64 - (48 : Int64))), .second, .val (.long ((((47 : Int32) + ((p0 &&& (2147483647 : Int32)) % (80 : Int32))) ||| (32 : Int32)).toInt64 - (97 : Int64))), .second, .unset] [(.int (lcmpW (((47 : Int32) + ((p0 &&& (2147483647 : Int32)) % (80 : Int32))).toInt64 - (48 : Int64)) (10 : Int64)))])) target → Steps p.tables e below (s₁.setTop (mkF m 0 #[.val (.int p0), .val (.int p1), .unset, .unset, .unset, .unset, .unset, .unset] [])) target := by
        intro target kt
        refine k15 _ ?_
        show Steps p.tables e below (s₁.setTop (mkF m 42 #[.val (.int p0), .val (.int p1), .val (.int ((47 : Int32) + ((p0 &&& (2147483647 : Int32)) % (80 : Int32)))), .val (.long (((47 : Int32) + ((p0 &&& (2147483647 : Int32)) % (80 : Int32))).toInt64 - (48 : Int64))), .second, .val (.long ((((47 : Int32) + ((p0 &&& (2147483647 : Int32)) % (80 : Int32))) ||| (32 : Int32)).toInt64 - (97 : Int64))), .second, .unset] [(.int (lcmpW (((47 : Int32) + ((p0 &&& (2147483647 : Int32)) % (80 : Int32))).toInt64 - (48 : Int64)) (0 : Int64)))])) _
        refine XS.ifNo X0.here hx rfl (hb hby at_42) rfl ((if0 _ _).trans (flt hc42).1) ?_
        show Steps p.tables e below (s₁.setTop (mkF m 45 #[.val (.int p0), .val (.int p1), .val (.int ((47 : Int32) + ((p0 &&& (2147483647 : Int32)) % (80 : Int32)))), .val (.long (((47 : Int32) + ((p0 &&& (2147483647 : Int32)) % (80 : Int32))).toInt64 - (48 : Int64))), .second, .val (.long ((((47 : Int32) + ((p0 &&& (2147483647 : Int32)) % (80 : Int32))) ||| (32 : Int32)).toInt64 - (97 : Int64))), .second, .unset] [])) _
        refine XS.lloadN X0.here hx rfl (hb hby at_45) rfl ?_
        show Steps p.tables e below (s₁.setTop (mkF m 46 #[.val (.int p0), .val (.int p1), .val (.int ((47 : Int32) + ((p0 &&& (2147483647 : Int32)) % (80 : Int32)))), .val (.long (((47 : Int32) + ((p0 &&& (2147483647 : Int32)) % (80 : Int32))).toInt64 - (48 : Int64))), .second, .val (.long ((((47 : Int32) + ((p0 &&& (2147483647 : Int32)) % (80 : Int32))) ||| (32 : Int32)).toInt64 - (97 : Int64))), .second, .unset] [(.long (((47 : Int32) + ((p0 &&& (2147483647 : Int32)) % (80 : Int32))).toInt64 - (48 : Int64)))])) _
        refine X0.ldc2Long hx hown (mvT hZ (hw _ (List.mem_of_getElem? (i := 7) rfl))) (g := (mkF m 46 #[.val (.int p0), .val (.int p1), .val (.int ((47 : Int32) + ((p0 &&& (2147483647 : Int32)) % (80 : Int32)))), .val (.long (((47 : Int32) + ((p0 &&& (2147483647 : Int32)) % (80 : Int32))).toInt64 - (48 : Int64))), .second, .val (.long ((((47 : Int32) + ((p0 &&& (2147483647 : Int32)) % (80 : Int32))) ||| (32 : Int32)).toInt64 - (97 : Int64))), .second, .unset] [(.long (((47 : Int32) + ((p0 &&& (2147483647 : Int32)) % (80 : Int32))).toInt64 - (48 : Int64)))])) rfl (hb hby at_46) _ ?_
        show Steps p.tables e below (s₁.setTop (mkF m 49 #[.val (.int p0), .val (.int p1), .val (.int ((47 : Int32) + ((p0 &&& (2147483647 : Int32)) % (80 : Int32)))), .val (.long (((47 : Int32) + ((p0 &&& (2147483647 : Int32)) % (80 : Int32))).toInt64 - (48 : Int64))), .second, .val (.long ((((47 : Int32) + ((p0 &&& (2147483647 : Int32)) % (80 : Int32))) ||| (32 : Int32)).toInt64 - (97 : Int64))), .second, .unset] [(.long (10 : Int64)), (.long (((47 : Int32) + ((p0 &&& (2147483647 : Int32)) % (80 : Int32))).toInt64 - (48 : Int64)))])) _
        refine XS.lcmp X0.here hx rfl (hb hby at_49) rfl ?_
        exact kt
      by_cases hc50 : (lcmpW (((47 : Int32) + ((p0 &&& (2147483647 : Int32)) % (80 : Int32))).toInt64 - (48 : Int64)) (10 : Int64)) < (0 : Int32)
      · obtain ⟨_, _, ⟨T22, L22, k22, n22⟩, -, X22, ⟨Lc22, hQ22, l22, y22, z22⟩, st22⟩ := Jvm.LawKit.callS X0 hx (y := (⟨"com/example/ambit/ambit/SourceReader", "isHexDigit", "(I)Z"⟩ : MethodName)) hown (mvT hZ (hw _ (List.mem_of_getElem? (i := 3) rfl))) (mvT hZ (hw _ (List.mem_of_getElem? (i := 4) rfl))) (mvT hZ (hw _ (List.mem_of_getElem? (i := 5) rfl))) (mvT hZ (hw _ (List.mem_of_getElem? (i := 6) rfl))) (by decide) (backOf (W := 0) (rm_hex l Z a0 hw [] ((47 : Int32) + ((p0 &&& (2147483647 : Int32)) % (80 : Int32))) h0 n0 Z0) hZ (hw _ (List.mem_of_getElem? (i := 6) rfl)) (hw _ (List.mem_of_getElem? (i := 5) rfl)) (by decide) (by decide)) (g := (mkF m 77 #[.val (.int p0), .val (.int p1), .val (.int ((47 : Int32) + ((p0 &&& (2147483647 : Int32)) % (80 : Int32)))), .val (.long (((47 : Int32) + ((p0 &&& (2147483647 : Int32)) % (80 : Int32))).toInt64 - (48 : Int64))), .second, .val (.long ((((47 : Int32) + ((p0 &&& (2147483647 : Int32)) % (80 : Int32))) ||| (32 : Int32)).toInt64 - (97 : Int64))), .second, .val (.int (1 : Int32))] [(.int ((47 : Int32) + ((p0 &&& (2147483647 : Int32)) % (80 : Int32))))])) rfl (by rw [hml]; rfl) (argsL := [(.int ((47 : Int32) + ((p0 &&& (2147483647 : Int32)) % (80 : Int32))))]) (rest := []) (lenOf pd_0 rfl) rfl (by show 2 * 0 + _ ≤ _; exact Nat.le_of_eq rfl) (hb hby at_77) (fun _ _ => ⟨rfl, e0, (by decide : 0 + 0 ≤ _), (by decide : 0 + 0 ≤ _)⟩)
        dsimp only [Pt.U, Pt.locs, Pt.cells, Pt.slots] at X22 l22 y22 z22 st22 hQ22
        subst l22 y22 z22
        obtain ⟨rfl, N22q, e22⟩ := hQ22
        have N22 := Fr.app N0 N22q
        obtain ⟨fs, hr, hrun, hended, hW, hsame⟩ := X22.leave (v := some (.int (1 : Int32))) (fun h => by rw [Bd.returns] at h; cases h)
        refine ⟨_, _, pre0 _ ?_, hrun, hended, _, _, rfl, ?_, ⟨_, rfl⟩, hW, hsame.mono (by decide) (by decide)⟩
        · refine k21 _ ?_
          show Steps p.tables e below (s₁.setTop (mkF m 50 #[.val (.int p0), .val (.int p1), .val (.int ((47 : Int32) + ((p0 &&& (2147483647 : Int32)) % (80 : Int32)))), .val (.long (((47 : Int32) + ((p0 &&& (2147483647 : Int32)) % (80 : Int32))).toInt64 - (48 : Int64))), .second, .val (.long ((((47 : Int32) + ((p0 &&& (2147483647 : Int32)) % (80 : Int32))) ||| (32 : Int32)).toInt64 - (97 : Int64))), .second, .unset] [(.int (lcmpW (((47 : Int32) + ((p0 &&& (2147483647 : Int32)) % (80 : Int32))).toInt64 - (48 : Int64)) (10 : Int64)))])) _
          refine XS.ifYes X0.here hx rfl (pc0 := 50) (pc' := 69) rfl (hb hby at_50) rfl ((if0 _ _).trans (tlt hc50).1) (by decide) (by decide) ?_
          show Steps p.tables e below (s₁.setTop (mkF m 69 #[.val (.int p0), .val (.int p1), .val (.int ((47 : Int32) + ((p0 &&& (2147483647 : Int32)) % (80 : Int32)))), .val (.long (((47 : Int32) + ((p0 &&& (2147483647 : Int32)) % (80 : Int32))).toInt64 - (48 : Int64))), .second, .val (.long ((((47 : Int32) + ((p0 &&& (2147483647 : Int32)) % (80 : Int32))) ||| (32 : Int32)).toInt64 - (97 : Int64))), .second, .unset] [])) _
          refine XS.iconst X0.here hx rfl (hb hby at_69) ?_
          show Steps p.tables e below (s₁.setTop (mkF m 70 #[.val (.int p0), .val (.int p1), .val (.int ((47 : Int32) + ((p0 &&& (2147483647 : Int32)) % (80 : Int32)))), .val (.long (((47 : Int32) + ((p0 &&& (2147483647 : Int32)) % (80 : Int32))).toInt64 - (48 : Int64))), .second, .val (.long ((((47 : Int32) + ((p0 &&& (2147483647 : Int32)) % (80 : Int32))) ||| (32 : Int32)).toInt64 - (97 : Int64))), .second, .unset] [(.int (1 : Int32))])) _
          refine XS.goto X0.here hx rfl (pc0 := 70) (pc' := 74) rfl (hb hby at_70) (by decide) (by decide) ?_
          show Steps p.tables e below (s₁.setTop (mkF m 74 #[.val (.int p0), .val (.int p1), .val (.int ((47 : Int32) + ((p0 &&& (2147483647 : Int32)) % (80 : Int32)))), .val (.long (((47 : Int32) + ((p0 &&& (2147483647 : Int32)) % (80 : Int32))).toInt64 - (48 : Int64))), .second, .val (.long ((((47 : Int32) + ((p0 &&& (2147483647 : Int32)) % (80 : Int32))) ||| (32 : Int32)).toInt64 - (97 : Int64))), .second, .unset] [(.int (1 : Int32))])) _
          refine XS.istore X0.here hx rfl (hb hby at_74) rfl (l' := #[.val (.int p0), .val (.int p1), .val (.int ((47 : Int32) + ((p0 &&& (2147483647 : Int32)) % (80 : Int32)))), .val (.long (((47 : Int32) + ((p0 &&& (2147483647 : Int32)) % (80 : Int32))).toInt64 - (48 : Int64))), .second, .val (.long ((((47 : Int32) + ((p0 &&& (2147483647 : Int32)) % (80 : Int32))) ||| (32 : Int32)).toInt64 - (97 : Int64))), .second, .val (.int (1 : Int32))]) rfl ?_
          show Steps p.tables e below (s₁.setTop (mkF m 76 #[.val (.int p0), .val (.int p1), .val (.int ((47 : Int32) + ((p0 &&& (2147483647 : Int32)) % (80 : Int32)))), .val (.long (((47 : Int32) + ((p0 &&& (2147483647 : Int32)) % (80 : Int32))).toInt64 - (48 : Int64))), .second, .val (.long ((((47 : Int32) + ((p0 &&& (2147483647 : Int32)) % (80 : Int32))) ||| (32 : Int32)).toInt64 - (97 : Int64))), .second, .val (.int (1 : Int32))] [])) _
          refine XS.iloadN X0.here hx rfl (hb hby at_76) rfl ?_
          show Steps p.tables e below (s₁.setTop (mkF m 77 #[.val (.int p0), .val (.int p1), .val (.int ((47 : Int32) + ((p0 &&& (2147483647 : Int32)) % (80 : Int32)))), .val (.long (((47 : Int32) + ((p0 &&& (2147483647 : Int32)) % (80 : Int32))).toInt64 - (48 : Int64))), .second, .val (.long ((((47 : Int32) + ((p0 &&& (2147483647 : Int32)) % (80 : Int32))) ||| (32 : Int32)).toInt64 - (97 : Int64))), .second, .val (.int (1 : Int32))] [(.int ((47 : Int32) + ((p0 &&& (2147483647 : Int32)) % (80 : Int32))))])) _
          refine st22 _ ?_
          show Steps p.tables e below (T22.setTop (mkF m 80 #[.val (.int p0), .val (.int p1), .val (.int ((47 : Int32) + ((p0 &&& (2147483647 : Int32)) % (80 : Int32)))), .val (.long (((47 : Int32) + ((p0 &&& (2147483647 : Int32)) % (80 : Int32))).toInt64 - (48 : Int64))), .second, .val (.long ((((47 : Int32) + ((p0 &&& (2147483647 : Int32)) % (80 : Int32))) ||| (32 : Int32)).toInt64 - (97 : Int64))), .second, .val (.int (1 : Int32))] [(.int (own_hex ((47 : Int32) + ((p0 &&& (2147483647 : Int32)) % (80 : Int32)))))])) _
          refine XS.iload X22.here hx rfl (hb hby at_80) rfl ?_
          show Steps p.tables e below (T22.setTop (mkF m 82 #[.val (.int p0), .val (.int p1), .val (.int ((47 : Int32) + ((p0 &&& (2147483647 : Int32)) % (80 : Int32)))), .val (.long (((47 : Int32) + ((p0 &&& (2147483647 : Int32)) % (80 : Int32))).toInt64 - (48 : Int64))), .second, .val (.long ((((47 : Int32) + ((p0 &&& (2147483647 : Int32)) % (80 : Int32))) ||| (32 : Int32)).toInt64 - (97 : Int64))), .second, .val (.int (1 : Int32))] [(.int (1 : Int32)), (.int (own_hex ((47 : Int32) + ((p0 &&& (2147483647 : Int32)) % (80 : Int32)))))])) _
          refine XS.icmpNo X22.here hx rfl (hb hby at_82) rfl (teq (own_hex_d hc42 hc50)).2 ?_
          show Steps p.tables e below (T22.setTop (mkF m 85 #[.val (.int p0), .val (.int p1), .val (.int ((47 : Int32) + ((p0 &&& (2147483647 : Int32)) % (80 : Int32)))), .val (.long (((47 : Int32) + ((p0 &&& (2147483647 : Int32)) % (80 : Int32))).toInt64 - (48 : Int64))), .second, .val (.long ((((47 : Int32) + ((p0 &&& (2147483647 : Int32)) % (80 : Int32))) ||| (32 : Int32)).toInt64 - (97 : Int64))), .second, .val (.int (1 : Int32))] [])) _
          refine XS.iconst X22.here hx rfl (hb hby at_85) ?_
          show Steps p.tables e below (T22.setTop (mkF m 86 #[.val (.int p0), .val (.int p1), .val (.int ((47 : Int32) + ((p0 &&& (2147483647 : Int32)) % (80 : Int32)))), .val (.long (((47 : Int32) + ((p0 &&& (2147483647 : Int32)) % (80 : Int32))).toInt64 - (48 : Int64))), .second, .val (.long ((((47 : Int32) + ((p0 &&& (2147483647 : Int32)) % (80 : Int32))) ||| (32 : Int32)).toInt64 - (97 : Int64))), .second, .val (.int (1 : Int32))] [(.int (1 : Int32))])) _
          refine XS.goto X22.here hx rfl (pc0 := 86) (pc' := 90) rfl (hb hby at_86) (by decide) (by decide) ?_
          show Steps p.tables e below (T22.setTop (mkF m 90 #[.val (.int p0), .val (.int p1), .val (.int ((47 : Int32) + ((p0 &&& (2147483647 : Int32)) % (80 : Int32)))), .val (.long (((47 : Int32) + ((p0 &&& (2147483647 : Int32)) % (80 : Int32))).toInt64 - (48 : Int64))), .second, .val (.long ((((47 : Int32) + ((p0 &&& (2147483647 : Int32)) % (80 : Int32))) ||| (32 : Int32)).toInt64 - (97 : Int64))), .second, .val (.int (1 : Int32))] [(.int (1 : Int32))])) _
          exact retN X22 hx (t := .boolean) Bd.returns (by simp) (hb hby at_90) hr
        · show Q_rm_law Z p0 p1 h0 n0 _ T22.heap _
          rw [e22]
          exact ⟨rfl, N22, rfl⟩
      · have k23 : ∀ target, Steps p.tables e below (s₁.setTop (mkF m 57 #[.val (.int p0), .val (.int p1), .val (.int ((47 : Int32) + ((p0 &&& (2147483647 : Int32)) % (80 : Int32)))), .val (.long (((47 : Int32) + ((p0 &&& (2147483647 : Int32)) % (80 : Int32))).toInt64 - (48 : Int64))), .second, .val (.long ((((47 : Int32) + ((p0 &&& (2147483647 : Int32)) % (80 : Int32))) ||| (32 : Int32)).toInt64 - (97 : Int64))), .second, .unset] [(.int (lcmpW ((((47 : Int32) + ((p0 &&& (2147483647 : Int32)) % (80 : Int32))) ||| (32 : Int32)).toInt64 - (97 : Int64)) (0 : Int64)))])) target → Steps p.tables e below (s₁.setTop (mkF m 0 #[.val (.int p0), .val (.int p1), .unset, .unset, .unset, .unset, .unset, .unset] [])) target := by
          intro target kt
          refine k21 _ ?_
          show Steps p.tables e below (s₁.setTop (mkF m 50 #[.val (.int p0), .val (.int p1), .val (.int ((47 : Int32) + ((p0 &&& (2147483647 : Int32)) % (80 : Int32)))), .val (.long (((47 : Int32) + ((p0 &&& (2147483647 : Int32)) % (80 : Int32))).toInt64 - (48 : Int64))), .second, .val (.long ((((47 : Int32) + ((p0 &&& (2147483647 : Int32)) % (80 : Int32))) ||| (32 : Int32)).toInt64 - (97 : Int64))), .second, .unset] [(.int (lcmpW (((47 : Int32) + ((p0 &&& (2147483647 : Int32)) % (80 : Int32))).toInt64 - (48 : Int64)) (10 : Int64)))])) _
          refine XS.ifNo X0.here hx rfl (hb hby at_50) rfl ((if0 _ _).trans (flt hc50).1) ?_
          show Steps p.tables e below (s₁.setTop (mkF m 53 #[.val (.int p0), .val (.int p1), .val (.int ((47 : Int32) + ((p0 &&& (2147483647 : Int32)) % (80 : Int32)))), .val (.long (((47 : Int32) + ((p0 &&& (2147483647 : Int32)) % (80 : Int32))).toInt64 - (48 : Int64))), .second, .val (.long ((((47 : Int32) + ((p0 &&& (2147483647 : Int32)) % (80 : Int32))) ||| (32 : Int32)).toInt64 - (97 : Int64))), .second, .unset] [])) _
          refine XS.lload X0.here hx rfl (hb hby at_53) rfl ?_
          show Steps p.tables e below (s₁.setTop (mkF m 55 #[.val (.int p0), .val (.int p1), .val (.int ((47 : Int32) + ((p0 &&& (2147483647 : Int32)) % (80 : Int32)))), .val (.long (((47 : Int32) + ((p0 &&& (2147483647 : Int32)) % (80 : Int32))).toInt64 - (48 : Int64))), .second, .val (.long ((((47 : Int32) + ((p0 &&& (2147483647 : Int32)) % (80 : Int32))) ||| (32 : Int32)).toInt64 - (97 : Int64))), .second, .unset] [(.long ((((47 : Int32) + ((p0 &&& (2147483647 : Int32)) % (80 : Int32))) ||| (32 : Int32)).toInt64 - (97 : Int64)))])) _
          refine XS.lconst X0.here hx rfl (hb hby at_55) ?_
          show Steps p.tables e below (s₁.setTop (mkF m 56 #[.val (.int p0), .val (.int p1), .val (.int ((47 : Int32) + ((p0 &&& (2147483647 : Int32)) % (80 : Int32)))), .val (.long (((47 : Int32) + ((p0 &&& (2147483647 : Int32)) % (80 : Int32))).toInt64 - (48 : Int64))), .second, .val (.long ((((47 : Int32) + ((p0 &&& (2147483647 : Int32)) % (80 : Int32))) ||| (32 : Int32)).toInt64 - (97 : Int64))), .second, .unset] [(.long (0 : Int64)), (.long ((((47 : Int32) + ((p0 &&& (2147483647 : Int32)) % (80 : Int32))) ||| (32 : Int32)).toInt64 - (97 : Int64)))])) _
          refine XS.lcmp X0.here hx rfl (hb hby at_56) rfl ?_
          exact kt
        by_cases hc57 : (lcmpW ((((47 : Int32) + ((p0 &&& (2147483647 : Int32)) % (80 : Int32))) ||| (32 : Int32)).toInt64 - (97 : Int64)) (0 : Int64)) < (0 : Int32)
        · obtain ⟨_, _, ⟨T24, L24, k24, n24⟩, -, X24, ⟨Lc24, hQ24, l24, y24, z24⟩, st24⟩ := Jvm.LawKit.callS X0 hx (y := (⟨"com/example/ambit/ambit/SourceReader", "isHexDigit", "(I)Z"⟩ : MethodName)) hown (mvT hZ (hw _ (List.mem_of_getElem? (i := 3) rfl))) (mvT hZ (hw _ (List.mem_of_getElem? (i := 4) rfl))) (mvT hZ (hw _ (List.mem_of_getElem? (i := 5) rfl))) (mvT hZ (hw _ (List.mem_of_getElem? (i := 6) rfl))) (by decide) (backOf (W := 0) (rm_hex l Z a0 hw [] ((47 : Int32) + ((p0 &&& (2147483647 : Int32)) % (80 : Int32))) h0 n0 Z0) hZ (hw _ (List.mem_of_getElem? (i := 6) rfl)) (hw _ (List.mem_of_getElem? (i := 5) rfl)) (by decide) (by decide)) (g := (mkF m 77 #[.val (.int p0), .val (.int p1), .val (.int ((47 : Int32) + ((p0 &&& (2147483647 : Int32)) % (80 : Int32)))), .val (.long (((47 : Int32) + ((p0 &&& (2147483647 : Int32)) % (80 : Int32))).toInt64 - (48 : Int64))), .second, .val (.long ((((47 : Int32) + ((p0 &&& (2147483647 : Int32)) % (80 : Int32))) ||| (32 : Int32)).toInt64 - (97 : Int64))), .second, .val (.int (0 : Int32))] [(.int ((47 : Int32) + ((p0 &&& (2147483647 : Int32)) % (80 : Int32))))])) rfl (by rw [hml]; rfl) (argsL := [(.int ((47 : Int32) + ((p0 &&& (2147483647 : Int32)) % (80 : Int32))))]) (rest := []) (lenOf pd_0 rfl) rfl (by show 2 * 0 + _ ≤ _; exact Nat.le_of_eq rfl) (hb hby at_77) (fun _ _ => ⟨rfl, e0, (by decide : 0 + 0 ≤ _), (by decide : 0 + 0 ≤ _)⟩)
          dsimp only [Pt.U, Pt.locs, Pt.cells, Pt.slots] at X24 l24 y24 z24 st24 hQ24
          subst l24 y24 z24
          obtain ⟨rfl, N24q, e24⟩ := hQ24
          have N24 := Fr.app N0 N24q
          obtain ⟨fs, hr, hrun, hended, hW, hsame⟩ := X24.leave (v := some (.int (1 : Int32))) (fun h => by rw [Bd.returns] at h; cases h)
          refine ⟨_, _, pre0 _ ?_, hrun, hended, _, _, rfl, ?_, ⟨_, rfl⟩, hW, hsame.mono (by decide) (by decide)⟩
          · refine k23 _ ?_
            show Steps p.tables e below (s₁.setTop (mkF m 57 #[.val (.int p0), .val (.int p1), .val (.int ((47 : Int32) + ((p0 &&& (2147483647 : Int32)) % (80 : Int32)))), .val (.long (((47 : Int32) + ((p0 &&& (2147483647 : Int32)) % (80 : Int32))).toInt64 - (48 : Int64))), .second, .val (.long ((((47 : Int32) + ((p0 &&& (2147483647 : Int32)) % (80 : Int32))) ||| (32 : Int32)).toInt64 - (97 : Int64))), .second, .unset] [(.int (lcmpW ((((47 : Int32) + ((p0 &&& (2147483647 : Int32)) % (80 : Int32))) ||| (32 : Int32)).toInt64 - (97 : Int64)) (0 : Int64)))])) _
            refine XS.ifYes X0.here hx rfl (pc0 := 57) (pc' := 73) rfl (hb hby at_57) rfl ((if0 _ _).trans (tlt hc57).1) (by decide) (by decide) ?_
            show Steps p.tables e below (s₁.setTop (mkF m 73 #[.val (.int p0), .val (.int p1), .val (.int ((47 : Int32) + ((p0 &&& (2147483647 : Int32)) % (80 : Int32)))), .val (.long (((47 : Int32) + ((p0 &&& (2147483647 : Int32)) % (80 : Int32))).toInt64 - (48 : Int64))), .second, .val (.long ((((47 : Int32) + ((p0 &&& (2147483647 : Int32)) % (80 : Int32))) ||| (32 : Int32)).toInt64 - (97 : Int64))), .second, .unset] [])) _
            refine XS.iconst X0.here hx rfl (hb hby at_73) ?_
            show Steps p.tables e below (s₁.setTop (mkF m 74 #[.val (.int p0), .val (.int p1), .val (.int ((47 : Int32) + ((p0 &&& (2147483647 : Int32)) % (80 : Int32)))), .val (.long (((47 : Int32) + ((p0 &&& (2147483647 : Int32)) % (80 : Int32))).toInt64 - (48 : Int64))), .second, .val (.long ((((47 : Int32) + ((p0 &&& (2147483647 : Int32)) % (80 : Int32))) ||| (32 : Int32)).toInt64 - (97 : Int64))), .second, .unset] [(.int (0 : Int32))])) _
            refine XS.istore X0.here hx rfl (hb hby at_74) rfl (l' := #[.val (.int p0), .val (.int p1), .val (.int ((47 : Int32) + ((p0 &&& (2147483647 : Int32)) % (80 : Int32)))), .val (.long (((47 : Int32) + ((p0 &&& (2147483647 : Int32)) % (80 : Int32))).toInt64 - (48 : Int64))), .second, .val (.long ((((47 : Int32) + ((p0 &&& (2147483647 : Int32)) % (80 : Int32))) ||| (32 : Int32)).toInt64 - (97 : Int64))), .second, .val (.int (0 : Int32))]) rfl ?_
            show Steps p.tables e below (s₁.setTop (mkF m 76 #[.val (.int p0), .val (.int p1), .val (.int ((47 : Int32) + ((p0 &&& (2147483647 : Int32)) % (80 : Int32)))), .val (.long (((47 : Int32) + ((p0 &&& (2147483647 : Int32)) % (80 : Int32))).toInt64 - (48 : Int64))), .second, .val (.long ((((47 : Int32) + ((p0 &&& (2147483647 : Int32)) % (80 : Int32))) ||| (32 : Int32)).toInt64 - (97 : Int64))), .second, .val (.int (0 : Int32))] [])) _
            refine XS.iloadN X0.here hx rfl (hb hby at_76) rfl ?_
            show Steps p.tables e below (s₁.setTop (mkF m 77 #[.val (.int p0), .val (.int p1), .val (.int ((47 : Int32) + ((p0 &&& (2147483647 : Int32)) % (80 : Int32)))), .val (.long (((47 : Int32) + ((p0 &&& (2147483647 : Int32)) % (80 : Int32))).toInt64 - (48 : Int64))), .second, .val (.long ((((47 : Int32) + ((p0 &&& (2147483647 : Int32)) % (80 : Int32))) ||| (32 : Int32)).toInt64 - (97 : Int64))), .second, .val (.int (0 : Int32))] [(.int ((47 : Int32) + ((p0 &&& (2147483647 : Int32)) % (80 : Int32))))])) _
            refine st24 _ ?_
            show Steps p.tables e below (T24.setTop (mkF m 80 #[.val (.int p0), .val (.int p1), .val (.int ((47 : Int32) + ((p0 &&& (2147483647 : Int32)) % (80 : Int32)))), .val (.long (((47 : Int32) + ((p0 &&& (2147483647 : Int32)) % (80 : Int32))).toInt64 - (48 : Int64))), .second, .val (.long ((((47 : Int32) + ((p0 &&& (2147483647 : Int32)) % (80 : Int32))) ||| (32 : Int32)).toInt64 - (97 : Int64))), .second, .val (.int (0 : Int32))] [(.int (own_hex ((47 : Int32) + ((p0 &&& (2147483647 : Int32)) % (80 : Int32)))))])) _
            refine XS.iload X24.here hx rfl (hb hby at_80) rfl ?_
            show Steps p.tables e below (T24.setTop (mkF m 82 #[.val (.int p0), .val (.int p1), .val (.int ((47 : Int32) + ((p0 &&& (2147483647 : Int32)) % (80 : Int32)))), .val (.long (((47 : Int32) + ((p0 &&& (2147483647 : Int32)) % (80 : Int32))).toInt64 - (48 : Int64))), .second, .val (.long ((((47 : Int32) + ((p0 &&& (2147483647 : Int32)) % (80 : Int32))) ||| (32 : Int32)).toInt64 - (97 : Int64))), .second, .val (.int (0 : Int32))] [(.int (0 : Int32)), (.int (own_hex ((47 : Int32) + ((p0 &&& (2147483647 : Int32)) % (80 : Int32)))))])) _
            refine XS.icmpNo X24.here hx rfl (hb hby at_82) rfl (teq (own_hex_n (Or.inr hc50) (Or.inl hc57))).2 ?_
            show Steps p.tables e below (T24.setTop (mkF m 85 #[.val (.int p0), .val (.int p1), .val (.int ((47 : Int32) + ((p0 &&& (2147483647 : Int32)) % (80 : Int32)))), .val (.long (((47 : Int32) + ((p0 &&& (2147483647 : Int32)) % (80 : Int32))).toInt64 - (48 : Int64))), .second, .val (.long ((((47 : Int32) + ((p0 &&& (2147483647 : Int32)) % (80 : Int32))) ||| (32 : Int32)).toInt64 - (97 : Int64))), .second, .val (.int (0 : Int32))] [])) _
            refine XS.iconst X24.here hx rfl (hb hby at_85) ?_
            show Steps p.tables e below (T24.setTop (mkF m 86 #[.val (.int p0), .val (.int p1), .val (.int ((47 : Int32) + ((p0 &&& (2147483647 : Int32)) % (80 : Int32)))), .val (.long (((47 : Int32) + ((p0 &&& (2147483647 : Int32)) % (80 : Int32))).toInt64 - (48 : Int64))), .second, .val (.long ((((47 : Int32) + ((p0 &&& (2147483647 : Int32)) % (80 : Int32))) ||| (32 : Int32)).toInt64 - (97 : Int64))), .second, .val (.int (0 : Int32))] [(.int (1 : Int32))])) _
            refine XS.goto X24.here hx rfl (pc0 := 86) (pc' := 90) rfl (hb hby at_86) (by decide) (by decide) ?_
            show Steps p.tables e below (T24.setTop (mkF m 90 #[.val (.int p0), .val (.int p1), .val (.int ((47 : Int32) + ((p0 &&& (2147483647 : Int32)) % (80 : Int32)))), .val (.long (((47 : Int32) + ((p0 &&& (2147483647 : Int32)) % (80 : Int32))).toInt64 - (48 : Int64))), .second, .val (.long ((((47 : Int32) + ((p0 &&& (2147483647 : Int32)) % (80 : Int32))) ||| (32 : Int32)).toInt64 - (97 : Int64))), .second, .val (.int (0 : Int32))] [(.int (1 : Int32))])) _
            exact retN X24 hx (t := .boolean) Bd.returns (by simp) (hb hby at_90) hr
          · show Q_rm_law Z p0 p1 h0 n0 _ T24.heap _
            rw [e24]
            exact ⟨rfl, N24, rfl⟩
        · have k25 : ∀ target, Steps p.tables e below (s₁.setTop (mkF m 66 #[.val (.int p0), .val (.int p1), .val (.int ((47 : Int32) + ((p0 &&& (2147483647 : Int32)) % (80 : Int32)))), .val (.long (((47 : Int32) + ((p0 &&& (2147483647 : Int32)) % (80 : Int32))).toInt64 - (48 : Int64))), .second, .val (.long ((((47 : Int32) + ((p0 &&& (2147483647 : Int32)) % (80 : Int32))) ||| (32 : Int32)).toInt64 - (97 : Int64))), .second, .unset] [(.int (lcmpW ((((47 : Int32) + ((p0 &&& (2147483647 : Int32)) % (80 : Int32))) ||| (32 : Int32)).toInt64 - (97 : Int64)) (6 : Int64)))])) target → Steps p.tables e below (s₁.setTop (mkF m 0 #[.val (.int p0), .val (.int p1), .unset, .unset, .unset, .unset, .unset, .unset] [])) target := by
            intro target kt
            refine k23 _ ?_
            show Steps p.tables e below (s₁.setTop (mkF m 57 #[.val (.int p0), .val (.int p1), .val (.int ((47 : Int32) + ((p0 &&& (2147483647 : Int32)) % (80 : Int32)))), .val (.long (((47 : Int32) + ((p0 &&& (2147483647 : Int32)) % (80 : Int32))).toInt64 - (48 : Int64))), .second, .val (.long ((((47 : Int32) + ((p0 &&& (2147483647 : Int32)) % (80 : Int32))) ||| (32 : Int32)).toInt64 - (97 : Int64))), .second, .unset] [(.int (lcmpW ((((47 : Int32) + ((p0 &&& (2147483647 : Int32)) % (80 : Int32))) ||| (32 : Int32)).toInt64 - (97 : Int64)) (0 : Int64)))])) _
            refine XS.ifNo X0.here hx rfl (hb hby at_57) rfl ((if0 _ _).trans (flt hc57).1) ?_
            show Steps p.tables e below (s₁.setTop (mkF m 60 #[.val (.int p0), .val (.int p1), .val (.int ((47 : Int32) + ((p0 &&& (2147483647 : Int32)) % (80 : Int32)))), .val (.long (((47 : Int32) + ((p0 &&& (2147483647 : Int32)) % (80 : Int32))).toInt64 - (48 : Int64))), .second, .val (.long ((((47 : Int32) + ((p0 &&& (2147483647 : Int32)) % (80 : Int32))) ||| (32 : Int32)).toInt64 - (97 : Int64))), .second, .unset] [])) _
            refine XS.lload X0.here hx rfl (hb hby at_60) rfl ?_
            show Steps p.tables e below (s₁.setTop (mkF m 62 #[.val (.int p0), .val (.int p1), .val (.int ((47 : Int32) + ((p0 &&& (2147483647 : Int32)) % (80 : Int32)))), .val (.long (((47 : Int32) + ((p0 &&& (2147483647 : Int32)) % (80 : Int32))).toInt64 - (48 : Int64))), .second, .val (.long ((((47 : Int32) + ((p0 &&& (2147483647 : Int32)) % (80 : Int32))) ||| (32 : Int32)).toInt64 - (97 : Int64))), .second, .unset] [(.long ((((47 : Int32) + ((p0 &&& (2147483647 : Int32)) % (80 : Int32))) ||| (32 : Int32)).toInt64 - (97 : Int64)))])) _
            refine X0.ldc2Long hx hown (mvT hZ (hw _ (List.mem_of_getElem? (i := 8) rfl))) (g := (mkF m 62 #[.val (.int p0), .val (.int p1), .val (.int ((47 : Int32) + ((p0 &&& (2147483647 : Int32)) % (80 : Int32)))), .val (.long (((47 : Int32) + ((p0 &&& (2147483647 : Int32)) % (80 : Int32))).toInt64 - (48 : Int64))), .second, .val (.long ((((47 : Int32) + ((p0 &&& (2147483647 : Int32)) % (80 : Int32))) ||| (32 : Int32)).toInt64 - (97 : Int64))), .second, .unset] [(.long ((((47 : Int32) + ((p0 &&& (2147483647 : Int32)) % (80 : Int32))) ||| (32 : Int32)).toInt64 - (97 : Int64)))])) rfl (hb hby at_62) _ ?_
            show Steps p.tables e below (s₁.setTop (mkF m 65 #[.val (.int p0), .val (.int p1), .val (.int ((47 : Int32) + ((p0 &&& (2147483647 : Int32)) % (80 : Int32)))), .val (.long (((47 : Int32) + ((p0 &&& (2147483647 : Int32)) % (80 : Int32))).toInt64 - (48 : Int64))), .second, .val (.long ((((47 : Int32) + ((p0 &&& (2147483647 : Int32)) % (80 : Int32))) ||| (32 : Int32)).toInt64 - (97 : Int64))), .second, .unset] [(.long (6 : Int64)), (.long ((((47 : Int32) + ((p0 &&& (2147483647 : Int32)) % (80 : Int32))) ||| (32 : Int32)).toInt64 - (97 : Int64)))])) _
            refine XS.lcmp X0.here hx rfl (hb hby at_65) rfl ?_
            exact kt
          by_cases hc66 : (lcmpW ((((47 : Int32) + ((p0 &&& (2147483647 : Int32)) % (80 : Int32))) ||| (32 : Int32)).toInt64 - (97 : Int64)) (6 : Int64)) < (0 : Int32)
          · obtain ⟨_, _, ⟨T26, L26, k26, n26⟩, -, X26, ⟨Lc26, hQ26, l26, y26, z26⟩, st26⟩ := Jvm.LawKit.callS X0 hx (y := (⟨"com/example/ambit/ambit/SourceReader", "isHexDigit", "(I)Z"⟩ : MethodName)) hown (mvT hZ (hw _ (List.mem_of_getElem? (i := 3) rfl))) (mvT hZ (hw _ (List.mem_of_getElem? (i := 4) rfl))) (mvT hZ (hw _ (List.mem_of_getElem? (i := 5) rfl))) (mvT hZ (hw _ (List.mem_of_getElem? (i := 6) rfl))) (by decide) (backOf (W := 0) (rm_hex l Z a0 hw [] ((47 : Int32) + ((p0 &&& (2147483647 : Int32)) % (80 : Int32))) h0 n0 Z0) hZ (hw _ (List.mem_of_getElem? (i := 6) rfl)) (hw _ (List.mem_of_getElem? (i := 5) rfl)) (by decide) (by decide)) (g := (mkF m 77 #[.val (.int p0), .val (.int p1), .val (.int ((47 : Int32) + ((p0 &&& (2147483647 : Int32)) % (80 : Int32)))), .val (.long (((47 : Int32) + ((p0 &&& (2147483647 : Int32)) % (80 : Int32))).toInt64 - (48 : Int64))), .second, .val (.long ((((47 : Int32) + ((p0 &&& (2147483647 : Int32)) % (80 : Int32))) ||| (32 : Int32)).toInt64 - (97 : Int64))), .second, .val (.int (1 : Int32))] [(.int ((47 : Int32) + ((p0 &&& (2147483647 : Int32)) % (80 : Int32))))])) rfl (by rw [hml]; rfl) (argsL := [(.int ((47 : Int32) + ((p0 &&& (2147483647 : Int32)) % (80 : Int32))))]) (rest := []) (lenOf pd_0 rfl) rfl (by show 2 * 0 + _ ≤ _; exact Nat.le_of_eq rfl) (hb hby at_77) (fun _ _ => ⟨rfl, e0, (by decide : 0 + 0 ≤ _), (by decide : 0 + 0 ≤ _)⟩)
            dsimp only [Pt.U, Pt.locs, Pt.cells, Pt.slots] at X26 l26 y26 z26 st26 hQ26
            subst l26 y26 z26
            obtain ⟨rfl, N26q, e26⟩ := hQ26
            have N26 := Fr.app N0 N26q
            obtain ⟨fs, hr, hrun, hended, hW, hsame⟩ := X26.leave (v := some (.int (1 : Int32))) (fun h => by rw [Bd.returns] at h; cases h)
            refine ⟨_, _, pre0 _ ?_, hrun, hended, _, _, rfl, ?_, ⟨_, rfl⟩, hW, hsame.mono (by decide) (by decide)⟩
            · refine k25 _ ?_
              show Steps p.tables e below (s₁.setTop (mkF m 66 #[.val (.int p0), .val (.int p1), .val (.int ((47 : Int32) + ((p0 &&& (2147483647 : Int32)) % (80 : Int32)))), .val (.long (((47 : Int32) + ((p0 &&& (2147483647 : Int32)) % (80 : Int32))).toInt64 - (48 : Int64))), .second, .val (.long ((((47 : Int32) + ((p0 &&& (2147483647 : Int32)) % (80 : Int32))) ||| (32 : Int32)).toInt64 - (97 : Int64))), .second, .unset] [(.int (lcmpW ((((47 : Int32) + ((p0 &&& (2147483647 : Int32)) % (80 : Int32))) ||| (32 : Int32)).toInt64 - (97 : Int64)) (6 : Int64)))])) _
              refine XS.ifNo X0.here hx rfl (hb hby at_66) rfl ((if0 _ _).trans (tlt hc66).2.1) ?_
              show Steps p.tables e below (s₁.setTop (mkF m 69 #[.val (.int p0), .val (.int p1), .val (.int ((47 : Int32) + ((p0 &&& (2147483647 : Int32)) % (80 : Int32)))), .val (.long (((47 : Int32) + ((p0 &&& (2147483647 : Int32)) % (80 : Int32))).toInt64 - (48 : Int64))), .second, .val (.long ((((47 : Int32) + ((p0 &&& (2147483647 : Int32)) % (80 : Int32))) ||| (32 : Int32)).toInt64 - (97 : Int64))), .second, .unset] [])) _
              refine XS.iconst X0.here hx rfl (hb hby at_69) ?_
              show Steps p.tables e below (s₁.setTop (mkF m 70 #[.val (.int p0), .val (.int p1), .val (.int ((47 : Int32) + ((p0 &&& (2147483647 : Int32)) % (80 : Int32)))), .val (.long (((47 : Int32) + ((p0 &&& (2147483647 : Int32)) % (80 : Int32))).toInt64 - (48 : Int64))), .second, .val (.long ((((47 : Int32) + ((p0 &&& (2147483647 : Int32)) % (80 : Int32))) ||| (32 : Int32)).toInt64 - (97 : Int64))), .second, .unset] [(.int (1 : Int32))])) _
              refine XS.goto X0.here hx rfl (pc0 := 70) (pc' := 74) rfl (hb hby at_70) (by decide) (by decide) ?_
              show Steps p.tables e below (s₁.setTop (mkF m 74 #[.val (.int p0), .val (.int p1), .val (.int ((47 : Int32) + ((p0 &&& (2147483647 : Int32)) % (80 : Int32)))), .val (.long (((47 : Int32) + ((p0 &&& (2147483647 : Int32)) % (80 : Int32))).toInt64 - (48 : Int64))), .second, .val (.long ((((47 : Int32) + ((p0 &&& (2147483647 : Int32)) % (80 : Int32))) ||| (32 : Int32)).toInt64 - (97 : Int64))), .second, .unset] [(.int (1 : Int32))])) _
              refine XS.istore X0.here hx rfl (hb hby at_74) rfl (l' := #[.val (.int p0), .val (.int p1), .val (.int ((47 : Int32) + ((p0 &&& (2147483647 : Int32)) % (80 : Int32)))), .val (.long (((47 : Int32) + ((p0 &&& (2147483647 : Int32)) % (80 : Int32))).toInt64 - (48 : Int64))), .second, .val (.long ((((47 : Int32) + ((p0 &&& (2147483647 : Int32)) % (80 : Int32))) ||| (32 : Int32)).toInt64 - (97 : Int64))), .second, .val (.int (1 : Int32))]) rfl ?_
              show Steps p.tables e below (s₁.setTop (mkF m 76 #[.val (.int p0), .val (.int p1), .val (.int ((47 : Int32) + ((p0 &&& (2147483647 : Int32)) % (80 : Int32)))), .val (.long (((47 : Int32) + ((p0 &&& (2147483647 : Int32)) % (80 : Int32))).toInt64 - (48 : Int64))), .second, .val (.long ((((47 : Int32) + ((p0 &&& (2147483647 : Int32)) % (80 : Int32))) ||| (32 : Int32)).toInt64 - (97 : Int64))), .second, .val (.int (1 : Int32))] [])) _
              refine XS.iloadN X0.here hx rfl (hb hby at_76) rfl ?_
              show Steps p.tables e below (s₁.setTop (mkF m 77 #[.val (.int p0), .val (.int p1), .val (.int ((47 : Int32) + ((p0 &&& (2147483647 : Int32)) % (80 : Int32)))), .val (.long (((47 : Int32) + ((p0 &&& (2147483647 : Int32)) % (80 : Int32))).toInt64 - (48 : Int64))), .second, .val (.long ((((47 : Int32) + ((p0 &&& (2147483647 : Int32)) % (80 : Int32))) ||| (32 : Int32)).toInt64 - (97 : Int64))), .second, .val (.int (1 : Int32))] [(.int ((47 : Int32) + ((p0 &&& (2147483647 : Int32)) % (80 : Int32))))])) _
              refine st26 _ ?_
              show Steps p.tables e below (T26.setTop (mkF m 80 #[.val (.int p0), .val (.int p1), .val (.int ((47 : Int32) + ((p0 &&& (2147483647 : Int32)) % (80 : Int32)))), .val (.long (((47 : Int32) + ((p0 &&& (2147483647 : Int32)) % (80 : Int32))).toInt64 - (48 : Int64))), .second, .val (.long ((((47 : Int32) + ((p0 &&& (2147483647 : Int32)) % (80 : Int32))) ||| (32 : Int32)).toInt64 - (97 : Int64))), .second, .val (.int (1 : Int32))] [(.int (own_hex ((47 : Int32) + ((p0 &&& (2147483647 : Int32)) % (80 : Int32)))))])) _
              refine XS.iload X26.here hx rfl (hb hby at_80) rfl ?_
              show Steps p.tables e below (T26.setTop (mkF m 82 #[.val (.int p0), .val (.int p1), .val (.int ((47 : Int32) + ((p0 &&& (2147483647 : Int32)) % (80 : Int32)))), .val (.long (((47 : Int32) + ((p0 &&& (2147483647 : Int32)) % (80 : Int32))).toInt64 - (48 : Int64))), .second, .val (.long ((((47 : Int32) + ((p0 &&& (2147483647 : Int32)) % (80 : Int32))) ||| (32 : Int32)).toInt64 - (97 : Int64))), .second, .val (.int (1 : Int32))] [(.int (1 : Int32)), (.int (own_hex ((47 : Int32) + ((p0 &&& (2147483647 : Int32)) % (80 : Int32)))))])) _
              refine XS.icmpNo X26.here hx rfl (hb hby at_82) rfl (teq (own_hex_l hc57 hc66)).2 ?_
              show Steps p.tables e below (T26.setTop (mkF m 85 #[.val (.int p0), .val (.int p1), .val (.int ((47 : Int32) + ((p0 &&& (2147483647 : Int32)) % (80 : Int32)))), .val (.long (((47 : Int32) + ((p0 &&& (2147483647 : Int32)) % (80 : Int32))).toInt64 - (48 : Int64))), .second, .val (.long ((((47 : Int32) + ((p0 &&& (2147483647 : Int32)) % (80 : Int32))) ||| (32 : Int32)).toInt64 - (97 : Int64))), .second, .val (.int (1 : Int32))] [])) _
              refine XS.iconst X26.here hx rfl (hb hby at_85) ?_
              show Steps p.tables e below (T26.setTop (mkF m 86 #[.val (.int p0), .val (.int p1), .val (.int ((47 : Int32) + ((p0 &&& (2147483647 : Int32)) % (80 : Int32)))), .val (.long (((47 : Int32) + ((p0 &&& (2147483647 : Int32)) % (80 : Int32))).toInt64 - (48 : Int64))), .second, .val (.long ((((47 : Int32) + ((p0 &&& (2147483647 : Int32)) % (80 : Int32))) ||| (32 : Int32)).toInt64 - (97 : Int64))), .second, .val (.int (1 : Int32))] [(.int (1 : Int32))])) _
              refine XS.goto X26.here hx rfl (pc0 := 86) (pc' := 90) rfl (hb hby at_86) (by decide) (by decide) ?_
              show Steps p.tables e below (T26.setTop (mkF m 90 #[.val (.int p0), .val (.int p1), .val (.int ((47 : Int32) + ((p0 &&& (2147483647 : Int32)) % (80 : Int32)))), .val (.long (((47 : Int32) + ((p0 &&& (2147483647 : Int32)) % (80 : Int32))).toInt64 - (48 : Int64))), .second, .val (.long ((((47 : Int32) + ((p0 &&& (2147483647 : Int32)) % (80 : Int32))) ||| (32 : Int32)).toInt64 - (97 : Int64))), .second, .val (.int (1 : Int32))] [(.int (1 : Int32))])) _
              exact retN X26 hx (t := .boolean) Bd.returns (by simp) (hb hby at_90) hr
            · show Q_rm_law Z p0 p1 h0 n0 _ T26.heap _
              rw [e26]
              exact ⟨rfl, N26, rfl⟩
          · obtain ⟨_, _, ⟨T27, L27, k27, n27⟩, -, X27, ⟨Lc27, hQ27, l27, y27, z27⟩, st27⟩ := Jvm.LawKit.callS X0 hx (y := (⟨"com/example/ambit/ambit/SourceReader", "isHexDigit", "(I)Z"⟩ : MethodName)) hown (mvT hZ (hw _ (List.mem_of_getElem? (i := 3) rfl))) (mvT hZ (hw _ (List.mem_of_getElem? (i := 4) rfl))) (mvT hZ (hw _ (List.mem_of_getElem? (i := 5) rfl))) (mvT hZ (hw _ (List.mem_of_getElem? (i := 6) rfl))) (by decide) (backOf (W := 0) (rm_hex l Z a0 hw [] ((47 : Int32) + ((p0 &&& (2147483647 : Int32)) % (80 : Int32))) h0 n0 Z0) hZ (hw _ (List.mem_of_getElem? (i := 6) rfl)) (hw _ (List.mem_of_getElem? (i := 5) rfl)) (by decide) (by decide)) (g := (mkF m 77 #[.val (.int p0), .val (.int p1), .val (.int ((47 : Int32) + ((p0 &&& (2147483647 : Int32)) % (80 : Int32)))), .val (.long (((47 : Int32) + ((p0 &&& (2147483647 : Int32)) % (80 : Int32))).toInt64 - (48 : Int64))), .second, .val (.long ((((47 : Int32) + ((p0 &&& (2147483647 : Int32)) % (80 : Int32))) ||| (32 : Int32)).toInt64 - (97 : Int64))), .second, .val (.int (0 : Int32))] [(.int ((47 : Int32) + ((p0 &&& (2147483647 : Int32)) % (80 : Int32))))])) rfl (by rw [hml]; rfl) (argsL := [(.int ((47 : Int32) + ((p0 &&& (2147483647 : Int32)) % (80 : Int32))))]) (rest := []) (lenOf pd_0 rfl) rfl (by show 2 * 0 + _ ≤ _; exact Nat.le_of_eq rfl) (hb hby at_77) (fun _ _ => ⟨rfl, e0, (by decide : 0 + 0 ≤ _), (by decide : 0 + 0 ≤ _)⟩)
            dsimp only [Pt.U, Pt.locs, Pt.cells, Pt.slots] at X27 l27 y27 z27 st27 hQ27
            subst l27 y27 z27
            obtain ⟨rfl, N27q, e27⟩ := hQ27
            have N27 := Fr.app N0 N27q
            obtain ⟨fs, hr, hrun, hended, hW, hsame⟩ := X27.leave (v := some (.int (1 : Int32))) (fun h => by rw [Bd.returns] at h; cases h)
            refine ⟨_, _, pre0 _ ?_, hrun, hended, _, _, rfl, ?_, ⟨_, rfl⟩, hW, hsame.mono (by decide) (by decide)⟩
            · refine k25 _ ?_
              show Steps p.tables e below (s₁.setTop (mkF m 66 #[.val (.int p0), .val (.int p1), .val (.int ((47 : Int32) + ((p0 &&& (2147483647 : Int32)) % (80 : Int32)))), .val (.long (((47 : Int32) + ((p0 &&& (2147483647 : Int32)) % (80 : Int32))).toInt64 - (48 : Int64))), .second, .val (.long ((((47 : Int32) + ((p0 &&& (2147483647 : Int32)) % (80 : Int32))) ||| (32 : Int32)).toInt64 - (97 : Int64))), .second, .unset] [(.int (lcmpW ((((47 : Int32) + ((p0 &&& (2147483647 : Int32)) % (80 : Int32))) ||| (32 : Int32)).toInt64 - (97 : Int64)) (6 : Int64)))])) _
              refine XS.ifYes X0.here hx rfl (pc0 := 66) (pc' := 73) rfl (hb hby at_66) rfl ((if0 _ _).trans (flt hc66).2.1) (by decide) (by decide) ?_
              show Steps p.tables e below (s₁.setTop (mkF m 73 #[.val (.int p0), .val (.int p1), .val (.int ((47 : Int32) + ((p0 &&& (2147483647 : Int32)) % (80 : Int32)))), .val (.long (((47 : Int32) + ((p0 &&& (2147483647 : Int32)) % (80 : Int32))).toInt64 - (48 : Int64))), .second, .val (.long ((((47 : Int32) + ((p0 &&& (2147483647 : Int32)) % (80 : Int32))) ||| (32 : Int32)).toInt64 - (97 : Int64))), .second, .unset] [])) _
              refine XS.iconst X0.here hx rfl (hb hby at_73) ?_
              show Steps p.tables e below (s₁.setTop (mkF m 74 #[.val (.int p0), .val (.int p1), .val (.int ((47 : Int32) + ((p0 &&& (2147483647 : Int32)) % (80 : Int32)))), .val (.long (((47 : Int32) + ((p0 &&& (2147483647 : Int32)) % (80 : Int32))).toInt64 - (48 : Int64))), .second, .val (.long ((((47 : Int32) + ((p0 &&& (2147483647 : Int32)) % (80 : Int32))) ||| (32 : Int32)).toInt64 - (97 : Int64))), .second, .unset] [(.int (0 : Int32))])) _
              refine XS.istore X0.here hx rfl (hb hby at_74) rfl (l' := #[.val (.int p0), .val (.int p1), .val (.int ((47 : Int32) + ((p0 &&& (2147483647 : Int32)) % (80 : Int32)))), .val (.long (((47 : Int32) + ((p0 &&& (2147483647 : Int32)) % (80 : Int32))).toInt64 - (48 : Int64))), .second, .val (.long ((((47 : Int32) + ((p0 &&& (2147483647 : Int32)) % (80 : Int32))) ||| (32 : Int32)).toInt64 - (97 : Int64))), .second, .val (.int (0 : Int32))]) rfl ?_
              show Steps p.tables e below (s₁.setTop (mkF m 76 #[.val (.int p0), .val (.int p1), .val (.int ((47 : Int32) + ((p0 &&& (2147483647 : Int32)) % (80 : Int32)))), .val (.long (((47 : Int32) + ((p0 &&& (2147483647 : Int32)) % (80 : Int32))).toInt64 - (48 : Int64))), .second, .val (.long ((((47 : Int32) + ((p0 &&& (2147483647 : Int32)) % (80 : Int32))) ||| (32 : Int32)).toInt64 - (97 : Int64))), .second, .val (.int (0 : Int32))] [])) _
              refine XS.iloadN X0.here hx rfl (hb hby at_76) rfl ?_
              show Steps p.tables e below (s₁.setTop (mkF m 77 #[.val (.int p0), .val (.int p1), .val (.int ((47 : Int32) + ((p0 &&& (2147483647 : Int32)) % (80 : Int32)))), .val (.long (((47 : Int32) + ((p0 &&& (2147483647 : Int32)) % (80 : Int32))).toInt64 - (48 : Int64))), .second, .val (.long ((((47 : Int32) + ((p0 &&& (2147483647 : Int32)) % (80 : Int32))) ||| (32 : Int32)).toInt64 - (97 : Int64))), .second, .val (.int (0 : Int32))] [(.int ((47 : Int32) + ((p0 &&& (2147483647 : Int32)) % (80 : Int32))))])) _
              refine st27 _ ?_
              show Steps p.tables e below (T27.setTop (mkF m 80 #[.val (.int p0), .val (.int p1), .val (.int ((47 : Int32) + ((p0 &&& (2147483647 : Int32)) % (80 : Int32)))), .val (.long (((47 : Int32) + ((p0 &&& (2147483647 : Int32)) % (80 : Int32))).toInt64 - (48 : Int64))), .second, .val (.long ((((47 : Int32) + ((p0 &&& (2147483647 : Int32)) % (80 : Int32))) ||| (32 : Int32)).toInt64 - (97 : Int64))), .second, .val (.int (0 : Int32))] [(.int (own_hex ((47 : Int32) + ((p0 &&& (2147483647 : Int32)) % (80 : Int32)))))])) _
              refine XS.iload X27.here hx rfl (hb hby at_80) rfl ?_
              show Steps p.tables e below (T27.setTop (mkF m 82 #[.val (.int p0), .val (.int p1), .val (.int ((47 : Int32) + ((p0 &&& (2147483647 : Int32)) % (80 : Int32)))), .val (.long (((47 : Int32) + ((p0 &&& (2147483647 : Int32)) % (80 : Int32))).toInt64 - (48 : Int64))), .second, .val (.long ((((47 : Int32) + ((p0 &&& (2147483647 : Int32)) % (80 : Int32))) ||| (32 : Int32)).toInt64 - (97 : Int64))), .second, .val (.int (0 : Int32))] [(.int (0 : Int32)), (.int (own_hex ((47 : Int32) + ((p0 &&& (2147483647 : Int32)) % (80 : Int32)))))])) _
              refine XS.icmpNo X27.here hx rfl (hb hby at_82) rfl (teq (own_hex_n (Or.inr hc50) (Or.inr hc66))).2 ?_
              show Steps p.tables e below (T27.setTop (mkF m 85 #[.val (.int p0), .val (.int p1), .val (.int ((47 : Int32) + ((p0 &&& (2147483647 : Int32)) % (80 : Int32)))), .val (.long (((47 : Int32) + ((p0 &&& (2147483647 : Int32)) % (80 : Int32))).toInt64 - (48 : Int64))), .second, .val (.long ((((47 : Int32) + ((p0 &&& (2147483647 : Int32)) % (80 : Int32))) ||| (32 : Int32)).toInt64 - (97 : Int64))), .second, .val (.int (0 : Int32))] [])) _
              refine XS.iconst X27.here hx rfl (hb hby at_85) ?_
              show Steps p.tables e below (T27.setTop (mkF m 86 #[.val (.int p0), .val (.int p1), .val (.int ((47 : Int32) + ((p0 &&& (2147483647 : Int32)) % (80 : Int32)))), .val (.long (((47 : Int32) + ((p0 &&& (2147483647 : Int32)) % (80 : Int32))).toInt64 - (48 : Int64))), .second, .val (.long ((((47 : Int32) + ((p0 &&& (2147483647 : Int32)) % (80 : Int32))) ||| (32 : Int32)).toInt64 - (97 : Int64))), .second, .val (.int (0 : Int32))] [(.int (1 : Int32))])) _
              refine XS.goto X27.here hx rfl (pc0 := 86) (pc' := 90) rfl (hb hby at_86) (by decide) (by decide) ?_
              show Steps p.tables e below (T27.setTop (mkF m 90 #[.val (.int p0), .val (.int p1), .val (.int ((47 : Int32) + ((p0 &&& (2147483647 : Int32)) % (80 : Int32)))), .val (.long (((47 : Int32) + ((p0 &&& (2147483647 : Int32)) % (80 : Int32))).toInt64 - (48 : Int64))), .second, .val (.long ((((47 : Int32) + ((p0 &&& (2147483647 : Int32)) % (80 : Int32))) ||| (32 : Int32)).toInt64 - (97 : Int64))), .second, .val (.int (0 : Int32))] [(.int (1 : Int32))])) _
              exact retN X27 hx (t := .boolean) Bd.returns (by simp) (hb hby at_90) hr
            · show Q_rm_law Z p0 p1 h0 n0 _ T27.heap _
              rw [e27]
              exact ⟨rfl, N27, rfl⟩
set_option maxRecDepth 65536 in
set_option maxHeartbeats 40000000 in
theorem comes_1 {Post : Tables → Env → Array Value → State → Outcome → State → Prop} (hpost : ∀ tb e args s v u, (limb_1_1.after args s (.returned v) u = true ∧ limb_1_2.after args s (.returned v) u = true ∧ True) → FrameEnd s (.returned v) u (Jvm.fieldLocs frame_1_writes args s ++ Jvm.arrayLocs frame_1_arrays args s ++ Jvm.staticLocs frame_1_statics s) 0 0 → Post tb e args s (.returned v) u) :
    ArmFor flags0 classFile x code maxLocals ret World_1 tables_1 room_1 Calls_1 rest_1 Pre_1 Post := by
  intro l hfl _ _ p e ha hc hk s m args below hf hA hF happ hP
  obtain ⟨hcalls, hrest, hpre⟩ := hP
  obtain ⟨-, -, -, hnamed, -, -, -, hat⟩ := (Spec.applies_iff hf).mp happ
  obtain ⟨hg, hn⟩ := and_e (Cond.before_iff.mp (show (Jvm.Cond.and given_1 narrow_1).before args s = true from hpre))
  obtain ⟨hcnt, hgv0⟩ := and_e hg
  obtain ⟨hg0, hgv1⟩ := and_e hgv0
  have hg1 := hgv1
  obtain ⟨w0, w1, rfl⟩ : ∃ w0 w1 : Value, args = #[w0, w1] := by
    have hs : args.size = 2 := by simpa [Cond.value, given_1] using hcnt
    obtain ⟨L⟩ := args
    match L, hs with
    | [w0, w1], _ => exact ⟨w0, w1, rfl⟩
  have hw := fun d (hd : d ∈ tables_1) => atoms_spec (ws := Jvm.Cond.code x code maxLocals ret :: tables_1) hat d (List.mem_cons_of_mem _ hd)
  have hfit : Fit s := fun {y c} hc i hi => by
    obtain ⟨ha, rfl⟩ := Array.getElem?_eq_some_iff.mp hc
    have q := List.all_eq_true.mp ((Array.all_eq_true_iff_forall_mem.mp hF) _ (Array.getElem_mem ha)) i (List.mem_range.mpr hi)
    simpa [Array.getElem?_eq_getElem hi] using q
  obtain ⟨i0, ei0⟩ := is_v hg0
  obtain rfl : w0 = (.int i0) := Option.some.inj ei0
  obtain ⟨i1, ei1⟩ := is_v hg1
  obtain rfl : w1 = (.int i1) := Option.some.inj ei1
  obtain ⟨n, o, h1, h2, h3, _, L, rfl, hQL, hq⟩ := rm_law l s _ hw tables_1 i0 i1  s.heap s.heap.size (Nat.le_refl _)  p e ha hc hk s m _ below hf ((Spec.applies_iff_loose hf).mp happ).1 ⟨rfl, State.Warmed39.refl s, rfl⟩ trivial
  obtain ⟨rfl, N, -⟩ := hQL
  refine ⟨n, _, h1, h2, h3, hpost _ _ _ _ _ _ ⟨Cond.after_iff.mpr rfl, Cond.after_iff.mpr (eq_i res_at (Term.int_eval (1)) rfl), trivial⟩ ⟨hq.1, hq.2.1, (hq.2.2.sift fun y hy => Or.inr (N y hy)).mono (by decide) (by decide)⟩⟩
theorem main_1_1 : Claimed_1_1 := comes_1 fun _ _ _ _ _ _ h hF => ⟨h.1, hF⟩
theorem main_1_2 : Claimed_1_2 := comes_1 fun _ _ _ _ _ _ h hF => ⟨h.2.1, hF⟩
end Jvm.Pilot.@@N@@
namespace Jvm.Pilot.@@N@@
open Jvm Jvm.ClassFile Sem Op Lib Jvm.Free Jvm.Stand Jvm.Pilot.@@N@@.Jvm.D
/-! MADE BY PROGRAM (witnessworld.py) out of the Statement's table words and the real class files: 7 classes; the members and pool entries that the words name. The judged class is class 1, her method 1. -/
namespace start1
open Jvm.ClassFile
def u (s : String) : CpInfo := .utf8 (stringToUtf16 s)
/-- a pool by its gaps: so many unusable entries, then the entry; so many at the end -/
def gap : Nat → List CpInfo → List CpInfo
  | 0, r => r
  | n + 1, r => .unusable :: gap n r
def poolList (es : List (Nat × CpInfo)) (last : Nat) : List CpInfo := es.foldr (fun e r => gap e.1 (e.2 :: r)) (gap last [])
def pool (es : List (Nat × CpInfo)) (last : Nat) : Array CpInfo := ⟨poolList es last⟩
def fileOf (pool : Array CpInfo) (this : Nat) (attrs : Array Attribute := #[]) (ms : Array MethodInfo := #[]) (fl : Nat := 33) (sup : Nat := 0) (ifs : Array Nat := #[]) (fds : Array FieldInfo := #[]) : ClassFile where
  minorVersion := 0
  majorVersion := 65
  constantPool := pool
  accessFlags := fl
  thisClass := this
  superClass := sup
  interfaces := ifs
  fields := fds
  methods := ms
  attributes := attrs
def plain (name : String) (sup : Option ClassId) : Class where
  name := name
  kind := .ordinary
  loader := none
  accessFlags := 33
  super := sup
  interfaces := #[]
  cf := none
  fields := #[]
  methods := #[]
  instanceTypes := #[]
  staticTypes := #[]
  resolved := #[]
  callSites := []
  init := .initialized
  statics := none
  mirror := none

def pool0 : Array CpInfo := pool [(5, u "<init>"), (0, u "()V"), (1, .class_ 10), (1, u "java/lang/Object")] 113

def k0m0 : Method := { name := "<init>", desc := "()V", sig := { parameters := [], returnType := none }, accessFlags := 1, code := none }
/-- java/lang/Object -/
def k0 : Class := { plain "java/lang/Object" none with
  accessFlags := 33
  interfaces := #[]
  cf := some (fileOf pool0 8 #[] #[{ accessFlags := 1, nameIndex := 5, descriptorIndex := 6, attributes := #[] }] 33 0 #[] #[])
  fields := #[]
  methods := #[k0m0]
  instanceTypes := #[]
  staticTypes := #[]
  resolved := Array.replicate 124 none
  statics := none }

def pool1 : Array CpInfo := pool [(2, .class_ 4), (1, u "java/lang/Object"), (0, u "<init>"), (0, u "()V"), (0, .integer 2147483647), (0, .long 48), (1, .long 97), (1, .long 10), (1, .long 6), (1, .methodref 17 18), (0, .class_ 19), (0, .nameAndType 20 21), (0, u "com/example/ambit/ambit/SourceReader"), (0, u "isHexDigit"), (0, u "(I)Z"), (0, .class_ 23), (0, u "com/example/ambit/ambit/SourceReaderIsHexDigitPinLaw"), (2, u "law"), (0, u "(II)Z")] 3

def k1m0 : Method := { name := "<init>", desc := "()V", sig := { parameters := [], returnType := none }, accessFlags := 1, code := none }
def k1c1 : Code := { maxStack := 4, maxLocals := 8, code := code, exceptionTable := #[], attributes := #[] }
def k1m1 : Method := { name := "law", desc := "(II)Z", sig := { parameters := [.int, .int], returnType := some .boolean }, accessFlags := 9, code := some k1c1 }
/-- com/example/ambit/ambit/SourceReaderIsHexDigitPinLaw -/
def k1 : Class := { plain "com/example/ambit/ambit/SourceReaderIsHexDigitPinLaw" (some 0) with
  accessFlags := 49
  interfaces := #[]
  cf := some (fileOf pool1 22 #[] #[{ accessFlags := 1, nameIndex := 5, descriptorIndex := 6, attributes := #[] }, { accessFlags := 9, nameIndex := 26, descriptorIndex := 27, attributes := #[] }] 49 2 #[] #[])
  fields := #[]
  methods := #[k1m0, k1m1]
  instanceTypes := #[]
  staticTypes := #[]
  resolved := Array.replicate 31 none
  statics := none }

def pool2 : Array CpInfo := pool [(2, .class_ 4), (1, u "java/lang/Object"), (3, .class_ 10), (1, u "com/example/ambit/ambit/SourceReader"), (0, u "currentEnd"), (0, u "I"), (2, u "line"), (2, u "column"), (50, u "text"), (0, u "Ljava/lang/String;"), (30, u "undecodable"), (2, u "index"), (12, u "current"), (2, u "afterOddBackslashes"), (0, u "Z"), (20, u "afterCr"), (34, u "isHexDigit"), (0, u "(I)Z"), (10, u "END"), (2, u "SUB"), (0, u "C"), (1, u "MALFORMED")] 27

def k2c0 : Code := { maxStack := 2, maxLocals := 1, code := prog_52_method_9_code, exceptionTable := #[], attributes := #[] }
def k2m0 : Method := { name := "isHexDigit", desc := "(I)Z", sig := { parameters := [.int], returnType := some .boolean }, accessFlags := 8, code := some k2c0 }
/-- com/example/ambit/ambit/SourceReader -/
def k2 : Class := { plain "com/example/ambit/ambit/SourceReader" (some 0) with
  accessFlags := 48
  interfaces := #[]
  cf := some (fileOf pool2 8 #[] #[{ accessFlags := 8, nameIndex := 177, descriptorIndex := 178, attributes := #[] }] 48 2 #[] #[{ accessFlags := 24, nameIndex := 189, descriptorIndex := 12, attributes := #[] }, { accessFlags := 24, nameIndex := 192, descriptorIndex := 193, attributes := #[] }, { accessFlags := 26, nameIndex := 195, descriptorIndex := 12, attributes := #[] }, { accessFlags := 18, nameIndex := 69, descriptorIndex := 70, attributes := #[] }, { accessFlags := 18, nameIndex := 101, descriptorIndex := 70, attributes := #[] }, { accessFlags := 2, nameIndex := 104, descriptorIndex := 12, attributes := #[] }, { accessFlags := 2, nameIndex := 120, descriptorIndex := 121, attributes := #[] }, { accessFlags := 2, nameIndex := 11, descriptorIndex := 12, attributes := #[] }, { accessFlags := 2, nameIndex := 117, descriptorIndex := 12, attributes := #[] }, { accessFlags := 2, nameIndex := 15, descriptorIndex := 12, attributes := #[] }, { accessFlags := 2, nameIndex := 18, descriptorIndex := 12, attributes := #[] }, { accessFlags := 2, nameIndex := 142, descriptorIndex := 121, attributes := #[] }])
  fields := #[{ name := "END", type := .int, accessFlags := 24, slot := 0, constantValue := 0 }, { name := "SUB", type := .char, accessFlags := 24, slot := 1, constantValue := 0 }, { name := "MALFORMED", type := .int, accessFlags := 26, slot := 2, constantValue := 0 }, { name := "text", type := (.object "java/lang/String"), accessFlags := 18, slot := 0, constantValue := 0 }, { name := "undecodable", type := (.object "java/lang/String"), accessFlags := 18, slot := 1, constantValue := 0 }, { name := "index", type := .int, accessFlags := 2, slot := 2, constantValue := 0 }, { name := "afterOddBackslashes", type := .boolean, accessFlags := 2, slot := 3, constantValue := 0 }, { name := "currentEnd", type := .int, accessFlags := 2, slot := 4, constantValue := 0 }, { name := "current", type := .int, accessFlags := 2, slot := 5, constantValue := 0 }, { name := "line", type := .int, accessFlags := 2, slot := 6, constantValue := 0 }, { name := "column", type := .int, accessFlags := 2, slot := 7, constantValue := 0 }, { name := "afterCr", type := .boolean, accessFlags := 2, slot := 8, constantValue := 0 }]
  methods := #[k2m0]
  instanceTypes := #[(.object "java/lang/String"), (.object "java/lang/String"), .int, .boolean, .int, .int, .int, .int, .boolean]
  staticTypes := #[.int, .char, .int]
  resolved := Array.replicate 223 none
  statics := none }

def pool3 : Array CpInfo := pool [(1, u "java/lang/Cloneable"), (0, .class_ 1), (0, u "java/lang/Object"), (0, .class_ 3)] 3

/-- java/lang/Cloneable -/
def k3 : Class := { plain "java/lang/Cloneable" (some 0) with
  accessFlags := 1537
  interfaces := #[]
  cf := some (fileOf pool3 2 #[] #[] 1537 4 #[] #[])
  fields := #[]
  methods := #[]
  instanceTypes := #[]
  staticTypes := #[]
  resolved := Array.replicate 8 none
  statics := none }

def pool4 : Array CpInfo := pool [(1, u "java/io/Serializable"), (0, .class_ 1), (0, u "java/lang/Object"), (0, .class_ 3)] 3

/-- java/io/Serializable -/
def k4 : Class := { plain "java/io/Serializable" (some 0) with
  accessFlags := 1537
  interfaces := #[]
  cf := some (fileOf pool4 2 #[] #[] 1537 4 #[] #[])
  fields := #[]
  methods := #[]
  instanceTypes := #[]
  staticTypes := #[]
  resolved := Array.replicate 8 none
  statics := none }

/-- the primitive byte -/
def k5 : Class := { plain "byte" none with kind := .primitive 'B', accessFlags := 0x411 }
/-- [B -/
def k6 : Class := { plain "[B" (some 0) with kind := .array 5 .byte, interfaces := #[3, 4], accessFlags := 1041 }

def heap : Heap := #[]
def classes : Array Class := #[k0, k1, k2, k3, k4, k5, k6]
def interned : List (Array UInt16 × Addr) := []
def slotsUsed : Nat := 0
def theMethod : MethodId := ⟨1, 1⟩
def args0 : Array Value := #[.int 5, .int 5]
def aboutOver (below : List Frame) : State where
  vm := { classes := classes, interned := interned.toArray }
  heap := heap
  slotsUsed := slotsUsed
  threads := #[{ frames := .invoking theMethod args0 :: below }]
def below0 : List Frame := [.native { method := ⟨0, 0⟩, args := #[] }]
def about1 : State := aboutOver below0
def p0 : Program := .bare "" "" ""
def e0 : Env := launch0.env 0 0 0
theorem w_frames : about1.frames = Frame.invoking theMethod args0 :: below0 := rfl
set_option maxRecDepth 65536 in
theorem w_args : argsFit about1.vm theMethod args0 = true := by decide +kernel
set_option maxRecDepth 65536 in
theorem w_heap : heapFits about1 = true := by decide +kernel
set_option maxRecDepth 65536 in
theorem w_runnable : about1.curStatus? = some .runnable := by decide +kernel
set_option maxRecDepth 65536 in
theorem w_alone : about1.alone = true := by decide +kernel
set_option maxRecDepth 65536 in
theorem w_named : about1.methodNamed? x = some theMethod := by decide +kernel
set_option maxRecDepth 65536 in
theorem w_hears : about1.hears theMethod below0 = true := by decide +kernel
set_option maxRecDepth 65536 in
theorem w_ripe : about1.ripe theMethod args0 below0 = true := by decide +kernel
theorem w_running : about1.status = .running := rfl
set_option maxRecDepth 65536 in
theorem w_room : about1.hasRoom e0.platform room_1 = true :=
  launch0.hasRoom_least _ room_1 (by decide +kernel) (by decide +kernel) (by decide +kernel) (by decide +kernel) (by decide +kernel) (by decide +kernel)
theorem allAtoms_all (ts : List Jvm.Cond) (a : Array Jvm.Value) (st : Jvm.State) : (allAtoms ts).before a st = ts.all (fun c => c.before a st) := by
  induction ts with
  | nil => rfl
  | cons c t ih =>
    show (Jvm.Cond.and c (allAtoms t)).before a st = _
    rw [Jvm.Cond.before_and, ih, List.all_cons]
def words1 : List Jvm.Cond := Jvm.Cond.code x code maxLocals ret :: tables_1
/-- a 'code' word, met by the world's own term for the bytes: nothing is compared byte by byte -/
theorem code_word {y : MethodName} {bytes : ByteArray} {mx : Nat} {rt : Option FieldType} {a : Array Value} {s : State} {m : MethodId} {meth : Method} {c : Code} (h1 : s.methodNamed? y = some m) (h2 : s.vm.method? m = some meth) (h3 : meth.code = some c) (h4 : c.code = bytes)
    (h5 : (c.maxLocals == mx && c.exceptionTable.isEmpty && decide (c.maxStack ≤ mostOperands) && decide (meth.sig.returnType = rt) && !meth.locks && decide (parseMethodDescriptor y.desc = some meth.sig)) = true) : (Jvm.Cond.code y bytes mx rt).before a s = true := by
  simp only [Bool.and_eq_true, beq_iff_eq, Bool.not_eq_true', decide_eq_true_eq] at h5
  obtain ⟨⟨⟨⟨⟨g1, g2⟩, g3⟩, g4⟩, g5⟩, g6⟩ := h5
  simp [Cond.before, Cond.holds, Cond.value, h1, h2, h3, h4, g1, g2, g3, g4, g5, g6]
def isCode : Jvm.Cond → Bool
  | .code _ _ _ _ => true
  | _ => false
theorem all_split {L : List Jvm.Cond} {P : Jvm.Cond → Bool} (h1 : L.all (fun c => isCode c || P c) = true) (h2 : ∀ c ∈ L.filter isCode, P c = true) : L.all P = true := by
  refine List.all_eq_true.mpr fun c hc => ?_
  have h := List.all_eq_true.mp h1 c hc
  rcases Bool.eq_false_or_eq_true (isCode c) with hi | hi
  · exact h2 c (List.mem_filter.mpr ⟨hc, hi⟩)
  · simpa [hi] using h
set_option maxRecDepth 65536 in
theorem w_c0 : (Jvm.Cond.code x code maxLocals ret).before args0 about1 = true := code_word (m := ⟨1, 1⟩) (meth := k1m1) (c := k1c1) (by decide +kernel) rfl rfl rfl (by decide +kernel)
set_option maxRecDepth 65536 in
theorem w_c1 : (Jvm.Cond.code ({ cls := "com/example/ambit/ambit/SourceReader", name := "isHexDigit", desc := "(I)Z" } : Jvm.MethodName) prog_52_method_9_code (1 : Nat) (Option.some Jvm.ClassFile.FieldType.boolean)).before args0 about1 = true := code_word (m := ⟨2, 0⟩) (meth := k2m0) (c := k2c0) (by decide +kernel) rfl rfl rfl (by decide +kernel)
def codes1 : List Jvm.Cond := [Jvm.Cond.code x code maxLocals ret, Jvm.Cond.code ({ cls := "com/example/ambit/ambit/SourceReader", name := "isHexDigit", desc := "(I)Z" } : Jvm.MethodName) prog_52_method_9_code (1 : Nat) (Option.some Jvm.ClassFile.FieldType.boolean)]
set_option maxRecDepth 65536 in
theorem codes_eq : words1.filter isCode = codes1 := rfl
theorem w_codes : ∀ c ∈ words1.filter isCode, c.before args0 about1 = true := by
  rw [codes_eq]
  intro c hc
  simp only [codes1, List.mem_cons, List.not_mem_nil, or_false] at hc
  rcases hc with rfl | rfl
  · exact w_c0
  · exact w_c1
set_option maxRecDepth 65536 in
theorem w_t1 : words1.all (fun c => isCode c || c.before args0 about1) = true := by decide +kernel
theorem w_tables : (allAtoms (Jvm.Cond.code x code maxLocals ret :: tables_1)).before args0 about1 = true := by
  rw [allAtoms_all]
  show words1.all (fun c => c.before args0 about1) = true
  refine all_split ?_ w_codes
  rw [w_t1]
set_option maxRecDepth 65536 in
theorem w_case : (Jvm.Cond.and given_1 narrow_1).before args0 about1 = true := by decide +kernel
theorem w_applies : (headSpec (Jvm.Cond.code x code maxLocals ret :: tables_1) room_1).applies x e0.platform about1 = true :=
  (Spec.applies_iff w_frames).mpr ⟨w_running, w_runnable, w_alone, w_named, w_hears, w_ripe, w_room, w_tables⟩
theorem atStart : AtStart classFile x code maxLocals ret World_1 tables_1 room_1 Calls_1 rest_1 Pre_1 launch0 p0 e0 about1 theMethod args0 below0 :=
  ⟨lists_1, trivial, launch0.admits_env _ _ _, launch0.least_env, fairChoices_fair.cas, fairChoices_fair.clock, w_frames, w_args, w_heap, w_applies, trivial, trivial, w_case⟩
end start1
theorem witness_1 : WitnessClaimed_1 := ⟨start1.p0, start1.e0, start1.about1, start1.theMethod, start1.args0, start1.below0, start1.atStart⟩
end Jvm.Pilot.@@N@@
