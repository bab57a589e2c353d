import JvmDerived
import JvmDerived.Pilot.@@N@@Statement
import JvmDerived.Pilot.@@N@@Code
set_option linter.unusedVariables false
set_option linter.unusedSimpArgs false
@@BLOCK:NumsL.lean.txt@@
namespace Jvm.RoadKit
open Sem ClassFile Op Lib Jvm.Stand Jvm.Free Jvm.LawKit
section New
variable {p : Program} {l : Launch} {e : Env} {R : Room} {s : State} {m : MethodId} {args : Array Value} {below : List Frame} {meth : Method} {c : Code} {T : State} {locs : List Loc} {cells slots : Nat}
theorem retI (X : Stand p l e R s m args below meth c T locs cells slots) (hx : p.tables.exec = Jvm.exec) {pc : Nat} {Ls : Array Slot} {z : Int32} {rest : List Value} (hret : meth.sig.returnType = some .int) (hd : decode c.code pc = .ok (.ireturn, 1)) {fs : List Frame}
    (hl : ∀ (f : JFrame) (acts : List Action), f.method = m → f.locked = none → f.entered = [] → (doReturn e (T.setTop f) acts (some (.int z))).1 = T.setFrames fs) : Steps p.tables e below (T.setTop (mkF m pc Ls (.int z :: rest))) (T.setFrames fs) := by
  have hm' : T.vm.method? m = some meth := X.method'
  have hn : narrow .int (.int z) = .int z := rfl
  show Steps p.tables e below (T.setTop { method := m, pc := pc, locals := Ls, stack := _ :: rest, locked := none }) _
  jvm_step X.here [X.here.top, hx, hd, hm', hret, hn]
  first | (intro acts; rw [hl _ acts rfl rfl rfl]) | rw [hl _ _ rfl rfl rfl]
  exact Steps.refl _
end New
end Jvm.RoadKit

namespace Jvm.Pilot.@@N@@
open Jvm Jvm.ClassFile Sem Op Lib Jvm.Free Jvm.Stand Jvm.LawKit Jvm.RoadKit Bundle Jvm.Pilot.@@N@@.Jvm.D
def own_Tab (Z : State) (h : Heap) (a : Addr) (ty : FieldType) (z : Int32) (tab : Int32 → Value) : Prop := ∃ c : Cell, Arr Z h a c ty ∧ c.slots.size = z.toNatClampNeg ∧ ¬ z < 0 ∧ ∀ j : Int32, ¬ j < 0 → j < z → c.slots[j.toNatClampNeg]? = some (tab j)
theorem own_Tab.lt {Z : State} {h : Heap} {a : Addr} {ty : FieldType} {z : Int32} {tab : Int32 → Value} (F : own_Tab Z h a ty z tab) : a < h.size := by obtain ⟨c, A, -⟩ := F; exact A.lt
theorem own_Tab.ext {Z : State} {h h' : Heap} {a : Addr} {ty : FieldType} {z : Int32} {tab : Int32 → Value} (F : own_Tab Z h a ty z tab) (E : Ext h h') : own_Tab Z h' a ty z tab := by obtain ⟨c, A, r⟩ := F; exact ⟨c, A.ext E, r⟩
theorem own_Tab.other {Z : State} {h h' : Heap} {a b : Addr} {ty : FieldType} {z : Int32} {tab : Int32 → Value} {sl : Nat} {v : Value} (F : own_Tab Z h b ty z tab) (W : Wr h h' a sl v) (q : b ≠ a) : own_Tab Z h' b ty z tab := by obtain ⟨c, A, r⟩ := F; exact ⟨c, A.other W q, r⟩
theorem own_Tab.keep {Z : State} {h h' : Heap} {a : Addr} {ty : FieldType} {z : Int32} {tab : Int32 → Value} {ws : List Addr} (F : own_Tab Z h a ty z tab) (K : Keep h h' ws) (q : a ∉ ws) : own_Tab Z h' a ty z tab := by obtain ⟨c, A, r⟩ := F; exact ⟨c, ⟨K.2.1 a c A.1 q, A.2⟩, r⟩
theorem own_Tab.new {Z : State} {h : Heap} {a : Addr} {ty : FieldType} {z : Int32} {k : ClassId} (A : Arr Z h a (newA k ty z) ty) (q : ¬ z < 0) : own_Tab Z h a ty z (fun _ => defaultValue ty) :=
  ⟨_, A, sz_new _ _ _, q, fun j h1 h2 => get_new fun x => by
    rcases x with x | x
    · exact h1 x
    · have := inb_of (c := newA k ty z) (sz_new _ _ _) ⟨h1, h2⟩
      exact this (Or.inr (by rw [sz_new]; exact x))⟩
theorem own_Tab.set {Z : State} {h h' : Heap} {a : Addr} {ty : FieldType} {z j : Int32} {tab : Int32 → Value} {c : Cell} {v : Value} (A : Arr Z h a c ty) (S : c.slots.size = z.toNatClampNeg) (q3 : ¬ z < 0) (H : ∀ i : Int32, ¬ i < 0 → i < z → c.slots[i.toNatClampNeg]? = some (tab i)) (hj : ¬ (j < 0 ∨ c.slots.size ≤ j.toNatClampNeg)) (W : Wr h h' a j.toNatClampNeg v) :
    own_Tab Z h' a ty z (fun i => if i = j then v else tab i) := by
  refine ⟨_, A.same W, by rw [sz_set]; exact S, q3, fun i h1 h2 => ?_⟩
  show _ = some (if i = j then v else tab i)
  by_cases e : i = j
  · rw [if_pos e]; exact get_hit hj e
  · rw [if_neg e, get_miss (fun x => hj (Or.inl x)) h1 e]; exact H i h1 h2
theorem own_Tab.cong {Z : State} {h : Heap} {a : Addr} {ty : FieldType} {z : Int32} {tab tab' : Int32 → Value} (F : own_Tab Z h a ty z tab) (q : ∀ j : Int32, ¬ j < 0 → j < z → tab j = tab' j) : own_Tab Z h a ty z tab' := by
  obtain ⟨c, A, S, n, H⟩ := F; exact ⟨c, A, S, n, fun j h1 h2 => by rw [← q j h1 h2]; exact H j h1 h2⟩
theorem own_selp {y : MethodName} {s : State} {args : Array Value} {n : Nat} (hy : y.cls ≠ "java/lang/invoke/MethodHandle" ∧ y.cls ≠ "java/lang/invoke/VarHandle") (hins : (Jvm.Cond.instantiable y.cls n).before args s = true) (hpriv : (Jvm.Cond.privateMethod y).before args s = true) (hinst : (Jvm.Cond.instanceMethod y).before args s = true) :
    (Jvm.Cond.selects y.cls y y).before args s = true := by
  obtain ⟨c, k, hc, hk, -, hniab, -, -⟩ := Cond.instantiable_spec hins
  have hni : k.isInterface = false := (Bool.or_eq_false_iff.mp hniab).1
  obtain ⟨mk, methM, hnamed, hmethM, -, -⟩ := Cond.instanceMethod_spec hinst
  have hfound : s.methodFound? y.cls y.name y.desc = some mk := State.methodFound?_of_named hnamed hy
  have hcls : mk.cls = c := Option.some.inj ((findClass_of_methodNamed hnamed).symm.trans hc)
  have hsel : selectMethod {} s.vm c mk = .method mk := selectMethod_private hmethM (Cond.privateMethod_at hpriv mk methM hnamed hmethM)
  simp only [Cond.before, Cond.holds, Cond.value, hc, hfound, hnamed, hsel, hcls, hk]
  simp; exact hni
def own_mix (f s : Int64) : Int64 := (f * (-7046029254386353131 : Int64) + s) * (-4658895280553007687 : Int64)
def own_slot (f s : Int64) (m : Int32) : Int32 := (own_mix f s ^^^ ((own_mix f s).toUInt64 >>> ((32 : Int32) &&& 0x3f).toInt64.toUInt64).toInt64).toInt32 &&& m
def own_s (f s : Int64) : Int32 := own_slot f s (1023 : Int32)
def own_n (a : Int32) : Int32 := (a + (1 : Int32)) &&& (1023 : Int32)
def own_find (tab : Int32 → Int64) (f s : Int64) : Int32 :=
  if tab (own_s f s * 3 + 2) = 0 then -1 else if tab (own_s f s * 3) = f ∧ tab (own_s f s * 3 + 1) = s then own_s f s * 3 else
  if tab (own_n (own_s f s) * 3 + 2) = 0 then -1 else own_n (own_s f s) * 3
def own_free (tab : Int32 → Int64) (f s : Int64) : Int32 := if tab (own_s f s * 3 + 2) = 0 then own_s f s * 3 else own_n (own_s f s) * 3
def own_ok (tab : Int32 → Int64) (f s : Int64) : Prop := tab (own_s f s * 3 + 2) = 0 ∨ (tab (own_s f s * 3) = f ∧ tab (own_s f s * 3 + 1) = s) ∨ tab (own_n (own_s f s) * 3 + 2) = 0 ∨ (tab (own_n (own_s f s) * 3) = f ∧ tab (own_n (own_s f s) * 3 + 1) = s)
def own_ok2 (tab : Int32 → Int64) (f s : Int64) : Prop := tab (own_s f s * 3 + 2) = 0 ∨ tab (own_n (own_s f s) * 3 + 2) = 0
def own_put (tab : Int32 → Int64) (f s o : Int64) : Int32 → Int64 :=
  if own_find tab f s < 0 then (fun i => if i = (own_free tab f s) + 2 then o else (fun i => if i = (own_free tab f s) + 1 then s else (fun i => if i = (own_free tab f s) then f else tab i) i) i) else (fun i => if i = (own_find tab f s) + 2 then o else tab i)
def own_szz (tab : Int32 → Int64) (f s : Int64) (q : Int32) : Int32 := if own_find tab f s < 0 then q + 1 else q
def own_out (v b e : Int32) : Int64 := if e = 0 then (v.toInt64 <<< ((32 : Int32) &&& 0x3f).toInt64) ||| (1 : Int64) else (v.toInt64 <<< ((32 : Int32) &&& 0x3f).toInt64) ||| (b + (2 : Int32)).toInt64
theorem own_1023 : (((3072 : Int32) / (3 : Int32)) - (1 : Int32)) = (1023 : Int32) := by decide
theorem own_lc0 (x y : Int64) : lcmpW x y = 0 ↔ x = y := by rw [lcW]; exact lc_eq x y
theorem own_band (x : Int32) : 0 ≤ (x &&& (1023 : Int32)).toInt ∧ (x &&& (1023 : Int32)).toInt ≤ 1023 := by
  have e : (x &&& (1023 : Int32)).toInt = x.toInt % 2 ^ 10 := Jvm.Kit.i32_mask x 1023 (k := 10) (by decide) (by decide)
  have h1 := Int.emod_nonneg x.toInt (show (2 ^ 10 : Int) ≠ 0 by decide)
  have h2 := Int.emod_lt_of_pos x.toInt (show (0 : Int) < 2 ^ 10 by decide)
  rw [e]; omega
theorem own_sb (f s : Int64) : 0 ≤ (own_s f s).toInt ∧ (own_s f s).toInt ≤ 1023 := own_band _
theorem own_nb (a : Int32) : 0 ≤ (own_n a).toInt ∧ (own_n a).toInt ≤ 1023 := own_band _
theorem own_i0 {a : Int32} (h : 0 ≤ a.toInt ∧ a.toInt ≤ 1023) : (a * 3).toInt = 3 * a.toInt := by
  have e3 : (3 : Int32).toInt = 3 := rfl
  rw [Int32.toInt_mul, e3, Int.mul_comm]; exact Int.bmod_eq_of_le (by omega) (by omega)
theorem own_i1 {a : Int32} (h : 0 ≤ a.toInt ∧ a.toInt ≤ 1023) : (a * 3 + 1).toInt = 3 * a.toInt + 1 := by
  have e1 : (1 : Int32).toInt = 1 := rfl
  rw [Int32.toInt_add, own_i0 h, e1]; exact Int.bmod_eq_of_le (by omega) (by omega)
theorem own_i2 {a : Int32} (h : 0 ≤ a.toInt ∧ a.toInt ≤ 1023) : (a * 3 + 2).toInt = 3 * a.toInt + 2 := by
  have e2 : (2 : Int32).toInt = 2 := rfl
  rw [Int32.toInt_add, own_i0 h, e2]; exact Int.bmod_eq_of_le (by omega) (by omega)
theorem own_in {j : Int32} (h : 0 ≤ j.toInt ∧ j.toInt ≤ 3071) : ¬ j < 0 ∧ j < (3072 : Int32) := by
  have e1 : (0 : Int32).toInt = 0 := rfl
  have e2 : (3072 : Int32).toInt = 3072 := rfl
  rw [Int32.lt_iff_toInt_lt, Int32.lt_iff_toInt_lt, e1, e2]; omega
theorem own_b0 {a : Int32} (h : 0 ≤ a.toInt ∧ a.toInt ≤ 1023) : ¬ (a * 3) < 0 ∧ (a * 3) < (3072 : Int32) := own_in (by rw [own_i0 h]; omega)
theorem own_b1 {a : Int32} (h : 0 ≤ a.toInt ∧ a.toInt ≤ 1023) : ¬ (a * 3 + 1) < 0 ∧ (a * 3 + 1) < (3072 : Int32) := own_in (by rw [own_i1 h]; omega)
theorem own_b2 {a : Int32} (h : 0 ≤ a.toInt ∧ a.toInt ≤ 1023) : ¬ (a * 3 + 2) < 0 ∧ (a * 3 + 2) < (3072 : Int32) := own_in (by rw [own_i2 h]; omega)
theorem own_dead {A B D E : Prop} (h : A ∨ B ∨ D ∨ E) (h1 : ¬ A) (h2 : ¬ B) (h3 : ¬ D) (h4 : ¬ E) : False := by
  rcases h with h | h | h | h
  · exact h1 h
  · exact h2 h
  · exact h3 h
  · exact h4 h
theorem own_free_c (tab : Int32 → Int64) (f s : Int64) : ∃ a : Int32, (0 ≤ a.toInt ∧ a.toInt ≤ 1023) ∧ own_free tab f s = a * 3 := by
  unfold own_free; split
  · exact ⟨_, own_sb f s, rfl⟩
  · exact ⟨_, own_nb _, rfl⟩
theorem own_fb0 (tab : Int32 → Int64) (f s : Int64) : ¬ (own_free tab f s) < 0 ∧ (own_free tab f s) < (3072 : Int32) := by obtain ⟨a, h, e⟩ := own_free_c tab f s; rw [e]; exact own_b0 h
theorem own_fb1 (tab : Int32 → Int64) (f s : Int64) : ¬ (own_free tab f s + 1) < 0 ∧ (own_free tab f s + 1) < (3072 : Int32) := by obtain ⟨a, h, e⟩ := own_free_c tab f s; rw [e]; exact own_b1 h
theorem own_fb2 (tab : Int32 → Int64) (f s : Int64) : ¬ (own_free tab f s + 2) < 0 ∧ (own_free tab f s + 2) < (3072 : Int32) := by obtain ⟨a, h, e⟩ := own_free_c tab f s; rw [e]; exact own_b2 h
theorem own_find_c {tab : Int32 → Int64} {f s : Int64} (h : ¬ own_find tab f s < 0) : ∃ a : Int32, (0 ≤ a.toInt ∧ a.toInt ≤ 1023) ∧ own_find tab f s = a * 3 := by
  unfold own_find at h ⊢
  by_cases h1 : tab (own_s f s * 3 + 2) = 0
  · rw [if_pos h1] at h; exact absurd (by decide) h
  · rw [if_neg h1] at h ⊢
    by_cases h2 : tab (own_s f s * 3) = f ∧ tab (own_s f s * 3 + 1) = s
    · rw [if_pos h2]; exact ⟨_, own_sb f s, rfl⟩
    · rw [if_neg h2] at h ⊢
      by_cases h3 : tab (own_n (own_s f s) * 3 + 2) = 0
      · rw [if_pos h3] at h; exact absurd (by decide) h
      · rw [if_neg h3]; exact ⟨_, own_nb _, rfl⟩
theorem own_eb2 {tab : Int32 → Int64} {f s : Int64} (h : ¬ own_find tab f s < 0) : ¬ (own_find tab f s + 2) < 0 ∧ (own_find tab f s + 2) < (3072 : Int32) := by obtain ⟨a, h, e⟩ := own_find_c h; rw [e]; exact own_b2 h
theorem d7_0 : decode prog_38_method_11_code 0 = .ok (.lload_n 0, 1) := by decide +kernel
theorem d7_1 : decode prog_38_method_11_code 1 = .ok (.ldc2_w 47, 3) := by decide +kernel
theorem d7_4 : decode prog_38_method_11_code 4 = .ok (.lmul, 1) := by decide +kernel
theorem d7_5 : decode prog_38_method_11_code 5 = .ok (.lload_n 2, 1) := by decide +kernel
theorem d7_6 : decode prog_38_method_11_code 6 = .ok (.ladd, 1) := by decide +kernel
theorem d7_7 : decode prog_38_method_11_code 7 = .ok (.ldc2_w 49, 3) := by decide +kernel
theorem d7_10 : decode prog_38_method_11_code 10 = .ok (.lmul, 1) := by decide +kernel
theorem d7_11 : decode prog_38_method_11_code 11 = .ok (.lstore 5, 2) := by decide +kernel
theorem d7_13 : decode prog_38_method_11_code 13 = .ok (.lload 5, 2) := by decide +kernel
theorem d7_15 : decode prog_38_method_11_code 15 = .ok (.lload 5, 2) := by decide +kernel
theorem d7_17 : decode prog_38_method_11_code 17 = .ok (.bipush 32, 2) := by decide +kernel
theorem d7_19 : decode prog_38_method_11_code 19 = .ok (.lushr, 1) := by decide +kernel
theorem d7_20 : decode prog_38_method_11_code 20 = .ok (.lxor, 1) := by decide +kernel
theorem d7_21 : decode prog_38_method_11_code 21 = .ok (.l2i, 1) := by decide +kernel
theorem d7_22 : decode prog_38_method_11_code 22 = .ok (.iload 4, 2) := by decide +kernel
theorem d7_24 : decode prog_38_method_11_code 24 = .ok (.iand, 1) := by decide +kernel
theorem d7_25 : decode prog_38_method_11_code 25 = .ok (.ireturn, 1) := by decide +kernel
theorem pn_0 : plainName "com/example/outcry/outcry/allocation/Memo" = true := by first | (simp [plainName, overriddenIn]; done) | decide +kernel
theorem ef_7 (m : MethodId) (x0 : Int64) (x1 : Int64) (x2 : Int32) : entryFrame m #[(.long x0), (.long x1), (.int x2)] 7 = mkF m 0 #[.val (.long x0), .second, .val (.long x1), .second, .val (.int x2), .unset, .unset] [] := by first | (simp [entryFrame, mkF, argsToLocals, Value.category]; done) | rfl
def Q_rm_slot (Z : State) (q1 : Int64) (q2 : Int64) (p1 : Int32) (h0 : Heap) (n0 : Nat) (v : Option Value) (h : Heap) (L : List Loc) : Prop := v = some (.int (own_slot q1 q2 p1)) ∧ Fr n0 L ∧ h = h0
set_option maxRecDepth 65536 in
set_option maxHeartbeats 40000000 in
theorem rm_slot (l : Launch) (Z : State) (a0 : Array Value) (hw : ∀ d ∈ tables_1, d.before a0 Z = true) (ws : List Jvm.Cond) (q1 : Int64) (q2 : Int64) (p1 : Int32) (h0 : Heap) (n0 : Nat) (Z0 : n0 ≤ h0.size)  :
    MetFree l (⟨"com/example/outcry/outcry/allocation/Memo", "slot", "(JJI)I"⟩ : MethodName) (head1 (Jvm.Cond.code (⟨"com/example/outcry/outcry/allocation/Memo", "slot", "(JJI)I"⟩ : MethodName) prog_38_method_11_code 7 (some .int) :: ws) ({ frames := 0, cells := 0, slots := 0, locals := 0 } : Room)) (fun a U => a = #[(.long q1), (.long q2), (.int p1)] ∧ Z.Warmed39 U.vm ∧ U.heap = h0) (fun _ _ _ _ _ => True) (fun _ U o U' => ∃ v L, o = .returned v ∧ Q_rm_slot Z q1 q2 p1 h0 n0 v U'.heap L ∧ FrameEnd U o U' L ({ frames := 0, cells := 0, slots := 0, locals := 0 } : Room).cells ({ frames := 0, cells := 0, slots := 0, locals := 0 } : Room).slots) := by
  refine MetFree.of_bodySF (plainFor_of_name pn_0) hisR ?_
  intro p e s m args below meth c s₁ Bd hml0 hP hK
  obtain ⟨rfl, hZ, hh⟩ := hP
  have hx := Bd.exec
  have hby := Bd.bytes
  have hml : c.maxLocals = 7 := hml0
  have hown : s.vm.findClass "com/example/outcry/outcry/allocation/Memo" = some m.cls := findClass_of_methodNamed Bd.named
  have hnm := (name_of_methodNamed Bd.named Bd.method).1
  have X0 : Stand p l e ({ frames := 0, cells := 0, slots := 0, locals := 0 } : Room) s m #[(.long q1), (.long q2), (.int p1)] below meth c s₁ [] 0 0 := Stand.of_body Bd
  have e0 : s₁.heap = h0 := by rw [← hh, Bd.state]; rfl
  have N0 := Fr.nil n0
  have pre0 : ∀ t, Steps p.tables e below (s₁.setTop (mkF m 0 #[.val (.long q1), .second, .val (.long q2), .second, .val (.int p1), .unset, .unset] [])) t → Steps p.tables e below (s₁.setTop (entryFrame m #[(.long q1), (.long q2), (.int p1)] 7)) t := fun t k => castTop (ef_7 m q1 q2 p1) k
  obtain ⟨fs, hr, hrun, hended, hW, hsame⟩ := X0.leave (v := some (.int (((((q1 * (-7046029254386353131 : Int64)) + q2) * (-4658895280553007687 : Int64)) ^^^ (((((q1 * (-7046029254386353131 : Int64)) + q2) * (-4658895280553007687 : Int64)).toUInt64 >>> ((32 : Int32) &&& 0x3f).toInt64.toUInt64).toInt64)).toInt32 &&& p1))) (fun h => by rw [Bd.returns] at h; cases h)
  refine ⟨_, _, pre0 _ ?_, hrun, hended, _, _, rfl, ?_, ⟨_, rfl⟩, hW, hsame.mono (by decide) (by decide)⟩
  · show Steps p.tables e below (s₁.setTop (mkF m 0 #[.val (.long q1), .second, .val (.long q2), .second, .val (.int p1), .unset, .unset] [])) _
    refine XS.lloadN X0.here hx rfl (hb hby d7_0) rfl ?_
    show Steps p.tables e below (s₁.setTop (mkF m 1 #[.val (.long q1), .second, .val (.long q2), .second, .val (.int p1), .unset, .unset] [(.long q1)])) _
    refine X0.ldc2Long hx hown (mvT hZ (hw _ (List.mem_of_getElem? (i := 34) rfl))) (g := (mkF m 1 #[.val (.long q1), .second, .val (.long q2), .second, .val (.int p1), .unset, .unset] [(.long q1)])) rfl (hb hby d7_1) _ ?_
    show Steps p.tables e below (s₁.setTop (mkF m 4 #[.val (.long q1), .second, .val (.long q2), .second, .val (.int p1), .unset, .unset] [(.long (-7046029254386353131 : Int64)), (.long q1)])) _
    refine XS.lmul X0.here hx rfl (hb hby d7_4) rfl ?_
    show Steps p.tables e below (s₁.setTop (mkF m 5 #[.val (.long q1), .second, .val (.long q2), .second, .val (.int p1), .unset, .unset] [(.long (q1 * (-7046029254386353131 : Int64)))])) _
    refine XS.lloadN X0.here hx rfl (hb hby d7_5) rfl ?_
    show Steps p.tables e below (s₁.setTop (mkF m 6 #[.val (.long q1), .second, .val (.long q2), .second, .val (.int p1), .unset, .unset] [(.long q2), (.long (q1 * (-7046029254386353131 : Int64)))])) _
    refine XS.ladd X0.here hx rfl (hb hby d7_6) rfl ?_
    show Steps p.tables e below (s₁.setTop (mkF m 7 #[.val (.long q1), .second, .val (.long q2), .second, .val (.int p1), .unset, .unset] [(.long ((q1 * (-7046029254386353131 : Int64)) + q2))])) _
    refine X0.ldc2Long hx hown (mvT hZ (hw _ (List.mem_of_getElem? (i := 35) rfl))) (g := (mkF m 7 #[.val (.long q1), .second, .val (.long q2), .second, .val (.int p1), .unset, .unset] [(.long ((q1 * (-7046029254386353131 : Int64)) + q2))])) rfl (hb hby d7_7) _ ?_
    show Steps p.tables e below (s₁.setTop (mkF m 10 #[.val (.long q1), .second, .val (.long q2), .second, .val (.int p1), .unset, .unset] [(.long (-4658895280553007687 : Int64)), (.long ((q1 * (-7046029254386353131 : Int64)) + q2))])) _
    refine XS.lmul X0.here hx rfl (hb hby d7_10) rfl ?_
    show Steps p.tables e below (s₁.setTop (mkF m 11 #[.val (.long q1), .second, .val (.long q2), .second, .val (.int p1), .unset, .unset] [(.long (((q1 * (-7046029254386353131 : Int64)) + q2) * (-4658895280553007687 : Int64)))])) _
    refine XS.lstore X0.here hx rfl (hb hby d7_11) rfl (l' := #[.val (.long q1), .second, .val (.long q2), .second, .val (.int p1), .val (.long (((q1 * (-7046029254386353131 : Int64)) + q2) * (-4658895280553007687 : Int64))), .second]) rfl ?_
    show Steps p.tables e below (s₁.setTop (mkF m 13 #[.val (.long q1), .second, .val (.long q2), .second, .val (.int p1), .val (.long (((q1 * (-7046029254386353131 : Int64)) + q2) * (-4658895280553007687 : Int64))), .second] [])) _
    refine XS.lload X0.here hx rfl (hb hby d7_13) rfl ?_
    show Steps p.tables e below (s₁.setTop (mkF m 15 #[.val (.long q1), .second, .val (.long q2), .second, .val (.int p1), .val (.long (((q1 * (-7046029254386353131 : Int64)) + q2) * (-4658895280553007687 : Int64))), .second] [(.long (((q1 * (-7046029254386353131 : Int64)) + q2) * (-4658895280553007687 : Int64)))])) _
    refine XS.lload X0.here hx rfl (hb hby d7_15) rfl ?_
    show Steps p.tables e below (s₁.setTop (mkF m 17 #[.val (.long q1), .second, .val (.long q2), .second, .val (.int p1), .val (.long (((q1 * (-7046029254386353131 : Int64)) + q2) * (-4658895280553007687 : Int64))), .second] [(.long (((q1 * (-7046029254386353131 : Int64)) + q2) * (-4658895280553007687 : Int64))), (.long (((q1 * (-7046029254386353131 : Int64)) + q2) * (-4658895280553007687 : Int64)))])) _
    refine XS.bipush X0.here hx rfl (hb hby d7_17) ?_
    show Steps p.tables e below (s₁.setTop (mkF m 19 #[.val (.long q1), .second, .val (.long q2), .second, .val (.int p1), .val (.long (((q1 * (-7046029254386353131 : Int64)) + q2) * (-4658895280553007687 : Int64))), .second] [(.int (32 : Int32)), (.long (((q1 * (-7046029254386353131 : Int64)) + q2) * (-4658895280553007687 : Int64))), (.long (((q1 * (-7046029254386353131 : Int64)) + q2) * (-4658895280553007687 : Int64)))])) _
    refine XS.lushr X0.here hx rfl (hb hby d7_19) rfl ?_
    show Steps p.tables e below (s₁.setTop (mkF m 20 #[.val (.long q1), .second, .val (.long q2), .second, .val (.int p1), .val (.long (((q1 * (-7046029254386353131 : Int64)) + q2) * (-4658895280553007687 : Int64))), .second] [(.long (((((q1 * (-7046029254386353131 : Int64)) + q2) * (-4658895280553007687 : Int64)).toUInt64 >>> ((32 : Int32) &&& 0x3f).toInt64.toUInt64).toInt64)), (.long (((q1 * (-7046029254386353131 : Int64)) + q2) * (-4658895280553007687 : Int64)))])) _
    refine XS.lxor X0.here hx rfl (hb hby d7_20) rfl ?_
    show Steps p.tables e below (s₁.setTop (mkF m 21 #[.val (.long q1), .second, .val (.long q2), .second, .val (.int p1), .val (.long (((q1 * (-7046029254386353131 : Int64)) + q2) * (-4658895280553007687 : Int64))), .second] [(.long ((((q1 * (-7046029254386353131 : Int64)) + q2) * (-4658895280553007687 : Int64)) ^^^ (((((q1 * (-7046029254386353131 : Int64)) + q2) * (-4658895280553007687 : Int64)).toUInt64 >>> ((32 : Int32) &&& 0x3f).toInt64.toUInt64).toInt64)))])) _
    refine XS.l2i X0.here hx rfl (hb hby d7_21) rfl ?_
    show Steps p.tables e below (s₁.setTop (mkF m 22 #[.val (.long q1), .second, .val (.long q2), .second, .val (.int p1), .val (.long (((q1 * (-7046029254386353131 : Int64)) + q2) * (-4658895280553007687 : Int64))), .second] [(.int ((((q1 * (-7046029254386353131 : Int64)) + q2) * (-4658895280553007687 : Int64)) ^^^ (((((q1 * (-7046029254386353131 : Int64)) + q2) * (-4658895280553007687 : Int64)).toUInt64 >>> ((32 : Int32) &&& 0x3f).toInt64.toUInt64).toInt64)).toInt32)])) _
    refine XS.iload X0.here hx rfl (hb hby d7_22) rfl ?_
    show Steps p.tables e below (s₁.setTop (mkF m 24 #[.val (.long q1), .second, .val (.long q2), .second, .val (.int p1), .val (.long (((q1 * (-7046029254386353131 : Int64)) + q2) * (-4658895280553007687 : Int64))), .second] [(.int p1), (.int ((((q1 * (-7046029254386353131 : Int64)) + q2) * (-4658895280553007687 : Int64)) ^^^ (((((q1 * (-7046029254386353131 : Int64)) + q2) * (-4658895280553007687 : Int64)).toUInt64 >>> ((32 : Int32) &&& 0x3f).toInt64.toUInt64).toInt64)).toInt32)])) _
    refine XS.iand X0.here hx rfl (hb hby d7_24) rfl ?_
    show Steps p.tables e below (s₁.setTop (mkF m 25 #[.val (.long q1), .second, .val (.long q2), .second, .val (.int p1), .val (.long (((q1 * (-7046029254386353131 : Int64)) + q2) * (-4658895280553007687 : Int64))), .second] [(.int (((((q1 * (-7046029254386353131 : Int64)) + q2) * (-4658895280553007687 : Int64)) ^^^ (((((q1 * (-7046029254386353131 : Int64)) + q2) * (-4658895280553007687 : Int64)).toUInt64 >>> ((32 : Int32) &&& 0x3f).toInt64.toUInt64).toInt64)).toInt32 &&& p1))])) _
    exact retI X0 hx Bd.returns (hb hby d7_25) hr
  · show Q_rm_slot Z q1 q2 p1 h0 n0 _ s₁.heap _
    rw [e0]
    exact ⟨rfl, N0, rfl⟩
theorem d1_0 : decode prog_38_method_1_code 0 = .ok (.aload_n 0, 1) := by decide +kernel
theorem d1_1 : decode prog_38_method_1_code 1 = .ok (.invokespecial 1, 3) := by decide +kernel
theorem d1_4 : decode prog_38_method_1_code 4 = .ok (.aload_n 0, 1) := by decide +kernel
theorem d1_5 : decode prog_38_method_1_code 5 = .ok (.sipush 3072, 3) := by decide +kernel
theorem d1_8 : decode prog_38_method_1_code 8 = .ok (.newarray .long, 2) := by decide +kernel
theorem d1_10 : decode prog_38_method_1_code 10 = .ok (.putfield 9, 3) := by decide +kernel
theorem d1_13 : decode prog_38_method_1_code 13 = .ok (.return_, 1) := by decide +kernel
theorem ef_1 (m : MethodId) (x0 : Addr) : entryFrame m #[(.ref x0)] 1 = mkF m 0 #[.val (.ref x0)] [] := by first | (simp [entryFrame, mkF, argsToLocals, Value.category]; done) | rfl
def Q_rm_init (Z : State) (a0x : Addr) (h0 : Heap) (n0 : Nat) (v : Option Value) (h : Heap) (L : List Loc) : Prop := v = none ∧ Fr n0 L ∧ Keep h0 h [a0x] ∧ Fld Z h a0x "com/example/outcry/outcry/allocation/Memo" "size" "I" (.int (0 : Int32)) ∧ (∃ b : Addr, n0 ≤ b ∧ h0.size ≤ b ∧ Fld Z h a0x "com/example/outcry/outcry/allocation/Memo" "table" "[J" (.ref b) ∧ own_Tab Z h b .long (3072 : Int32) (fun j => .long ((fun _ => (0 : Int64)) j)))
set_option maxRecDepth 65536 in
set_option maxHeartbeats 40000000 in
theorem rm_init (l : Launch) (Z : State) (a0 : Array Value) (hw : ∀ d ∈ tables_1, d.before a0 Z = true) (ws : List Jvm.Cond) (a0x : Addr) (h0 : Heap) (n0 : Nat) (Z0 : n0 ≤ h0.size) (E0x : Exa Z h0 a0x "com/example/outcry/outcry/allocation/Memo") (g0x : n0 ≤ a0x) (F0x : Fld Z h0 a0x "com/example/outcry/outcry/allocation/Memo" "table" "[J" .null) (F1x : Fld Z h0 a0x "com/example/outcry/outcry/allocation/Memo" "size" "I" (.int (0 : Int32))) :
    MetFree l (⟨"com/example/outcry/outcry/allocation/Memo", "<init>", "()V"⟩ : MethodName) (head1 (Jvm.Cond.code (⟨"com/example/outcry/outcry/allocation/Memo", "<init>", "()V"⟩ : MethodName) prog_38_method_1_code 1 none :: ws) ({ frames := 1, cells := 1, slots := 3072, locals := 12 } : Room)) (fun a U => a = #[(.ref a0x)] ∧ Z.Warmed39 U.vm ∧ U.heap = h0) (fun _ _ _ _ _ => True) (fun _ U o U' => ∃ v L, o = .returned v ∧ Q_rm_init Z a0x h0 n0 v U'.heap L ∧ FrameEnd U o U' L ({ frames := 1, cells := 1, slots := 3072, locals := 12 } : Room).cells ({ frames := 1, cells := 1, slots := 3072, locals := 12 } : Room).slots) := by
  refine MetFree.of_bodySF (plainFor_of_name pn_0) hisR ?_
  intro p e s m args below meth c s₁ Bd hml0 hP hK
  obtain ⟨rfl, hZ, hh⟩ := hP
  have hx := Bd.exec
  have hby := Bd.bytes
  have hml : c.maxLocals = 1 := hml0
  have hown : s.vm.findClass "com/example/outcry/outcry/allocation/Memo" = some m.cls := findClass_of_methodNamed Bd.named
  have hnm := (name_of_methodNamed Bd.named Bd.method).1
  have X0 : Stand p l e ({ frames := 1, cells := 1, slots := 3072, locals := 12 } : Room) s m #[(.ref a0x)] below meth c s₁ [] 0 0 := Stand.of_body Bd
  have e0 : s₁.heap = h0 := by rw [← hh, Bd.state]; rfl
  have N0 := Fr.nil n0
  have K0 : Keep h0 h0 [a0x] := Keep.refl h0 [a0x]
  have pre0 : ∀ t, Steps p.tables e below (s₁.setTop (mkF m 0 #[.val (.ref a0x)] [])) t → Steps p.tables e below (s₁.setTop (entryFrame m #[(.ref a0x)] 1)) t := fun t k => castTop (ef_1 m a0x) k
  obtain ⟨T1, X1, e1, st1⟩ := initO X0 hx hZ hown (hw _ (List.mem_of_getElem? (i := 6) rfl)) (hw _ (List.mem_of_getElem? (i := 7) rfl)) (hw _ (List.mem_of_getElem? (i := 8) rfl)) e0 (g := (mkF m 1 #[.val (.ref a0x)] [(.ref a0x)])) rfl (by rw [hml]; rfl) rfl (hb hby d1_1) (by decide) (W := 0) (by show 2 * 0 + _ ≤ _; exact Nat.le_of_eq rfl) (by decide)
  obtain ⟨T2, h2, k2, X2, e2, E2, A2, st2⟩ := newP X1 hx hZ (hw _ (List.mem_of_getElem? (i := 9) rfl)) e1 (g := (mkF m 8 #[.val (.ref a0x)] [(.int (3072 : Int32)), (.ref a0x)])) rfl (hb hby d1_8) rfl (by decide) (cap := 3072) (by decide) (by decide) (by decide) (by decide)
  obtain ⟨b2, g2⟩ : ∃ z, z = h0.size := ⟨_, rfl⟩
  rw [← g2] at A2 st2
  have ne_a0x_b2 : a0x ≠ b2 := Nat.ne_of_lt (Nat.lt_of_lt_of_le E0x.lt (Nat.le_of_eq g2.symm))
  have g_b2 : n0 ≤ b2 := Nat.le_trans Z0 (Nat.le_of_eq g2.symm)
  have sz_b2 : h0.size ≤ b2 := Nat.le_trans K0.1 (Nat.le_of_eq g2.symm)
  have E0x_2 : Exa Z h2 a0x "com/example/outcry/outcry/allocation/Memo" := E0x.ext E2
  have F0x_2 : Fld Z h2 a0x "com/example/outcry/outcry/allocation/Memo" "table" "[J" .null := F0x.ext E2
  have F1x_2 : Fld Z h2 a0x "com/example/outcry/outcry/allocation/Memo" "size" "I" (.int (0 : Int32)) := F1x.ext E2
  have Z2 : n0 ≤ h2.size := Nat.le_trans Z0 E2.1
  have K2 : Keep h0 h2 [a0x] := K0.ext E2
  have V_b2 : own_Tab Z h2 b2 .long (3072 : Int32) (fun j => .long ((fun _ => (0 : Int64)) j)) := own_Tab.new A2 (by decide)
  obtain ⟨T3, h3, X3, e3, W3, st3⟩ := putF X2 hx hZ hown (host := "") (Or.inl (hw _ (List.mem_of_getElem? (i := 10) rfl))) Via.refl e2 F0x_2 E0x_2 (Or.inl (hw _ (List.mem_of_getElem? (i := 11) rfl))) (hw _ (List.mem_of_getElem? (i := 1) rfl)) (ty := (.array .long)) (by decide) rfl rfl (g := (mkF m 10 #[.val (.ref a0x)] [(.ref b2), (.ref a0x)])) rfl rfl (hb hby d1_10)
  have N3 := Fr.snoc X3 N0 g0x
  have Fw3 : Fld Z h3 a0x "com/example/outcry/outcry/allocation/Memo" "table" "[J" (.ref b2) := F0x_2.same W3
  have E0x_3 : Exa Z h3 a0x "com/example/outcry/outcry/allocation/Memo" := E0x_2.wr W3
  have F1x_3 : Fld Z h3 a0x "com/example/outcry/outcry/allocation/Memo" "size" "I" (.int (0 : Int32)) := F1x_2.other W3 (Or.inr (slot_ne (Or.inl (hw _ (List.mem_of_getElem? (i := 37) rfl))) (Or.inl (hw _ (List.mem_of_getElem? (i := 11) rfl))) (by decide) (t := .int) (t' := (.array .long)) (by decide) (by decide)))
  have V_b2_3 : own_Tab Z h3 b2 .long (3072 : Int32) (fun j => .long ((fun _ => (0 : Int64)) j)) := V_b2.other W3 (Ne.symm ne_a0x_b2)
  have Z3 : n0 ≤ h3.size := Nat.le_trans Z2 (Keep.of_wr W3).1
  have K3 : Keep h0 h3 [a0x] := K2.wr W3 (Or.inl (List.mem_of_getElem? (i := 0) rfl))
  obtain ⟨fs, hr, hrun, hended, hW, hsame⟩ := X3.leave (v := none) (fun _ => rfl)
  refine ⟨_, _, pre0 _ ?_, hrun, hended, _, _, rfl, ?_, ⟨_, rfl⟩, hW, hsame.mono (by decide) (by decide)⟩
  · show Steps p.tables e below (s₁.setTop (mkF m 0 #[.val (.ref a0x)] [])) _
    refine XS.aloadN X0.here hx rfl (hb hby d1_0) rfl rfl ?_
    show Steps p.tables e below (s₁.setTop (mkF m 1 #[.val (.ref a0x)] [(.ref a0x)])) _
    refine st1 _ ?_
    show Steps p.tables e below (T1.setTop (mkF m 4 #[.val (.ref a0x)] [])) _
    refine XS.aloadN X1.here hx rfl (hb hby d1_4) rfl rfl ?_
    show Steps p.tables e below (T1.setTop (mkF m 5 #[.val (.ref a0x)] [(.ref a0x)])) _
    refine XS.sipush X1.here hx rfl (hb hby d1_5) ?_
    show Steps p.tables e below (T1.setTop (mkF m 8 #[.val (.ref a0x)] [(.int (3072 : Int32)), (.ref a0x)])) _
    refine st2 _ ?_
    show Steps p.tables e below (T2.setTop (mkF m 10 #[.val (.ref a0x)] [(.ref b2), (.ref a0x)])) _
    refine st3 _ ?_
    show Steps p.tables e below (T3.setTop (mkF m 13 #[.val (.ref a0x)] [])) _
    exact X3.returnOut hx Bd.returns (hb hby d1_13) hr
  · show Q_rm_init Z a0x h0 n0 _ T3.heap _
    rw [e3]
    exact ⟨rfl, N3, K3, F1x_3, ⟨b2, g_b2, sz_b2, Fw3, V_b2_3⟩⟩
theorem d6_0 : decode prog_38_method_2_code 0 = .ok (.aload_n 0, 1) := by decide +kernel
theorem d6_1 : decode prog_38_method_2_code 1 = .ok (.getfield 9, 3) := by decide +kernel
theorem d6_4 : decode prog_38_method_2_code 4 = .ok (.arraylength, 1) := by decide +kernel
theorem d6_5 : decode prog_38_method_2_code 5 = .ok (.iconst 3, 1) := by decide +kernel
theorem d6_6 : decode prog_38_method_2_code 6 = .ok (.idiv, 1) := by decide +kernel
theorem d6_7 : decode prog_38_method_2_code 7 = .ok (.iconst 1, 1) := by decide +kernel
theorem d6_8 : decode prog_38_method_2_code 8 = .ok (.isub, 1) := by decide +kernel
theorem d6_9 : decode prog_38_method_2_code 9 = .ok (.istore 5, 2) := by decide +kernel
theorem d6_11 : decode prog_38_method_2_code 11 = .ok (.lload_n 1, 1) := by decide +kernel
theorem d6_12 : decode prog_38_method_2_code 12 = .ok (.lload_n 3, 1) := by decide +kernel
theorem d6_13 : decode prog_38_method_2_code 13 = .ok (.iload 5, 2) := by decide +kernel
theorem d6_15 : decode prog_38_method_2_code 15 = .ok (.invokestatic 13, 3) := by decide +kernel
theorem pd_0 : parseMethodDescriptor "(JJI)I" = some ⟨[.long, .long, .int], some .int⟩ := by decide +kernel
theorem d6_18 : decode prog_38_method_2_code 18 = .ok (.istore 6, 2) := by decide +kernel
theorem d6_20 : decode prog_38_method_2_code 20 = .ok (.iload 6, 2) := by decide +kernel
theorem d6_22 : decode prog_38_method_2_code 22 = .ok (.iconst 3, 1) := by decide +kernel
theorem d6_23 : decode prog_38_method_2_code 23 = .ok (.imul, 1) := by decide +kernel
theorem d6_24 : decode prog_38_method_2_code 24 = .ok (.istore 7, 2) := by decide +kernel
theorem d6_26 : decode prog_38_method_2_code 26 = .ok (.aload_n 0, 1) := by decide +kernel
theorem d6_27 : decode prog_38_method_2_code 27 = .ok (.getfield 9, 3) := by decide +kernel
theorem d6_30 : decode prog_38_method_2_code 30 = .ok (.iload 7, 2) := by decide +kernel
theorem d6_32 : decode prog_38_method_2_code 32 = .ok (.iconst 2, 1) := by decide +kernel
theorem d6_33 : decode prog_38_method_2_code 33 = .ok (.iadd, 1) := by decide +kernel
theorem d6_34 : decode prog_38_method_2_code 34 = .ok (.laload, 1) := by decide +kernel
theorem d6_35 : decode prog_38_method_2_code 35 = .ok (.lconst 0, 1) := by decide +kernel
theorem d6_36 : decode prog_38_method_2_code 36 = .ok (.lcmp, 1) := by decide +kernel
theorem d6_37 : decode prog_38_method_2_code 37 = .ok (.ifCond .ne 5, 3) := by decide +kernel
theorem d6_40 : decode prog_38_method_2_code 40 = .ok (.iconst (-1), 1) := by decide +kernel
theorem d6_41 : decode prog_38_method_2_code 41 = .ok (.ireturn, 1) := by decide +kernel
theorem d6_42 : decode prog_38_method_2_code 42 = .ok (.aload_n 0, 1) := by decide +kernel
theorem d6_43 : decode prog_38_method_2_code 43 = .ok (.getfield 9, 3) := by decide +kernel
theorem d6_46 : decode prog_38_method_2_code 46 = .ok (.iload 7, 2) := by decide +kernel
theorem d6_48 : decode prog_38_method_2_code 48 = .ok (.laload, 1) := by decide +kernel
theorem d6_49 : decode prog_38_method_2_code 49 = .ok (.lload_n 1, 1) := by decide +kernel
theorem d6_50 : decode prog_38_method_2_code 50 = .ok (.lcmp, 1) := by decide +kernel
theorem d6_51 : decode prog_38_method_2_code 51 = .ok (.ifCond .ne 20, 3) := by decide +kernel
theorem d6_54 : decode prog_38_method_2_code 54 = .ok (.aload_n 0, 1) := by decide +kernel
theorem d6_55 : decode prog_38_method_2_code 55 = .ok (.getfield 9, 3) := by decide +kernel
theorem d6_58 : decode prog_38_method_2_code 58 = .ok (.iload 7, 2) := by decide +kernel
theorem d6_60 : decode prog_38_method_2_code 60 = .ok (.iconst 1, 1) := by decide +kernel
theorem d6_61 : decode prog_38_method_2_code 61 = .ok (.iadd, 1) := by decide +kernel
theorem d6_62 : decode prog_38_method_2_code 62 = .ok (.laload, 1) := by decide +kernel
theorem d6_63 : decode prog_38_method_2_code 63 = .ok (.lload_n 3, 1) := by decide +kernel
theorem d6_64 : decode prog_38_method_2_code 64 = .ok (.lcmp, 1) := by decide +kernel
theorem d6_65 : decode prog_38_method_2_code 65 = .ok (.ifCond .ne 6, 3) := by decide +kernel
theorem d6_68 : decode prog_38_method_2_code 68 = .ok (.iload 7, 2) := by decide +kernel
theorem d6_70 : decode prog_38_method_2_code 70 = .ok (.ireturn, 1) := by decide +kernel
theorem d6_71 : decode prog_38_method_2_code 71 = .ok (.iload 6, 2) := by decide +kernel
theorem d6_73 : decode prog_38_method_2_code 73 = .ok (.iconst 1, 1) := by decide +kernel
theorem d6_74 : decode prog_38_method_2_code 74 = .ok (.iadd, 1) := by decide +kernel
theorem d6_75 : decode prog_38_method_2_code 75 = .ok (.iload 5, 2) := by decide +kernel
theorem d6_77 : decode prog_38_method_2_code 77 = .ok (.iand, 1) := by decide +kernel
theorem d6_78 : decode prog_38_method_2_code 78 = .ok (.istore 6, 2) := by decide +kernel
theorem d6_80 : decode prog_38_method_2_code 80 = .ok (.goto (-60), 3) := by decide +kernel
theorem ef_6 (m : MethodId) (x0 : Addr) (x1 : Int64) (x2 : Int64) : entryFrame m #[(.ref x0), (.long x1), (.long x2)] 8 = mkF m 0 #[.val (.ref x0), .val (.long x1), .second, .val (.long x2), .second, .unset, .unset, .unset] [] := by first | (simp [entryFrame, mkF, argsToLocals, Value.category]; done) | rfl
def Q_rm_find (Z : State) (a0x : Addr) (q1 : Int64) (q2 : Int64) (a1x : Addr) (tab : Int32 → Int64) (h0 : Heap) (n0 : Nat) (v : Option Value) (h : Heap) (L : List Loc) : Prop := v = some (.int (own_find tab q1 q2)) ∧ Fr n0 L ∧ h = h0
set_option maxRecDepth 65536 in
set_option maxHeartbeats 40000000 in
theorem rm_find (l : Launch) (Z : State) (a0 : Array Value) (hw : ∀ d ∈ tables_1, d.before a0 Z = true) (ws : List Jvm.Cond) (a0x : Addr) (q1 : Int64) (q2 : Int64) (a1x : Addr) (tab : Int32 → Int64) (h0 : Heap) (n0 : Nat) (Z0 : n0 ≤ h0.size) (Ft : Fld Z h0 a0x "com/example/outcry/outcry/allocation/Memo" "table" "[J" (.ref a1x)) (Vt : own_Tab Z h0 a1x .long (3072 : Int32) (fun j => .long (tab j))) (hok : own_ok tab q1 q2) :
    MetFree l (⟨"com/example/outcry/outcry/allocation/Memo", "find", "(JJ)I"⟩ : MethodName) (head1 (Jvm.Cond.code (⟨"com/example/outcry/outcry/allocation/Memo", "find", "(JJ)I"⟩ : MethodName) prog_38_method_2_code 8 (some .int) :: ws) ({ frames := 1, cells := 0, slots := 0, locals := 18 } : Room)) (fun a U => a = #[(.ref a0x), (.long q1), (.long q2)] ∧ Z.Warmed39 U.vm ∧ U.heap = h0) (fun _ _ _ _ _ => True) (fun _ U o U' => ∃ v L, o = .returned v ∧ Q_rm_find Z a0x q1 q2 a1x tab h0 n0 v U'.heap L ∧ FrameEnd U o U' L ({ frames := 1, cells := 0, slots := 0, locals := 18 } : Room).cells ({ frames := 1, cells := 0, slots := 0, locals := 18 } : Room).slots) := by
  refine MetFree.of_bodySF (plainFor_of_name pn_0) hisR ?_
  intro p e s m args below meth c s₁ Bd hml0 hP hK
  obtain ⟨rfl, hZ, hh⟩ := hP
  have hx := Bd.exec
  have hby := Bd.bytes
  have hml : c.maxLocals = 8 := hml0
  have hown : s.vm.findClass "com/example/outcry/outcry/allocation/Memo" = some m.cls := findClass_of_methodNamed Bd.named
  have hnm := (name_of_methodNamed Bd.named Bd.method).1
  have X0 : Stand p l e ({ frames := 1, cells := 0, slots := 0, locals := 18 } : Room) s m #[(.ref a0x), (.long q1), (.long q2)] below meth c s₁ [] 0 0 := Stand.of_body Bd
  have e0 : s₁.heap = h0 := by rw [← hh, Bd.state]; rfl
  have N0 := Fr.nil n0
  have pre0 : ∀ t, Steps p.tables e below (s₁.setTop (mkF m 0 #[.val (.ref a0x), .val (.long q1), .second, .val (.long q2), .second, .unset, .unset, .unset] [])) t → Steps p.tables e below (s₁.setTop (entryFrame m #[(.ref a0x), (.long q1), (.long q2)] 8)) t := fun t k => castTop (ef_6 m a0x q1 q2) k
  obtain ⟨T1, X1, e1, st1⟩ := getF X0 hx hZ hown (host := "") (Or.inl (hw _ (List.mem_of_getElem? (i := 10) rfl))) Via.refl e0 Ft (g := (mkF m 1 #[.val (.ref a0x), .val (.long q1), .second, .val (.long q2), .second, .unset, .unset, .unset] [(.ref a0x)])) rfl rfl (hb hby d6_1)
  obtain ⟨cl2, Ar2, S2, N2', H2⟩ := (id Vt)
  obtain ⟨_, _, ⟨T3, L3, k3, n3⟩, -, X3, ⟨Lc3, hQ3, l3, y3, z3⟩, st3⟩ := Jvm.LawKit.callS X1 hx (y := (⟨"com/example/outcry/outcry/allocation/Memo", "slot", "(JJI)I"⟩ : MethodName)) hown (mvT hZ (hw _ (List.mem_of_getElem? (i := 31) rfl))) (mvT hZ (hw _ (List.mem_of_getElem? (i := 32) rfl))) (mvT hZ (hw _ (List.mem_of_getElem? (i := 2) rfl))) (mvT hZ (hw _ (List.mem_of_getElem? (i := 33) rfl))) (by decide) (backOf (W := 0) (rm_slot l Z a0 hw [] q1 q2 (1023 : Int32) h0 n0 Z0) hZ (hw _ (List.mem_of_getElem? (i := 33) rfl)) (hw _ (List.mem_of_getElem? (i := 2) rfl)) (by decide) (by decide)) (g := (mkF m 15 #[.val (.ref a0x), .val (.long q1), .second, .val (.long q2), .second, .val (.int (1023 : Int32)), .unset, .unset] [(.int (1023 : Int32)), (.long q2), (.long q1)])) rfl (by rw [hml]; rfl) (argsL := [(.long q1), (.long q2), (.int (1023 : Int32))]) (rest := []) (lenOf pd_0 rfl) rfl (by show 2 * 0 + _ ≤ _; exact Nat.le_of_eq rfl) (hb hby d6_15) (fun _ _ => ⟨rfl, e1, (by decide : 0 + 0 ≤ _), (by decide : 0 + 0 ≤ _)⟩)
  dsimp only [Pt.U, Pt.locs, Pt.cells, Pt.slots] at X3 l3 y3 z3 st3 hQ3
  subst l3 y3 z3
  obtain ⟨rfl, N3q, e3⟩ := hQ3
  have N3 := Fr.app N0 N3q
  obtain ⟨T4, X4, e4, st4⟩ := getF X3 hx hZ hown (host := "") (Or.inl (hw _ (List.mem_of_getElem? (i := 10) rfl))) Via.refl e3 Ft (g := (mkF m 27 #[.val (.ref a0x), .val (.long q1), .second, .val (.long q2), .second, .val (.int (1023 : Int32)), .val (.int (own_s q1 q2)), .val (.int ((own_s q1 q2) * (3 : Int32)))] [(.ref a0x)])) rfl rfl (hb hby d6_27)
  obtain ⟨cl5, Ar5, S5, N5', H5⟩ := (id Vt)
  have hbd5 : ¬ (((own_s q1 q2) * (3 : Int32)) + (2 : Int32)) < 0 ∧ (((own_s q1 q2) * (3 : Int32)) + (2 : Int32)) < (3072 : Int32) := (own_b2 (own_sb _ _))
  have hin5 : ¬ ((((own_s q1 q2) * (3 : Int32)) + (2 : Int32)) < 0 ∨ cl5.slots.size ≤ ((((own_s q1 q2) * (3 : Int32)) + (2 : Int32))).toNatClampNeg) := inb_of S5 hbd5
  have hat5 : cl5.slots[((((own_s q1 q2) * (3 : Int32)) + (2 : Int32))).toNatClampNeg]? = some (.long (tab (((own_s q1 q2) * (3 : Int32)) + (2 : Int32)))) := H5 _ hbd5.1 hbd5.2
  have k6 : ∀ target, Steps p.tables e below (T4.setTop (mkF m 37 #[.val (.ref a0x), .val (.long q1), .second, .val (.long q2), .second, .val (.int (1023 : Int32)), .val (.int (own_s q1 q2)), .val (.int ((own_s q1 q2) * (3 : Int32)))] [(.int (lcmpW (tab (((own_s q1 q2) * (3 : Int32)) + (2 : Int32))) (0 : Int64)))])) target → Steps p.tables e below (s₁.setTop (mkF m 0 #[.val (.ref a0x), .val (.long q1), .second, .val (.long q2), .second, .unset, .unset, .unset] [])) target := by
    intro target kt
    show Steps p.tables e below (s₁.setTop (mkF m 0 #[.val (.ref a0x), .val (.long q1), .second, .val (.long q2), .second, .unset, .unset, .unset] [])) _
    refine XS.aloadN X0.here hx rfl (hb hby d6_0) rfl rfl ?_
    show Steps p.tables e below (s₁.setTop (mkF m 1 #[.val (.ref a0x), .val (.long q1), .second, .val (.long q2), .second, .unset, .unset, .unset] [(.ref a0x)])) _
    refine st1 _ ?_
    show Steps p.tables e below (T1.setTop (mkF m 4 #[.val (.ref a0x), .val (.long q1), .second, .val (.long q2), .second, .unset, .unset, .unset] [(.ref a1x)])) _
    refine X1.arraylength hx (by rw [e1]; exact Ar2.1) (State.isArrayOf_alike hZ.alike Ar2.2.1) (g := (mkF m 4 #[.val (.ref a0x), .val (.long q1), .second, .val (.long q2), .second, .unset, .unset, .unset] [(.ref a1x)])) rfl rfl (hb hby d6_4) _ ?_
    rw [len_of S2 N2']
    show Steps p.tables e below (T1.setTop (mkF m 5 #[.val (.ref a0x), .val (.long q1), .second, .val (.long q2), .second, .unset, .unset, .unset] [(.int (3072 : Int32))])) _
    refine XS.iconst X1.here hx rfl (hb hby d6_5) ?_
    show Steps p.tables e below (T1.setTop (mkF m 6 #[.val (.ref a0x), .val (.long q1), .second, .val (.long q2), .second, .unset, .unset, .unset] [(.int (3 : Int32)), (.int (3072 : Int32))])) _
    refine XS.idiv X1.here hx rfl (hb hby d6_6) rfl (by decide) ?_
    show Steps p.tables e below (T1.setTop (mkF m 7 #[.val (.ref a0x), .val (.long q1), .second, .val (.long q2), .second, .unset, .unset, .unset] [(.int ((3072 : Int32) / (3 : Int32)))])) _
    refine XS.iconst X1.here hx rfl (hb hby d6_7) ?_
    show Steps p.tables e below (T1.setTop (mkF m 8 #[.val (.ref a0x), .val (.long q1), .second, .val (.long q2), .second, .unset, .unset, .unset] [(.int (1 : Int32)), (.int ((3072 : Int32) / (3 : Int32)))])) _
    refine XS.isub X1.here hx rfl (hb hby d6_8) rfl ?_
    show Steps p.tables e below (T1.setTop (mkF m 9 #[.val (.ref a0x), .val (.long q1), .second, .val (.long q2), .second, .unset, .unset, .unset] [(.int (((3072 : Int32) / (3 : Int32)) - (1 : Int32)))])) _
    refine XS.istore X1.here hx rfl (hb hby d6_9) rfl (l' := #[.val (.ref a0x), .val (.long q1), .second, .val (.long q2), .second, .val (.int (((3072 : Int32) / (3 : Int32)) - (1 : Int32))), .unset, .unset]) rfl ?_
    show Steps p.tables e below (T1.setTop (mkF m 11 #[.val (.ref a0x), .val (.long q1), .second, .val (.long q2), .second, .val (.int (((3072 : Int32) / (3 : Int32)) - (1 : Int32))), .unset, .unset] [])) _
    rw [own_1023]
    show Steps p.tables e below (T1.setTop (mkF m 11 #[.val (.ref a0x), .val (.long q1), .second, .val (.long q2), .second, .val (.int (1023 : Int32)), .unset, .unset] [])) _
    refine XS.lloadN X1.here hx rfl (hb hby d6_11) rfl ?_
    show Steps p.tables e below (T1.setTop (mkF m 12 #[.val (.ref a0x), .val (.long q1), .second, .val (.long q2), .second, .val (.int (1023 : Int32)), .unset, .unset] [(.long q1)])) _
    refine XS.lloadN X1.here hx rfl (hb hby d6_12) rfl ?_
    show Steps p.tables e below (T1.setTop (mkF m 13 #[.val (.ref a0x), .val (.long q1), .second, .val (.long q2), .second, .val (.int (1023 : Int32)), .unset, .unset] [(.long q2), (.long q1)])) _
    refine XS.iload X1.here hx rfl (hb hby d6_13) rfl ?_
    show Steps p.tables e below (T1.setTop (mkF m 15 #[.val (.ref a0x), .val (.long q1), .second, .val (.long q2), .second, .val (.int (1023 : Int32)), .unset, .unset] [(.int (1023 : Int32)), (.long q2), (.long q1)])) _
    refine st3 _ ?_
    show Steps p.tables e below (T3.setTop (mkF m 18 #[.val (.ref a0x), .val (.long q1), .second, .val (.long q2), .second, .val (.int (1023 : Int32)), .unset, .unset] [(.int (own_slot q1 q2 (1023 : Int32)))])) _
    refine XS.istore X3.here hx rfl (hb hby d6_18) rfl (l' := #[.val (.ref a0x), .val (.long q1), .second, .val (.long q2), .second, .val (.int (1023 : Int32)), .val (.int (own_slot q1 q2 (1023 : Int32))), .unset]) rfl ?_
    show Steps p.tables e below (T3.setTop (mkF m 20 #[.val (.ref a0x), .val (.long q1), .second, .val (.long q2), .second, .val (.int (1023 : Int32)), .val (.int (own_s q1 q2)), .unset] [])) _
    refine XS.iload X3.here hx rfl (hb hby d6_20) rfl ?_
    show Steps p.tables e below (T3.setTop (mkF m 22 #[.val (.ref a0x), .val (.long q1), .second, .val (.long q2), .second, .val (.int (1023 : Int32)), .val (.int (own_s q1 q2)), .unset] [(.int (own_s q1 q2))])) _
    refine XS.iconst X3.here hx rfl (hb hby d6_22) ?_
    show Steps p.tables e below (T3.setTop (mkF m 23 #[.val (.ref a0x), .val (.long q1), .second, .val (.long q2), .second, .val (.int (1023 : Int32)), .val (.int (own_s q1 q2)), .unset] [(.int (3 : Int32)), (.int (own_s q1 q2))])) _
    refine XS.imul X3.here hx rfl (hb hby d6_23) rfl ?_
    show Steps p.tables e below (T3.setTop (mkF m 24 #[.val (.ref a0x), .val (.long q1), .second, .val (.long q2), .second, .val (.int (1023 : Int32)), .val (.int (own_s q1 q2)), .unset] [(.int ((own_s q1 q2) * (3 : Int32)))])) _
    refine XS.istore X3.here hx rfl (hb hby d6_24) rfl (l' := #[.val (.ref a0x), .val (.long q1), .second, .val (.long q2), .second, .val (.int (1023 : Int32)), .val (.int (own_s q1 q2)), .val (.int ((own_s q1 q2) * (3 : Int32)))]) rfl ?_
    show Steps p.tables e below (T3.setTop (mkF m 26 #[.val (.ref a0x), .val (.long q1), .second, .val (.long q2), .second, .val (.int (1023 : Int32)), .val (.int (own_s q1 q2)), .val (.int ((own_s q1 q2) * (3 : Int32)))] [])) _
    refine XS.aloadN X3.here hx rfl (hb hby d6_26) rfl rfl ?_
    show Steps p.tables e below (T3.setTop (mkF m 27 #[.val (.ref a0x), .val (.long q1), .second, .val (.long q2), .second, .val (.int (1023 : Int32)), .val (.int (own_s q1 q2)), .val (.int ((own_s q1 q2) * (3 : Int32)))] [(.ref a0x)])) _
    refine st4 _ ?_
    show Steps p.tables e below (T4.setTop (mkF m 30 #[.val (.ref a0x), .val (.long q1), .second, .val (.long q2), .second, .val (.int (1023 : Int32)), .val (.int (own_s q1 q2)), .val (.int ((own_s q1 q2) * (3 : Int32)))] [(.ref a1x)])) _
    refine XS.iload X4.here hx rfl (hb hby d6_30) rfl ?_
    show Steps p.tables e below (T4.setTop (mkF m 32 #[.val (.ref a0x), .val (.long q1), .second, .val (.long q2), .second, .val (.int (1023 : Int32)), .val (.int (own_s q1 q2)), .val (.int ((own_s q1 q2) * (3 : Int32)))] [(.int ((own_s q1 q2) * (3 : Int32))), (.ref a1x)])) _
    refine XS.iconst X4.here hx rfl (hb hby d6_32) ?_
    show Steps p.tables e below (T4.setTop (mkF m 33 #[.val (.ref a0x), .val (.long q1), .second, .val (.long q2), .second, .val (.int (1023 : Int32)), .val (.int (own_s q1 q2)), .val (.int ((own_s q1 q2) * (3 : Int32)))] [(.int (2 : Int32)), (.int ((own_s q1 q2) * (3 : Int32))), (.ref a1x)])) _
    refine XS.iadd X4.here hx rfl (hb hby d6_33) rfl ?_
    show Steps p.tables e below (T4.setTop (mkF m 34 #[.val (.ref a0x), .val (.long q1), .second, .val (.long q2), .second, .val (.int (1023 : Int32)), .val (.int (own_s q1 q2)), .val (.int ((own_s q1 q2) * (3 : Int32)))] [(.int (((own_s q1 q2) * (3 : Int32)) + (2 : Int32))), (.ref a1x)])) _
    refine X4.laload hx (j := (((own_s q1 q2) * (3 : Int32)) + (2 : Int32))) (v := (.long (tab (((own_s q1 q2) * (3 : Int32)) + (2 : Int32))))) (by rw [e4]; exact Ar5.1) (State.isArrayOf_alike hZ.alike Ar5.2.1) Ar5.2.2 hin5 hat5 (g := (mkF m 34 #[.val (.ref a0x), .val (.long q1), .second, .val (.long q2), .second, .val (.int (1023 : Int32)), .val (.int (own_s q1 q2)), .val (.int ((own_s q1 q2) * (3 : Int32)))] [(.int (((own_s q1 q2) * (3 : Int32)) + (2 : Int32))), (.ref a1x)])) rfl rfl (hb hby d6_34) _ ?_
    show Steps p.tables e below (T4.setTop (mkF m 35 #[.val (.ref a0x), .val (.long q1), .second, .val (.long q2), .second, .val (.int (1023 : Int32)), .val (.int (own_s q1 q2)), .val (.int ((own_s q1 q2) * (3 : Int32)))] [(.long (tab (((own_s q1 q2) * (3 : Int32)) + (2 : Int32))))])) _
    refine XS.lconst X4.here hx rfl (hb hby d6_35) ?_
    show Steps p.tables e below (T4.setTop (mkF m 36 #[.val (.ref a0x), .val (.long q1), .second, .val (.long q2), .second, .val (.int (1023 : Int32)), .val (.int (own_s q1 q2)), .val (.int ((own_s q1 q2) * (3 : Int32)))] [(.long (0 : Int64)), (.long (tab (((own_s q1 q2) * (3 : Int32)) + (2 : Int32))))])) _
    refine XS.lcmp X4.here hx rfl (hb hby d6_36) rfl ?_
    exact kt
  by_cases hc37 : (lcmpW (tab (((own_s q1 q2) * (3 : Int32)) + (2 : Int32))) (0 : Int64)) = (0 : Int32)
  · obtain ⟨fs, hr, hrun, hended, hW, hsame⟩ := X4.leave (v := some (.int (-1 : Int32))) (fun h => by rw [Bd.returns] at h; cases h)
    refine ⟨_, _, pre0 _ ?_, hrun, hended, _, _, rfl, ?_, ⟨_, rfl⟩, hW, hsame.mono (by decide) (by decide)⟩
    · refine k6 _ ?_
      show Steps p.tables e below (T4.setTop (mkF m 37 #[.val (.ref a0x), .val (.long q1), .second, .val (.long q2), .second, .val (.int (1023 : Int32)), .val (.int (own_s q1 q2)), .val (.int ((own_s q1 q2) * (3 : Int32)))] [(.int (lcmpW (tab (((own_s q1 q2) * (3 : Int32)) + (2 : Int32))) (0 : Int64)))])) _
      refine XS.ifNo X4.here hx rfl (hb hby d6_37) rfl ((if0 _ _).trans (teq hc37).2) ?_
      show Steps p.tables e below (T4.setTop (mkF m 40 #[.val (.ref a0x), .val (.long q1), .second, .val (.long q2), .second, .val (.int (1023 : Int32)), .val (.int (own_s q1 q2)), .val (.int ((own_s q1 q2) * (3 : Int32)))] [])) _
      refine XS.iconst X4.here hx rfl (hb hby d6_40) ?_
      show Steps p.tables e below (T4.setTop (mkF m 41 #[.val (.ref a0x), .val (.long q1), .second, .val (.long q2), .second, .val (.int (1023 : Int32)), .val (.int (own_s q1 q2)), .val (.int ((own_s q1 q2) * (3 : Int32)))] [(.int (-1 : Int32))])) _
      exact retI X4 hx Bd.returns (hb hby d6_41) hr
    · show Q_rm_find Z a0x q1 q2 a1x tab h0 n0 _ T4.heap _
      rw [e4]
      exact ⟨(by simp [own_find, (own_lc0 _ _).mp hc37]), N3, rfl⟩
  · obtain ⟨T7, X7, e7, st7⟩ := getF X4 hx hZ hown (host := "") (Or.inl (hw _ (List.mem_of_getElem? (i := 10) rfl))) Via.refl e4 Ft (g := (mkF m 43 #[.val (.ref a0x), .val (.long q1), .second, .val (.long q2), .second, .val (.int (1023 : Int32)), .val (.int (own_s q1 q2)), .val (.int ((own_s q1 q2) * (3 : Int32)))] [(.ref a0x)])) rfl rfl (hb hby d6_43)
    obtain ⟨cl8, Ar8, S8, N8', H8⟩ := (id Vt)
    have hbd8 : ¬ ((own_s q1 q2) * (3 : Int32)) < 0 ∧ ((own_s q1 q2) * (3 : Int32)) < (3072 : Int32) := (own_b0 (own_sb _ _))
    have hin8 : ¬ (((own_s q1 q2) * (3 : Int32)) < 0 ∨ cl8.slots.size ≤ (((own_s q1 q2) * (3 : Int32))).toNatClampNeg) := inb_of S8 hbd8
    have hat8 : cl8.slots[(((own_s q1 q2) * (3 : Int32))).toNatClampNeg]? = some (.long (tab ((own_s q1 q2) * (3 : Int32)))) := H8 _ hbd8.1 hbd8.2
    have k9 : ∀ target, Steps p.tables e below (T7.setTop (mkF m 51 #[.val (.ref a0x), .val (.long q1), .second, .val (.long q2), .second, .val (.int (1023 : Int32)), .val (.int (own_s q1 q2)), .val (.int ((own_s q1 q2) * (3 : Int32)))] [(.int (lcmpW (tab ((own_s q1 q2) * (3 : Int32))) q1))])) target → Steps p.tables e below (s₁.setTop (mkF m 0 #[.val (.ref a0x), .val (.long q1), .second, .val (.long q2), .second, .unset, .unset, .unset] [])) target := by
      intro target kt
      refine k6 _ ?_
      show Steps p.tables e below (T4.setTop (mkF m 37 #[.val (.ref a0x), .val (.long q1), .second, .val (.long q2), .second, .val (.int (1023 : Int32)), .val (.int (own_s q1 q2)), .val (.int ((own_s q1 q2) * (3 : Int32)))] [(.int (lcmpW (tab (((own_s q1 q2) * (3 : Int32)) + (2 : Int32))) (0 : Int64)))])) _
      refine XS.ifYes X4.here hx rfl (pc0 := 37) (pc' := 42) rfl (hb hby d6_37) rfl ((if0 _ _).trans (feq hc37).2) (by decide) (by decide) ?_
      show Steps p.tables e below (T4.setTop (mkF m 42 #[.val (.ref a0x), .val (.long q1), .second, .val (.long q2), .second, .val (.int (1023 : Int32)), .val (.int (own_s q1 q2)), .val (.int ((own_s q1 q2) * (3 : Int32)))] [])) _
      refine XS.aloadN X4.here hx rfl (hb hby d6_42) rfl rfl ?_
      show Steps p.tables e below (T4.setTop (mkF m 43 #[.val (.ref a0x), .val (.long q1), .second, .val (.long q2), .second, .val (.int (1023 : Int32)), .val (.int (own_s q1 q2)), .val (.int ((own_s q1 q2) * (3 : Int32)))] [(.ref a0x)])) _
      refine st7 _ ?_
      show Steps p.tables e below (T7.setTop (mkF m 46 #[.val (.ref a0x), .val (.long q1), .second, .val (.long q2), .second, .val (.int (1023 : Int32)), .val (.int (own_s q1 q2)), .val (.int ((own_s q1 q2) * (3 : Int32)))] [(.ref a1x)])) _
      refine XS.iload X7.here hx rfl (hb hby d6_46) rfl ?_
      show Steps p.tables e below (T7.setTop (mkF m 48 #[.val (.ref a0x), .val (.long q1), .second, .val (.long q2), .second, .val (.int (1023 : Int32)), .val (.int (own_s q1 q2)), .val (.int ((own_s q1 q2) * (3 : Int32)))] [(.int ((own_s q1 q2) * (3 : Int32))), (.ref a1x)])) _
      refine X7.laload hx (j := ((own_s q1 q2) * (3 : Int32))) (v := (.long (tab ((own_s q1 q2) * (3 : Int32))))) (by rw [e7]; exact Ar8.1) (State.isArrayOf_alike hZ.alike Ar8.2.1) Ar8.2.2 hin8 hat8 (g := (mkF m 48 #[.val (.ref a0x), .val (.long q1), .second, .val (.long q2), .second, .val (.int (1023 : Int32)), .val (.int (own_s q1 q2)), .val (.int ((own_s q1 q2) * (3 : Int32)))] [(.int ((own_s q1 q2) * (3 : Int32))), (.ref a1x)])) rfl rfl (hb hby d6_48) _ ?_
      show Steps p.tables e below (T7.setTop (mkF m 49 #[.val (.ref a0x), .val (.long q1), .second, .val (.long q2), .second, .val (.int (1023 : Int32)), .val (.int (own_s q1 q2)), .val (.int ((own_s q1 q2) * (3 : Int32)))] [(.long (tab ((own_s q1 q2) * (3 : Int32))))])) _
      refine XS.lloadN X7.here hx rfl (hb hby d6_49) rfl ?_
      show Steps p.tables e below (T7.setTop (mkF m 50 #[.val (.ref a0x), .val (.long q1), .second, .val (.long q2), .second, .val (.int (1023 : Int32)), .val (.int (own_s q1 q2)), .val (.int ((own_s q1 q2) * (3 : Int32)))] [(.long q1), (.long (tab ((own_s q1 q2) * (3 : Int32))))])) _
      refine XS.lcmp X7.here hx rfl (hb hby d6_50) rfl ?_
      exact kt
    by_cases hc51 : (lcmpW (tab ((own_s q1 q2) * (3 : Int32))) q1) = (0 : Int32)
    · obtain ⟨T10, X10, e10, st10⟩ := getF X7 hx hZ hown (host := "") (Or.inl (hw _ (List.mem_of_getElem? (i := 10) rfl))) Via.refl e7 Ft (g := (mkF m 55 #[.val (.ref a0x), .val (.long q1), .second, .val (.long q2), .second, .val (.int (1023 : Int32)), .val (.int (own_s q1 q2)), .val (.int ((own_s q1 q2) * (3 : Int32)))] [(.ref a0x)])) rfl rfl (hb hby d6_55)
      obtain ⟨cl11, Ar11, S11, N11', H11⟩ := (id Vt)
      have hbd11 : ¬ (((own_s q1 q2) * (3 : Int32)) + (1 : Int32)) < 0 ∧ (((own_s q1 q2) * (3 : Int32)) + (1 : Int32)) < (3072 : Int32) := (own_b1 (own_sb _ _))
      have hin11 : ¬ ((((own_s q1 q2) * (3 : Int32)) + (1 : Int32)) < 0 ∨ cl11.slots.size ≤ ((((own_s q1 q2) * (3 : Int32)) + (1 : Int32))).toNatClampNeg) := inb_of S11 hbd11
      have hat11 : cl11.slots[((((own_s q1 q2) * (3 : Int32)) + (1 : Int32))).toNatClampNeg]? = some (.long (tab (((own_s q1 q2) * (3 : Int32)) + (1 : Int32)))) := H11 _ hbd11.1 hbd11.2
      have k12 : ∀ target, Steps p.tables e below (T10.setTop (mkF m 65 #[.val (.ref a0x), .val (.long q1), .second, .val (.long q2), .second, .val (.int (1023 : Int32)), .val (.int (own_s q1 q2)), .val (.int ((own_s q1 q2) * (3 : Int32)))] [(.int (lcmpW (tab (((own_s q1 q2) * (3 : Int32)) + (1 : Int32))) q2))])) target → Steps p.tables e below (s₁.setTop (mkF m 0 #[.val (.ref a0x), .val (.long q1), .second, .val (.long q2), .second, .unset, .unset, .unset] [])) target := by
        intro target kt
        refine k9 _ ?_
        show Steps p.tables e below (T7.setTop (mkF m 51 #[.val (.ref a0x), .val (.long q1), .second, .val (.long q2), .second, .val (.int (1023 : Int32)), .val (.int (own_s q1 q2)), .val (.int ((own_s q1 q2) * (3 : Int32)))] [(.int (lcmpW (tab ((own_s q1 q2) * (3 : Int32))) q1))])) _
        refine XS.ifNo X7.here hx rfl (hb hby d6_51) rfl ((if0 _ _).trans (teq hc51).2) ?_
        show Steps p.tables e below (T7.setTop (mkF m 54 #[.val (.ref a0x), .val (.long q1), .second, .val (.long q2), .second, .val (.int (1023 : Int32)), .val (.int (own_s q1 q2)), .val (.int ((own_s q1 q2) * (3 : Int32)))] [])) _
        refine XS.aloadN X7.here hx rfl (hb hby d6_54) rfl rfl ?_
        show Steps p.tables e below (T7.setTop (mkF m 55 #[.val (.ref a0x), .val (.long q1), .second, .val (.long q2), .second, .val (.int (1023 : Int32)), .val (.int (own_s q1 q2)), .val (.int ((own_s q1 q2) * (3 : Int32)))] [(.ref a0x)])) _
        refine st10 _ ?_
        show Steps p.tables e below (T10.setTop (mkF m 58 #[.val (.ref a0x), .val (.long q1), .second, .val (.long q2), .second, .val (.int (1023 : Int32)), .val (.int (own_s q1 q2)), .val (.int ((own_s q1 q2) * (3 : Int32)))] [(.ref a1x)])) _
        refine XS.iload X10.here hx rfl (hb hby d6_58) rfl ?_
        show Steps p.tables e below (T10.setTop (mkF m 60 #[.val (.ref a0x), .val (.long q1), .second, .val (.long q2), .second, .val (.int (1023 : Int32)), .val (.int (own_s q1 q2)), .val (.int ((own_s q1 q2) * (3 : Int32)))] [(.int ((own_s q1 q2) * (3 : Int32))), (.ref a1x)])) _
        refine XS.iconst X10.here hx rfl (hb hby d6_60) ?_
        show Steps p.tables e below (T10.setTop (mkF m 61 #[.val (.ref a0x), .val (.long q1), .second, .val (.long q2), .second, .val (.int (1023 : Int32)), .val (.int (own_s q1 q2)), .val (.int ((own_s q1 q2) * (3 : Int32)))] [(.int (1 : Int32)), (.int ((own_s q1 q2) * (3 : Int32))), (.ref a1x)])) _
        refine XS.iadd X10.here hx rfl (hb hby d6_61) rfl ?_
        show Steps p.tables e below (T10.setTop (mkF m 62 #[.val (.ref a0x), .val (.long q1), .second, .val (.long q2), .second, .val (.int (1023 : Int32)), .val (.int (own_s q1 q2)), .val (.int ((own_s q1 q2) * (3 : Int32)))] [(.int (((own_s q1 q2) * (3 : Int32)) + (1 : Int32))), (.ref a1x)])) _
        refine X10.laload hx (j := (((own_s q1 q2) * (3 : Int32)) + (1 : Int32))) (v := (.long (tab (((own_s q1 q2) * (3 : Int32)) + (1 : Int32))))) (by rw [e10]; exact Ar11.1) (State.isArrayOf_alike hZ.alike Ar11.2.1) Ar11.2.2 hin11 hat11 (g := (mkF m 62 #[.val (.ref a0x), .val (.long q1), .second, .val (.long q2), .second, .val (.int (1023 : Int32)), .val (.int (own_s q1 q2)), .val (.int ((own_s q1 q2) * (3 : Int32)))] [(.int (((own_s q1 q2) * (3 : Int32)) + (1 : Int32))), (.ref a1x)])) rfl rfl (hb hby d6_62) _ ?_
        show Steps p.tables e below (T10.setTop (mkF m 63 #[.val (.ref a0x), .val (.long q1), .second, .val (.long q2), .second, .val (.int (1023 : Int32)), .val (.int (own_s q1 q2)), .val (.int ((own_s q1 q2) * (3 : Int32)))] [(.long (tab (((own_s q1 q2) * (3 : Int32)) + (1 : Int32))))])) _
        refine XS.lloadN X10.here hx rfl (hb hby d6_63) rfl ?_
        show Steps p.tables e below (T10.setTop (mkF m 64 #[.val (.ref a0x), .val (.long q1), .second, .val (.long q2), .second, .val (.int (1023 : Int32)), .val (.int (own_s q1 q2)), .val (.int ((own_s q1 q2) * (3 : Int32)))] [(.long q2), (.long (tab (((own_s q1 q2) * (3 : Int32)) + (1 : Int32))))])) _
        refine XS.lcmp X10.here hx rfl (hb hby d6_64) rfl ?_
        exact kt
      by_cases hc65 : (lcmpW (tab (((own_s q1 q2) * (3 : Int32)) + (1 : Int32))) q2) = (0 : Int32)
      · obtain ⟨fs, hr, hrun, hended, hW, hsame⟩ := X10.leave (v := some (.int ((own_s q1 q2) * (3 : Int32)))) (fun h => by rw [Bd.returns] at h; cases h)
        refine ⟨_, _, pre0 _ ?_, hrun, hended, _, _, rfl, ?_, ⟨_, rfl⟩, hW, hsame.mono (by decide) (by decide)⟩
        · refine k12 _ ?_
          show Steps p.tables e below (T10.setTop (mkF m 65 #[.val (.ref a0x), .val (.long q1), .second, .val (.long q2), .second, .val (.int (1023 : Int32)), .val (.int (own_s q1 q2)), .val (.int ((own_s q1 q2) * (3 : Int32)))] [(.int (lcmpW (tab (((own_s q1 q2) * (3 : Int32)) + (1 : Int32))) q2))])) _
          refine XS.ifNo X10.here hx rfl (hb hby d6_65) rfl ((if0 _ _).trans (teq hc65).2) ?_
          show Steps p.tables e below (T10.setTop (mkF m 68 #[.val (.ref a0x), .val (.long q1), .second, .val (.long q2), .second, .val (.int (1023 : Int32)), .val (.int (own_s q1 q2)), .val (.int ((own_s q1 q2) * (3 : Int32)))] [])) _
          refine XS.iload X10.here hx rfl (hb hby d6_68) rfl ?_
          show Steps p.tables e below (T10.setTop (mkF m 70 #[.val (.ref a0x), .val (.long q1), .second, .val (.long q2), .second, .val (.int (1023 : Int32)), .val (.int (own_s q1 q2)), .val (.int ((own_s q1 q2) * (3 : Int32)))] [(.int ((own_s q1 q2) * (3 : Int32)))])) _
          exact retI X10 hx Bd.returns (hb hby d6_70) hr
        · show Q_rm_find Z a0x q1 q2 a1x tab h0 n0 _ T10.heap _
          rw [e10]
          exact ⟨(by simp [own_find, mt (own_lc0 _ _).mpr hc37, (own_lc0 _ _).mp hc51, (own_lc0 _ _).mp hc65]), N3, rfl⟩
      · obtain ⟨T13, X13, e13, st13⟩ := getF X10 hx hZ hown (host := "") (Or.inl (hw _ (List.mem_of_getElem? (i := 10) rfl))) Via.refl e10 Ft (g := (mkF m 27 #[.val (.ref a0x), .val (.long q1), .second, .val (.long q2), .second, .val (.int (1023 : Int32)), .val (.int (own_n (own_s q1 q2))), .val (.int ((own_n (own_s q1 q2)) * (3 : Int32)))] [(.ref a0x)])) rfl rfl (hb hby d6_27)
        obtain ⟨cl14, Ar14, S14, N14', H14⟩ := (id Vt)
        have hbd14 : ¬ (((own_n (own_s q1 q2)) * (3 : Int32)) + (2 : Int32)) < 0 ∧ (((own_n (own_s q1 q2)) * (3 : Int32)) + (2 : Int32)) < (3072 : Int32) := (own_b2 (own_nb _))
        have hin14 : ¬ ((((own_n (own_s q1 q2)) * (3 : Int32)) + (2 : Int32)) < 0 ∨ cl14.slots.size ≤ ((((own_n (own_s q1 q2)) * (3 : Int32)) + (2 : Int32))).toNatClampNeg) := inb_of S14 hbd14
        have hat14 : cl14.slots[((((own_n (own_s q1 q2)) * (3 : Int32)) + (2 : Int32))).toNatClampNeg]? = some (.long (tab (((own_n (own_s q1 q2)) * (3 : Int32)) + (2 : Int32)))) := H14 _ hbd14.1 hbd14.2
        have k15 : ∀ target, Steps p.tables e below (T13.setTop (mkF m 37 #[.val (.ref a0x), .val (.long q1), .second, .val (.long q2), .second, .val (.int (1023 : Int32)), .val (.int (own_n (own_s q1 q2))), .val (.int ((own_n (own_s q1 q2)) * (3 : Int32)))] [(.int (lcmpW (tab (((own_n (own_s q1 q2)) * (3 : Int32)) + (2 : Int32))) (0 : Int64)))])) target → Steps p.tables e below (s₁.setTop (mkF m 0 #[.val (.ref a0x), .val (.long q1), .second, .val (.long q2), .second, .unset, .unset, .unset] [])) target := by
          intro target kt
          refine k12 _ ?_
          show Steps p.tables e below (T10.setTop (mkF m 65 #[.val (.ref a0x), .val (.long q1), .second, .val (.long q2), .second, .val (.int (1023 : Int32)), .val (.int (own_s q1 q2)), .val (.int ((own_s q1 q2) * (3 : Int32)))] [(.int (lcmpW (tab (((own_s q1 q2) * (3 : Int32)) + (1 : Int32))) q2))])) _
          refine XS.ifYes X10.here hx rfl (pc0 := 65) (pc' := 71) rfl (hb hby d6_65) rfl ((if0 _ _).trans (feq hc65).2) (by decide) (by decide) ?_
          show Steps p.tables e below (T10.setTop (mkF m 71 #[.val (.ref a0x), .val (.long q1), .second, .val (.long q2), .second, .val (.int (1023 : Int32)), .val (.int (own_s q1 q2)), .val (.int ((own_s q1 q2) * (3 : Int32)))] [])) _
          refine XS.iload X10.here hx rfl (hb hby d6_71) rfl ?_
          show Steps p.tables e below (T10.setTop (mkF m 73 #[.val (.ref a0x), .val (.long q1), .second, .val (.long q2), .second, .val (.int (1023 : Int32)), .val (.int (own_s q1 q2)), .val (.int ((own_s q1 q2) * (3 : Int32)))] [(.int (own_s q1 q2))])) _
          refine XS.iconst X10.here hx rfl (hb hby d6_73) ?_
          show Steps p.tables e below (T10.setTop (mkF m 74 #[.val (.ref a0x), .val (.long q1), .second, .val (.long q2), .second, .val (.int (1023 : Int32)), .val (.int (own_s q1 q2)), .val (.int ((own_s q1 q2) * (3 : Int32)))] [(.int (1 : Int32)), (.int (own_s q1 q2))])) _
          refine XS.iadd X10.here hx rfl (hb hby d6_74) rfl ?_
          show Steps p.tables e below (T10.setTop (mkF m 75 #[.val (.ref a0x), .val (.long q1), .second, .val (.long q2), .second, .val (.int (1023 : Int32)), .val (.int (own_s q1 q2)), .val (.int ((own_s q1 q2) * (3 : Int32)))] [(.int ((own_s q1 q2) + (1 : Int32)))])) _
          refine XS.iload X10.here hx rfl (hb hby d6_75) rfl ?_
          show Steps p.tables e below (T10.setTop (mkF m 77 #[.val (.ref a0x), .val (.long q1), .second, .val (.long q2), .second, .val (.int (1023 : Int32)), .val (.int (own_s q1 q2)), .val (.int ((own_s q1 q2) * (3 : Int32)))] [(.int (1023 : Int32)), (.int ((own_s q1 q2) + (1 : Int32)))])) _
          refine XS.iand X10.here hx rfl (hb hby d6_77) rfl ?_
          show Steps p.tables e below (T10.setTop (mkF m 78 #[.val (.ref a0x), .val (.long q1), .second, .val (.long q2), .second, .val (.int (1023 : Int32)), .val (.int (own_s q1 q2)), .val (.int ((own_s q1 q2) * (3 : Int32)))] [(.int (((own_s q1 q2) + (1 : Int32)) &&& (1023 : Int32)))])) _
          refine XS.istore X10.here hx rfl (hb hby d6_78) rfl (l' := #[.val (.ref a0x), .val (.long q1), .second, .val (.long q2), .second, .val (.int (1023 : Int32)), .val (.int (((own_s q1 q2) + (1 : Int32)) &&& (1023 : Int32))), .val (.int ((own_s q1 q2) * (3 : Int32)))]) rfl ?_
          show Steps p.tables e below (T10.setTop (mkF m 80 #[.val (.ref a0x), .val (.long q1), .second, .val (.long q2), .second, .val (.int (1023 : Int32)), .val (.int (((own_s q1 q2) + (1 : Int32)) &&& (1023 : Int32))), .val (.int ((own_s q1 q2) * (3 : Int32)))] [])) _
          refine XS.goto X10.here hx rfl (pc0 := 80) (pc' := 20) rfl (hb hby d6_80) (by decide) (by decide) ?_
          show Steps p.tables e below (T10.setTop (mkF m 20 #[.val (.ref a0x), .val (.long q1), .second, .val (.long q2), .second, .val (.int (1023 : Int32)), .val (.int (own_n (own_s q1 q2))), .val (.int ((own_s q1 q2) * (3 : Int32)))] [])) _
          refine XS.iload X10.here hx rfl (hb hby d6_20) rfl ?_
          show Steps p.tables e below (T10.setTop (mkF m 22 #[.val (.ref a0x), .val (.long q1), .second, .val (.long q2), .second, .val (.int (1023 : Int32)), .val (.int (own_n (own_s q1 q2))), .val (.int ((own_s q1 q2) * (3 : Int32)))] [(.int (own_n (own_s q1 q2)))])) _
          refine XS.iconst X10.here hx rfl (hb hby d6_22) ?_
          show Steps p.tables e below (T10.setTop (mkF m 23 #[.val (.ref a0x), .val (.long q1), .second, .val (.long q2), .second, .val (.int (1023 : Int32)), .val (.int (own_n (own_s q1 q2))), .val (.int ((own_s q1 q2) * (3 : Int32)))] [(.int (3 : Int32)), (.int (own_n (own_s q1 q2)))])) _
          refine XS.imul X10.here hx rfl (hb hby d6_23) rfl ?_
          show Steps p.tables e below (T10.setTop (mkF m 24 #[.val (.ref a0x), .val (.long q1), .second, .val (.long q2), .second, .val (.int (1023 : Int32)), .val (.int (own_n (own_s q1 q2))), .val (.int ((own_s q1 q2) * (3 : Int32)))] [(.int ((own_n (own_s q1 q2)) * (3 : Int32)))])) _
          refine XS.istore X10.here hx rfl (hb hby d6_24) rfl (l' := #[.val (.ref a0x), .val (.long q1), .second, .val (.long q2), .second, .val (.int (1023 : Int32)), .val (.int (own_n (own_s q1 q2))), .val (.int ((own_n (own_s q1 q2)) * (3 : Int32)))]) rfl ?_
          show Steps p.tables e below (T10.setTop (mkF m 26 #[.val (.ref a0x), .val (.long q1), .second, .val (.long q2), .second, .val (.int (1023 : Int32)), .val (.int (own_n (own_s q1 q2))), .val (.int ((own_n (own_s q1 q2)) * (3 : Int32)))] [])) _
          refine XS.aloadN X10.here hx rfl (hb hby d6_26) rfl rfl ?_
          show Steps p.tables e below (T10.setTop (mkF m 27 #[.val (.ref a0x), .val (.long q1), .second, .val (.long q2), .second, .val (.int (1023 : Int32)), .val (.int (own_n (own_s q1 q2))), .val (.int ((own_n (own_s q1 q2)) * (3 : Int32)))] [(.ref a0x)])) _
          refine st13 _ ?_
          show Steps p.tables e below (T13.setTop (mkF m 30 #[.val (.ref a0x), .val (.long q1), .second, .val (.long q2), .second, .val (.int (1023 : Int32)), .val (.int (own_n (own_s q1 q2))), .val (.int ((own_n (own_s q1 q2)) * (3 : Int32)))] [(.ref a1x)])) _
          refine XS.iload X13.here hx rfl (hb hby d6_30) rfl ?_
          show Steps p.tables e below (T13.setTop (mkF m 32 #[.val (.ref a0x), .val (.long q1), .second, .val (.long q2), .second, .val (.int (1023 : Int32)), .val (.int (own_n (own_s q1 q2))), .val (.int ((own_n (own_s q1 q2)) * (3 : Int32)))] [(.int ((own_n (own_s q1 q2)) * (3 : Int32))), (.ref a1x)])) _
          refine XS.iconst X13.here hx rfl (hb hby d6_32) ?_
          show Steps p.tables e below (T13.setTop (mkF m 33 #[.val (.ref a0x), .val (.long q1), .second, .val (.long q2), .second, .val (.int (1023 : Int32)), .val (.int (own_n (own_s q1 q2))), .val (.int ((own_n (own_s q1 q2)) * (3 : Int32)))] [(.int (2 : Int32)), (.int ((own_n (own_s q1 q2)) * (3 : Int32))), (.ref a1x)])) _
          refine XS.iadd X13.here hx rfl (hb hby d6_33) rfl ?_
          show Steps p.tables e below (T13.setTop (mkF m 34 #[.val (.ref a0x), .val (.long q1), .second, .val (.long q2), .second, .val (.int (1023 : Int32)), .val (.int (own_n (own_s q1 q2))), .val (.int ((own_n (own_s q1 q2)) * (3 : Int32)))] [(.int (((own_n (own_s q1 q2)) * (3 : Int32)) + (2 : Int32))), (.ref a1x)])) _
          refine X13.laload hx (j := (((own_n (own_s q1 q2)) * (3 : Int32)) + (2 : Int32))) (v := (.long (tab (((own_n (own_s q1 q2)) * (3 : Int32)) + (2 : Int32))))) (by rw [e13]; exact Ar14.1) (State.isArrayOf_alike hZ.alike Ar14.2.1) Ar14.2.2 hin14 hat14 (g := (mkF m 34 #[.val (.ref a0x), .val (.long q1), .second, .val (.long q2), .second, .val (.int (1023 : Int32)), .val (.int (own_n (own_s q1 q2))), .val (.int ((own_n (own_s q1 q2)) * (3 : Int32)))] [(.int (((own_n (own_s q1 q2)) * (3 : Int32)) + (2 : Int32))), (.ref a1x)])) rfl rfl (hb hby d6_34) _ ?_
          show Steps p.tables e below (T13.setTop (mkF m 35 #[.val (.ref a0x), .val (.long q1), .second, .val (.long q2), .second, .val (.int (1023 : Int32)), .val (.int (own_n (own_s q1 q2))), .val (.int ((own_n (own_s q1 q2)) * (3 : Int32)))] [(.long (tab (((own_n (own_s q1 q2)) * (3 : Int32)) + (2 : Int32))))])) _
          refine XS.lconst X13.here hx rfl (hb hby d6_35) ?_
          show Steps p.tables e below (T13.setTop (mkF m 36 #[.val (.ref a0x), .val (.long q1), .second, .val (.long q2), .second, .val (.int (1023 : Int32)), .val (.int (own_n (own_s q1 q2))), .val (.int ((own_n (own_s q1 q2)) * (3 : Int32)))] [(.long (0 : Int64)), (.long (tab (((own_n (own_s q1 q2)) * (3 : Int32)) + (2 : Int32))))])) _
          refine XS.lcmp X13.here hx rfl (hb hby d6_36) rfl ?_
          exact kt
        by_cases hc37_16 : (lcmpW (tab (((own_n (own_s q1 q2)) * (3 : Int32)) + (2 : Int32))) (0 : Int64)) = (0 : Int32)
        · obtain ⟨fs, hr, hrun, hended, hW, hsame⟩ := X13.leave (v := some (.int (-1 : Int32))) (fun h => by rw [Bd.returns] at h; cases h)
          refine ⟨_, _, pre0 _ ?_, hrun, hended, _, _, rfl, ?_, ⟨_, rfl⟩, hW, hsame.mono (by decide) (by decide)⟩
          · refine k15 _ ?_
            show Steps p.tables e below (T13.setTop (mkF m 37 #[.val (.ref a0x), .val (.long q1), .second, .val (.long q2), .second, .val (.int (1023 : Int32)), .val (.int (own_n (own_s q1 q2))), .val (.int ((own_n (own_s q1 q2)) * (3 : Int32)))] [(.int (lcmpW (tab (((own_n (own_s q1 q2)) * (3 : Int32)) + (2 : Int32))) (0 : Int64)))])) _
            refine XS.ifNo X13.here hx rfl (hb hby d6_37) rfl ((if0 _ _).trans (teq hc37_16).2) ?_
            show Steps p.tables e below (T13.setTop (mkF m 40 #[.val (.ref a0x), .val (.long q1), .second, .val (.long q2), .second, .val (.int (1023 : Int32)), .val (.int (own_n (own_s q1 q2))), .val (.int ((own_n (own_s q1 q2)) * (3 : Int32)))] [])) _
            refine XS.iconst X13.here hx rfl (hb hby d6_40) ?_
            show Steps p.tables e below (T13.setTop (mkF m 41 #[.val (.ref a0x), .val (.long q1), .second, .val (.long q2), .second, .val (.int (1023 : Int32)), .val (.int (own_n (own_s q1 q2))), .val (.int ((own_n (own_s q1 q2)) * (3 : Int32)))] [(.int (-1 : Int32))])) _
            exact retI X13 hx Bd.returns (hb hby d6_41) hr
          · show Q_rm_find Z a0x q1 q2 a1x tab h0 n0 _ T13.heap _
            rw [e13]
            exact ⟨(by simp [own_find, mt (own_lc0 _ _).mpr hc37, (own_lc0 _ _).mp hc51, mt (own_lc0 _ _).mpr hc65, (own_lc0 _ _).mp hc37_16]), N3, rfl⟩
        · obtain ⟨T17, X17, e17, st17⟩ := getF X13 hx hZ hown (host := "") (Or.inl (hw _ (List.mem_of_getElem? (i := 10) rfl))) Via.refl e13 Ft (g := (mkF m 43 #[.val (.ref a0x), .val (.long q1), .second, .val (.long q2), .second, .val (.int (1023 : Int32)), .val (.int (own_n (own_s q1 q2))), .val (.int ((own_n (own_s q1 q2)) * (3 : Int32)))] [(.ref a0x)])) rfl rfl (hb hby d6_43)
          obtain ⟨cl18, Ar18, S18, N18', H18⟩ := (id Vt)
          have hbd18 : ¬ ((own_n (own_s q1 q2)) * (3 : Int32)) < 0 ∧ ((own_n (own_s q1 q2)) * (3 : Int32)) < (3072 : Int32) := (own_b0 (own_nb _))
          have hin18 : ¬ (((own_n (own_s q1 q2)) * (3 : Int32)) < 0 ∨ cl18.slots.size ≤ (((own_n (own_s q1 q2)) * (3 : Int32))).toNatClampNeg) := inb_of S18 hbd18
          have hat18 : cl18.slots[(((own_n (own_s q1 q2)) * (3 : Int32))).toNatClampNeg]? = some (.long (tab ((own_n (own_s q1 q2)) * (3 : Int32)))) := H18 _ hbd18.1 hbd18.2
          have k19 : ∀ target, Steps p.tables e below (T17.setTop (mkF m 51 #[.val (.ref a0x), .val (.long q1), .second, .val (.long q2), .second, .val (.int (1023 : Int32)), .val (.int (own_n (own_s q1 q2))), .val (.int ((own_n (own_s q1 q2)) * (3 : Int32)))] [(.int (lcmpW (tab ((own_n (own_s q1 q2)) * (3 : Int32))) q1))])) target → Steps p.tables e below (s₁.setTop (mkF m 0 #[.val (.ref a0x), .val (.long q1), .second, .val (.long q2), .second, .unset, .unset, .unset] [])) target := by
            intro target kt
            refine k15 _ ?_
            show Steps p.tables e below (T13.setTop (mkF m 37 #[.val (.ref a0x), .val (.long q1), .second, .val (.long q2), .second, .val (.int (1023 : Int32)), .val (.int (own_n (own_s q1 q2))), .val (.int ((own_n (own_s q1 q2)) * (3 : Int32)))] [(.int (lcmpW (tab (((own_n (own_s q1 q2)) * (3 : Int32)) + (2 : Int32))) (0 : Int64)))])) _
            refine XS.ifYes X13.here hx rfl (pc0 := 37) (pc' := 42) rfl (hb hby d6_37) rfl ((if0 _ _).trans (feq hc37_16).2) (by decide) (by decide) ?_
            show Steps p.tables e below (T13.setTop (mkF m 42 #[.val (.ref a0x), .val (.long q1), .second, .val (.long q2), .second, .val (.int (1023 : Int32)), .val (.int (own_n (own_s q1 q2))), .val (.int ((own_n (own_s q1 q2)) * (3 : Int32)))] [])) _
            refine XS.aloadN X13.here hx rfl (hb hby d6_42) rfl rfl ?_
            show Steps p.tables e below (T13.setTop (mkF m 43 #[.val (.ref a0x), .val (.long q1), .second, .val (.long q2), .second, .val (.int (1023 : Int32)), .val (.int (own_n (own_s q1 q2))), .val (.int ((own_n (own_s q1 q2)) * (3 : Int32)))] [(.ref a0x)])) _
            refine st17 _ ?_
            show Steps p.tables e below (T17.setTop (mkF m 46 #[.val (.ref a0x), .val (.long q1), .second, .val (.long q2), .second, .val (.int (1023 : Int32)), .val (.int (own_n (own_s q1 q2))), .val (.int ((own_n (own_s q1 q2)) * (3 : Int32)))] [(.ref a1x)])) _
            refine XS.iload X17.here hx rfl (hb hby d6_46) rfl ?_
            show Steps p.tables e below (T17.setTop (mkF m 48 #[.val (.ref a0x), .val (.long q1), .second, .val (.long q2), .second, .val (.int (1023 : Int32)), .val (.int (own_n (own_s q1 q2))), .val (.int ((own_n (own_s q1 q2)) * (3 : Int32)))] [(.int ((own_n (own_s q1 q2)) * (3 : Int32))), (.ref a1x)])) _
            refine X17.laload hx (j := ((own_n (own_s q1 q2)) * (3 : Int32))) (v := (.long (tab ((own_n (own_s q1 q2)) * (3 : Int32))))) (by rw [e17]; exact Ar18.1) (State.isArrayOf_alike hZ.alike Ar18.2.1) Ar18.2.2 hin18 hat18 (g := (mkF m 48 #[.val (.ref a0x), .val (.long q1), .second, .val (.long q2), .second, .val (.int (1023 : Int32)), .val (.int (own_n (own_s q1 q2))), .val (.int ((own_n (own_s q1 q2)) * (3 : Int32)))] [(.int ((own_n (own_s q1 q2)) * (3 : Int32))), (.ref a1x)])) rfl rfl (hb hby d6_48) _ ?_
            show Steps p.tables e below (T17.setTop (mkF m 49 #[.val (.ref a0x), .val (.long q1), .second, .val (.long q2), .second, .val (.int (1023 : Int32)), .val (.int (own_n (own_s q1 q2))), .val (.int ((own_n (own_s q1 q2)) * (3 : Int32)))] [(.long (tab ((own_n (own_s q1 q2)) * (3 : Int32))))])) _
            refine XS.lloadN X17.here hx rfl (hb hby d6_49) rfl ?_
            show Steps p.tables e below (T17.setTop (mkF m 50 #[.val (.ref a0x), .val (.long q1), .second, .val (.long q2), .second, .val (.int (1023 : Int32)), .val (.int (own_n (own_s q1 q2))), .val (.int ((own_n (own_s q1 q2)) * (3 : Int32)))] [(.long q1), (.long (tab ((own_n (own_s q1 q2)) * (3 : Int32))))])) _
            refine XS.lcmp X17.here hx rfl (hb hby d6_50) rfl ?_
            exact kt
          by_cases hc51_20 : (lcmpW (tab ((own_n (own_s q1 q2)) * (3 : Int32))) q1) = (0 : Int32)
          · obtain ⟨T21, X21, e21, st21⟩ := getF X17 hx hZ hown (host := "") (Or.inl (hw _ (List.mem_of_getElem? (i := 10) rfl))) Via.refl e17 Ft (g := (mkF m 55 #[.val (.ref a0x), .val (.long q1), .second, .val (.long q2), .second, .val (.int (1023 : Int32)), .val (.int (own_n (own_s q1 q2))), .val (.int ((own_n (own_s q1 q2)) * (3 : Int32)))] [(.ref a0x)])) rfl rfl (hb hby d6_55)
            obtain ⟨cl22, Ar22, S22, N22', H22⟩ := (id Vt)
            have hbd22 : ¬ (((own_n (own_s q1 q2)) * (3 : Int32)) + (1 : Int32)) < 0 ∧ (((own_n (own_s q1 q2)) * (3 : Int32)) + (1 : Int32)) < (3072 : Int32) := (own_b1 (own_nb _))
            have hin22 : ¬ ((((own_n (own_s q1 q2)) * (3 : Int32)) + (1 : Int32)) < 0 ∨ cl22.slots.size ≤ ((((own_n (own_s q1 q2)) * (3 : Int32)) + (1 : Int32))).toNatClampNeg) := inb_of S22 hbd22
            have hat22 : cl22.slots[((((own_n (own_s q1 q2)) * (3 : Int32)) + (1 : Int32))).toNatClampNeg]? = some (.long (tab (((own_n (own_s q1 q2)) * (3 : Int32)) + (1 : Int32)))) := H22 _ hbd22.1 hbd22.2
            have k23 : ∀ target, Steps p.tables e below (T21.setTop (mkF m 65 #[.val (.ref a0x), .val (.long q1), .second, .val (.long q2), .second, .val (.int (1023 : Int32)), .val (.int (own_n (own_s q1 q2))), .val (.int ((own_n (own_s q1 q2)) * (3 : Int32)))] [(.int (lcmpW (tab (((own_n (own_s q1 q2)) * (3 : Int32)) + (1 : Int32))) q2))])) target → Steps p.tables e below (s₁.setTop (mkF m 0 #[.val (.ref a0x), .val (.long q1), .second, .val (.long q2), .second, .unset, .unset, .unset] [])) target := by
              intro target kt
              refine k19 _ ?_
              show Steps p.tables e below (T17.setTop (mkF m 51 #[.val (.ref a0x), .val (.long q1), .second, .val (.long q2), .second, .val (.int (1023 : Int32)), .val (.int (own_n (own_s q1 q2))), .val (.int ((own_n (own_s q1 q2)) * (3 : Int32)))] [(.int (lcmpW (tab ((own_n (own_s q1 q2)) * (3 : Int32))) q1))])) _
              refine XS.ifNo X17.here hx rfl (hb hby d6_51) rfl ((if0 _ _).trans (teq hc51_20).2) ?_
              show Steps p.tables e below (T17.setTop (mkF m 54 #[.val (.ref a0x), .val (.long q1), .second, .val (.long q2), .second, .val (.int (1023 : Int32)), .val (.int (own_n (own_s q1 q2))), .val (.int ((own_n (own_s q1 q2)) * (3 : Int32)))] [])) _
              refine XS.aloadN X17.here hx rfl (hb hby d6_54) rfl rfl ?_
              show Steps p.tables e below (T17.setTop (mkF m 55 #[.val (.ref a0x), .val (.long q1), .second, .val (.long q2), .second, .val (.int (1023 : Int32)), .val (.int (own_n (own_s q1 q2))), .val (.int ((own_n (own_s q1 q2)) * (3 : Int32)))] [(.ref a0x)])) _
              refine st21 _ ?_
              show Steps p.tables e below (T21.setTop (mkF m 58 #[.val (.ref a0x), .val (.long q1), .second, .val (.long q2), .second, .val (.int (1023 : Int32)), .val (.int (own_n (own_s q1 q2))), .val (.int ((own_n (own_s q1 q2)) * (3 : Int32)))] [(.ref a1x)])) _
              refine XS.iload X21.here hx rfl (hb hby d6_58) rfl ?_
              show Steps p.tables e below (T21.setTop (mkF m 60 #[.val (.ref a0x), .val (.long q1), .second, .val (.long q2), .second, .val (.int (1023 : Int32)), .val (.int (own_n (own_s q1 q2))), .val (.int ((own_n (own_s q1 q2)) * (3 : Int32)))] [(.int ((own_n (own_s q1 q2)) * (3 : Int32))), (.ref a1x)])) _
              refine XS.iconst X21.here hx rfl (hb hby d6_60) ?_
              show Steps p.tables e below (T21.setTop (mkF m 61 #[.val (.ref a0x), .val (.long q1), .second, .val (.long q2), .second, .val (.int (1023 : Int32)), .val (.int (own_n (own_s q1 q2))), .val (.int ((own_n (own_s q1 q2)) * (3 : Int32)))] [(.int (1 : Int32)), (.int ((own_n (own_s q1 q2)) * (3 : Int32))), (.ref a1x)])) _
              refine XS.iadd X21.here hx rfl (hb hby d6_61) rfl ?_
              show Steps p.tables e below (T21.setTop (mkF m 62 #[.val (.ref a0x), .val (.long q1), .second, .val (.long q2), .second, .val (.int (1023 : Int32)), .val (.int (own_n (own_s q1 q2))), .val (.int ((own_n (own_s q1 q2)) * (3 : Int32)))] [(.int (((own_n (own_s q1 q2)) * (3 : Int32)) + (1 : Int32))), (.ref a1x)])) _
              refine X21.laload hx (j := (((own_n (own_s q1 q2)) * (3 : Int32)) + (1 : Int32))) (v := (.long (tab (((own_n (own_s q1 q2)) * (3 : Int32)) + (1 : Int32))))) (by rw [e21]; exact Ar22.1) (State.isArrayOf_alike hZ.alike Ar22.2.1) Ar22.2.2 hin22 hat22 (g := (mkF m 62 #[.val (.ref a0x), .val (.long q1), .second, .val (.long q2), .second, .val (.int (1023 : Int32)), .val (.int (own_n (own_s q1 q2))), .val (.int ((own_n (own_s q1 q2)) * (3 : Int32)))] [(.int (((own_n (own_s q1 q2)) * (3 : Int32)) + (1 : Int32))), (.ref a1x)])) rfl rfl (hb hby d6_62) _ ?_
              show Steps p.tables e below (T21.setTop (mkF m 63 #[.val (.ref a0x), .val (.long q1), .second, .val (.long q2), .second, .val (.int (1023 : Int32)), .val (.int (own_n (own_s q1 q2))), .val (.int ((own_n (own_s q1 q2)) * (3 : Int32)))] [(.long (tab (((own_n (own_s q1 q2)) * (3 : Int32)) + (1 : Int32))))])) _
              refine XS.lloadN X21.here hx rfl (hb hby d6_63) rfl ?_
              show Steps p.tables e below (T21.setTop (mkF m 64 #[.val (.ref a0x), .val (.long q1), .second, .val (.long q2), .second, .val (.int (1023 : Int32)), .val (.int (own_n (own_s q1 q2))), .val (.int ((own_n (own_s q1 q2)) * (3 : Int32)))] [(.long q2), (.long (tab (((own_n (own_s q1 q2)) * (3 : Int32)) + (1 : Int32))))])) _
              refine XS.lcmp X21.here hx rfl (hb hby d6_64) rfl ?_
              exact kt
            by_cases hc65_24 : (lcmpW (tab (((own_n (own_s q1 q2)) * (3 : Int32)) + (1 : Int32))) q2) = (0 : Int32)
            · obtain ⟨fs, hr, hrun, hended, hW, hsame⟩ := X21.leave (v := some (.int ((own_n (own_s q1 q2)) * (3 : Int32)))) (fun h => by rw [Bd.returns] at h; cases h)
              refine ⟨_, _, pre0 _ ?_, hrun, hended, _, _, rfl, ?_, ⟨_, rfl⟩, hW, hsame.mono (by decide) (by decide)⟩
              · refine k23 _ ?_
                show Steps p.tables e below (T21.setTop (mkF m 65 #[.val (.ref a0x), .val (.long q1), .second, .val (.long q2), .second, .val (.int (1023 : Int32)), .val (.int (own_n (own_s q1 q2))), .val (.int ((own_n (own_s q1 q2)) * (3 : Int32)))] [(.int (lcmpW (tab (((own_n (own_s q1 q2)) * (3 : Int32)) + (1 : Int32))) q2))])) _
                refine XS.ifNo X21.here hx rfl (hb hby d6_65) rfl ((if0 _ _).trans (teq hc65_24).2) ?_
                show Steps p.tables e below (T21.setTop (mkF m 68 #[.val (.ref a0x), .val (.long q1), .second, .val (.long q2), .second, .val (.int (1023 : Int32)), .val (.int (own_n (own_s q1 q2))), .val (.int ((own_n (own_s q1 q2)) * (3 : Int32)))] [])) _
                refine XS.iload X21.here hx rfl (hb hby d6_68) rfl ?_
                show Steps p.tables e below (T21.setTop (mkF m 70 #[.val (.ref a0x), .val (.long q1), .second, .val (.long q2), .second, .val (.int (1023 : Int32)), .val (.int (own_n (own_s q1 q2))), .val (.int ((own_n (own_s q1 q2)) * (3 : Int32)))] [(.int ((own_n (own_s q1 q2)) * (3 : Int32)))])) _
                exact retI X21 hx Bd.returns (hb hby d6_70) hr
              · show Q_rm_find Z a0x q1 q2 a1x tab h0 n0 _ T21.heap _
                rw [e21]
                exact ⟨(by simp [own_find, mt (own_lc0 _ _).mpr hc37, (own_lc0 _ _).mp hc51, mt (own_lc0 _ _).mpr hc65, mt (own_lc0 _ _).mpr hc37_16, (own_lc0 _ _).mp hc51_20, (own_lc0 _ _).mp hc65_24]), N3, rfl⟩
            · exact (own_dead hok (fun q => hc37 ((own_lc0 _ _).mpr q)) (fun q => hc65 ((own_lc0 _ _).mpr q.2)) (fun q => hc37_16 ((own_lc0 _ _).mpr q)) (fun q => hc65_24 ((own_lc0 _ _).mpr q.2))).elim
          · exact (own_dead hok (fun q => hc37 ((own_lc0 _ _).mpr q)) (fun q => hc65 ((own_lc0 _ _).mpr q.2)) (fun q => hc37_16 ((own_lc0 _ _).mpr q)) (fun q => hc51_20 ((own_lc0 _ _).mpr q.1))).elim
    · obtain ⟨T25, X25, e25, st25⟩ := getF X7 hx hZ hown (host := "") (Or.inl (hw _ (List.mem_of_getElem? (i := 10) rfl))) Via.refl e7 Ft (g := (mkF m 27 #[.val (.ref a0x), .val (.long q1), .second, .val (.long q2), .second, .val (.int (1023 : Int32)), .val (.int (own_n (own_s q1 q2))), .val (.int ((own_n (own_s q1 q2)) * (3 : Int32)))] [(.ref a0x)])) rfl rfl (hb hby d6_27)
      obtain ⟨cl26, Ar26, S26, N26', H26⟩ := (id Vt)
      have hbd26 : ¬ (((own_n (own_s q1 q2)) * (3 : Int32)) + (2 : Int32)) < 0 ∧ (((own_n (own_s q1 q2)) * (3 : Int32)) + (2 : Int32)) < (3072 : Int32) := (own_b2 (own_nb _))
      have hin26 : ¬ ((((own_n (own_s q1 q2)) * (3 : Int32)) + (2 : Int32)) < 0 ∨ cl26.slots.size ≤ ((((own_n (own_s q1 q2)) * (3 : Int32)) + (2 : Int32))).toNatClampNeg) := inb_of S26 hbd26
      have hat26 : cl26.slots[((((own_n (own_s q1 q2)) * (3 : Int32)) + (2 : Int32))).toNatClampNeg]? = some (.long (tab (((own_n (own_s q1 q2)) * (3 : Int32)) + (2 : Int32)))) := H26 _ hbd26.1 hbd26.2
      have k27 : ∀ target, Steps p.tables e below (T25.setTop (mkF m 37 #[.val (.ref a0x), .val (.long q1), .second, .val (.long q2), .second, .val (.int (1023 : Int32)), .val (.int (own_n (own_s q1 q2))), .val (.int ((own_n (own_s q1 q2)) * (3 : Int32)))] [(.int (lcmpW (tab (((own_n (own_s q1 q2)) * (3 : Int32)) + (2 : Int32))) (0 : Int64)))])) target → Steps p.tables e below (s₁.setTop (mkF m 0 #[.val (.ref a0x), .val (.long q1), .second, .val (.long q2), .second, .unset, .unset, .unset] [])) target := by
        intro target kt
        refine k9 _ ?_
        show Steps p.tables e below (T7.setTop (mkF m 51 #[.val (.ref a0x), .val (.long q1), .second, .val (.long q2), .second, .val (.int (1023 : Int32)), .val (.int (own_s q1 q2)), .val (.int ((own_s q1 q2) * (3 : Int32)))] [(.int (lcmpW (tab ((own_s q1 q2) * (3 : Int32))) q1))])) _
        refine XS.ifYes X7.here hx rfl (pc0 := 51) (pc' := 71) rfl (hb hby d6_51) rfl ((if0 _ _).trans (feq hc51).2) (by decide) (by decide) ?_
        show Steps p.tables e below (T7.setTop (mkF m 71 #[.val (.ref a0x), .val (.long q1), .second, .val (.long q2), .second, .val (.int (1023 : Int32)), .val (.int (own_s q1 q2)), .val (.int ((own_s q1 q2) * (3 : Int32)))] [])) _
        refine XS.iload X7.here hx rfl (hb hby d6_71) rfl ?_
        show Steps p.tables e below (T7.setTop (mkF m 73 #[.val (.ref a0x), .val (.long q1), .second, .val (.long q2), .second, .val (.int (1023 : Int32)), .val (.int (own_s q1 q2)), .val (.int ((own_s q1 q2) * (3 : Int32)))] [(.int (own_s q1 q2))])) _
        refine XS.iconst X7.here hx rfl (hb hby d6_73) ?_
        show Steps p.tables e below (T7.setTop (mkF m 74 #[.val (.ref a0x), .val (.long q1), .second, .val (.long q2), .second, .val (.int (1023 : Int32)), .val (.int (own_s q1 q2)), .val (.int ((own_s q1 q2) * (3 : Int32)))] [(.int (1 : Int32)), (.int (own_s q1 q2))])) _
        refine XS.iadd X7.here hx rfl (hb hby d6_74) rfl ?_
        show Steps p.tables e below (T7.setTop (mkF m 75 #[.val (.ref a0x), .val (.long q1), .second, .val (.long q2), .second, .val (.int (1023 : Int32)), .val (.int (own_s q1 q2)), .val (.int ((own_s q1 q2) * (3 : Int32)))] [(.int ((own_s q1 q2) + (1 : Int32)))])) _
        refine XS.iload X7.here hx rfl (hb hby d6_75) rfl ?_
        show Steps p.tables e below (T7.setTop (mkF m 77 #[.val (.ref a0x), .val (.long q1), .second, .val (.long q2), .second, .val (.int (1023 : Int32)), .val (.int (own_s q1 q2)), .val (.int ((own_s q1 q2) * (3 : Int32)))] [(.int (1023 : Int32)), (.int ((own_s q1 q2) + (1 : Int32)))])) _
        refine XS.iand X7.here hx rfl (hb hby d6_77) rfl ?_
        show Steps p.tables e below (T7.setTop (mkF m 78 #[.val (.ref a0x), .val (.long q1), .second, .val (.long q2), .second, .val (.int (1023 : Int32)), .val (.int (own_s q1 q2)), .val (.int ((own_s q1 q2) * (3 : Int32)))] [(.int (((own_s q1 q2) + (1 : Int32)) &&& (1023 : Int32)))])) _
        refine XS.istore X7.here hx rfl (hb hby d6_78) rfl (l' := #[.val (.ref a0x), .val (.long q1), .second, .val (.long q2), .second, .val (.int (1023 : Int32)), .val (.int (((own_s q1 q2) + (1 : Int32)) &&& (1023 : Int32))), .val (.int ((own_s q1 q2) * (3 : Int32)))]) rfl ?_
        show Steps p.tables e below (T7.setTop (mkF m 80 #[.val (.ref a0x), .val (.long q1), .second, .val (.long q2), .second, .val (.int (1023 : Int32)), .val (.int (((own_s q1 q2) + (1 : Int32)) &&& (1023 : Int32))), .val (.int ((own_s q1 q2) * (3 : Int32)))] [])) _
        refine XS.goto X7.here hx rfl (pc0 := 80) (pc' := 20) rfl (hb hby d6_80) (by decide) (by decide) ?_
        show Steps p.tables e below (T7.setTop (mkF m 20 #[.val (.ref a0x), .val (.long q1), .second, .val (.long q2), .second, .val (.int (1023 : Int32)), .val (.int (own_n (own_s q1 q2))), .val (.int ((own_s q1 q2) * (3 : Int32)))] [])) _
        refine XS.iload X7.here hx rfl (hb hby d6_20) rfl ?_
        show Steps p.tables e below (T7.setTop (mkF m 22 #[.val (.ref a0x), .val (.long q1), .second, .val (.long q2), .second, .val (.int (1023 : Int32)), .val (.int (own_n (own_s q1 q2))), .val (.int ((own_s q1 q2) * (3 : Int32)))] [(.int (own_n (own_s q1 q2)))])) _
        refine XS.iconst X7.here hx rfl (hb hby d6_22) ?_
        show Steps p.tables e below (T7.setTop (mkF m 23 #[.val (.ref a0x), .val (.long q1), .second, .val (.long q2), .second, .val (.int (1023 : Int32)), .val (.int (own_n (own_s q1 q2))), .val (.int ((own_s q1 q2) * (3 : Int32)))] [(.int (3 : Int32)), (.int (own_n (own_s q1 q2)))])) _
        refine XS.imul X7.here hx rfl (hb hby d6_23) rfl ?_
        show Steps p.tables e below (T7.setTop (mkF m 24 #[.val (.ref a0x), .val (.long q1), .second, .val (.long q2), .second, .val (.int (1023 : Int32)), .val (.int (own_n (own_s q1 q2))), .val (.int ((own_s q1 q2) * (3 : Int32)))] [(.int ((own_n (own_s q1 q2)) * (3 : Int32)))])) _
        refine XS.istore X7.here hx rfl (hb hby d6_24) rfl (l' := #[.val (.ref a0x), .val (.long q1), .second, .val (.long q2), .second, .val (.int (1023 : Int32)), .val (.int (own_n (own_s q1 q2))), .val (.int ((own_n (own_s q1 q2)) * (3 : Int32)))]) rfl ?_
        show Steps p.tables e below (T7.setTop (mkF m 26 #[.val (.ref a0x), .val (.long q1), .second, .val (.long q2), .second, .val (.int (1023 : Int32)), .val (.int (own_n (own_s q1 q2))), .val (.int ((own_n (own_s q1 q2)) * (3 : Int32)))] [])) _
        refine XS.aloadN X7.here hx rfl (hb hby d6_26) rfl rfl ?_
        show Steps p.tables e below (T7.setTop (mkF m 27 #[.val (.ref a0x), .val (.long q1), .second, .val (.long q2), .second, .val (.int (1023 : Int32)), .val (.int (own_n (own_s q1 q2))), .val (.int ((own_n (own_s q1 q2)) * (3 : Int32)))] [(.ref a0x)])) _
        refine st25 _ ?_
        show Steps p.tables e below (T25.setTop (mkF m 30 #[.val (.ref a0x), .val (.long q1), .second, .val (.long q2), .second, .val (.int (1023 : Int32)), .val (.int (own_n (own_s q1 q2))), .val (.int ((own_n (own_s q1 q2)) * (3 : Int32)))] [(.ref a1x)])) _
        refine XS.iload X25.here hx rfl (hb hby d6_30) rfl ?_
        show Steps p.tables e below (T25.setTop (mkF m 32 #[.val (.ref a0x), .val (.long q1), .second, .val (.long q2), .second, .val (.int (1023 : Int32)), .val (.int (own_n (own_s q1 q2))), .val (.int ((own_n (own_s q1 q2)) * (3 : Int32)))] [(.int ((own_n (own_s q1 q2)) * (3 : Int32))), (.ref a1x)])) _
        refine XS.iconst X25.here hx rfl (hb hby d6_32) ?_
        show Steps p.tables e below (T25.setTop (mkF m 33 #[.val (.ref a0x), .val (.long q1), .second, .val (.long q2), .second, .val (.int (1023 : Int32)), .val (.int (own_n (own_s q1 q2))), .val (.int ((own_n (own_s q1 q2)) * (3 : Int32)))] [(.int (2 : Int32)), (.int ((own_n (own_s q1 q2)) * (3 : Int32))), (.ref a1x)])) _
        refine XS.iadd X25.here hx rfl (hb hby d6_33) rfl ?_
        show Steps p.tables e below (T25.setTop (mkF m 34 #[.val (.ref a0x), .val (.long q1), .second, .val (.long q2), .second, .val (.int (1023 : Int32)), .val (.int (own_n (own_s q1 q2))), .val (.int ((own_n (own_s q1 q2)) * (3 : Int32)))] [(.int (((own_n (own_s q1 q2)) * (3 : Int32)) + (2 : Int32))), (.ref a1x)])) _
        refine X25.laload hx (j := (((own_n (own_s q1 q2)) * (3 : Int32)) + (2 : Int32))) (v := (.long (tab (((own_n (own_s q1 q2)) * (3 : Int32)) + (2 : Int32))))) (by rw [e25]; exact Ar26.1) (State.isArrayOf_alike hZ.alike Ar26.2.1) Ar26.2.2 hin26 hat26 (g := (mkF m 34 #[.val (.ref a0x), .val (.long q1), .second, .val (.long q2), .second, .val (.int (1023 : Int32)), .val (.int (own_n (own_s q1 q2))), .val (.int ((own_n (own_s q1 q2)) * (3 : Int32)))] [(.int (((own_n (own_s q1 q2)) * (3 : Int32)) + (2 : Int32))), (.ref a1x)])) rfl rfl (hb hby d6_34) _ ?_
        show Steps p.tables e below (T25.setTop (mkF m 35 #[.val (.ref a0x), .val (.long q1), .second, .val (.long q2), .second, .val (.int (1023 : Int32)), .val (.int (own_n (own_s q1 q2))), .val (.int ((own_n (own_s q1 q2)) * (3 : Int32)))] [(.long (tab (((own_n (own_s q1 q2)) * (3 : Int32)) + (2 : Int32))))])) _
        refine XS.lconst X25.here hx rfl (hb hby d6_35) ?_
        show Steps p.tables e below (T25.setTop (mkF m 36 #[.val (.ref a0x), .val (.long q1), .second, .val (.long q2), .second, .val (.int (1023 : Int32)), .val (.int (own_n (own_s q1 q2))), .val (.int ((own_n (own_s q1 q2)) * (3 : Int32)))] [(.long (0 : Int64)), (.long (tab (((own_n (own_s q1 q2)) * (3 : Int32)) + (2 : Int32))))])) _
        refine XS.lcmp X25.here hx rfl (hb hby d6_36) rfl ?_
        exact kt
      by_cases hc37_28 : (lcmpW (tab (((own_n (own_s q1 q2)) * (3 : Int32)) + (2 : Int32))) (0 : Int64)) = (0 : Int32)
      · obtain ⟨fs, hr, hrun, hended, hW, hsame⟩ := X25.leave (v := some (.int (-1 : Int32))) (fun h => by rw [Bd.returns] at h; cases h)
        refine ⟨_, _, pre0 _ ?_, hrun, hended, _, _, rfl, ?_, ⟨_, rfl⟩, hW, hsame.mono (by decide) (by decide)⟩
        · refine k27 _ ?_
          show Steps p.tables e below (T25.setTop (mkF m 37 #[.val (.ref a0x), .val (.long q1), .second, .val (.long q2), .second, .val (.int (1023 : Int32)), .val (.int (own_n (own_s q1 q2))), .val (.int ((own_n (own_s q1 q2)) * (3 : Int32)))] [(.int (lcmpW (tab (((own_n (own_s q1 q2)) * (3 : Int32)) + (2 : Int32))) (0 : Int64)))])) _
          refine XS.ifNo X25.here hx rfl (hb hby d6_37) rfl ((if0 _ _).trans (teq hc37_28).2) ?_
          show Steps p.tables e below (T25.setTop (mkF m 40 #[.val (.ref a0x), .val (.long q1), .second, .val (.long q2), .second, .val (.int (1023 : Int32)), .val (.int (own_n (own_s q1 q2))), .val (.int ((own_n (own_s q1 q2)) * (3 : Int32)))] [])) _
          refine XS.iconst X25.here hx rfl (hb hby d6_40) ?_
          show Steps p.tables e below (T25.setTop (mkF m 41 #[.val (.ref a0x), .val (.long q1), .second, .val (.long q2), .second, .val (.int (1023 : Int32)), .val (.int (own_n (own_s q1 q2))), .val (.int ((own_n (own_s q1 q2)) * (3 : Int32)))] [(.int (-1 : Int32))])) _
          exact retI X25 hx Bd.returns (hb hby d6_41) hr
        · show Q_rm_find Z a0x q1 q2 a1x tab h0 n0 _ T25.heap _
          rw [e25]
          exact ⟨(by simp [own_find, mt (own_lc0 _ _).mpr hc37, mt (own_lc0 _ _).mpr hc51, (own_lc0 _ _).mp hc37_28]), N3, rfl⟩
      · obtain ⟨T29, X29, e29, st29⟩ := getF X25 hx hZ hown (host := "") (Or.inl (hw _ (List.mem_of_getElem? (i := 10) rfl))) Via.refl e25 Ft (g := (mkF m 43 #[.val (.ref a0x), .val (.long q1), .second, .val (.long q2), .second, .val (.int (1023 : Int32)), .val (.int (own_n (own_s q1 q2))), .val (.int ((own_n (own_s q1 q2)) * (3 : Int32)))] [(.ref a0x)])) rfl rfl (hb hby d6_43)
        obtain ⟨cl30, Ar30, S30, N30', H30⟩ := (id Vt)
        have hbd30 : ¬ ((own_n (own_s q1 q2)) * (3 : Int32)) < 0 ∧ ((own_n (own_s q1 q2)) * (3 : Int32)) < (3072 : Int32) := (own_b0 (own_nb _))
        have hin30 : ¬ (((own_n (own_s q1 q2)) * (3 : Int32)) < 0 ∨ cl30.slots.size ≤ (((own_n (own_s q1 q2)) * (3 : Int32))).toNatClampNeg) := inb_of S30 hbd30
        have hat30 : cl30.slots[(((own_n (own_s q1 q2)) * (3 : Int32))).toNatClampNeg]? = some (.long (tab ((own_n (own_s q1 q2)) * (3 : Int32)))) := H30 _ hbd30.1 hbd30.2
        have k31 : ∀ target, Steps p.tables e below (T29.setTop (mkF m 51 #[.val (.ref a0x), .val (.long q1), .second, .val (.long q2), .second, .val (.int (1023 : Int32)), .val (.int (own_n (own_s q1 q2))), .val (.int ((own_n (own_s q1 q2)) * (3 : Int32)))] [(.int (lcmpW (tab ((own_n (own_s q1 q2)) * (3 : Int32))) q1))])) target → Steps p.tables e below (s₁.setTop (mkF m 0 #[.val (.ref a0x), .val (.long q1), .second, .val (.long q2), .second, .unset, .unset, .unset] [])) target := by
          intro target kt
          refine k27 _ ?_
          show Steps p.tables e below (T25.setTop (mkF m 37 #[.val (.ref a0x), .val (.long q1), .second, .val (.long q2), .second, .val (.int (1023 : Int32)), .val (.int (own_n (own_s q1 q2))), .val (.int ((own_n (own_s q1 q2)) * (3 : Int32)))] [(.int (lcmpW (tab (((own_n (own_s q1 q2)) * (3 : Int32)) + (2 : Int32))) (0 : Int64)))])) _
          refine XS.ifYes X25.here hx rfl (pc0 := 37) (pc' := 42) rfl (hb hby d6_37) rfl ((if0 _ _).trans (feq hc37_28).2) (by decide) (by decide) ?_
          show Steps p.tables e below (T25.setTop (mkF m 42 #[.val (.ref a0x), .val (.long q1), .second, .val (.long q2), .second, .val (.int (1023 : Int32)), .val (.int (own_n (own_s q1 q2))), .val (.int ((own_n (own_s q1 q2)) * (3 : Int32)))] [])) _
          refine XS.aloadN X25.here hx rfl (hb hby d6_42) rfl rfl ?_
          show Steps p.tables e below (T25.setTop (mkF m 43 #[.val (.ref a0x), .val (.long q1), .second, .val (.long q2), .second, .val (.int (1023 : Int32)), .val (.int (own_n (own_s q1 q2))), .val (.int ((own_n (own_s q1 q2)) * (3 : Int32)))] [(.ref a0x)])) _
          refine st29 _ ?_
          show Steps p.tables e below (T29.setTop (mkF m 46 #[.val (.ref a0x), .val (.long q1), .second, .val (.long q2), .second, .val (.int (1023 : Int32)), .val (.int (own_n (own_s q1 q2))), .val (.int ((own_n (own_s q1 q2)) * (3 : Int32)))] [(.ref a1x)])) _
          refine XS.iload X29.here hx rfl (hb hby d6_46) rfl ?_
          show Steps p.tables e below (T29.setTop (mkF m 48 #[.val (.ref a0x), .val (.long q1), .second, .val (.long q2), .second, .val (.int (1023 : Int32)), .val (.int (own_n (own_s q1 q2))), .val (.int ((own_n (own_s q1 q2)) * (3 : Int32)))] [(.int ((own_n (own_s q1 q2)) * (3 : Int32))), (.ref a1x)])) _
          refine X29.laload hx (j := ((own_n (own_s q1 q2)) * (3 : Int32))) (v := (.long (tab ((own_n (own_s q1 q2)) * (3 : Int32))))) (by rw [e29]; exact Ar30.1) (State.isArrayOf_alike hZ.alike Ar30.2.1) Ar30.2.2 hin30 hat30 (g := (mkF m 48 #[.val (.ref a0x), .val (.long q1), .second, .val (.long q2), .second, .val (.int (1023 : Int32)), .val (.int (own_n (own_s q1 q2))), .val (.int ((own_n (own_s q1 q2)) * (3 : Int32)))] [(.int ((own_n (own_s q1 q2)) * (3 : Int32))), (.ref a1x)])) rfl rfl (hb hby d6_48) _ ?_
          show Steps p.tables e below (T29.setTop (mkF m 49 #[.val (.ref a0x), .val (.long q1), .second, .val (.long q2), .second, .val (.int (1023 : Int32)), .val (.int (own_n (own_s q1 q2))), .val (.int ((own_n (own_s q1 q2)) * (3 : Int32)))] [(.long (tab ((own_n (own_s q1 q2)) * (3 : Int32))))])) _
          refine XS.lloadN X29.here hx rfl (hb hby d6_49) rfl ?_
          show Steps p.tables e below (T29.setTop (mkF m 50 #[.val (.ref a0x), .val (.long q1), .second, .val (.long q2), .second, .val (.int (1023 : Int32)), .val (.int (own_n (own_s q1 q2))), .val (.int ((own_n (own_s q1 q2)) * (3 : Int32)))] [(.long q1), (.long (tab ((own_n (own_s q1 q2)) * (3 : Int32))))])) _
          refine XS.lcmp X29.here hx rfl (hb hby d6_50) rfl ?_
          exact kt
        by_cases hc51_32 : (lcmpW (tab ((own_n (own_s q1 q2)) * (3 : Int32))) q1) = (0 : Int32)
        · obtain ⟨T33, X33, e33, st33⟩ := getF X29 hx hZ hown (host := "") (Or.inl (hw _ (List.mem_of_getElem? (i := 10) rfl))) Via.refl e29 Ft (g := (mkF m 55 #[.val (.ref a0x), .val (.long q1), .second, .val (.long q2), .second, .val (.int (1023 : Int32)), .val (.int (own_n (own_s q1 q2))), .val (.int ((own_n (own_s q1 q2)) * (3 : Int32)))] [(.ref a0x)])) rfl rfl (hb hby d6_55)
          obtain ⟨cl34, Ar34, S34, N34', H34⟩ := (id Vt)
          have hbd34 : ¬ (((own_n (own_s q1 q2)) * (3 : Int32)) + (1 : Int32)) < 0 ∧ (((own_n (own_s q1 q2)) * (3 : Int32)) + (1 : Int32)) < (3072 : Int32) := (own_b1 (own_nb _))
          have hin34 : ¬ ((((own_n (own_s q1 q2)) * (3 : Int32)) + (1 : Int32)) < 0 ∨ cl34.slots.size ≤ ((((own_n (own_s q1 q2)) * (3 : Int32)) + (1 : Int32))).toNatClampNeg) := inb_of S34 hbd34
          have hat34 : cl34.slots[((((own_n (own_s q1 q2)) * (3 : Int32)) + (1 : Int32))).toNatClampNeg]? = some (.long (tab (((own_n (own_s q1 q2)) * (3 : Int32)) + (1 : Int32)))) := H34 _ hbd34.1 hbd34.2
          have k35 : ∀ target, Steps p.tables e below (T33.setTop (mkF m 65 #[.val (.ref a0x), .val (.long q1), .second, .val (.long q2), .second, .val (.int (1023 : Int32)), .val (.int (own_n (own_s q1 q2))), .val (.int ((own_n (own_s q1 q2)) * (3 : Int32)))] [(.int (lcmpW (tab (((own_n (own_s q1 q2)) * (3 : Int32)) + (1 : Int32))) q2))])) target → Steps p.tables e below (s₁.setTop (mkF m 0 #[.val (.ref a0x), .val (.long q1), .second, .val (.long q2), .second, .unset, .unset, .unset] [])) target := by
            intro target kt
            refine k31 _ ?_
            show Steps p.tables e below (T29.setTop (mkF m 51 #[.val (.ref a0x), .val (.long q1), .second, .val (.long q2), .second, .val (.int (1023 : Int32)), .val (.int (own_n (own_s q1 q2))), .val (.int ((own_n (own_s q1 q2)) * (3 : Int32)))] [(.int (lcmpW (tab ((own_n (own_s q1 q2)) * (3 : Int32))) q1))])) _
            refine XS.ifNo X29.here hx rfl (hb hby d6_51) rfl ((if0 _ _).trans (teq hc51_32).2) ?_
            show Steps p.tables e below (T29.setTop (mkF m 54 #[.val (.ref a0x), .val (.long q1), .second, .val (.long q2), .second, .val (.int (1023 : Int32)), .val (.int (own_n (own_s q1 q2))), .val (.int ((own_n (own_s q1 q2)) * (3 : Int32)))] [])) _
            refine XS.aloadN X29.here hx rfl (hb hby d6_54) rfl rfl ?_
            show Steps p.tables e below (T29.setTop (mkF m 55 #[.val (.ref a0x), .val (.long q1), .second, .val (.long q2), .second, .val (.int (1023 : Int32)), .val (.int (own_n (own_s q1 q2))), .val (.int ((own_n (own_s q1 q2)) * (3 : Int32)))] [(.ref a0x)])) _
            refine st33 _ ?_
            show Steps p.tables e below (T33.setTop (mkF m 58 #[.val (.ref a0x), .val (.long q1), .second, .val (.long q2), .second, .val (.int (1023 : Int32)), .val (.int (own_n (own_s q1 q2))), .val (.int ((own_n (own_s q1 q2)) * (3 : Int32)))] [(.ref a1x)])) _
            refine XS.iload X33.here hx rfl (hb hby d6_58) rfl ?_
            show Steps p.tables e below (T33.setTop (mkF m 60 #[.val (.ref a0x), .val (.long q1), .second, .val (.long q2), .second, .val (.int (1023 : Int32)), .val (.int (own_n (own_s q1 q2))), .val (.int ((own_n (own_s q1 q2)) * (3 : Int32)))] [(.int ((own_n (own_s q1 q2)) * (3 : Int32))), (.ref a1x)])) _
            refine XS.iconst X33.here hx rfl (hb hby d6_60) ?_
            show Steps p.tables e below (T33.setTop (mkF m 61 #[.val (.ref a0x), .val (.long q1), .second, .val (.long q2), .second, .val (.int (1023 : Int32)), .val (.int (own_n (own_s q1 q2))), .val (.int ((own_n (own_s q1 q2)) * (3 : Int32)))] [(.int (1 : Int32)), (.int ((own_n (own_s q1 q2)) * (3 : Int32))), (.ref a1x)])) _
            refine XS.iadd X33.here hx rfl (hb hby d6_61) rfl ?_
            show Steps p.tables e below (T33.setTop (mkF m 62 #[.val (.ref a0x), .val (.long q1), .second, .val (.long q2), .second, .val (.int (1023 : Int32)), .val (.int (own_n (own_s q1 q2))), .val (.int ((own_n (own_s q1 q2)) * (3 : Int32)))] [(.int (((own_n (own_s q1 q2)) * (3 : Int32)) + (1 : Int32))), (.ref a1x)])) _
            refine X33.laload hx (j := (((own_n (own_s q1 q2)) * (3 : Int32)) + (1 : Int32))) (v := (.long (tab (((own_n (own_s q1 q2)) * (3 : Int32)) + (1 : Int32))))) (by rw [e33]; exact Ar34.1) (State.isArrayOf_alike hZ.alike Ar34.2.1) Ar34.2.2 hin34 hat34 (g := (mkF m 62 #[.val (.ref a0x), .val (.long q1), .second, .val (.long q2), .second, .val (.int (1023 : Int32)), .val (.int (own_n (own_s q1 q2))), .val (.int ((own_n (own_s q1 q2)) * (3 : Int32)))] [(.int (((own_n (own_s q1 q2)) * (3 : Int32)) + (1 : Int32))), (.ref a1x)])) rfl rfl (hb hby d6_62) _ ?_
            show Steps p.tables e below (T33.setTop (mkF m 63 #[.val (.ref a0x), .val (.long q1), .second, .val (.long q2), .second, .val (.int (1023 : Int32)), .val (.int (own_n (own_s q1 q2))), .val (.int ((own_n (own_s q1 q2)) * (3 : Int32)))] [(.long (tab (((own_n (own_s q1 q2)) * (3 : Int32)) + (1 : Int32))))])) _
            refine XS.lloadN X33.here hx rfl (hb hby d6_63) rfl ?_
            show Steps p.tables e below (T33.setTop (mkF m 64 #[.val (.ref a0x), .val (.long q1), .second, .val (.long q2), .second, .val (.int (1023 : Int32)), .val (.int (own_n (own_s q1 q2))), .val (.int ((own_n (own_s q1 q2)) * (3 : Int32)))] [(.long q2), (.long (tab (((own_n (own_s q1 q2)) * (3 : Int32)) + (1 : Int32))))])) _
            refine XS.lcmp X33.here hx rfl (hb hby d6_64) rfl ?_
            exact kt
          by_cases hc65 : (lcmpW (tab (((own_n (own_s q1 q2)) * (3 : Int32)) + (1 : Int32))) q2) = (0 : Int32)
          · obtain ⟨fs, hr, hrun, hended, hW, hsame⟩ := X33.leave (v := some (.int ((own_n (own_s q1 q2)) * (3 : Int32)))) (fun h => by rw [Bd.returns] at h; cases h)
            refine ⟨_, _, pre0 _ ?_, hrun, hended, _, _, rfl, ?_, ⟨_, rfl⟩, hW, hsame.mono (by decide) (by decide)⟩
            · refine k35 _ ?_
              show Steps p.tables e below (T33.setTop (mkF m 65 #[.val (.ref a0x), .val (.long q1), .second, .val (.long q2), .second, .val (.int (1023 : Int32)), .val (.int (own_n (own_s q1 q2))), .val (.int ((own_n (own_s q1 q2)) * (3 : Int32)))] [(.int (lcmpW (tab (((own_n (own_s q1 q2)) * (3 : Int32)) + (1 : Int32))) q2))])) _
              refine XS.ifNo X33.here hx rfl (hb hby d6_65) rfl ((if0 _ _).trans (teq hc65).2) ?_
              show Steps p.tables e below (T33.setTop (mkF m 68 #[.val (.ref a0x), .val (.long q1), .second, .val (.long q2), .second, .val (.int (1023 : Int32)), .val (.int (own_n (own_s q1 q2))), .val (.int ((own_n (own_s q1 q2)) * (3 : Int32)))] [])) _
              refine XS.iload X33.here hx rfl (hb hby d6_68) rfl ?_
              show Steps p.tables e below (T33.setTop (mkF m 70 #[.val (.ref a0x), .val (.long q1), .second, .val (.long q2), .second, .val (.int (1023 : Int32)), .val (.int (own_n (own_s q1 q2))), .val (.int ((own_n (own_s q1 q2)) * (3 : Int32)))] [(.int ((own_n (own_s q1 q2)) * (3 : Int32)))])) _
              exact retI X33 hx Bd.returns (hb hby d6_70) hr
            · show Q_rm_find Z a0x q1 q2 a1x tab h0 n0 _ T33.heap _
              rw [e33]
              exact ⟨(by simp [own_find, mt (own_lc0 _ _).mpr hc37, mt (own_lc0 _ _).mpr hc51, mt (own_lc0 _ _).mpr hc37_28, (own_lc0 _ _).mp hc51_32, (own_lc0 _ _).mp hc65]), N3, rfl⟩
          · exact (own_dead hok (fun q => hc37 ((own_lc0 _ _).mpr q)) (fun q => hc51 ((own_lc0 _ _).mpr q.1)) (fun q => hc37_28 ((own_lc0 _ _).mpr q)) (fun q => hc65 ((own_lc0 _ _).mpr q.2))).elim
        · exact (own_dead hok (fun q => hc37 ((own_lc0 _ _).mpr q)) (fun q => hc51 ((own_lc0 _ _).mpr q.1)) (fun q => hc37_28 ((own_lc0 _ _).mpr q)) (fun q => hc51_32 ((own_lc0 _ _).mpr q.1))).elim
theorem d8_0 : decode prog_38_method_10_code 0 = .ok (.aload_n 0, 1) := by decide +kernel
theorem d8_1 : decode prog_38_method_10_code 1 = .ok (.getfield 9, 3) := by decide +kernel
theorem d8_4 : decode prog_38_method_10_code 4 = .ok (.arraylength, 1) := by decide +kernel
theorem d8_5 : decode prog_38_method_10_code 5 = .ok (.iconst 3, 1) := by decide +kernel
theorem d8_6 : decode prog_38_method_10_code 6 = .ok (.idiv, 1) := by decide +kernel
theorem d8_7 : decode prog_38_method_10_code 7 = .ok (.iconst 1, 1) := by decide +kernel
theorem d8_8 : decode prog_38_method_10_code 8 = .ok (.isub, 1) := by decide +kernel
theorem d8_9 : decode prog_38_method_10_code 9 = .ok (.istore 5, 2) := by decide +kernel
theorem d8_11 : decode prog_38_method_10_code 11 = .ok (.lload_n 1, 1) := by decide +kernel
theorem d8_12 : decode prog_38_method_10_code 12 = .ok (.lload_n 3, 1) := by decide +kernel
theorem d8_13 : decode prog_38_method_10_code 13 = .ok (.iload 5, 2) := by decide +kernel
theorem d8_15 : decode prog_38_method_10_code 15 = .ok (.invokestatic 13, 3) := by decide +kernel
theorem d8_18 : decode prog_38_method_10_code 18 = .ok (.istore 6, 2) := by decide +kernel
theorem d8_20 : decode prog_38_method_10_code 20 = .ok (.aload_n 0, 1) := by decide +kernel
theorem d8_21 : decode prog_38_method_10_code 21 = .ok (.getfield 9, 3) := by decide +kernel
theorem d8_24 : decode prog_38_method_10_code 24 = .ok (.iload 6, 2) := by decide +kernel
theorem d8_26 : decode prog_38_method_10_code 26 = .ok (.iconst 3, 1) := by decide +kernel
theorem d8_27 : decode prog_38_method_10_code 27 = .ok (.imul, 1) := by decide +kernel
theorem d8_28 : decode prog_38_method_10_code 28 = .ok (.iconst 2, 1) := by decide +kernel
theorem d8_29 : decode prog_38_method_10_code 29 = .ok (.iadd, 1) := by decide +kernel
theorem d8_30 : decode prog_38_method_10_code 30 = .ok (.laload, 1) := by decide +kernel
theorem d8_31 : decode prog_38_method_10_code 31 = .ok (.lconst 0, 1) := by decide +kernel
theorem d8_32 : decode prog_38_method_10_code 32 = .ok (.lcmp, 1) := by decide +kernel
theorem d8_33 : decode prog_38_method_10_code 33 = .ok (.ifCond .eq 15, 3) := by decide +kernel
theorem d8_48 : decode prog_38_method_10_code 48 = .ok (.iload 6, 2) := by decide +kernel
theorem d8_50 : decode prog_38_method_10_code 50 = .ok (.iconst 3, 1) := by decide +kernel
theorem d8_51 : decode prog_38_method_10_code 51 = .ok (.imul, 1) := by decide +kernel
theorem d8_52 : decode prog_38_method_10_code 52 = .ok (.ireturn, 1) := by decide +kernel
theorem d8_36 : decode prog_38_method_10_code 36 = .ok (.iload 6, 2) := by decide +kernel
theorem d8_38 : decode prog_38_method_10_code 38 = .ok (.iconst 1, 1) := by decide +kernel
theorem d8_39 : decode prog_38_method_10_code 39 = .ok (.iadd, 1) := by decide +kernel
theorem d8_40 : decode prog_38_method_10_code 40 = .ok (.iload 5, 2) := by decide +kernel
theorem d8_42 : decode prog_38_method_10_code 42 = .ok (.iand, 1) := by decide +kernel
theorem d8_43 : decode prog_38_method_10_code 43 = .ok (.istore 6, 2) := by decide +kernel
theorem d8_45 : decode prog_38_method_10_code 45 = .ok (.goto (-25), 3) := by decide +kernel
theorem ef_8 (m : MethodId) (x0 : Addr) (x1 : Int64) (x2 : Int64) : entryFrame m #[(.ref x0), (.long x1), (.long x2)] 7 = mkF m 0 #[.val (.ref x0), .val (.long x1), .second, .val (.long x2), .second, .unset, .unset] [] := by first | (simp [entryFrame, mkF, argsToLocals, Value.category]; done) | rfl
def Q_rm_free (Z : State) (a0x : Addr) (q1 : Int64) (q2 : Int64) (a1x : Addr) (tab : Int32 → Int64) (h0 : Heap) (n0 : Nat) (v : Option Value) (h : Heap) (L : List Loc) : Prop := v = some (.int (own_free tab q1 q2)) ∧ Fr n0 L ∧ h = h0
set_option maxRecDepth 65536 in
set_option maxHeartbeats 40000000 in
theorem rm_free (l : Launch) (Z : State) (a0 : Array Value) (hw : ∀ d ∈ tables_1, d.before a0 Z = true) (ws : List Jvm.Cond) (a0x : Addr) (q1 : Int64) (q2 : Int64) (a1x : Addr) (tab : Int32 → Int64) (h0 : Heap) (n0 : Nat) (Z0 : n0 ≤ h0.size) (Ft : Fld Z h0 a0x "com/example/outcry/outcry/allocation/Memo" "table" "[J" (.ref a1x)) (Vt : own_Tab Z h0 a1x .long (3072 : Int32) (fun j => .long (tab j))) (hok : own_ok2 tab q1 q2) :
    MetFree l (⟨"com/example/outcry/outcry/allocation/Memo", "free", "(JJ)I"⟩ : MethodName) (head1 (Jvm.Cond.code (⟨"com/example/outcry/outcry/allocation/Memo", "free", "(JJ)I"⟩ : MethodName) prog_38_method_10_code 7 (some .int) :: ws) ({ frames := 1, cells := 0, slots := 0, locals := 18 } : Room)) (fun a U => a = #[(.ref a0x), (.long q1), (.long q2)] ∧ Z.Warmed39 U.vm ∧ U.heap = h0) (fun _ _ _ _ _ => True) (fun _ U o U' => ∃ v L, o = .returned v ∧ Q_rm_free Z a0x q1 q2 a1x tab h0 n0 v U'.heap L ∧ FrameEnd U o U' L ({ frames := 1, cells := 0, slots := 0, locals := 18 } : Room).cells ({ frames := 1, cells := 0, slots := 0, locals := 18 } : Room).slots) := by
  refine MetFree.of_bodySF (plainFor_of_name pn_0) hisR ?_
  intro p e s m args below meth c s₁ Bd hml0 hP hK
  obtain ⟨rfl, hZ, hh⟩ := hP
  have hx := Bd.exec
  have hby := Bd.bytes
  have hml : c.maxLocals = 7 := hml0
  have hown : s.vm.findClass "com/example/outcry/outcry/allocation/Memo" = some m.cls := findClass_of_methodNamed Bd.named
  have hnm := (name_of_methodNamed Bd.named Bd.method).1
  have X0 : Stand p l e ({ frames := 1, cells := 0, slots := 0, locals := 18 } : Room) s m #[(.ref a0x), (.long q1), (.long q2)] below meth c s₁ [] 0 0 := Stand.of_body Bd
  have e0 : s₁.heap = h0 := by rw [← hh, Bd.state]; rfl
  have N0 := Fr.nil n0
  have pre0 : ∀ t, Steps p.tables e below (s₁.setTop (mkF m 0 #[.val (.ref a0x), .val (.long q1), .second, .val (.long q2), .second, .unset, .unset] [])) t → Steps p.tables e below (s₁.setTop (entryFrame m #[(.ref a0x), (.long q1), (.long q2)] 7)) t := fun t k => castTop (ef_8 m a0x q1 q2) k
  obtain ⟨T1, X1, e1, st1⟩ := getF X0 hx hZ hown (host := "") (Or.inl (hw _ (List.mem_of_getElem? (i := 10) rfl))) Via.refl e0 Ft (g := (mkF m 1 #[.val (.ref a0x), .val (.long q1), .second, .val (.long q2), .second, .unset, .unset] [(.ref a0x)])) rfl rfl (hb hby d8_1)
  obtain ⟨cl2, Ar2, S2, N2', H2⟩ := (id Vt)
  obtain ⟨_, _, ⟨T3, L3, k3, n3⟩, -, X3, ⟨Lc3, hQ3, l3, y3, z3⟩, st3⟩ := Jvm.LawKit.callS X1 hx (y := (⟨"com/example/outcry/outcry/allocation/Memo", "slot", "(JJI)I"⟩ : MethodName)) hown (mvT hZ (hw _ (List.mem_of_getElem? (i := 31) rfl))) (mvT hZ (hw _ (List.mem_of_getElem? (i := 32) rfl))) (mvT hZ (hw _ (List.mem_of_getElem? (i := 2) rfl))) (mvT hZ (hw _ (List.mem_of_getElem? (i := 33) rfl))) (by decide) (backOf (W := 0) (rm_slot l Z a0 hw [] q1 q2 (1023 : Int32) h0 n0 Z0) hZ (hw _ (List.mem_of_getElem? (i := 33) rfl)) (hw _ (List.mem_of_getElem? (i := 2) rfl)) (by decide) (by decide)) (g := (mkF m 15 #[.val (.ref a0x), .val (.long q1), .second, .val (.long q2), .second, .val (.int (1023 : Int32)), .unset] [(.int (1023 : Int32)), (.long q2), (.long q1)])) rfl (by rw [hml]; rfl) (argsL := [(.long q1), (.long q2), (.int (1023 : Int32))]) (rest := []) (lenOf pd_0 rfl) rfl (by show 2 * 0 + _ ≤ _; exact Nat.le_of_eq rfl) (hb hby d8_15) (fun _ _ => ⟨rfl, e1, (by decide : 0 + 0 ≤ _), (by decide : 0 + 0 ≤ _)⟩)
  dsimp only [Pt.U, Pt.locs, Pt.cells, Pt.slots] at X3 l3 y3 z3 st3 hQ3
  subst l3 y3 z3
  obtain ⟨rfl, N3q, e3⟩ := hQ3
  have N3 := Fr.app N0 N3q
  obtain ⟨T4, X4, e4, st4⟩ := getF X3 hx hZ hown (host := "") (Or.inl (hw _ (List.mem_of_getElem? (i := 10) rfl))) Via.refl e3 Ft (g := (mkF m 21 #[.val (.ref a0x), .val (.long q1), .second, .val (.long q2), .second, .val (.int (1023 : Int32)), .val (.int (own_s q1 q2))] [(.ref a0x)])) rfl rfl (hb hby d8_21)
  obtain ⟨cl5, Ar5, S5, N5', H5⟩ := (id Vt)
  have hbd5 : ¬ (((own_s q1 q2) * (3 : Int32)) + (2 : Int32)) < 0 ∧ (((own_s q1 q2) * (3 : Int32)) + (2 : Int32)) < (3072 : Int32) := (own_b2 (own_sb _ _))
  have hin5 : ¬ ((((own_s q1 q2) * (3 : Int32)) + (2 : Int32)) < 0 ∨ cl5.slots.size ≤ ((((own_s q1 q2) * (3 : Int32)) + (2 : Int32))).toNatClampNeg) := inb_of S5 hbd5
  have hat5 : cl5.slots[((((own_s q1 q2) * (3 : Int32)) + (2 : Int32))).toNatClampNeg]? = some (.long (tab (((own_s q1 q2) * (3 : Int32)) + (2 : Int32)))) := H5 _ hbd5.1 hbd5.2
  have k6 : ∀ target, Steps p.tables e below (T4.setTop (mkF m 33 #[.val (.ref a0x), .val (.long q1), .second, .val (.long q2), .second, .val (.int (1023 : Int32)), .val (.int (own_s q1 q2))] [(.int (lcmpW (tab (((own_s q1 q2) * (3 : Int32)) + (2 : Int32))) (0 : Int64)))])) target → Steps p.tables e below (s₁.setTop (mkF m 0 #[.val (.ref a0x), .val (.long q1), .second, .val (.long q2), .second, .unset, .unset] [])) target := by
    intro target kt
    show Steps p.tables e below (s₁.setTop (mkF m 0 #[.val (.ref a0x), .val (.long q1), .second, .val (.long q2), .second, .unset, .unset] [])) _
    refine XS.aloadN X0.here hx rfl (hb hby d8_0) rfl rfl ?_
    show Steps p.tables e below (s₁.setTop (mkF m 1 #[.val (.ref a0x), .val (.long q1), .second, .val (.long q2), .second, .unset, .unset] [(.ref a0x)])) _
    refine st1 _ ?_
    show Steps p.tables e below (T1.setTop (mkF m 4 #[.val (.ref a0x), .val (.long q1), .second, .val (.long q2), .second, .unset, .unset] [(.ref a1x)])) _
    refine X1.arraylength hx (by rw [e1]; exact Ar2.1) (State.isArrayOf_alike hZ.alike Ar2.2.1) (g := (mkF m 4 #[.val (.ref a0x), .val (.long q1), .second, .val (.long q2), .second, .unset, .unset] [(.ref a1x)])) rfl rfl (hb hby d8_4) _ ?_
    rw [len_of S2 N2']
    show Steps p.tables e below (T1.setTop (mkF m 5 #[.val (.ref a0x), .val (.long q1), .second, .val (.long q2), .second, .unset, .unset] [(.int (3072 : Int32))])) _
    refine XS.iconst X1.here hx rfl (hb hby d8_5) ?_
    show Steps p.tables e below (T1.setTop (mkF m 6 #[.val (.ref a0x), .val (.long q1), .second, .val (.long q2), .second, .unset, .unset] [(.int (3 : Int32)), (.int (3072 : Int32))])) _
    refine XS.idiv X1.here hx rfl (hb hby d8_6) rfl (by decide) ?_
    show Steps p.tables e below (T1.setTop (mkF m 7 #[.val (.ref a0x), .val (.long q1), .second, .val (.long q2), .second, .unset, .unset] [(.int ((3072 : Int32) / (3 : Int32)))])) _
    refine XS.iconst X1.here hx rfl (hb hby d8_7) ?_
    show Steps p.tables e below (T1.setTop (mkF m 8 #[.val (.ref a0x), .val (.long q1), .second, .val (.long q2), .second, .unset, .unset] [(.int (1 : Int32)), (.int ((3072 : Int32) / (3 : Int32)))])) _
    refine XS.isub X1.here hx rfl (hb hby d8_8) rfl ?_
    show Steps p.tables e below (T1.setTop (mkF m 9 #[.val (.ref a0x), .val (.long q1), .second, .val (.long q2), .second, .unset, .unset] [(.int (((3072 : Int32) / (3 : Int32)) - (1 : Int32)))])) _
    refine XS.istore X1.here hx rfl (hb hby d8_9) rfl (l' := #[.val (.ref a0x), .val (.long q1), .second, .val (.long q2), .second, .val (.int (((3072 : Int32) / (3 : Int32)) - (1 : Int32))), .unset]) rfl ?_
    show Steps p.tables e below (T1.setTop (mkF m 11 #[.val (.ref a0x), .val (.long q1), .second, .val (.long q2), .second, .val (.int (((3072 : Int32) / (3 : Int32)) - (1 : Int32))), .unset] [])) _
    rw [own_1023]
    show Steps p.tables e below (T1.setTop (mkF m 11 #[.val (.ref a0x), .val (.long q1), .second, .val (.long q2), .second, .val (.int (1023 : Int32)), .unset] [])) _
    refine XS.lloadN X1.here hx rfl (hb hby d8_11) rfl ?_
    show Steps p.tables e below (T1.setTop (mkF m 12 #[.val (.ref a0x), .val (.long q1), .second, .val (.long q2), .second, .val (.int (1023 : Int32)), .unset] [(.long q1)])) _
    refine XS.lloadN X1.here hx rfl (hb hby d8_12) rfl ?_
    show Steps p.tables e below (T1.setTop (mkF m 13 #[.val (.ref a0x), .val (.long q1), .second, .val (.long q2), .second, .val (.int (1023 : Int32)), .unset] [(.long q2), (.long q1)])) _
    refine XS.iload X1.here hx rfl (hb hby d8_13) rfl ?_
    show Steps p.tables e below (T1.setTop (mkF m 15 #[.val (.ref a0x), .val (.long q1), .second, .val (.long q2), .second, .val (.int (1023 : Int32)), .unset] [(.int (1023 : Int32)), (.long q2), (.long q1)])) _
    refine st3 _ ?_
    show Steps p.tables e below (T3.setTop (mkF m 18 #[.val (.ref a0x), .val (.long q1), .second, .val (.long q2), .second, .val (.int (1023 : Int32)), .unset] [(.int (own_slot q1 q2 (1023 : Int32)))])) _
    refine XS.istore X3.here hx rfl (hb hby d8_18) rfl (l' := #[.val (.ref a0x), .val (.long q1), .second, .val (.long q2), .second, .val (.int (1023 : Int32)), .val (.int (own_slot q1 q2 (1023 : Int32)))]) rfl ?_
    show Steps p.tables e below (T3.setTop (mkF m 20 #[.val (.ref a0x), .val (.long q1), .second, .val (.long q2), .second, .val (.int (1023 : Int32)), .val (.int (own_s q1 q2))] [])) _
    refine XS.aloadN X3.here hx rfl (hb hby d8_20) rfl rfl ?_
    show Steps p.tables e below (T3.setTop (mkF m 21 #[.val (.ref a0x), .val (.long q1), .second, .val (.long q2), .second, .val (.int (1023 : Int32)), .val (.int (own_s q1 q2))] [(.ref a0x)])) _
    refine st4 _ ?_
    show Steps p.tables e below (T4.setTop (mkF m 24 #[.val (.ref a0x), .val (.long q1), .second, .val (.long q2), .second, .val (.int (1023 : Int32)), .val (.int (own_s q1 q2))] [(.ref a1x)])) _
    refine XS.iload X4.here hx rfl (hb hby d8_24) rfl ?_
    show Steps p.tables e below (T4.setTop (mkF m 26 #[.val (.ref a0x), .val (.long q1), .second, .val (.long q2), .second, .val (.int (1023 : Int32)), .val (.int (own_s q1 q2))] [(.int (own_s q1 q2)), (.ref a1x)])) _
    refine XS.iconst X4.here hx rfl (hb hby d8_26) ?_
    show Steps p.tables e below (T4.setTop (mkF m 27 #[.val (.ref a0x), .val (.long q1), .second, .val (.long q2), .second, .val (.int (1023 : Int32)), .val (.int (own_s q1 q2))] [(.int (3 : Int32)), (.int (own_s q1 q2)), (.ref a1x)])) _
    refine XS.imul X4.here hx rfl (hb hby d8_27) rfl ?_
    show Steps p.tables e below (T4.setTop (mkF m 28 #[.val (.ref a0x), .val (.long q1), .second, .val (.long q2), .second, .val (.int (1023 : Int32)), .val (.int (own_s q1 q2))] [(.int ((own_s q1 q2) * (3 : Int32))), (.ref a1x)])) _
    refine XS.iconst X4.here hx rfl (hb hby d8_28) ?_
    show Steps p.tables e below (T4.setTop (mkF m 29 #[.val (.ref a0x), .val (.long q1), .second, .val (.long q2), .second, .val (.int (1023 : Int32)), .val (.int (own_s q1 q2))] [(.int (2 : Int32)), (.int ((own_s q1 q2) * (3 : Int32))), (.ref a1x)])) _
    refine XS.iadd X4.here hx rfl (hb hby d8_29) rfl ?_
    show Steps p.tables e below (T4.setTop (mkF m 30 #[.val (.ref a0x), .val (.long q1), .second, .val (.long q2), .second, .val (.int (1023 : Int32)), .val (.int (own_s q1 q2))] [(.int (((own_s q1 q2) * (3 : Int32)) + (2 : Int32))), (.ref a1x)])) _
    refine X4.laload hx (j := (((own_s q1 q2) * (3 : Int32)) + (2 : Int32))) (v := (.long (tab (((own_s q1 q2) * (3 : Int32)) + (2 : Int32))))) (by rw [e4]; exact Ar5.1) (State.isArrayOf_alike hZ.alike Ar5.2.1) Ar5.2.2 hin5 hat5 (g := (mkF m 30 #[.val (.ref a0x), .val (.long q1), .second, .val (.long q2), .second, .val (.int (1023 : Int32)), .val (.int (own_s q1 q2))] [(.int (((own_s q1 q2) * (3 : Int32)) + (2 : Int32))), (.ref a1x)])) rfl rfl (hb hby d8_30) _ ?_
    show Steps p.tables e below (T4.setTop (mkF m 31 #[.val (.ref a0x), .val (.long q1), .second, .val (.long q2), .second, .val (.int (1023 : Int32)), .val (.int (own_s q1 q2))] [(.long (tab (((own_s q1 q2) * (3 : Int32)) + (2 : Int32))))])) _
    refine XS.lconst X4.here hx rfl (hb hby d8_31) ?_
    show Steps p.tables e below (T4.setTop (mkF m 32 #[.val (.ref a0x), .val (.long q1), .second, .val (.long q2), .second, .val (.int (1023 : Int32)), .val (.int (own_s q1 q2))] [(.long (0 : Int64)), (.long (tab (((own_s q1 q2) * (3 : Int32)) + (2 : Int32))))])) _
    refine XS.lcmp X4.here hx rfl (hb hby d8_32) rfl ?_
    exact kt
  by_cases hc33 : (lcmpW (tab (((own_s q1 q2) * (3 : Int32)) + (2 : Int32))) (0 : Int64)) = (0 : Int32)
  · obtain ⟨fs, hr, hrun, hended, hW, hsame⟩ := X4.leave (v := some (.int ((own_s q1 q2) * (3 : Int32)))) (fun h => by rw [Bd.returns] at h; cases h)
    refine ⟨_, _, pre0 _ ?_, hrun, hended, _, _, rfl, ?_, ⟨_, rfl⟩, hW, hsame.mono (by decide) (by decide)⟩
    · refine k6 _ ?_
      show Steps p.tables e below (T4.setTop (mkF m 33 #[.val (.ref a0x), .val (.long q1), .second, .val (.long q2), .second, .val (.int (1023 : Int32)), .val (.int (own_s q1 q2))] [(.int (lcmpW (tab (((own_s q1 q2) * (3 : Int32)) + (2 : Int32))) (0 : Int64)))])) _
      refine XS.ifYes X4.here hx rfl (pc0 := 33) (pc' := 48) rfl (hb hby d8_33) rfl ((if0 _ _).trans (teq hc33).1) (by decide) (by decide) ?_
      show Steps p.tables e below (T4.setTop (mkF m 48 #[.val (.ref a0x), .val (.long q1), .second, .val (.long q2), .second, .val (.int (1023 : Int32)), .val (.int (own_s q1 q2))] [])) _
      refine XS.iload X4.here hx rfl (hb hby d8_48) rfl ?_
      show Steps p.tables e below (T4.setTop (mkF m 50 #[.val (.ref a0x), .val (.long q1), .second, .val (.long q2), .second, .val (.int (1023 : Int32)), .val (.int (own_s q1 q2))] [(.int (own_s q1 q2))])) _
      refine XS.iconst X4.here hx rfl (hb hby d8_50) ?_
      show Steps p.tables e below (T4.setTop (mkF m 51 #[.val (.ref a0x), .val (.long q1), .second, .val (.long q2), .second, .val (.int (1023 : Int32)), .val (.int (own_s q1 q2))] [(.int (3 : Int32)), (.int (own_s q1 q2))])) _
      refine XS.imul X4.here hx rfl (hb hby d8_51) rfl ?_
      show Steps p.tables e below (T4.setTop (mkF m 52 #[.val (.ref a0x), .val (.long q1), .second, .val (.long q2), .second, .val (.int (1023 : Int32)), .val (.int (own_s q1 q2))] [(.int ((own_s q1 q2) * (3 : Int32)))])) _
      exact retI X4 hx Bd.returns (hb hby d8_52) hr
    · show Q_rm_free Z a0x q1 q2 a1x tab h0 n0 _ T4.heap _
      rw [e4]
      exact ⟨(by simp [own_free, (own_lc0 _ _).mp hc33]), N3, rfl⟩
  · obtain ⟨T7, X7, e7, st7⟩ := getF X4 hx hZ hown (host := "") (Or.inl (hw _ (List.mem_of_getElem? (i := 10) rfl))) Via.refl e4 Ft (g := (mkF m 21 #[.val (.ref a0x), .val (.long q1), .second, .val (.long q2), .second, .val (.int (1023 : Int32)), .val (.int (own_n (own_s q1 q2)))] [(.ref a0x)])) rfl rfl (hb hby d8_21)
    obtain ⟨cl8, Ar8, S8, N8', H8⟩ := (id Vt)
    have hbd8 : ¬ (((own_n (own_s q1 q2)) * (3 : Int32)) + (2 : Int32)) < 0 ∧ (((own_n (own_s q1 q2)) * (3 : Int32)) + (2 : Int32)) < (3072 : Int32) := (own_b2 (own_nb _))
    have hin8 : ¬ ((((own_n (own_s q1 q2)) * (3 : Int32)) + (2 : Int32)) < 0 ∨ cl8.slots.size ≤ ((((own_n (own_s q1 q2)) * (3 : Int32)) + (2 : Int32))).toNatClampNeg) := inb_of S8 hbd8
    have hat8 : cl8.slots[((((own_n (own_s q1 q2)) * (3 : Int32)) + (2 : Int32))).toNatClampNeg]? = some (.long (tab (((own_n (own_s q1 q2)) * (3 : Int32)) + (2 : Int32)))) := H8 _ hbd8.1 hbd8.2
    have k9 : ∀ target, Steps p.tables e below (T7.setTop (mkF m 33 #[.val (.ref a0x), .val (.long q1), .second, .val (.long q2), .second, .val (.int (1023 : Int32)), .val (.int (own_n (own_s q1 q2)))] [(.int (lcmpW (tab (((own_n (own_s q1 q2)) * (3 : Int32)) + (2 : Int32))) (0 : Int64)))])) target → Steps p.tables e below (s₁.setTop (mkF m 0 #[.val (.ref a0x), .val (.long q1), .second, .val (.long q2), .second, .unset, .unset] [])) target := by
      intro target kt
      refine k6 _ ?_
      show Steps p.tables e below (T4.setTop (mkF m 33 #[.val (.ref a0x), .val (.long q1), .second, .val (.long q2), .second, .val (.int (1023 : Int32)), .val (.int (own_s q1 q2))] [(.int (lcmpW (tab (((own_s q1 q2) * (3 : Int32)) + (2 : Int32))) (0 : Int64)))])) _
      refine XS.ifNo X4.here hx rfl (hb hby d8_33) rfl ((if0 _ _).trans (feq hc33).1) ?_
      show Steps p.tables e below (T4.setTop (mkF m 36 #[.val (.ref a0x), .val (.long q1), .second, .val (.long q2), .second, .val (.int (1023 : Int32)), .val (.int (own_s q1 q2))] [])) _
      refine XS.iload X4.here hx rfl (hb hby d8_36) rfl ?_
      show Steps p.tables e below (T4.setTop (mkF m 38 #[.val (.ref a0x), .val (.long q1), .second, .val (.long q2), .second, .val (.int (1023 : Int32)), .val (.int (own_s q1 q2))] [(.int (own_s q1 q2))])) _
      refine XS.iconst X4.here hx rfl (hb hby d8_38) ?_
      show Steps p.tables e below (T4.setTop (mkF m 39 #[.val (.ref a0x), .val (.long q1), .second, .val (.long q2), .second, .val (.int (1023 : Int32)), .val (.int (own_s q1 q2))] [(.int (1 : Int32)), (.int (own_s q1 q2))])) _
      refine XS.iadd X4.here hx rfl (hb hby d8_39) rfl ?_
      show Steps p.tables e below (T4.setTop (mkF m 40 #[.val (.ref a0x), .val (.long q1), .second, .val (.long q2), .second, .val (.int (1023 : Int32)), .val (.int (own_s q1 q2))] [(.int ((own_s q1 q2) + (1 : Int32)))])) _
      refine XS.iload X4.here hx rfl (hb hby d8_40) rfl ?_
      show Steps p.tables e below (T4.setTop (mkF m 42 #[.val (.ref a0x), .val (.long q1), .second, .val (.long q2), .second, .val (.int (1023 : Int32)), .val (.int (own_s q1 q2))] [(.int (1023 : Int32)), (.int ((own_s q1 q2) + (1 : Int32)))])) _
      refine XS.iand X4.here hx rfl (hb hby d8_42) rfl ?_
      show Steps p.tables e below (T4.setTop (mkF m 43 #[.val (.ref a0x), .val (.long q1), .second, .val (.long q2), .second, .val (.int (1023 : Int32)), .val (.int (own_s q1 q2))] [(.int (((own_s q1 q2) + (1 : Int32)) &&& (1023 : Int32)))])) _
      refine XS.istore X4.here hx rfl (hb hby d8_43) rfl (l' := #[.val (.ref a0x), .val (.long q1), .second, .val (.long q2), .second, .val (.int (1023 : Int32)), .val (.int (((own_s q1 q2) + (1 : Int32)) &&& (1023 : Int32)))]) rfl ?_
      show Steps p.tables e below (T4.setTop (mkF m 45 #[.val (.ref a0x), .val (.long q1), .second, .val (.long q2), .second, .val (.int (1023 : Int32)), .val (.int (((own_s q1 q2) + (1 : Int32)) &&& (1023 : Int32)))] [])) _
      refine XS.goto X4.here hx rfl (pc0 := 45) (pc' := 20) rfl (hb hby d8_45) (by decide) (by decide) ?_
      show Steps p.tables e below (T4.setTop (mkF m 20 #[.val (.ref a0x), .val (.long q1), .second, .val (.long q2), .second, .val (.int (1023 : Int32)), .val (.int (own_n (own_s q1 q2)))] [])) _
      refine XS.aloadN X4.here hx rfl (hb hby d8_20) rfl rfl ?_
      show Steps p.tables e below (T4.setTop (mkF m 21 #[.val (.ref a0x), .val (.long q1), .second, .val (.long q2), .second, .val (.int (1023 : Int32)), .val (.int (own_n (own_s q1 q2)))] [(.ref a0x)])) _
      refine st7 _ ?_
      show Steps p.tables e below (T7.setTop (mkF m 24 #[.val (.ref a0x), .val (.long q1), .second, .val (.long q2), .second, .val (.int (1023 : Int32)), .val (.int (own_n (own_s q1 q2)))] [(.ref a1x)])) _
      refine XS.iload X7.here hx rfl (hb hby d8_24) rfl ?_
      show Steps p.tables e below (T7.setTop (mkF m 26 #[.val (.ref a0x), .val (.long q1), .second, .val (.long q2), .second, .val (.int (1023 : Int32)), .val (.int (own_n (own_s q1 q2)))] [(.int (own_n (own_s q1 q2))), (.ref a1x)])) _
      refine XS.iconst X7.here hx rfl (hb hby d8_26) ?_
      show Steps p.tables e below (T7.setTop (mkF m 27 #[.val (.ref a0x), .val (.long q1), .second, .val (.long q2), .second, .val (.int (1023 : Int32)), .val (.int (own_n (own_s q1 q2)))] [(.int (3 : Int32)), (.int (own_n (own_s q1 q2))), (.ref a1x)])) _
      refine XS.imul X7.here hx rfl (hb hby d8_27) rfl ?_
      show Steps p.tables e below (T7.setTop (mkF m 28 #[.val (.ref a0x), .val (.long q1), .second, .val (.long q2), .second, .val (.int (1023 : Int32)), .val (.int (own_n (own_s q1 q2)))] [(.int ((own_n (own_s q1 q2)) * (3 : Int32))), (.ref a1x)])) _
      refine XS.iconst X7.here hx rfl (hb hby d8_28) ?_
      show Steps p.tables e below (T7.setTop (mkF m 29 #[.val (.ref a0x), .val (.long q1), .second, .val (.long q2), .second, .val (.int (1023 : Int32)), .val (.int (own_n (own_s q1 q2)))] [(.int (2 : Int32)), (.int ((own_n (own_s q1 q2)) * (3 : Int32))), (.ref a1x)])) _
      refine XS.iadd X7.here hx rfl (hb hby d8_29) rfl ?_
      show Steps p.tables e below (T7.setTop (mkF m 30 #[.val (.ref a0x), .val (.long q1), .second, .val (.long q2), .second, .val (.int (1023 : Int32)), .val (.int (own_n (own_s q1 q2)))] [(.int (((own_n (own_s q1 q2)) * (3 : Int32)) + (2 : Int32))), (.ref a1x)])) _
      refine X7.laload hx (j := (((own_n (own_s q1 q2)) * (3 : Int32)) + (2 : Int32))) (v := (.long (tab (((own_n (own_s q1 q2)) * (3 : Int32)) + (2 : Int32))))) (by rw [e7]; exact Ar8.1) (State.isArrayOf_alike hZ.alike Ar8.2.1) Ar8.2.2 hin8 hat8 (g := (mkF m 30 #[.val (.ref a0x), .val (.long q1), .second, .val (.long q2), .second, .val (.int (1023 : Int32)), .val (.int (own_n (own_s q1 q2)))] [(.int (((own_n (own_s q1 q2)) * (3 : Int32)) + (2 : Int32))), (.ref a1x)])) rfl rfl (hb hby d8_30) _ ?_
      show Steps p.tables e below (T7.setTop (mkF m 31 #[.val (.ref a0x), .val (.long q1), .second, .val (.long q2), .second, .val (.int (1023 : Int32)), .val (.int (own_n (own_s q1 q2)))] [(.long (tab (((own_n (own_s q1 q2)) * (3 : Int32)) + (2 : Int32))))])) _
      refine XS.lconst X7.here hx rfl (hb hby d8_31) ?_
      show Steps p.tables e below (T7.setTop (mkF m 32 #[.val (.ref a0x), .val (.long q1), .second, .val (.long q2), .second, .val (.int (1023 : Int32)), .val (.int (own_n (own_s q1 q2)))] [(.long (0 : Int64)), (.long (tab (((own_n (own_s q1 q2)) * (3 : Int32)) + (2 : Int32))))])) _
      refine XS.lcmp X7.here hx rfl (hb hby d8_32) rfl ?_
      exact kt
    by_cases hc33_10 : (lcmpW (tab (((own_n (own_s q1 q2)) * (3 : Int32)) + (2 : Int32))) (0 : Int64)) = (0 : Int32)
    · obtain ⟨fs, hr, hrun, hended, hW, hsame⟩ := X7.leave (v := some (.int ((own_n (own_s q1 q2)) * (3 : Int32)))) (fun h => by rw [Bd.returns] at h; cases h)
      refine ⟨_, _, pre0 _ ?_, hrun, hended, _, _, rfl, ?_, ⟨_, rfl⟩, hW, hsame.mono (by decide) (by decide)⟩
      · refine k9 _ ?_
        show Steps p.tables e below (T7.setTop (mkF m 33 #[.val (.ref a0x), .val (.long q1), .second, .val (.long q2), .second, .val (.int (1023 : Int32)), .val (.int (own_n (own_s q1 q2)))] [(.int (lcmpW (tab (((own_n (own_s q1 q2)) * (3 : Int32)) + (2 : Int32))) (0 : Int64)))])) _
        refine XS.ifYes X7.here hx rfl (pc0 := 33) (pc' := 48) rfl (hb hby d8_33) rfl ((if0 _ _).trans (teq hc33_10).1) (by decide) (by decide) ?_
        show Steps p.tables e below (T7.setTop (mkF m 48 #[.val (.ref a0x), .val (.long q1), .second, .val (.long q2), .second, .val (.int (1023 : Int32)), .val (.int (own_n (own_s q1 q2)))] [])) _
        refine XS.iload X7.here hx rfl (hb hby d8_48) rfl ?_
        show Steps p.tables e below (T7.setTop (mkF m 50 #[.val (.ref a0x), .val (.long q1), .second, .val (.long q2), .second, .val (.int (1023 : Int32)), .val (.int (own_n (own_s q1 q2)))] [(.int (own_n (own_s q1 q2)))])) _
        refine XS.iconst X7.here hx rfl (hb hby d8_50) ?_
        show Steps p.tables e below (T7.setTop (mkF m 51 #[.val (.ref a0x), .val (.long q1), .second, .val (.long q2), .second, .val (.int (1023 : Int32)), .val (.int (own_n (own_s q1 q2)))] [(.int (3 : Int32)), (.int (own_n (own_s q1 q2)))])) _
        refine XS.imul X7.here hx rfl (hb hby d8_51) rfl ?_
        show Steps p.tables e below (T7.setTop (mkF m 52 #[.val (.ref a0x), .val (.long q1), .second, .val (.long q2), .second, .val (.int (1023 : Int32)), .val (.int (own_n (own_s q1 q2)))] [(.int ((own_n (own_s q1 q2)) * (3 : Int32)))])) _
        exact retI X7 hx Bd.returns (hb hby d8_52) hr
      · show Q_rm_free Z a0x q1 q2 a1x tab h0 n0 _ T7.heap _
        rw [e7]
        exact ⟨(by simp [own_free, mt (own_lc0 _ _).mpr hc33, (own_lc0 _ _).mp hc33_10]), N3, rfl⟩
    · exact (hok.elim (fun q => hc33 ((own_lc0 _ _).mpr q)) (fun q => hc33_10 ((own_lc0 _ _).mpr q))).elim
theorem d9_0 : decode prog_38_method_3_code 0 = .ok (.aload_n 0, 1) := by decide +kernel
theorem d9_1 : decode prog_38_method_3_code 1 = .ok (.getfield 9, 3) := by decide +kernel
theorem d9_4 : decode prog_38_method_3_code 4 = .ok (.iload_n 1, 1) := by decide +kernel
theorem d9_5 : decode prog_38_method_3_code 5 = .ok (.iconst 2, 1) := by decide +kernel
theorem d9_6 : decode prog_38_method_3_code 6 = .ok (.iadd, 1) := by decide +kernel
theorem d9_7 : decode prog_38_method_3_code 7 = .ok (.laload, 1) := by decide +kernel
theorem d9_8 : decode prog_38_method_3_code 8 = .ok (.bipush 32, 2) := by decide +kernel
theorem d9_10 : decode prog_38_method_3_code 10 = .ok (.lshr, 1) := by decide +kernel
theorem d9_11 : decode prog_38_method_3_code 11 = .ok (.l2i, 1) := by decide +kernel
theorem d9_12 : decode prog_38_method_3_code 12 = .ok (.ireturn, 1) := by decide +kernel
theorem ef_9 (m : MethodId) (x0 : Addr) (x1 : Int32) : entryFrame m #[(.ref x0), (.int x1)] 2 = mkF m 0 #[.val (.ref x0), .val (.int x1)] [] := by first | (simp [entryFrame, mkF, argsToLocals, Value.category]; done) | rfl
def Q_rm_value (Z : State) (a0x : Addr) (p1 : Int32) (a1x : Addr) (tab : Int32 → Int64) (h0 : Heap) (n0 : Nat) (v : Option Value) (h : Heap) (L : List Loc) : Prop := v = some (.int ((tab (p1 + (2 : Int32))) >>> ((32 : Int32) &&& 0x3f).toInt64).toInt32) ∧ Fr n0 L ∧ h = h0
set_option maxRecDepth 65536 in
set_option maxHeartbeats 40000000 in
theorem rm_value (l : Launch) (Z : State) (a0 : Array Value) (hw : ∀ d ∈ tables_1, d.before a0 Z = true) (ws : List Jvm.Cond) (a0x : Addr) (p1 : Int32) (a1x : Addr) (tab : Int32 → Int64) (h0 : Heap) (n0 : Nat) (Z0 : n0 ≤ h0.size) (Ft : Fld Z h0 a0x "com/example/outcry/outcry/allocation/Memo" "table" "[J" (.ref a1x)) (Vt : own_Tab Z h0 a1x .long (3072 : Int32) (fun j => .long (tab j))) (hbv : ¬ (p1 + (2 : Int32)) < 0 ∧ (p1 + (2 : Int32)) < (3072 : Int32)) :
    MetFree l (⟨"com/example/outcry/outcry/allocation/Memo", "value", "(I)I"⟩ : MethodName) (head1 (Jvm.Cond.code (⟨"com/example/outcry/outcry/allocation/Memo", "value", "(I)I"⟩ : MethodName) prog_38_method_3_code 2 (some .int) :: ws) ({ frames := 0, cells := 0, slots := 0, locals := 0 } : Room)) (fun a U => a = #[(.ref a0x), (.int p1)] ∧ Z.Warmed39 U.vm ∧ U.heap = h0) (fun _ _ _ _ _ => True) (fun _ U o U' => ∃ v L, o = .returned v ∧ Q_rm_value Z a0x p1 a1x tab h0 n0 v U'.heap L ∧ FrameEnd U o U' L ({ frames := 0, cells := 0, slots := 0, locals := 0 } : Room).cells ({ frames := 0, cells := 0, slots := 0, locals := 0 } : Room).slots) := by
  refine MetFree.of_bodySF (plainFor_of_name pn_0) hisR ?_
  intro p e s m args below meth c s₁ Bd hml0 hP hK
  obtain ⟨rfl, hZ, hh⟩ := hP
  have hx := Bd.exec
  have hby := Bd.bytes
  have hml : c.maxLocals = 2 := hml0
  have hown : s.vm.findClass "com/example/outcry/outcry/allocation/Memo" = some m.cls := findClass_of_methodNamed Bd.named
  have hnm := (name_of_methodNamed Bd.named Bd.method).1
  have X0 : Stand p l e ({ frames := 0, cells := 0, slots := 0, locals := 0 } : Room) s m #[(.ref a0x), (.int p1)] below meth c s₁ [] 0 0 := Stand.of_body Bd
  have e0 : s₁.heap = h0 := by rw [← hh, Bd.state]; rfl
  have N0 := Fr.nil n0
  have pre0 : ∀ t, Steps p.tables e below (s₁.setTop (mkF m 0 #[.val (.ref a0x), .val (.int p1)] [])) t → Steps p.tables e below (s₁.setTop (entryFrame m #[(.ref a0x), (.int p1)] 2)) t := fun t k => castTop (ef_9 m a0x p1) k
  obtain ⟨T1, X1, e1, st1⟩ := getF X0 hx hZ hown (host := "") (Or.inl (hw _ (List.mem_of_getElem? (i := 10) rfl))) Via.refl e0 Ft (g := (mkF m 1 #[.val (.ref a0x), .val (.int p1)] [(.ref a0x)])) rfl rfl (hb hby d9_1)
  obtain ⟨cl2, Ar2, S2, N2', H2⟩ := (id Vt)
  have hbd2 : ¬ (p1 + (2 : Int32)) < 0 ∧ (p1 + (2 : Int32)) < (3072 : Int32) := hbv
  have hin2 : ¬ ((p1 + (2 : Int32)) < 0 ∨ cl2.slots.size ≤ ((p1 + (2 : Int32))).toNatClampNeg) := inb_of S2 hbd2
  have hat2 : cl2.slots[((p1 + (2 : Int32))).toNatClampNeg]? = some (.long (tab (p1 + (2 : Int32)))) := H2 _ hbd2.1 hbd2.2
  obtain ⟨fs, hr, hrun, hended, hW, hsame⟩ := X1.leave (v := some (.int ((tab (p1 + (2 : Int32))) >>> ((32 : Int32) &&& 0x3f).toInt64).toInt32)) (fun h => by rw [Bd.returns] at h; cases h)
  refine ⟨_, _, pre0 _ ?_, hrun, hended, _, _, rfl, ?_, ⟨_, rfl⟩, hW, hsame.mono (by decide) (by decide)⟩
  · show Steps p.tables e below (s₁.setTop (mkF m 0 #[.val (.ref a0x), .val (.int p1)] [])) _
    refine XS.aloadN X0.here hx rfl (hb hby d9_0) rfl rfl ?_
    show Steps p.tables e below (s₁.setTop (mkF m 1 #[.val (.ref a0x), .val (.int p1)] [(.ref a0x)])) _
    refine st1 _ ?_
    show Steps p.tables e below (T1.setTop (mkF m 4 #[.val (.ref a0x), .val (.int p1)] [(.ref a1x)])) _
    refine XS.iloadN X1.here hx rfl (hb hby d9_4) rfl ?_
    show Steps p.tables e below (T1.setTop (mkF m 5 #[.val (.ref a0x), .val (.int p1)] [(.int p1), (.ref a1x)])) _
    refine XS.iconst X1.here hx rfl (hb hby d9_5) ?_
    show Steps p.tables e below (T1.setTop (mkF m 6 #[.val (.ref a0x), .val (.int p1)] [(.int (2 : Int32)), (.int p1), (.ref a1x)])) _
    refine XS.iadd X1.here hx rfl (hb hby d9_6) rfl ?_
    show Steps p.tables e below (T1.setTop (mkF m 7 #[.val (.ref a0x), .val (.int p1)] [(.int (p1 + (2 : Int32))), (.ref a1x)])) _
    refine X1.laload hx (j := (p1 + (2 : Int32))) (v := (.long (tab (p1 + (2 : Int32))))) (by rw [e1]; exact Ar2.1) (State.isArrayOf_alike hZ.alike Ar2.2.1) Ar2.2.2 hin2 hat2 (g := (mkF m 7 #[.val (.ref a0x), .val (.int p1)] [(.int (p1 + (2 : Int32))), (.ref a1x)])) rfl rfl (hb hby d9_7) _ ?_
    show Steps p.tables e below (T1.setTop (mkF m 8 #[.val (.ref a0x), .val (.int p1)] [(.long (tab (p1 + (2 : Int32))))])) _
    refine XS.bipush X1.here hx rfl (hb hby d9_8) ?_
    show Steps p.tables e below (T1.setTop (mkF m 10 #[.val (.ref a0x), .val (.int p1)] [(.int (32 : Int32)), (.long (tab (p1 + (2 : Int32))))])) _
    refine XS.lshr X1.here hx rfl (hb hby d9_10) rfl ?_
    show Steps p.tables e below (T1.setTop (mkF m 11 #[.val (.ref a0x), .val (.int p1)] [(.long ((tab (p1 + (2 : Int32))) >>> ((32 : Int32) &&& 0x3f).toInt64))])) _
    refine XS.l2i X1.here hx rfl (hb hby d9_11) rfl ?_
    show Steps p.tables e below (T1.setTop (mkF m 12 #[.val (.ref a0x), .val (.int p1)] [(.int ((tab (p1 + (2 : Int32))) >>> ((32 : Int32) &&& 0x3f).toInt64).toInt32)])) _
    exact retI X1 hx Bd.returns (hb hby d9_12) hr
  · show Q_rm_value Z a0x p1 a1x tab h0 n0 _ T1.heap _
    rw [e1]
    exact ⟨rfl, N0, rfl⟩
theorem d5_0 : decode prog_38_method_8_code 0 = .ok (.aload_n 0, 1) := by decide +kernel
theorem d5_1 : decode prog_38_method_8_code 1 = .ok (.lload_n 1, 1) := by decide +kernel
theorem d5_2 : decode prog_38_method_8_code 2 = .ok (.lload_n 3, 1) := by decide +kernel
theorem d5_3 : decode prog_38_method_8_code 3 = .ok (.invokevirtual 27, 3) := by decide +kernel
theorem pd_1 : parseMethodDescriptor "(JJ)I" = some ⟨[.long, .long], some .int⟩ := by decide +kernel
theorem d5_6 : decode prog_38_method_8_code 6 = .ok (.istore 7, 2) := by decide +kernel
theorem d5_8 : decode prog_38_method_8_code 8 = .ok (.iload 7, 2) := by decide +kernel
theorem d5_10 : decode prog_38_method_8_code 10 = .ok (.ifCond .ge 61, 3) := by decide +kernel
theorem d5_13 : decode prog_38_method_8_code 13 = .ok (.iconst 2, 1) := by decide +kernel
theorem d5_14 : decode prog_38_method_8_code 14 = .ok (.aload_n 0, 1) := by decide +kernel
theorem d5_15 : decode prog_38_method_8_code 15 = .ok (.getfield 31, 3) := by decide +kernel
theorem d5_18 : decode prog_38_method_8_code 18 = .ok (.iconst 1, 1) := by decide +kernel
theorem d5_19 : decode prog_38_method_8_code 19 = .ok (.iadd, 1) := by decide +kernel
theorem d5_20 : decode prog_38_method_8_code 20 = .ok (.imul, 1) := by decide +kernel
theorem d5_21 : decode prog_38_method_8_code 21 = .ok (.aload_n 0, 1) := by decide +kernel
theorem d5_22 : decode prog_38_method_8_code 22 = .ok (.getfield 9, 3) := by decide +kernel
theorem d5_25 : decode prog_38_method_8_code 25 = .ok (.arraylength, 1) := by decide +kernel
theorem d5_26 : decode prog_38_method_8_code 26 = .ok (.iconst 3, 1) := by decide +kernel
theorem d5_27 : decode prog_38_method_8_code 27 = .ok (.idiv, 1) := by decide +kernel
theorem d5_28 : decode prog_38_method_8_code 28 = .ok (.if_icmp .le 7, 3) := by decide +kernel
theorem d5_35 : decode prog_38_method_8_code 35 = .ok (.aload_n 0, 1) := by decide +kernel
theorem d5_36 : decode prog_38_method_8_code 36 = .ok (.lload_n 1, 1) := by decide +kernel
theorem d5_37 : decode prog_38_method_8_code 37 = .ok (.lload_n 3, 1) := by decide +kernel
theorem d5_38 : decode prog_38_method_8_code 38 = .ok (.invokevirtual 38, 3) := by decide +kernel
theorem d5_41 : decode prog_38_method_8_code 41 = .ok (.istore 7, 2) := by decide +kernel
theorem d5_43 : decode prog_38_method_8_code 43 = .ok (.aload_n 0, 1) := by decide +kernel
theorem d5_44 : decode prog_38_method_8_code 44 = .ok (.getfield 9, 3) := by decide +kernel
theorem d5_47 : decode prog_38_method_8_code 47 = .ok (.iload 7, 2) := by decide +kernel
theorem d5_49 : decode prog_38_method_8_code 49 = .ok (.lload_n 1, 1) := by decide +kernel
theorem d5_50 : decode prog_38_method_8_code 50 = .ok (.lastore, 1) := by decide +kernel
theorem d5_51 : decode prog_38_method_8_code 51 = .ok (.aload_n 0, 1) := by decide +kernel
theorem d5_52 : decode prog_38_method_8_code 52 = .ok (.getfield 9, 3) := by decide +kernel
theorem d5_55 : decode prog_38_method_8_code 55 = .ok (.iload 7, 2) := by decide +kernel
theorem d5_57 : decode prog_38_method_8_code 57 = .ok (.iconst 1, 1) := by decide +kernel
theorem d5_58 : decode prog_38_method_8_code 58 = .ok (.iadd, 1) := by decide +kernel
theorem d5_59 : decode prog_38_method_8_code 59 = .ok (.lload_n 3, 1) := by decide +kernel
theorem d5_60 : decode prog_38_method_8_code 60 = .ok (.lastore, 1) := by decide +kernel
theorem d5_61 : decode prog_38_method_8_code 61 = .ok (.aload_n 0, 1) := by decide +kernel
theorem d5_62 : decode prog_38_method_8_code 62 = .ok (.dup, 1) := by decide +kernel
theorem d5_63 : decode prog_38_method_8_code 63 = .ok (.getfield 31, 3) := by decide +kernel
theorem d5_66 : decode prog_38_method_8_code 66 = .ok (.iconst 1, 1) := by decide +kernel
theorem d5_67 : decode prog_38_method_8_code 67 = .ok (.iadd, 1) := by decide +kernel
theorem d5_68 : decode prog_38_method_8_code 68 = .ok (.putfield 31, 3) := by decide +kernel
theorem d5_71 : decode prog_38_method_8_code 71 = .ok (.aload_n 0, 1) := by decide +kernel
theorem d5_72 : decode prog_38_method_8_code 72 = .ok (.getfield 9, 3) := by decide +kernel
theorem d5_75 : decode prog_38_method_8_code 75 = .ok (.iload 7, 2) := by decide +kernel
theorem d5_77 : decode prog_38_method_8_code 77 = .ok (.iconst 2, 1) := by decide +kernel
theorem d5_78 : decode prog_38_method_8_code 78 = .ok (.iadd, 1) := by decide +kernel
theorem d5_79 : decode prog_38_method_8_code 79 = .ok (.lload 5, 2) := by decide +kernel
theorem d5_81 : decode prog_38_method_8_code 81 = .ok (.lastore, 1) := by decide +kernel
theorem d5_82 : decode prog_38_method_8_code 82 = .ok (.return_, 1) := by decide +kernel
theorem ef_5 (m : MethodId) (x0 : Addr) (x1 : Int64) (x2 : Int64) (x3 : Int64) : entryFrame m #[(.ref x0), (.long x1), (.long x2), (.long x3)] 8 = mkF m 0 #[.val (.ref x0), .val (.long x1), .second, .val (.long x2), .second, .val (.long x3), .second, .unset] [] := by first | (simp [entryFrame, mkF, argsToLocals, Value.category]; done) | rfl
def Q_rm_put (Z : State) (a0x : Addr) (q1 : Int64) (q2 : Int64) (q3 : Int64) (a1x : Addr) (tab : Int32 → Int64) (qs : Int32) (h0 : Heap) (n0 : Nat) (v : Option Value) (h : Heap) (L : List Loc) : Prop := v = none ∧ Fr n0 L ∧ Keep h0 h [a0x, a1x] ∧ Fld Z h a0x "com/example/outcry/outcry/allocation/Memo" "table" "[J" (.ref a1x) ∧ Fld Z h a0x "com/example/outcry/outcry/allocation/Memo" "size" "I" (.int (own_szz tab q1 q2 qs)) ∧ own_Tab Z h a1x .long (3072 : Int32) (fun j => .long ((own_put tab q1 q2 q3) j))
set_option maxRecDepth 65536 in
set_option maxHeartbeats 40000000 in
theorem rm_put (l : Launch) (Z : State) (a0 : Array Value) (hw : ∀ d ∈ tables_1, d.before a0 Z = true) (ws : List Jvm.Cond) (a0x : Addr) (q1 : Int64) (q2 : Int64) (q3 : Int64) (a1x : Addr) (tab : Int32 → Int64) (qs : Int32) (h0 : Heap) (n0 : Nat) (Z0 : n0 ≤ h0.size) (Ft : Fld Z h0 a0x "com/example/outcry/outcry/allocation/Memo" "table" "[J" (.ref a1x)) (Vt : own_Tab Z h0 a1x .long (3072 : Int32) (fun j => .long (tab j))) (E0x : Exa Z h0 a0x "com/example/outcry/outcry/allocation/Memo") (g0x : n0 ≤ a0x) (g1x : n0 ≤ a1x) (ne01 : a0x ≠ a1x) (Fs : Fld Z h0 a0x "com/example/outcry/outcry/allocation/Memo" "size" "I" (.int qs)) (hok : own_ok tab q1 q2) (hok2 : own_find tab q1 q2 < 0 → own_ok2 tab q1 q2) (hq : ¬ (((3072 : Int32) / (3 : Int32)) < ((2 : Int32) * (qs + (1 : Int32))))) :
    MetFree l (⟨"com/example/outcry/outcry/allocation/Memo", "put", "(JJJ)V"⟩ : MethodName) (head1 (Jvm.Cond.code (⟨"com/example/outcry/outcry/allocation/Memo", "put", "(JJJ)V"⟩ : MethodName) prog_38_method_8_code 8 none :: ws) ({ frames := 2, cells := 0, slots := 0, locals := 37 } : Room)) (fun a U => a = #[(.ref a0x), (.long q1), (.long q2), (.long q3)] ∧ Z.Warmed39 U.vm ∧ U.heap = h0) (fun _ _ _ _ _ => True) (fun _ U o U' => ∃ v L, o = .returned v ∧ Q_rm_put Z a0x q1 q2 q3 a1x tab qs h0 n0 v U'.heap L ∧ FrameEnd U o U' L ({ frames := 2, cells := 0, slots := 0, locals := 37 } : Room).cells ({ frames := 2, cells := 0, slots := 0, locals := 37 } : Room).slots) := by
  refine MetFree.of_bodySF (plainFor_of_name pn_0) hisR ?_
  intro p e s m args below meth c s₁ Bd hml0 hP hK
  obtain ⟨rfl, hZ, hh⟩ := hP
  have hx := Bd.exec
  have hby := Bd.bytes
  have hml : c.maxLocals = 8 := hml0
  have hown : s.vm.findClass "com/example/outcry/outcry/allocation/Memo" = some m.cls := findClass_of_methodNamed Bd.named
  have hnm := (name_of_methodNamed Bd.named Bd.method).1
  have X0 : Stand p l e ({ frames := 2, cells := 0, slots := 0, locals := 37 } : Room) s m #[(.ref a0x), (.long q1), (.long q2), (.long q3)] below meth c s₁ [] 0 0 := Stand.of_body Bd
  have e0 : s₁.heap = h0 := by rw [← hh, Bd.state]; rfl
  have N0 := Fr.nil n0
  have K0 : Keep h0 h0 [a0x, a1x] := Keep.refl h0 [a0x, a1x]
  have pre0 : ∀ t, Steps p.tables e below (s₁.setTop (mkF m 0 #[.val (.ref a0x), .val (.long q1), .second, .val (.long q2), .second, .val (.long q3), .second, .unset] [])) t → Steps p.tables e below (s₁.setTop (entryFrame m #[(.ref a0x), (.long q1), (.long q2), (.long q3)] 8)) t := fun t k => castTop (ef_5 m a0x q1 q2 q3) k
  obtain ⟨cq1, kq1, q1a, q1b, q1c⟩ := isOf hZ e0 E0x
  obtain ⟨_, _, ⟨T1, L1, k1, n1⟩, -, X1, ⟨Lc1, hQ1, l1, y1, z1⟩, st1⟩ := X0.virtualBack hx (y := (⟨"com/example/outcry/outcry/allocation/Memo", "find", "(JJ)I"⟩ : MethodName)) (z := (⟨"com/example/outcry/outcry/allocation/Memo", "find", "(JJ)I"⟩ : MethodName)) hown (mvT hZ (hw _ (List.mem_of_getElem? (i := 26) rfl))) (mvT hZ (hw _ (List.mem_of_getElem? (i := 27) rfl))) (notFace_of_selects (args := #[]) (mvT hZ (hw _ (List.mem_of_getElem? (i := 29) rfl)))) (mvT hZ (hw _ (List.mem_of_getElem? (i := 29) rfl))) (mvT hZ (hw _ (List.mem_of_getElem? (i := 28) rfl))) (by decide) (backOf (W := 0) (rm_find l Z a0 hw [] a0x q1 q2 a1x tab h0 n0 Z0 Ft Vt hok) hZ (hw _ (List.mem_of_getElem? (i := 30) rfl)) (hw _ (List.mem_of_getElem? (i := 2) rfl)) (by decide) (by decide)) q1a q1c (g := (mkF m 3 #[.val (.ref a0x), .val (.long q1), .second, .val (.long q2), .second, .val (.long q3), .second, .unset] [(.long q2), (.long q1), (.ref a0x)])) rfl (by rw [hml]; rfl) (Steps.refl _) (argsL := [(.long q1), (.long q2)]) (rest := []) (lenOf pd_1 rfl) rfl (by show 2 * 0 + _ ≤ _; exact Nat.le_of_eq rfl) (hb hby d5_3) (fun _ _ => ⟨rfl, e0, (by decide : 0 + 0 ≤ _), (by decide : 0 + 0 ≤ _)⟩)
  dsimp only [Pt.U, Pt.locs, Pt.cells, Pt.slots] at X1 l1 y1 z1 st1 hQ1
  subst l1 y1 z1
  obtain ⟨rfl, N1q, e1⟩ := hQ1
  have N1 := Fr.app N0 N1q
  have k2 : ∀ target, Steps p.tables e below (T1.setTop (mkF m 10 #[.val (.ref a0x), .val (.long q1), .second, .val (.long q2), .second, .val (.long q3), .second, .val (.int (own_find tab q1 q2))] [(.int (own_find tab q1 q2))])) target → Steps p.tables e below (s₁.setTop (mkF m 0 #[.val (.ref a0x), .val (.long q1), .second, .val (.long q2), .second, .val (.long q3), .second, .unset] [])) target := by
    intro target kt
    show Steps p.tables e below (s₁.setTop (mkF m 0 #[.val (.ref a0x), .val (.long q1), .second, .val (.long q2), .second, .val (.long q3), .second, .unset] [])) _
    refine XS.aloadN X0.here hx rfl (hb hby d5_0) rfl rfl ?_
    show Steps p.tables e below (s₁.setTop (mkF m 1 #[.val (.ref a0x), .val (.long q1), .second, .val (.long q2), .second, .val (.long q3), .second, .unset] [(.ref a0x)])) _
    refine XS.lloadN X0.here hx rfl (hb hby d5_1) rfl ?_
    show Steps p.tables e below (s₁.setTop (mkF m 2 #[.val (.ref a0x), .val (.long q1), .second, .val (.long q2), .second, .val (.long q3), .second, .unset] [(.long q1), (.ref a0x)])) _
    refine XS.lloadN X0.here hx rfl (hb hby d5_2) rfl ?_
    show Steps p.tables e below (s₁.setTop (mkF m 3 #[.val (.ref a0x), .val (.long q1), .second, .val (.long q2), .second, .val (.long q3), .second, .unset] [(.long q2), (.long q1), (.ref a0x)])) _
    refine st1.trans ?_
    show Steps p.tables e below (T1.setTop (mkF m 6 #[.val (.ref a0x), .val (.long q1), .second, .val (.long q2), .second, .val (.long q3), .second, .unset] [(.int (own_find tab q1 q2))])) _
    refine XS.istore X1.here hx rfl (hb hby d5_6) rfl (l' := #[.val (.ref a0x), .val (.long q1), .second, .val (.long q2), .second, .val (.long q3), .second, .val (.int (own_find tab q1 q2))]) rfl ?_
    show Steps p.tables e below (T1.setTop (mkF m 8 #[.val (.ref a0x), .val (.long q1), .second, .val (.long q2), .second, .val (.long q3), .second, .val (.int (own_find tab q1 q2))] [])) _
    refine XS.iload X1.here hx rfl (hb hby d5_8) rfl ?_
    exact kt
  by_cases hc10 : (own_find tab q1 q2) < (0 : Int32)
  · obtain ⟨T3, X3, e3, st3⟩ := getF X1 hx hZ hown (host := "") (Or.inl (hw _ (List.mem_of_getElem? (i := 36) rfl))) Via.refl e1 Fs (g := (mkF m 15 #[.val (.ref a0x), .val (.long q1), .second, .val (.long q2), .second, .val (.long q3), .second, .val (.int (own_find tab q1 q2))] [(.ref a0x), (.int (2 : Int32))])) rfl rfl (hb hby d5_15)
    obtain ⟨T4, X4, e4, st4⟩ := getF X3 hx hZ hown (host := "") (Or.inl (hw _ (List.mem_of_getElem? (i := 10) rfl))) Via.refl e3 Ft (g := (mkF m 22 #[.val (.ref a0x), .val (.long q1), .second, .val (.long q2), .second, .val (.long q3), .second, .val (.int (own_find tab q1 q2))] [(.ref a0x), (.int ((2 : Int32) * (qs + (1 : Int32))))])) rfl rfl (hb hby d5_22)
    obtain ⟨cl5, Ar5, S5, N5', H5⟩ := (id Vt)
    obtain ⟨cq6, qv6, qv6'⟩ := E0x.cell
    obtain ⟨_, _, ⟨T6, L6, k6, n6⟩, -, X6, ⟨Lc6, hQ6, l6, y6, z6⟩, st6⟩ := X4.privateBack hx (y := (⟨"com/example/outcry/outcry/allocation/Memo", "free", "(JJ)I"⟩ : MethodName)) hown (mvT hZ (hw _ (List.mem_of_getElem? (i := 38) rfl))) (mvT hZ (hw _ (List.mem_of_getElem? (i := 39) rfl))) (own_selp (by decide) (mvT hZ (hw _ (List.mem_of_getElem? (i := 1) rfl))) (mvP hZ (hw _ (List.mem_of_getElem? (i := 40) rfl))) (mvT hZ (hw _ (List.mem_of_getElem? (i := 39) rfl)))) (Cond.privateMethod_at (mvP hZ (hw _ (List.mem_of_getElem? (i := 40) rfl)) (args := #[]))) (mvT hZ (hw _ (List.mem_of_getElem? (i := 41) rfl))) (by decide) (backOf (W := 0) (rm_free l Z a0 hw [] a0x q1 q2 a1x tab h0 n0 Z0 Ft Vt (hok2 hc10)) hZ (hw _ (List.mem_of_getElem? (i := 41) rfl)) (hw _ (List.mem_of_getElem? (i := 2) rfl)) (by decide) (by decide)) (g := (mkF m 38 #[.val (.ref a0x), .val (.long q1), .second, .val (.long q2), .second, .val (.long q3), .second, .val (.int (own_find tab q1 q2))] [(.long q2), (.long q1), (.ref a0x)])) rfl (by rw [hml]; rfl) (Steps.refl _) (a := a0x) (by rw [e4]; exact qv6) qv6' (argsL := [(.long q1), (.long q2)]) (rest := []) (lenOf pd_1 rfl) rfl (by show 2 * 0 + _ ≤ _; exact Nat.le_of_eq rfl) (hb hby d5_38) (fun _ _ => ⟨rfl, e4, (by decide : 0 + 0 ≤ _), (by decide : 0 + 0 ≤ _)⟩)
    dsimp only [Pt.U, Pt.locs, Pt.cells, Pt.slots] at X6 l6 y6 z6 st6 hQ6
    subst l6 y6 z6
    obtain ⟨rfl, N6q, e6⟩ := hQ6
    have N6 := Fr.app N1 N6q
    obtain ⟨T7, X7, e7, st7⟩ := getF X6 hx hZ hown (host := "") (Or.inl (hw _ (List.mem_of_getElem? (i := 10) rfl))) Via.refl e6 Ft (g := (mkF m 44 #[.val (.ref a0x), .val (.long q1), .second, .val (.long q2), .second, .val (.long q3), .second, .val (.int (own_free tab q1 q2))] [(.ref a0x)])) rfl rfl (hb hby d5_44)
    obtain ⟨cl8, Ar8, S8, N8', H8⟩ := (id Vt)
    have hin8 : ¬ ((own_free tab q1 q2) < 0 ∨ cl8.slots.size ≤ ((own_free tab q1 q2)).toNatClampNeg) := inb_of S8 (own_fb0 _ _ _)
    obtain ⟨T9, h9, X9, e9, W9, st9⟩ := stJ X7 hx hZ e7 Ar8 (j := (own_free tab q1 q2)) hin8 (g := (mkF m 50 #[.val (.ref a0x), .val (.long q1), .second, .val (.long q2), .second, .val (.long q3), .second, .val (.int (own_free tab q1 q2))] [(.long q1), (.int (own_free tab q1 q2)), (.ref a1x)])) rfl rfl (hb hby d5_50)
    have V9 : own_Tab Z h9 a1x .long (3072 : Int32) (fun j => .long ((fun i => if i = (own_free tab q1 q2) then q1 else tab i) j)) := (own_Tab.set Ar8 S8 N8' H8 hin8 W9).cong (fun j _ _ => by dsimp only; split <;> rfl)
    have N9 := Fr.snoc X9 N6 g1x
    have E0x_9 : Exa Z h9 a0x "com/example/outcry/outcry/allocation/Memo" := E0x.wr W9
    have Ft_9 : Fld Z h9 a0x "com/example/outcry/outcry/allocation/Memo" "table" "[J" (.ref a1x) := Ft.other W9 (Or.inl ne01)
    have Fs_9 : Fld Z h9 a0x "com/example/outcry/outcry/allocation/Memo" "size" "I" (.int qs) := Fs.other W9 (Or.inl ne01)
    have Z9 : n0 ≤ h9.size := Nat.le_trans Z0 (Keep.of_wr W9).1
    have K9 : Keep h0 h9 [a0x, a1x] := K0.wr W9 (Or.inl (List.mem_of_getElem? (i := 1) rfl))
    obtain ⟨T10, X10, e10, st10⟩ := getF X9 hx hZ hown (host := "") (Or.inl (hw _ (List.mem_of_getElem? (i := 10) rfl))) Via.refl e9 Ft_9 (g := (mkF m 52 #[.val (.ref a0x), .val (.long q1), .second, .val (.long q2), .second, .val (.long q3), .second, .val (.int (own_free tab q1 q2))] [(.ref a0x)])) rfl rfl (hb hby d5_52)
    obtain ⟨cl11, Ar11, S11, N11', H11⟩ := (id V9)
    have hin11 : ¬ (((own_free tab q1 q2) + (1 : Int32)) < 0 ∨ cl11.slots.size ≤ (((own_free tab q1 q2) + (1 : Int32))).toNatClampNeg) := inb_of S11 (own_fb1 _ _ _)
    obtain ⟨T12, h12, X12, e12, W12, st12⟩ := stJ X10 hx hZ e10 Ar11 (j := ((own_free tab q1 q2) + (1 : Int32))) hin11 (g := (mkF m 60 #[.val (.ref a0x), .val (.long q1), .second, .val (.long q2), .second, .val (.long q3), .second, .val (.int (own_free tab q1 q2))] [(.long q2), (.int ((own_free tab q1 q2) + (1 : Int32))), (.ref a1x)])) rfl rfl (hb hby d5_60)
    have V12 : own_Tab Z h12 a1x .long (3072 : Int32) (fun j => .long ((fun i => if i = ((own_free tab q1 q2) + (1 : Int32)) then q2 else (fun i => if i = (own_free tab q1 q2) then q1 else tab i) i) j)) := (own_Tab.set Ar11 S11 N11' H11 hin11 W12).cong (fun j _ _ => by dsimp only; split <;> rfl)
    have N12 := Fr.snoc X12 N9 g1x
    have E0x_12 : Exa Z h12 a0x "com/example/outcry/outcry/allocation/Memo" := E0x_9.wr W12
    have Ft_12 : Fld Z h12 a0x "com/example/outcry/outcry/allocation/Memo" "table" "[J" (.ref a1x) := Ft_9.other W12 (Or.inl ne01)
    have Fs_12 : Fld Z h12 a0x "com/example/outcry/outcry/allocation/Memo" "size" "I" (.int qs) := Fs_9.other W12 (Or.inl ne01)
    have Z12 : n0 ≤ h12.size := Nat.le_trans Z9 (Keep.of_wr W12).1
    have K12 : Keep h0 h12 [a0x, a1x] := K9.wr W12 (Or.inl (List.mem_of_getElem? (i := 1) rfl))
    obtain ⟨T13, X13, e13, st13⟩ := getF X12 hx hZ hown (host := "") (Or.inl (hw _ (List.mem_of_getElem? (i := 36) rfl))) Via.refl e12 Fs_12 (g := (mkF m 63 #[.val (.ref a0x), .val (.long q1), .second, .val (.long q2), .second, .val (.long q3), .second, .val (.int (own_free tab q1 q2))] [(.ref a0x), (.ref a0x)])) rfl rfl (hb hby d5_63)
    obtain ⟨T14, h14, X14, e14, W14, st14⟩ := putF X13 hx hZ hown (host := "") (Or.inl (hw _ (List.mem_of_getElem? (i := 36) rfl))) Via.refl e13 Fs_12 E0x_12 (Or.inl (hw _ (List.mem_of_getElem? (i := 37) rfl))) (hw _ (List.mem_of_getElem? (i := 1) rfl)) (ty := .int) (by decide) rfl rfl (g := (mkF m 68 #[.val (.ref a0x), .val (.long q1), .second, .val (.long q2), .second, .val (.long q3), .second, .val (.int (own_free tab q1 q2))] [(.int (qs + (1 : Int32))), (.ref a0x)])) rfl rfl (hb hby d5_68)
    have N14 := Fr.snoc X14 N12 g0x
    have Fw14 : Fld Z h14 a0x "com/example/outcry/outcry/allocation/Memo" "size" "I" (.int (qs + (1 : Int32))) := Fs_12.same W14
    have E0x_14 : Exa Z h14 a0x "com/example/outcry/outcry/allocation/Memo" := E0x_12.wr W14
    have Ft_14 : Fld Z h14 a0x "com/example/outcry/outcry/allocation/Memo" "table" "[J" (.ref a1x) := Ft_12.other W14 (Or.inr (slot_ne (Or.inl (hw _ (List.mem_of_getElem? (i := 11) rfl))) (Or.inl (hw _ (List.mem_of_getElem? (i := 37) rfl))) (by decide) (t := (.array .long)) (t' := .int) (by decide) (by decide)))
    have V12_14 : own_Tab Z h14 a1x .long (3072 : Int32) (fun j => .long ((fun i => if i = ((own_free tab q1 q2) + (1 : Int32)) then q2 else (fun i => if i = (own_free tab q1 q2) then q1 else tab i) i) j)) := V12.other W14 (Ne.symm ne01)
    have Z14 : n0 ≤ h14.size := Nat.le_trans Z12 (Keep.of_wr W14).1
    have K14 : Keep h0 h14 [a0x, a1x] := K12.wr W14 (Or.inl (List.mem_of_getElem? (i := 0) rfl))
    obtain ⟨T15, X15, e15, st15⟩ := getF X14 hx hZ hown (host := "") (Or.inl (hw _ (List.mem_of_getElem? (i := 10) rfl))) Via.refl e14 Ft_14 (g := (mkF m 72 #[.val (.ref a0x), .val (.long q1), .second, .val (.long q2), .second, .val (.long q3), .second, .val (.int (own_free tab q1 q2))] [(.ref a0x)])) rfl rfl (hb hby d5_72)
    obtain ⟨cl16, Ar16, S16, N16', H16⟩ := (id V12_14)
    have hin16 : ¬ (((own_free tab q1 q2) + (2 : Int32)) < 0 ∨ cl16.slots.size ≤ (((own_free tab q1 q2) + (2 : Int32))).toNatClampNeg) := inb_of S16 (own_fb2 _ _ _)
    obtain ⟨T17, h17, X17, e17, W17, st17⟩ := stJ X15 hx hZ e15 Ar16 (j := ((own_free tab q1 q2) + (2 : Int32))) hin16 (g := (mkF m 81 #[.val (.ref a0x), .val (.long q1), .second, .val (.long q2), .second, .val (.long q3), .second, .val (.int (own_free tab q1 q2))] [(.long q3), (.int ((own_free tab q1 q2) + (2 : Int32))), (.ref a1x)])) rfl rfl (hb hby d5_81)
    have V17 : own_Tab Z h17 a1x .long (3072 : Int32) (fun j => .long ((fun i => if i = ((own_free tab q1 q2) + (2 : Int32)) then q3 else (fun i => if i = ((own_free tab q1 q2) + (1 : Int32)) then q2 else (fun i => if i = (own_free tab q1 q2) then q1 else tab i) i) i) j)) := (own_Tab.set Ar16 S16 N16' H16 hin16 W17).cong (fun j _ _ => by dsimp only; split <;> rfl)
    have N17 := Fr.snoc X17 N14 g1x
    have E0x_17 : Exa Z h17 a0x "com/example/outcry/outcry/allocation/Memo" := E0x_14.wr W17
    have Ft_17 : Fld Z h17 a0x "com/example/outcry/outcry/allocation/Memo" "table" "[J" (.ref a1x) := Ft_14.other W17 (Or.inl ne01)
    have Fw14_17 : Fld Z h17 a0x "com/example/outcry/outcry/allocation/Memo" "size" "I" (.int (qs + (1 : Int32))) := Fw14.other W17 (Or.inl ne01)
    have Z17 : n0 ≤ h17.size := Nat.le_trans Z14 (Keep.of_wr W17).1
    have K17 : Keep h0 h17 [a0x, a1x] := K14.wr W17 (Or.inl (List.mem_of_getElem? (i := 1) rfl))
    obtain ⟨fs, hr, hrun, hended, hW, hsame⟩ := X17.leave (v := none) (fun _ => rfl)
    refine ⟨_, _, pre0 _ ?_, hrun, hended, _, _, rfl, ?_, ⟨_, rfl⟩, hW, hsame.mono (by decide) (by decide)⟩
    · refine k2 _ ?_
      show Steps p.tables e below (T1.setTop (mkF m 10 #[.val (.ref a0x), .val (.long q1), .second, .val (.long q2), .second, .val (.long q3), .second, .val (.int (own_find tab q1 q2))] [(.int (own_find tab q1 q2))])) _
      refine XS.ifNo X1.here hx rfl (hb hby d5_10) rfl ((if0 _ _).trans (tlt hc10).2.1) ?_
      show Steps p.tables e below (T1.setTop (mkF m 13 #[.val (.ref a0x), .val (.long q1), .second, .val (.long q2), .second, .val (.long q3), .second, .val (.int (own_find tab q1 q2))] [])) _
      refine XS.iconst X1.here hx rfl (hb hby d5_13) ?_
      show Steps p.tables e below (T1.setTop (mkF m 14 #[.val (.ref a0x), .val (.long q1), .second, .val (.long q2), .second, .val (.long q3), .second, .val (.int (own_find tab q1 q2))] [(.int (2 : Int32))])) _
      refine XS.aloadN X1.here hx rfl (hb hby d5_14) rfl rfl ?_
      show Steps p.tables e below (T1.setTop (mkF m 15 #[.val (.ref a0x), .val (.long q1), .second, .val (.long q2), .second, .val (.long q3), .second, .val (.int (own_find tab q1 q2))] [(.ref a0x), (.int (2 : Int32))])) _
      refine st3 _ ?_
      show Steps p.tables e below (T3.setTop (mkF m 18 #[.val (.ref a0x), .val (.long q1), .second, .val (.long q2), .second, .val (.long q3), .second, .val (.int (own_find tab q1 q2))] [(.int qs), (.int (2 : Int32))])) _
      refine XS.iconst X3.here hx rfl (hb hby d5_18) ?_
      show Steps p.tables e below (T3.setTop (mkF m 19 #[.val (.ref a0x), .val (.long q1), .second, .val (.long q2), .second, .val (.long q3), .second, .val (.int (own_find tab q1 q2))] [(.int (1 : Int32)), (.int qs), (.int (2 : Int32))])) _
      refine XS.iadd X3.here hx rfl (hb hby d5_19) rfl ?_
      show Steps p.tables e below (T3.setTop (mkF m 20 #[.val (.ref a0x), .val (.long q1), .second, .val (.long q2), .second, .val (.long q3), .second, .val (.int (own_find tab q1 q2))] [(.int (qs + (1 : Int32))), (.int (2 : Int32))])) _
      refine XS.imul X3.here hx rfl (hb hby d5_20) rfl ?_
      show Steps p.tables e below (T3.setTop (mkF m 21 #[.val (.ref a0x), .val (.long q1), .second, .val (.long q2), .second, .val (.long q3), .second, .val (.int (own_find tab q1 q2))] [(.int ((2 : Int32) * (qs + (1 : Int32))))])) _
      refine XS.aloadN X3.here hx rfl (hb hby d5_21) rfl rfl ?_
      show Steps p.tables e below (T3.setTop (mkF m 22 #[.val (.ref a0x), .val (.long q1), .second, .val (.long q2), .second, .val (.long q3), .second, .val (.int (own_find tab q1 q2))] [(.ref a0x), (.int ((2 : Int32) * (qs + (1 : Int32))))])) _
      refine st4 _ ?_
      show Steps p.tables e below (T4.setTop (mkF m 25 #[.val (.ref a0x), .val (.long q1), .second, .val (.long q2), .second, .val (.long q3), .second, .val (.int (own_find tab q1 q2))] [(.ref a1x), (.int ((2 : Int32) * (qs + (1 : Int32))))])) _
      refine X4.arraylength hx (by rw [e4]; exact Ar5.1) (State.isArrayOf_alike hZ.alike Ar5.2.1) (g := (mkF m 25 #[.val (.ref a0x), .val (.long q1), .second, .val (.long q2), .second, .val (.long q3), .second, .val (.int (own_find tab q1 q2))] [(.ref a1x), (.int ((2 : Int32) * (qs + (1 : Int32))))])) rfl rfl (hb hby d5_25) _ ?_
      rw [len_of S5 N5']
      show Steps p.tables e below (T4.setTop (mkF m 26 #[.val (.ref a0x), .val (.long q1), .second, .val (.long q2), .second, .val (.long q3), .second, .val (.int (own_find tab q1 q2))] [(.int (3072 : Int32)), (.int ((2 : Int32) * (qs + (1 : Int32))))])) _
      refine XS.iconst X4.here hx rfl (hb hby d5_26) ?_
      show Steps p.tables e below (T4.setTop (mkF m 27 #[.val (.ref a0x), .val (.long q1), .second, .val (.long q2), .second, .val (.long q3), .second, .val (.int (own_find tab q1 q2))] [(.int (3 : Int32)), (.int (3072 : Int32)), (.int ((2 : Int32) * (qs + (1 : Int32))))])) _
      refine XS.idiv X4.here hx rfl (hb hby d5_27) rfl (by decide) ?_
      show Steps p.tables e below (T4.setTop (mkF m 28 #[.val (.ref a0x), .val (.long q1), .second, .val (.long q2), .second, .val (.long q3), .second, .val (.int (own_find tab q1 q2))] [(.int ((3072 : Int32) / (3 : Int32))), (.int ((2 : Int32) * (qs + (1 : Int32))))])) _
      refine XS.icmpYes X4.here hx rfl (pc0 := 28) (pc' := 35) rfl (hb hby d5_28) rfl (flt hq).2.2.2 (by decide) (by decide) ?_
      show Steps p.tables e below (T4.setTop (mkF m 35 #[.val (.ref a0x), .val (.long q1), .second, .val (.long q2), .second, .val (.long q3), .second, .val (.int (own_find tab q1 q2))] [])) _
      refine XS.aloadN X4.here hx rfl (hb hby d5_35) rfl rfl ?_
      show Steps p.tables e below (T4.setTop (mkF m 36 #[.val (.ref a0x), .val (.long q1), .second, .val (.long q2), .second, .val (.long q3), .second, .val (.int (own_find tab q1 q2))] [(.ref a0x)])) _
      refine XS.lloadN X4.here hx rfl (hb hby d5_36) rfl ?_
      show Steps p.tables e below (T4.setTop (mkF m 37 #[.val (.ref a0x), .val (.long q1), .second, .val (.long q2), .second, .val (.long q3), .second, .val (.int (own_find tab q1 q2))] [(.long q1), (.ref a0x)])) _
      refine XS.lloadN X4.here hx rfl (hb hby d5_37) rfl ?_
      show Steps p.tables e below (T4.setTop (mkF m 38 #[.val (.ref a0x), .val (.long q1), .second, .val (.long q2), .second, .val (.long q3), .second, .val (.int (own_find tab q1 q2))] [(.long q2), (.long q1), (.ref a0x)])) _
      refine st6.trans ?_
      show Steps p.tables e below (T6.setTop (mkF m 41 #[.val (.ref a0x), .val (.long q1), .second, .val (.long q2), .second, .val (.long q3), .second, .val (.int (own_find tab q1 q2))] [(.int (own_free tab q1 q2))])) _
      refine XS.istore X6.here hx rfl (hb hby d5_41) rfl (l' := #[.val (.ref a0x), .val (.long q1), .second, .val (.long q2), .second, .val (.long q3), .second, .val (.int (own_free tab q1 q2))]) rfl ?_
      show Steps p.tables e below (T6.setTop (mkF m 43 #[.val (.ref a0x), .val (.long q1), .second, .val (.long q2), .second, .val (.long q3), .second, .val (.int (own_free tab q1 q2))] [])) _
      refine XS.aloadN X6.here hx rfl (hb hby d5_43) rfl rfl ?_
      show Steps p.tables e below (T6.setTop (mkF m 44 #[.val (.ref a0x), .val (.long q1), .second, .val (.long q2), .second, .val (.long q3), .second, .val (.int (own_free tab q1 q2))] [(.ref a0x)])) _
      refine st7 _ ?_
      show Steps p.tables e below (T7.setTop (mkF m 47 #[.val (.ref a0x), .val (.long q1), .second, .val (.long q2), .second, .val (.long q3), .second, .val (.int (own_free tab q1 q2))] [(.ref a1x)])) _
      refine XS.iload X7.here hx rfl (hb hby d5_47) rfl ?_
      show Steps p.tables e below (T7.setTop (mkF m 49 #[.val (.ref a0x), .val (.long q1), .second, .val (.long q2), .second, .val (.long q3), .second, .val (.int (own_free tab q1 q2))] [(.int (own_free tab q1 q2)), (.ref a1x)])) _
      refine XS.lloadN X7.here hx rfl (hb hby d5_49) rfl ?_
      show Steps p.tables e below (T7.setTop (mkF m 50 #[.val (.ref a0x), .val (.long q1), .second, .val (.long q2), .second, .val (.long q3), .second, .val (.int (own_free tab q1 q2))] [(.long q1), (.int (own_free tab q1 q2)), (.ref a1x)])) _
      refine st9 _ ?_
      show Steps p.tables e below (T9.setTop (mkF m 51 #[.val (.ref a0x), .val (.long q1), .second, .val (.long q2), .second, .val (.long q3), .second, .val (.int (own_free tab q1 q2))] [])) _
      refine XS.aloadN X9.here hx rfl (hb hby d5_51) rfl rfl ?_
      show Steps p.tables e below (T9.setTop (mkF m 52 #[.val (.ref a0x), .val (.long q1), .second, .val (.long q2), .second, .val (.long q3), .second, .val (.int (own_free tab q1 q2))] [(.ref a0x)])) _
      refine st10 _ ?_
      show Steps p.tables e below (T10.setTop (mkF m 55 #[.val (.ref a0x), .val (.long q1), .second, .val (.long q2), .second, .val (.long q3), .second, .val (.int (own_free tab q1 q2))] [(.ref a1x)])) _
      refine XS.iload X10.here hx rfl (hb hby d5_55) rfl ?_
      show Steps p.tables e below (T10.setTop (mkF m 57 #[.val (.ref a0x), .val (.long q1), .second, .val (.long q2), .second, .val (.long q3), .second, .val (.int (own_free tab q1 q2))] [(.int (own_free tab q1 q2)), (.ref a1x)])) _
      refine XS.iconst X10.here hx rfl (hb hby d5_57) ?_
      show Steps p.tables e below (T10.setTop (mkF m 58 #[.val (.ref a0x), .val (.long q1), .second, .val (.long q2), .second, .val (.long q3), .second, .val (.int (own_free tab q1 q2))] [(.int (1 : Int32)), (.int (own_free tab q1 q2)), (.ref a1x)])) _
      refine XS.iadd X10.here hx rfl (hb hby d5_58) rfl ?_
      show Steps p.tables e below (T10.setTop (mkF m 59 #[.val (.ref a0x), .val (.long q1), .second, .val (.long q2), .second, .val (.long q3), .second, .val (.int (own_free tab q1 q2))] [(.int ((own_free tab q1 q2) + (1 : Int32))), (.ref a1x)])) _
      refine XS.lloadN X10.here hx rfl (hb hby d5_59) rfl ?_
      show Steps p.tables e below (T10.setTop (mkF m 60 #[.val (.ref a0x), .val (.long q1), .second, .val (.long q2), .second, .val (.long q3), .second, .val (.int (own_free tab q1 q2))] [(.long q2), (.int ((own_free tab q1 q2) + (1 : Int32))), (.ref a1x)])) _
      refine st12 _ ?_
      show Steps p.tables e below (T12.setTop (mkF m 61 #[.val (.ref a0x), .val (.long q1), .second, .val (.long q2), .second, .val (.long q3), .second, .val (.int (own_free tab q1 q2))] [])) _
      refine XS.aloadN X12.here hx rfl (hb hby d5_61) rfl rfl ?_
      show Steps p.tables e below (T12.setTop (mkF m 62 #[.val (.ref a0x), .val (.long q1), .second, .val (.long q2), .second, .val (.long q3), .second, .val (.int (own_free tab q1 q2))] [(.ref a0x)])) _
      refine XS.dup X12.here hx rfl (hb hby d5_62) rfl rfl ?_
      show Steps p.tables e below (T12.setTop (mkF m 63 #[.val (.ref a0x), .val (.long q1), .second, .val (.long q2), .second, .val (.long q3), .second, .val (.int (own_free tab q1 q2))] [(.ref a0x), (.ref a0x)])) _
      refine st13 _ ?_
      show Steps p.tables e below (T13.setTop (mkF m 66 #[.val (.ref a0x), .val (.long q1), .second, .val (.long q2), .second, .val (.long q3), .second, .val (.int (own_free tab q1 q2))] [(.int qs), (.ref a0x)])) _
      refine XS.iconst X13.here hx rfl (hb hby d5_66) ?_
      show Steps p.tables e below (T13.setTop (mkF m 67 #[.val (.ref a0x), .val (.long q1), .second, .val (.long q2), .second, .val (.long q3), .second, .val (.int (own_free tab q1 q2))] [(.int (1 : Int32)), (.int qs), (.ref a0x)])) _
      refine XS.iadd X13.here hx rfl (hb hby d5_67) rfl ?_
      show Steps p.tables e below (T13.setTop (mkF m 68 #[.val (.ref a0x), .val (.long q1), .second, .val (.long q2), .second, .val (.long q3), .second, .val (.int (own_free tab q1 q2))] [(.int (qs + (1 : Int32))), (.ref a0x)])) _
      refine st14 _ ?_
      show Steps p.tables e below (T14.setTop (mkF m 71 #[.val (.ref a0x), .val (.long q1), .second, .val (.long q2), .second, .val (.long q3), .second, .val (.int (own_free tab q1 q2))] [])) _
      refine XS.aloadN X14.here hx rfl (hb hby d5_71) rfl rfl ?_
      show Steps p.tables e below (T14.setTop (mkF m 72 #[.val (.ref a0x), .val (.long q1), .second, .val (.long q2), .second, .val (.long q3), .second, .val (.int (own_free tab q1 q2))] [(.ref a0x)])) _
      refine st15 _ ?_
      show Steps p.tables e below (T15.setTop (mkF m 75 #[.val (.ref a0x), .val (.long q1), .second, .val (.long q2), .second, .val (.long q3), .second, .val (.int (own_free tab q1 q2))] [(.ref a1x)])) _
      refine XS.iload X15.here hx rfl (hb hby d5_75) rfl ?_
      show Steps p.tables e below (T15.setTop (mkF m 77 #[.val (.ref a0x), .val (.long q1), .second, .val (.long q2), .second, .val (.long q3), .second, .val (.int (own_free tab q1 q2))] [(.int (own_free tab q1 q2)), (.ref a1x)])) _
      refine XS.iconst X15.here hx rfl (hb hby d5_77) ?_
      show Steps p.tables e below (T15.setTop (mkF m 78 #[.val (.ref a0x), .val (.long q1), .second, .val (.long q2), .second, .val (.long q3), .second, .val (.int (own_free tab q1 q2))] [(.int (2 : Int32)), (.int (own_free tab q1 q2)), (.ref a1x)])) _
      refine XS.iadd X15.here hx rfl (hb hby d5_78) rfl ?_
      show Steps p.tables e below (T15.setTop (mkF m 79 #[.val (.ref a0x), .val (.long q1), .second, .val (.long q2), .second, .val (.long q3), .second, .val (.int (own_free tab q1 q2))] [(.int ((own_free tab q1 q2) + (2 : Int32))), (.ref a1x)])) _
      refine XS.lload X15.here hx rfl (hb hby d5_79) rfl ?_
      show Steps p.tables e below (T15.setTop (mkF m 81 #[.val (.ref a0x), .val (.long q1), .second, .val (.long q2), .second, .val (.long q3), .second, .val (.int (own_free tab q1 q2))] [(.long q3), (.int ((own_free tab q1 q2) + (2 : Int32))), (.ref a1x)])) _
      refine st17 _ ?_
      show Steps p.tables e below (T17.setTop (mkF m 82 #[.val (.ref a0x), .val (.long q1), .second, .val (.long q2), .second, .val (.long q3), .second, .val (.int (own_free tab q1 q2))] [])) _
      exact X17.returnOut hx Bd.returns (hb hby d5_82) hr
    · show Q_rm_put Z a0x q1 q2 q3 a1x tab qs h0 n0 _ T17.heap _
      rw [e17]
      exact ⟨rfl, N17, K17, Ft_17, (by rw [own_szz, if_pos hc10]; exact Fw14_17), (own_Tab.cong V17 (fun j _ _ => by unfold own_put; rw [if_pos hc10]))⟩
  · obtain ⟨T18, X18, e18, st18⟩ := getF X1 hx hZ hown (host := "") (Or.inl (hw _ (List.mem_of_getElem? (i := 10) rfl))) Via.refl e1 Ft (g := (mkF m 72 #[.val (.ref a0x), .val (.long q1), .second, .val (.long q2), .second, .val (.long q3), .second, .val (.int (own_find tab q1 q2))] [(.ref a0x)])) rfl rfl (hb hby d5_72)
    obtain ⟨cl19, Ar19, S19, N19', H19⟩ := (id Vt)
    have hin19 : ¬ (((own_find tab q1 q2) + (2 : Int32)) < 0 ∨ cl19.slots.size ≤ (((own_find tab q1 q2) + (2 : Int32))).toNatClampNeg) := inb_of S19 (own_eb2 hc10)
    obtain ⟨T20, h20, X20, e20, W20, st20⟩ := stJ X18 hx hZ e18 Ar19 (j := ((own_find tab q1 q2) + (2 : Int32))) hin19 (g := (mkF m 81 #[.val (.ref a0x), .val (.long q1), .second, .val (.long q2), .second, .val (.long q3), .second, .val (.int (own_find tab q1 q2))] [(.long q3), (.int ((own_find tab q1 q2) + (2 : Int32))), (.ref a1x)])) rfl rfl (hb hby d5_81)
    have V20 : own_Tab Z h20 a1x .long (3072 : Int32) (fun j => .long ((fun i => if i = ((own_find tab q1 q2) + (2 : Int32)) then q3 else tab i) j)) := (own_Tab.set Ar19 S19 N19' H19 hin19 W20).cong (fun j _ _ => by dsimp only; split <;> rfl)
    have N20 := Fr.snoc X20 N1 g1x
    have E0x_20 : Exa Z h20 a0x "com/example/outcry/outcry/allocation/Memo" := E0x.wr W20
    have Ft_20 : Fld Z h20 a0x "com/example/outcry/outcry/allocation/Memo" "table" "[J" (.ref a1x) := Ft.other W20 (Or.inl ne01)
    have Fs_20 : Fld Z h20 a0x "com/example/outcry/outcry/allocation/Memo" "size" "I" (.int qs) := Fs.other W20 (Or.inl ne01)
    have Z20 : n0 ≤ h20.size := Nat.le_trans Z0 (Keep.of_wr W20).1
    have K20 : Keep h0 h20 [a0x, a1x] := K0.wr W20 (Or.inl (List.mem_of_getElem? (i := 1) rfl))
    obtain ⟨fs, hr, hrun, hended, hW, hsame⟩ := X20.leave (v := none) (fun _ => rfl)
    refine ⟨_, _, pre0 _ ?_, hrun, hended, _, _, rfl, ?_, ⟨_, rfl⟩, hW, hsame.mono (by decide) (by decide)⟩
    · refine k2 _ ?_
      show Steps p.tables e below (T1.setTop (mkF m 10 #[.val (.ref a0x), .val (.long q1), .second, .val (.long q2), .second, .val (.long q3), .second, .val (.int (own_find tab q1 q2))] [(.int (own_find tab q1 q2))])) _
      refine XS.ifYes X1.here hx rfl (pc0 := 10) (pc' := 71) rfl (hb hby d5_10) rfl ((if0 _ _).trans (flt hc10).2.1) (by decide) (by decide) ?_
      show Steps p.tables e below (T1.setTop (mkF m 71 #[.val (.ref a0x), .val (.long q1), .second, .val (.long q2), .second, .val (.long q3), .second, .val (.int (own_find tab q1 q2))] [])) _
      refine XS.aloadN X1.here hx rfl (hb hby d5_71) rfl rfl ?_
      show Steps p.tables e below (T1.setTop (mkF m 72 #[.val (.ref a0x), .val (.long q1), .second, .val (.long q2), .second, .val (.long q3), .second, .val (.int (own_find tab q1 q2))] [(.ref a0x)])) _
      refine st18 _ ?_
      show Steps p.tables e below (T18.setTop (mkF m 75 #[.val (.ref a0x), .val (.long q1), .second, .val (.long q2), .second, .val (.long q3), .second, .val (.int (own_find tab q1 q2))] [(.ref a1x)])) _
      refine XS.iload X18.here hx rfl (hb hby d5_75) rfl ?_
      show Steps p.tables e below (T18.setTop (mkF m 77 #[.val (.ref a0x), .val (.long q1), .second, .val (.long q2), .second, .val (.long q3), .second, .val (.int (own_find tab q1 q2))] [(.int (own_find tab q1 q2)), (.ref a1x)])) _
      refine XS.iconst X18.here hx rfl (hb hby d5_77) ?_
      show Steps p.tables e below (T18.setTop (mkF m 78 #[.val (.ref a0x), .val (.long q1), .second, .val (.long q2), .second, .val (.long q3), .second, .val (.int (own_find tab q1 q2))] [(.int (2 : Int32)), (.int (own_find tab q1 q2)), (.ref a1x)])) _
      refine XS.iadd X18.here hx rfl (hb hby d5_78) rfl ?_
      show Steps p.tables e below (T18.setTop (mkF m 79 #[.val (.ref a0x), .val (.long q1), .second, .val (.long q2), .second, .val (.long q3), .second, .val (.int (own_find tab q1 q2))] [(.int ((own_find tab q1 q2) + (2 : Int32))), (.ref a1x)])) _
      refine XS.lload X18.here hx rfl (hb hby d5_79) rfl ?_
      show Steps p.tables e below (T18.setTop (mkF m 81 #[.val (.ref a0x), .val (.long q1), .second, .val (.long q2), .second, .val (.long q3), .second, .val (.int (own_find tab q1 q2))] [(.long q3), (.int ((own_find tab q1 q2) + (2 : Int32))), (.ref a1x)])) _
      refine st20 _ ?_
      show Steps p.tables e below (T20.setTop (mkF m 82 #[.val (.ref a0x), .val (.long q1), .second, .val (.long q2), .second, .val (.long q3), .second, .val (.int (own_find tab q1 q2))] [])) _
      exact X20.returnOut hx Bd.returns (hb hby d5_82) hr
    · show Q_rm_put Z a0x q1 q2 q3 a1x tab qs h0 n0 _ T20.heap _
      rw [e20]
      exact ⟨rfl, N20, K20, Ft_20, (by rw [own_szz, if_neg hc10]; exact Fs_20), (own_Tab.cong V20 (fun j _ _ => by unfold own_put; rw [if_neg hc10]))⟩
theorem d10_0 : decode prog_38_method_6_code 0 = .ok (.aload_n 0, 1) := by decide +kernel
theorem d10_1 : decode prog_38_method_6_code 1 = .ok (.lload_n 1, 1) := by decide +kernel
theorem d10_2 : decode prog_38_method_6_code 2 = .ok (.lload_n 3, 1) := by decide +kernel
theorem d10_3 : decode prog_38_method_6_code 3 = .ok (.iload 5, 2) := by decide +kernel
theorem d10_5 : decode prog_38_method_6_code 5 = .ok (.i2l, 1) := by decide +kernel
theorem d10_6 : decode prog_38_method_6_code 6 = .ok (.bipush 32, 2) := by decide +kernel
theorem d10_8 : decode prog_38_method_6_code 8 = .ok (.lshl, 1) := by decide +kernel
theorem d10_9 : decode prog_38_method_6_code 9 = .ok (.iload 6, 2) := by decide +kernel
theorem d10_11 : decode prog_38_method_6_code 11 = .ok (.iconst 2, 1) := by decide +kernel
theorem d10_12 : decode prog_38_method_6_code 12 = .ok (.iadd, 1) := by decide +kernel
theorem d10_13 : decode prog_38_method_6_code 13 = .ok (.i2l, 1) := by decide +kernel
theorem d10_14 : decode prog_38_method_6_code 14 = .ok (.lor, 1) := by decide +kernel
theorem d10_15 : decode prog_38_method_6_code 15 = .ok (.invokevirtual 23, 3) := by decide +kernel
theorem pd_2 : parseMethodDescriptor "(JJJ)V" = some ⟨[.long, .long, .long], none⟩ := by decide +kernel
theorem d10_18 : decode prog_38_method_6_code 18 = .ok (.return_, 1) := by decide +kernel
theorem ef_10 (m : MethodId) (x0 : Addr) (x1 : Int64) (x2 : Int64) (x3 : Int32) (x4 : Int32) : entryFrame m #[(.ref x0), (.long x1), (.long x2), (.int x3), (.int x4)] 7 = mkF m 0 #[.val (.ref x0), .val (.long x1), .second, .val (.long x2), .second, .val (.int x3), .val (.int x4)] [] := by first | (simp [entryFrame, mkF, argsToLocals, Value.category]; done) | rfl
def Q_rm_exactly (Z : State) (a0x : Addr) (q1 : Int64) (q2 : Int64) (p1 : Int32) (p2 : Int32) (a1x : Addr) (tab : Int32 → Int64) (qs : Int32) (h0 : Heap) (n0 : Nat) (v : Option Value) (h : Heap) (L : List Loc) : Prop := v = none ∧ Fr n0 L ∧ Keep h0 h [a0x, a1x] ∧ Fld Z h a0x "com/example/outcry/outcry/allocation/Memo" "table" "[J" (.ref a1x) ∧ Fld Z h a0x "com/example/outcry/outcry/allocation/Memo" "size" "I" (.int (own_szz tab q1 q2 qs)) ∧ own_Tab Z h a1x .long (3072 : Int32) (fun j => .long ((own_put tab q1 q2 ((p1.toInt64 <<< ((32 : Int32) &&& 0x3f).toInt64) ||| (p2 + (2 : Int32)).toInt64)) j))
set_option maxRecDepth 65536 in
set_option maxHeartbeats 40000000 in
theorem rm_exactly (l : Launch) (Z : State) (a0 : Array Value) (hw : ∀ d ∈ tables_1, d.before a0 Z = true) (ws : List Jvm.Cond) (a0x : Addr) (q1 : Int64) (q2 : Int64) (p1 : Int32) (p2 : Int32) (a1x : Addr) (tab : Int32 → Int64) (qs : Int32) (h0 : Heap) (n0 : Nat) (Z0 : n0 ≤ h0.size) (Ft : Fld Z h0 a0x "com/example/outcry/outcry/allocation/Memo" "table" "[J" (.ref a1x)) (Vt : own_Tab Z h0 a1x .long (3072 : Int32) (fun j => .long (tab j))) (E0x : Exa Z h0 a0x "com/example/outcry/outcry/allocation/Memo") (g0x : n0 ≤ a0x) (g1x : n0 ≤ a1x) (ne01 : a0x ≠ a1x) (Fs : Fld Z h0 a0x "com/example/outcry/outcry/allocation/Memo" "size" "I" (.int qs)) (hok : own_ok tab q1 q2) (hok2 : own_find tab q1 q2 < 0 → own_ok2 tab q1 q2) (hq : ¬ (((3072 : Int32) / (3 : Int32)) < ((2 : Int32) * (qs + (1 : Int32))))) :
    MetFree l (⟨"com/example/outcry/outcry/allocation/Memo", "exactly", "(JJII)V"⟩ : MethodName) (head1 (Jvm.Cond.code (⟨"com/example/outcry/outcry/allocation/Memo", "exactly", "(JJII)V"⟩ : MethodName) prog_38_method_6_code 7 none :: ws) ({ frames := 3, cells := 0, slots := 0, locals := 56 } : Room)) (fun a U => a = #[(.ref a0x), (.long q1), (.long q2), (.int p1), (.int p2)] ∧ Z.Warmed39 U.vm ∧ U.heap = h0) (fun _ _ _ _ _ => True) (fun _ U o U' => ∃ v L, o = .returned v ∧ Q_rm_exactly Z a0x q1 q2 p1 p2 a1x tab qs h0 n0 v U'.heap L ∧ FrameEnd U o U' L ({ frames := 3, cells := 0, slots := 0, locals := 56 } : Room).cells ({ frames := 3, cells := 0, slots := 0, locals := 56 } : Room).slots) := by
  refine MetFree.of_bodySF (plainFor_of_name pn_0) hisR ?_
  intro p e s m args below meth c s₁ Bd hml0 hP hK
  obtain ⟨rfl, hZ, hh⟩ := hP
  have hx := Bd.exec
  have hby := Bd.bytes
  have hml : c.maxLocals = 7 := hml0
  have hown : s.vm.findClass "com/example/outcry/outcry/allocation/Memo" = some m.cls := findClass_of_methodNamed Bd.named
  have hnm := (name_of_methodNamed Bd.named Bd.method).1
  have X0 : Stand p l e ({ frames := 3, cells := 0, slots := 0, locals := 56 } : Room) s m #[(.ref a0x), (.long q1), (.long q2), (.int p1), (.int p2)] below meth c s₁ [] 0 0 := Stand.of_body Bd
  have e0 : s₁.heap = h0 := by rw [← hh, Bd.state]; rfl
  have N0 := Fr.nil n0
  have K0 : Keep h0 h0 [a0x, a1x] := Keep.refl h0 [a0x, a1x]
  have pre0 : ∀ t, Steps p.tables e below (s₁.setTop (mkF m 0 #[.val (.ref a0x), .val (.long q1), .second, .val (.long q2), .second, .val (.int p1), .val (.int p2)] [])) t → Steps p.tables e below (s₁.setTop (entryFrame m #[(.ref a0x), (.long q1), (.long q2), (.int p1), (.int p2)] 7)) t := fun t k => castTop (ef_10 m a0x q1 q2 p1 p2) k
  obtain ⟨cq1, qv1, qv1'⟩ := E0x.cell
  obtain ⟨_, _, ⟨T1, L1, k1, n1⟩, -, X1, ⟨Lc1, hQ1, l1, y1, z1⟩, st1⟩ := X0.privateBack hx (y := (⟨"com/example/outcry/outcry/allocation/Memo", "put", "(JJJ)V"⟩ : MethodName)) hown (mvT hZ (hw _ (List.mem_of_getElem? (i := 22) rfl))) (mvT hZ (hw _ (List.mem_of_getElem? (i := 23) rfl))) (own_selp (by decide) (mvT hZ (hw _ (List.mem_of_getElem? (i := 1) rfl))) (mvP hZ (hw _ (List.mem_of_getElem? (i := 24) rfl))) (mvT hZ (hw _ (List.mem_of_getElem? (i := 23) rfl)))) (Cond.privateMethod_at (mvP hZ (hw _ (List.mem_of_getElem? (i := 24) rfl)) (args := #[]))) (mvT hZ (hw _ (List.mem_of_getElem? (i := 25) rfl))) (by decide) (backOf (W := 0) (rm_put l Z a0 hw [] a0x q1 q2 ((p1.toInt64 <<< ((32 : Int32) &&& 0x3f).toInt64) ||| (p2 + (2 : Int32)).toInt64) a1x tab qs h0 n0 Z0 Ft Vt E0x g0x g1x ne01 Fs hok hok2 hq) hZ (hw _ (List.mem_of_getElem? (i := 25) rfl)) (hw _ (List.mem_of_getElem? (i := 2) rfl)) (by decide) (by decide)) (g := (mkF m 15 #[.val (.ref a0x), .val (.long q1), .second, .val (.long q2), .second, .val (.int p1), .val (.int p2)] [(.long ((p1.toInt64 <<< ((32 : Int32) &&& 0x3f).toInt64) ||| (p2 + (2 : Int32)).toInt64)), (.long q2), (.long q1), (.ref a0x)])) rfl (by rw [hml]; rfl) (Steps.refl _) (a := a0x) (by rw [e0]; exact qv1) qv1' (argsL := [(.long q1), (.long q2), (.long ((p1.toInt64 <<< ((32 : Int32) &&& 0x3f).toInt64) ||| (p2 + (2 : Int32)).toInt64))]) (rest := []) (lenOf pd_2 rfl) rfl (by show 2 * 0 + _ ≤ _; exact Nat.le_of_eq rfl) (hb hby d10_15) (fun _ _ => ⟨rfl, e0, (by decide : 0 + 0 ≤ _), (by decide : 0 + 0 ≤ _)⟩)
  dsimp only [Pt.U, Pt.locs, Pt.cells, Pt.slots] at X1 l1 y1 z1 st1 hQ1
  subst l1 y1 z1
  obtain ⟨rfl, N1q, x1c0, x1c1, x1c2, x1c3⟩ := hQ1
  have N1 := Fr.app N0 N1q
  have E0x_1 : Exa Z T1.heap a0x "com/example/outcry/outcry/allocation/Memo" := E0x.keep x1c0
  have Z1 : n0 ≤ T1.heap.size := Nat.le_trans Z0 x1c0.1
  have K1 : Keep h0 T1.heap [a0x, a1x] := K0.trans x1c0 (allS (P := fun x => x ∈ [a0x, a1x] ∨ h0.size ≤ x) (Or.inl (List.mem_of_getElem? (i := 0) rfl)) (allS (P := fun x => x ∈ [a0x, a1x] ∨ h0.size ≤ x) (Or.inl (List.mem_of_getElem? (i := 1) rfl)) all0))
  obtain ⟨fs, hr, hrun, hended, hW, hsame⟩ := X1.leave (v := none) (fun _ => rfl)
  refine ⟨_, _, pre0 _ ?_, hrun, hended, _, _, rfl, ?_, ⟨_, rfl⟩, hW, hsame.mono (by decide) (by decide)⟩
  · show Steps p.tables e below (s₁.setTop (mkF m 0 #[.val (.ref a0x), .val (.long q1), .second, .val (.long q2), .second, .val (.int p1), .val (.int p2)] [])) _
    refine XS.aloadN X0.here hx rfl (hb hby d10_0) rfl rfl ?_
    show Steps p.tables e below (s₁.setTop (mkF m 1 #[.val (.ref a0x), .val (.long q1), .second, .val (.long q2), .second, .val (.int p1), .val (.int p2)] [(.ref a0x)])) _
    refine XS.lloadN X0.here hx rfl (hb hby d10_1) rfl ?_
    show Steps p.tables e below (s₁.setTop (mkF m 2 #[.val (.ref a0x), .val (.long q1), .second, .val (.long q2), .second, .val (.int p1), .val (.int p2)] [(.long q1), (.ref a0x)])) _
    refine XS.lloadN X0.here hx rfl (hb hby d10_2) rfl ?_
    show Steps p.tables e below (s₁.setTop (mkF m 3 #[.val (.ref a0x), .val (.long q1), .second, .val (.long q2), .second, .val (.int p1), .val (.int p2)] [(.long q2), (.long q1), (.ref a0x)])) _
    refine XS.iload X0.here hx rfl (hb hby d10_3) rfl ?_
    show Steps p.tables e below (s₁.setTop (mkF m 5 #[.val (.ref a0x), .val (.long q1), .second, .val (.long q2), .second, .val (.int p1), .val (.int p2)] [(.int p1), (.long q2), (.long q1), (.ref a0x)])) _
    refine XS.i2l X0.here hx rfl (hb hby d10_5) rfl ?_
    show Steps p.tables e below (s₁.setTop (mkF m 6 #[.val (.ref a0x), .val (.long q1), .second, .val (.long q2), .second, .val (.int p1), .val (.int p2)] [(.long p1.toInt64), (.long q2), (.long q1), (.ref a0x)])) _
    refine XS.bipush X0.here hx rfl (hb hby d10_6) ?_
    show Steps p.tables e below (s₁.setTop (mkF m 8 #[.val (.ref a0x), .val (.long q1), .second, .val (.long q2), .second, .val (.int p1), .val (.int p2)] [(.int (32 : Int32)), (.long p1.toInt64), (.long q2), (.long q1), (.ref a0x)])) _
    refine XS.lshl X0.here hx rfl (hb hby d10_8) rfl ?_
    show Steps p.tables e below (s₁.setTop (mkF m 9 #[.val (.ref a0x), .val (.long q1), .second, .val (.long q2), .second, .val (.int p1), .val (.int p2)] [(.long (p1.toInt64 <<< ((32 : Int32) &&& 0x3f).toInt64)), (.long q2), (.long q1), (.ref a0x)])) _
    refine XS.iload X0.here hx rfl (hb hby d10_9) rfl ?_
    show Steps p.tables e below (s₁.setTop (mkF m 11 #[.val (.ref a0x), .val (.long q1), .second, .val (.long q2), .second, .val (.int p1), .val (.int p2)] [(.int p2), (.long (p1.toInt64 <<< ((32 : Int32) &&& 0x3f).toInt64)), (.long q2), (.long q1), (.ref a0x)])) _
    refine XS.iconst X0.here hx rfl (hb hby d10_11) ?_
    show Steps p.tables e below (s₁.setTop (mkF m 12 #[.val (.ref a0x), .val (.long q1), .second, .val (.long q2), .second, .val (.int p1), .val (.int p2)] [(.int (2 : Int32)), (.int p2), (.long (p1.toInt64 <<< ((32 : Int32) &&& 0x3f).toInt64)), (.long q2), (.long q1), (.ref a0x)])) _
    refine XS.iadd X0.here hx rfl (hb hby d10_12) rfl ?_
    show Steps p.tables e below (s₁.setTop (mkF m 13 #[.val (.ref a0x), .val (.long q1), .second, .val (.long q2), .second, .val (.int p1), .val (.int p2)] [(.int (p2 + (2 : Int32))), (.long (p1.toInt64 <<< ((32 : Int32) &&& 0x3f).toInt64)), (.long q2), (.long q1), (.ref a0x)])) _
    refine XS.i2l X0.here hx rfl (hb hby d10_13) rfl ?_
    show Steps p.tables e below (s₁.setTop (mkF m 14 #[.val (.ref a0x), .val (.long q1), .second, .val (.long q2), .second, .val (.int p1), .val (.int p2)] [(.long (p2 + (2 : Int32)).toInt64), (.long (p1.toInt64 <<< ((32 : Int32) &&& 0x3f).toInt64)), (.long q2), (.long q1), (.ref a0x)])) _
    refine XS.lor X0.here hx rfl (hb hby d10_14) rfl ?_
    show Steps p.tables e below (s₁.setTop (mkF m 15 #[.val (.ref a0x), .val (.long q1), .second, .val (.long q2), .second, .val (.int p1), .val (.int p2)] [(.long ((p1.toInt64 <<< ((32 : Int32) &&& 0x3f).toInt64) ||| (p2 + (2 : Int32)).toInt64)), (.long q2), (.long q1), (.ref a0x)])) _
    refine st1.trans ?_
    show Steps p.tables e below (T1.setTop (mkF m 18 #[.val (.ref a0x), .val (.long q1), .second, .val (.long q2), .second, .val (.int p1), .val (.int p2)] [])) _
    exact X1.returnOut hx Bd.returns (hb hby d10_18) hr
  · show Q_rm_exactly Z a0x q1 q2 p1 p2 a1x tab qs h0 n0 _ T1.heap _
    exact ⟨rfl, N1, K1, x1c1, x1c2, x1c3⟩
theorem d4_0 : decode prog_38_method_7_code 0 = .ok (.aload_n 0, 1) := by decide +kernel
theorem d4_1 : decode prog_38_method_7_code 1 = .ok (.lload_n 1, 1) := by decide +kernel
theorem d4_2 : decode prog_38_method_7_code 2 = .ok (.lload_n 3, 1) := by decide +kernel
theorem d4_3 : decode prog_38_method_7_code 3 = .ok (.iload 5, 2) := by decide +kernel
theorem d4_5 : decode prog_38_method_7_code 5 = .ok (.i2l, 1) := by decide +kernel
theorem d4_6 : decode prog_38_method_7_code 6 = .ok (.bipush 32, 2) := by decide +kernel
theorem d4_8 : decode prog_38_method_7_code 8 = .ok (.lshl, 1) := by decide +kernel
theorem d4_9 : decode prog_38_method_7_code 9 = .ok (.lconst 1, 1) := by decide +kernel
theorem d4_10 : decode prog_38_method_7_code 10 = .ok (.lor, 1) := by decide +kernel
theorem d4_11 : decode prog_38_method_7_code 11 = .ok (.invokevirtual 23, 3) := by decide +kernel
theorem d4_14 : decode prog_38_method_7_code 14 = .ok (.return_, 1) := by decide +kernel
theorem ef_4 (m : MethodId) (x0 : Addr) (x1 : Int64) (x2 : Int64) (x3 : Int32) : entryFrame m #[(.ref x0), (.long x1), (.long x2), (.int x3)] 6 = mkF m 0 #[.val (.ref x0), .val (.long x1), .second, .val (.long x2), .second, .val (.int x3)] [] := by first | (simp [entryFrame, mkF, argsToLocals, Value.category]; done) | rfl
def Q_rm_atMost (Z : State) (a0x : Addr) (q1 : Int64) (q2 : Int64) (p1 : Int32) (a1x : Addr) (tab : Int32 → Int64) (qs : Int32) (h0 : Heap) (n0 : Nat) (v : Option Value) (h : Heap) (L : List Loc) : Prop := v = none ∧ Fr n0 L ∧ Keep h0 h [a0x, a1x] ∧ Fld Z h a0x "com/example/outcry/outcry/allocation/Memo" "table" "[J" (.ref a1x) ∧ Fld Z h a0x "com/example/outcry/outcry/allocation/Memo" "size" "I" (.int (own_szz tab q1 q2 qs)) ∧ own_Tab Z h a1x .long (3072 : Int32) (fun j => .long ((own_put tab q1 q2 ((p1.toInt64 <<< ((32 : Int32) &&& 0x3f).toInt64) ||| (1 : Int64))) j))
set_option maxRecDepth 65536 in
set_option maxHeartbeats 40000000 in
theorem rm_atMost (l : Launch) (Z : State) (a0 : Array Value) (hw : ∀ d ∈ tables_1, d.before a0 Z = true) (ws : List Jvm.Cond) (a0x : Addr) (q1 : Int64) (q2 : Int64) (p1 : Int32) (a1x : Addr) (tab : Int32 → Int64) (qs : Int32) (h0 : Heap) (n0 : Nat) (Z0 : n0 ≤ h0.size) (Ft : Fld Z h0 a0x "com/example/outcry/outcry/allocation/Memo" "table" "[J" (.ref a1x)) (Vt : own_Tab Z h0 a1x .long (3072 : Int32) (fun j => .long (tab j))) (E0x : Exa Z h0 a0x "com/example/outcry/outcry/allocation/Memo") (g0x : n0 ≤ a0x) (g1x : n0 ≤ a1x) (ne01 : a0x ≠ a1x) (Fs : Fld Z h0 a0x "com/example/outcry/outcry/allocation/Memo" "size" "I" (.int qs)) (hok : own_ok tab q1 q2) (hok2 : own_find tab q1 q2 < 0 → own_ok2 tab q1 q2) (hq : ¬ (((3072 : Int32) / (3 : Int32)) < ((2 : Int32) * (qs + (1 : Int32))))) :
    MetFree l (⟨"com/example/outcry/outcry/allocation/Memo", "atMost", "(JJI)V"⟩ : MethodName) (head1 (Jvm.Cond.code (⟨"com/example/outcry/outcry/allocation/Memo", "atMost", "(JJI)V"⟩ : MethodName) prog_38_method_7_code 6 none :: ws) ({ frames := 3, cells := 0, slots := 0, locals := 56 } : Room)) (fun a U => a = #[(.ref a0x), (.long q1), (.long q2), (.int p1)] ∧ Z.Warmed39 U.vm ∧ U.heap = h0) (fun _ _ _ _ _ => True) (fun _ U o U' => ∃ v L, o = .returned v ∧ Q_rm_atMost Z a0x q1 q2 p1 a1x tab qs h0 n0 v U'.heap L ∧ FrameEnd U o U' L ({ frames := 3, cells := 0, slots := 0, locals := 56 } : Room).cells ({ frames := 3, cells := 0, slots := 0, locals := 56 } : Room).slots) := by
  refine MetFree.of_bodySF (plainFor_of_name pn_0) hisR ?_
  intro p e s m args below meth c s₁ Bd hml0 hP hK
  obtain ⟨rfl, hZ, hh⟩ := hP
  have hx := Bd.exec
  have hby := Bd.bytes
  have hml : c.maxLocals = 6 := hml0
  have hown : s.vm.findClass "com/example/outcry/outcry/allocation/Memo" = some m.cls := findClass_of_methodNamed Bd.named
  have hnm := (name_of_methodNamed Bd.named Bd.method).1
  have X0 : Stand p l e ({ frames := 3, cells := 0, slots := 0, locals := 56 } : Room) s m #[(.ref a0x), (.long q1), (.long q2), (.int p1)] below meth c s₁ [] 0 0 := Stand.of_body Bd
  have e0 : s₁.heap = h0 := by rw [← hh, Bd.state]; rfl
  have N0 := Fr.nil n0
  have K0 : Keep h0 h0 [a0x, a1x] := Keep.refl h0 [a0x, a1x]
  have pre0 : ∀ t, Steps p.tables e below (s₁.setTop (mkF m 0 #[.val (.ref a0x), .val (.long q1), .second, .val (.long q2), .second, .val (.int p1)] [])) t → Steps p.tables e below (s₁.setTop (entryFrame m #[(.ref a0x), (.long q1), (.long q2), (.int p1)] 6)) t := fun t k => castTop (ef_4 m a0x q1 q2 p1) k
  obtain ⟨cq1, qv1, qv1'⟩ := E0x.cell
  obtain ⟨_, _, ⟨T1, L1, k1, n1⟩, -, X1, ⟨Lc1, hQ1, l1, y1, z1⟩, st1⟩ := X0.privateBack hx (y := (⟨"com/example/outcry/outcry/allocation/Memo", "put", "(JJJ)V"⟩ : MethodName)) hown (mvT hZ (hw _ (List.mem_of_getElem? (i := 22) rfl))) (mvT hZ (hw _ (List.mem_of_getElem? (i := 23) rfl))) (own_selp (by decide) (mvT hZ (hw _ (List.mem_of_getElem? (i := 1) rfl))) (mvP hZ (hw _ (List.mem_of_getElem? (i := 24) rfl))) (mvT hZ (hw _ (List.mem_of_getElem? (i := 23) rfl)))) (Cond.privateMethod_at (mvP hZ (hw _ (List.mem_of_getElem? (i := 24) rfl)) (args := #[]))) (mvT hZ (hw _ (List.mem_of_getElem? (i := 25) rfl))) (by decide) (backOf (W := 0) (rm_put l Z a0 hw [] a0x q1 q2 ((p1.toInt64 <<< ((32 : Int32) &&& 0x3f).toInt64) ||| (1 : Int64)) a1x tab qs h0 n0 Z0 Ft Vt E0x g0x g1x ne01 Fs hok hok2 hq) hZ (hw _ (List.mem_of_getElem? (i := 25) rfl)) (hw _ (List.mem_of_getElem? (i := 2) rfl)) (by decide) (by decide)) (g := (mkF m 11 #[.val (.ref a0x), .val (.long q1), .second, .val (.long q2), .second, .val (.int p1)] [(.long ((p1.toInt64 <<< ((32 : Int32) &&& 0x3f).toInt64) ||| (1 : Int64))), (.long q2), (.long q1), (.ref a0x)])) rfl (by rw [hml]; rfl) (Steps.refl _) (a := a0x) (by rw [e0]; exact qv1) qv1' (argsL := [(.long q1), (.long q2), (.long ((p1.toInt64 <<< ((32 : Int32) &&& 0x3f).toInt64) ||| (1 : Int64)))]) (rest := []) (lenOf pd_2 rfl) rfl (by show 2 * 0 + _ ≤ _; exact Nat.le_of_eq rfl) (hb hby d4_11) (fun _ _ => ⟨rfl, e0, (by decide : 0 + 0 ≤ _), (by decide : 0 + 0 ≤ _)⟩)
  dsimp only [Pt.U, Pt.locs, Pt.cells, Pt.slots] at X1 l1 y1 z1 st1 hQ1
  subst l1 y1 z1
  obtain ⟨rfl, N1q, x1c0, x1c1, x1c2, x1c3⟩ := hQ1
  have N1 := Fr.app N0 N1q
  have E0x_1 : Exa Z T1.heap a0x "com/example/outcry/outcry/allocation/Memo" := E0x.keep x1c0
  have Z1 : n0 ≤ T1.heap.size := Nat.le_trans Z0 x1c0.1
  have K1 : Keep h0 T1.heap [a0x, a1x] := K0.trans x1c0 (allS (P := fun x => x ∈ [a0x, a1x] ∨ h0.size ≤ x) (Or.inl (List.mem_of_getElem? (i := 0) rfl)) (allS (P := fun x => x ∈ [a0x, a1x] ∨ h0.size ≤ x) (Or.inl (List.mem_of_getElem? (i := 1) rfl)) all0))
  obtain ⟨fs, hr, hrun, hended, hW, hsame⟩ := X1.leave (v := none) (fun _ => rfl)
  refine ⟨_, _, pre0 _ ?_, hrun, hended, _, _, rfl, ?_, ⟨_, rfl⟩, hW, hsame.mono (by decide) (by decide)⟩
  · show Steps p.tables e below (s₁.setTop (mkF m 0 #[.val (.ref a0x), .val (.long q1), .second, .val (.long q2), .second, .val (.int p1)] [])) _
    refine XS.aloadN X0.here hx rfl (hb hby d4_0) rfl rfl ?_
    show Steps p.tables e below (s₁.setTop (mkF m 1 #[.val (.ref a0x), .val (.long q1), .second, .val (.long q2), .second, .val (.int p1)] [(.ref a0x)])) _
    refine XS.lloadN X0.here hx rfl (hb hby d4_1) rfl ?_
    show Steps p.tables e below (s₁.setTop (mkF m 2 #[.val (.ref a0x), .val (.long q1), .second, .val (.long q2), .second, .val (.int p1)] [(.long q1), (.ref a0x)])) _
    refine XS.lloadN X0.here hx rfl (hb hby d4_2) rfl ?_
    show Steps p.tables e below (s₁.setTop (mkF m 3 #[.val (.ref a0x), .val (.long q1), .second, .val (.long q2), .second, .val (.int p1)] [(.long q2), (.long q1), (.ref a0x)])) _
    refine XS.iload X0.here hx rfl (hb hby d4_3) rfl ?_
    show Steps p.tables e below (s₁.setTop (mkF m 5 #[.val (.ref a0x), .val (.long q1), .second, .val (.long q2), .second, .val (.int p1)] [(.int p1), (.long q2), (.long q1), (.ref a0x)])) _
    refine XS.i2l X0.here hx rfl (hb hby d4_5) rfl ?_
    show Steps p.tables e below (s₁.setTop (mkF m 6 #[.val (.ref a0x), .val (.long q1), .second, .val (.long q2), .second, .val (.int p1)] [(.long p1.toInt64), (.long q2), (.long q1), (.ref a0x)])) _
    refine XS.bipush X0.here hx rfl (hb hby d4_6) ?_
    show Steps p.tables e below (s₁.setTop (mkF m 8 #[.val (.ref a0x), .val (.long q1), .second, .val (.long q2), .second, .val (.int p1)] [(.int (32 : Int32)), (.long p1.toInt64), (.long q2), (.long q1), (.ref a0x)])) _
    refine XS.lshl X0.here hx rfl (hb hby d4_8) rfl ?_
    show Steps p.tables e below (s₁.setTop (mkF m 9 #[.val (.ref a0x), .val (.long q1), .second, .val (.long q2), .second, .val (.int p1)] [(.long (p1.toInt64 <<< ((32 : Int32) &&& 0x3f).toInt64)), (.long q2), (.long q1), (.ref a0x)])) _
    refine XS.lconst X0.here hx rfl (hb hby d4_9) ?_
    show Steps p.tables e below (s₁.setTop (mkF m 10 #[.val (.ref a0x), .val (.long q1), .second, .val (.long q2), .second, .val (.int p1)] [(.long (1 : Int64)), (.long (p1.toInt64 <<< ((32 : Int32) &&& 0x3f).toInt64)), (.long q2), (.long q1), (.ref a0x)])) _
    refine XS.lor X0.here hx rfl (hb hby d4_10) rfl ?_
    show Steps p.tables e below (s₁.setTop (mkF m 11 #[.val (.ref a0x), .val (.long q1), .second, .val (.long q2), .second, .val (.int p1)] [(.long ((p1.toInt64 <<< ((32 : Int32) &&& 0x3f).toInt64) ||| (1 : Int64))), (.long q2), (.long q1), (.ref a0x)])) _
    refine st1.trans ?_
    show Steps p.tables e below (T1.setTop (mkF m 14 #[.val (.ref a0x), .val (.long q1), .second, .val (.long q2), .second, .val (.int p1)] [])) _
    exact X1.returnOut hx Bd.returns (hb hby d4_14) hr
  · show Q_rm_atMost Z a0x q1 q2 p1 a1x tab qs h0 n0 _ T1.heap _
    exact ⟨rfl, N1, K1, x1c1, x1c2, x1c3⟩
theorem d3_0 : decode method_2_code 0 = .ok (.iload 7, 2) := by decide +kernel
theorem d3_2 : decode method_2_code 2 = .ok (.ifCond .eq 16, 3) := by decide +kernel
theorem d3_18 : decode method_2_code 18 = .ok (.aload_n 0, 1) := by decide +kernel
theorem d3_19 : decode method_2_code 19 = .ok (.lload_n 1, 1) := by decide +kernel
theorem d3_20 : decode method_2_code 20 = .ok (.lload_n 3, 1) := by decide +kernel
theorem d3_21 : decode method_2_code 21 = .ok (.iload 5, 2) := by decide +kernel
theorem d3_23 : decode method_2_code 23 = .ok (.invokevirtual 13, 3) := by decide +kernel
theorem pd_3 : parseMethodDescriptor "(JJI)V" = some ⟨[.long, .long, .int], none⟩ := by decide +kernel
theorem d3_26 : decode method_2_code 26 = .ok (.return_, 1) := by decide +kernel
theorem d3_5 : decode method_2_code 5 = .ok (.aload_n 0, 1) := by decide +kernel
theorem d3_6 : decode method_2_code 6 = .ok (.lload_n 1, 1) := by decide +kernel
theorem d3_7 : decode method_2_code 7 = .ok (.lload_n 3, 1) := by decide +kernel
theorem d3_8 : decode method_2_code 8 = .ok (.iload 5, 2) := by decide +kernel
theorem d3_10 : decode method_2_code 10 = .ok (.iload 6, 2) := by decide +kernel
theorem d3_12 : decode method_2_code 12 = .ok (.invokevirtual 7, 3) := by decide +kernel
theorem pd_4 : parseMethodDescriptor "(JJII)V" = some ⟨[.long, .long, .int, .int], none⟩ := by decide +kernel
theorem d3_15 : decode method_2_code 15 = .ok (.goto 11, 3) := by decide +kernel
theorem pn_1 : plainName "com/example/outcry/outcry/allocation/MemoValuePinLaw" = true := by first | (simp [plainName, overriddenIn]; done) | decide +kernel
theorem ef_3 (m : MethodId) (x0 : Addr) (x1 : Int64) (x2 : Int64) (x3 : Int32) (x4 : Int32) (x5 : Int32) : entryFrame m #[(.ref x0), (.long x1), (.long x2), (.int x3), (.int x4), (.int x5)] 8 = mkF m 0 #[.val (.ref x0), .val (.long x1), .second, .val (.long x2), .second, .val (.int x3), .val (.int x4), .val (.int x5)] [] := by first | (simp [entryFrame, mkF, argsToLocals, Value.category]; done) | rfl
def Q_rm_store (Z : State) (a0x : Addr) (q1 : Int64) (q2 : Int64) (p1 : Int32) (p2 : Int32) (p3 : Int32) (a1x : Addr) (tab : Int32 → Int64) (qs : Int32) (h0 : Heap) (n0 : Nat) (v : Option Value) (h : Heap) (L : List Loc) : Prop := v = none ∧ Fr n0 L ∧ Keep h0 h [a0x, a1x] ∧ Fld Z h a0x "com/example/outcry/outcry/allocation/Memo" "table" "[J" (.ref a1x) ∧ Fld Z h a0x "com/example/outcry/outcry/allocation/Memo" "size" "I" (.int (own_szz tab q1 q2 qs)) ∧ own_Tab Z h a1x .long (3072 : Int32) (fun j => .long ((own_put tab q1 q2 (own_out p1 p2 p3)) j))
set_option maxRecDepth 65536 in
set_option maxHeartbeats 40000000 in
theorem rm_store (l : Launch) (Z : State) (a0 : Array Value) (hw : ∀ d ∈ tables_1, d.before a0 Z = true) (ws : List Jvm.Cond) (a0x : Addr) (q1 : Int64) (q2 : Int64) (p1 : Int32) (p2 : Int32) (p3 : Int32) (a1x : Addr) (tab : Int32 → Int64) (qs : Int32) (h0 : Heap) (n0 : Nat) (Z0 : n0 ≤ h0.size) (Ft : Fld Z h0 a0x "com/example/outcry/outcry/allocation/Memo" "table" "[J" (.ref a1x)) (Vt : own_Tab Z h0 a1x .long (3072 : Int32) (fun j => .long (tab j))) (E0x : Exa Z h0 a0x "com/example/outcry/outcry/allocation/Memo") (g0x : n0 ≤ a0x) (g1x : n0 ≤ a1x) (ne01 : a0x ≠ a1x) (Fs : Fld Z h0 a0x "com/example/outcry/outcry/allocation/Memo" "size" "I" (.int qs)) (hok : own_ok tab q1 q2) (hok2 : own_find tab q1 q2 < 0 → own_ok2 tab q1 q2) (hq : ¬ (((3072 : Int32) / (3 : Int32)) < ((2 : Int32) * (qs + (1 : Int32))))) :
    MetFree l (⟨"com/example/outcry/outcry/allocation/MemoValuePinLaw", "store", "(Lcom/example/outcry/outcry/allocation/Memo;JJIIZ)V"⟩ : MethodName) (head1 (Jvm.Cond.code (⟨"com/example/outcry/outcry/allocation/MemoValuePinLaw", "store", "(Lcom/example/outcry/outcry/allocation/Memo;JJIIZ)V"⟩ : MethodName) method_2_code 8 none :: ws) ({ frames := 4, cells := 0, slots := 0, locals := 74 } : Room)) (fun a U => a = #[(.ref a0x), (.long q1), (.long q2), (.int p1), (.int p2), (.int p3)] ∧ Z.Warmed39 U.vm ∧ U.heap = h0) (fun _ _ _ _ _ => True) (fun _ U o U' => ∃ v L, o = .returned v ∧ Q_rm_store Z a0x q1 q2 p1 p2 p3 a1x tab qs h0 n0 v U'.heap L ∧ FrameEnd U o U' L ({ frames := 4, cells := 0, slots := 0, locals := 74 } : Room).cells ({ frames := 4, cells := 0, slots := 0, locals := 74 } : Room).slots) := by
  refine MetFree.of_bodySF (plainFor_of_name pn_1) hisR ?_
  intro p e s m args below meth c s₁ Bd hml0 hP hK
  obtain ⟨rfl, hZ, hh⟩ := hP
  have hx := Bd.exec
  have hby := Bd.bytes
  have hml : c.maxLocals = 8 := hml0
  have hown : s.vm.findClass "com/example/outcry/outcry/allocation/MemoValuePinLaw" = some m.cls := findClass_of_methodNamed Bd.named
  have hnm := (name_of_methodNamed Bd.named Bd.method).1
  have X0 : Stand p l e ({ frames := 4, cells := 0, slots := 0, locals := 74 } : Room) s m #[(.ref a0x), (.long q1), (.long q2), (.int p1), (.int p2), (.int p3)] below meth c s₁ [] 0 0 := Stand.of_body Bd
  have e0 : s₁.heap = h0 := by rw [← hh, Bd.state]; rfl
  have N0 := Fr.nil n0
  have K0 : Keep h0 h0 [a0x, a1x] := Keep.refl h0 [a0x, a1x]
  have pre0 : ∀ t, Steps p.tables e below (s₁.setTop (mkF m 0 #[.val (.ref a0x), .val (.long q1), .second, .val (.long q2), .second, .val (.int p1), .val (.int p2), .val (.int p3)] [])) t → Steps p.tables e below (s₁.setTop (entryFrame m #[(.ref a0x), (.long q1), (.long q2), (.int p1), (.int p2), (.int p3)] 8)) t := fun t k => castTop (ef_3 m a0x q1 q2 p1 p2 p3) k
  have k1 : ∀ target, Steps p.tables e below (s₁.setTop (mkF m 2 #[.val (.ref a0x), .val (.long q1), .second, .val (.long q2), .second, .val (.int p1), .val (.int p2), .val (.int p3)] [(.int p3)])) target → Steps p.tables e below (s₁.setTop (mkF m 0 #[.val (.ref a0x), .val (.long q1), .second, .val (.long q2), .second, .val (.int p1), .val (.int p2), .val (.int p3)] [])) target := by
    intro target kt
    show Steps p.tables e below (s₁.setTop (mkF m 0 #[.val (.ref a0x), .val (.long q1), .second, .val (.long q2), .second, .val (.int p1), .val (.int p2), .val (.int p3)] [])) _
    refine XS.iload X0.here hx rfl (hb hby d3_0) rfl ?_
    exact kt
  by_cases hc2 : p3 = (0 : Int32)
  · obtain ⟨cq2, kq2, q2a, q2b, q2c⟩ := isOf hZ e0 E0x
    obtain ⟨_, _, ⟨T2, L2, k2, n2⟩, -, X2, ⟨Lc2, hQ2, l2, y2, z2⟩, st2⟩ := X0.virtualBack hx (y := (⟨"com/example/outcry/outcry/allocation/Memo", "atMost", "(JJI)V"⟩ : MethodName)) (z := (⟨"com/example/outcry/outcry/allocation/Memo", "atMost", "(JJI)V"⟩ : MethodName)) hown (mvT hZ (hw _ (List.mem_of_getElem? (i := 17) rfl))) (mvT hZ (hw _ (List.mem_of_getElem? (i := 18) rfl))) (notFace_of_selects (args := #[]) (mvT hZ (hw _ (List.mem_of_getElem? (i := 20) rfl)))) (mvT hZ (hw _ (List.mem_of_getElem? (i := 20) rfl))) (mvT hZ (hw _ (List.mem_of_getElem? (i := 19) rfl))) (by decide) (backOf (W := 0) (rm_atMost l Z a0 hw [] a0x q1 q2 p1 a1x tab qs h0 n0 Z0 Ft Vt E0x g0x g1x ne01 Fs hok hok2 hq) hZ (hw _ (List.mem_of_getElem? (i := 21) rfl)) (hw _ (List.mem_of_getElem? (i := 2) rfl)) (by decide) (by decide)) q2a q2c (g := (mkF m 23 #[.val (.ref a0x), .val (.long q1), .second, .val (.long q2), .second, .val (.int p1), .val (.int p2), .val (.int p3)] [(.int p1), (.long q2), (.long q1), (.ref a0x)])) rfl (by rw [hml]; rfl) (Steps.refl _) (argsL := [(.long q1), (.long q2), (.int p1)]) (rest := []) (lenOf pd_3 rfl) rfl (by show 2 * 0 + _ ≤ _; exact Nat.le_of_eq rfl) (hb hby d3_23) (fun _ _ => ⟨rfl, e0, (by decide : 0 + 0 ≤ _), (by decide : 0 + 0 ≤ _)⟩)
    dsimp only [Pt.U, Pt.locs, Pt.cells, Pt.slots] at X2 l2 y2 z2 st2 hQ2
    subst l2 y2 z2
    obtain ⟨rfl, N2q, x2c0, x2c1, x2c2, x2c3⟩ := hQ2
    have N2 := Fr.app N0 N2q
    have E0x_2 : Exa Z T2.heap a0x "com/example/outcry/outcry/allocation/Memo" := E0x.keep x2c0
    have Z2 : n0 ≤ T2.heap.size := Nat.le_trans Z0 x2c0.1
    have K2 : Keep h0 T2.heap [a0x, a1x] := K0.trans x2c0 (allS (P := fun x => x ∈ [a0x, a1x] ∨ h0.size ≤ x) (Or.inl (List.mem_of_getElem? (i := 0) rfl)) (allS (P := fun x => x ∈ [a0x, a1x] ∨ h0.size ≤ x) (Or.inl (List.mem_of_getElem? (i := 1) rfl)) all0))
    obtain ⟨fs, hr, hrun, hended, hW, hsame⟩ := X2.leave (v := none) (fun _ => rfl)
    refine ⟨_, _, pre0 _ ?_, hrun, hended, _, _, rfl, ?_, ⟨_, rfl⟩, hW, hsame.mono (by decide) (by decide)⟩
    · refine k1 _ ?_
      show Steps p.tables e below (s₁.setTop (mkF m 2 #[.val (.ref a0x), .val (.long q1), .second, .val (.long q2), .second, .val (.int p1), .val (.int p2), .val (.int p3)] [(.int p3)])) _
      refine XS.ifYes X0.here hx rfl (pc0 := 2) (pc' := 18) rfl (hb hby d3_2) rfl ((if0 _ _).trans (teq hc2).1) (by decide) (by decide) ?_
      show Steps p.tables e below (s₁.setTop (mkF m 18 #[.val (.ref a0x), .val (.long q1), .second, .val (.long q2), .second, .val (.int p1), .val (.int p2), .val (.int p3)] [])) _
      refine XS.aloadN X0.here hx rfl (hb hby d3_18) rfl rfl ?_
      show Steps p.tables e below (s₁.setTop (mkF m 19 #[.val (.ref a0x), .val (.long q1), .second, .val (.long q2), .second, .val (.int p1), .val (.int p2), .val (.int p3)] [(.ref a0x)])) _
      refine XS.lloadN X0.here hx rfl (hb hby d3_19) rfl ?_
      show Steps p.tables e below (s₁.setTop (mkF m 20 #[.val (.ref a0x), .val (.long q1), .second, .val (.long q2), .second, .val (.int p1), .val (.int p2), .val (.int p3)] [(.long q1), (.ref a0x)])) _
      refine XS.lloadN X0.here hx rfl (hb hby d3_20) rfl ?_
      show Steps p.tables e below (s₁.setTop (mkF m 21 #[.val (.ref a0x), .val (.long q1), .second, .val (.long q2), .second, .val (.int p1), .val (.int p2), .val (.int p3)] [(.long q2), (.long q1), (.ref a0x)])) _
      refine XS.iload X0.here hx rfl (hb hby d3_21) rfl ?_
      show Steps p.tables e below (s₁.setTop (mkF m 23 #[.val (.ref a0x), .val (.long q1), .second, .val (.long q2), .second, .val (.int p1), .val (.int p2), .val (.int p3)] [(.int p1), (.long q2), (.long q1), (.ref a0x)])) _
      refine st2.trans ?_
      show Steps p.tables e below (T2.setTop (mkF m 26 #[.val (.ref a0x), .val (.long q1), .second, .val (.long q2), .second, .val (.int p1), .val (.int p2), .val (.int p3)] [])) _
      exact X2.returnOut hx Bd.returns (hb hby d3_26) hr
    · show Q_rm_store Z a0x q1 q2 p1 p2 p3 a1x tab qs h0 n0 _ T2.heap _
      exact ⟨rfl, N2, K2, x2c1, x2c2, (own_Tab.cong x2c3 (fun j _ _ => by unfold own_out; rw [if_pos hc2]))⟩
  · obtain ⟨cq3, kq3, q3a, q3b, q3c⟩ := isOf hZ e0 E0x
    obtain ⟨_, _, ⟨T3, L3, k3, n3⟩, -, X3, ⟨Lc3, hQ3, l3, y3, z3⟩, st3⟩ := X0.virtualBack hx (y := (⟨"com/example/outcry/outcry/allocation/Memo", "exactly", "(JJII)V"⟩ : MethodName)) (z := (⟨"com/example/outcry/outcry/allocation/Memo", "exactly", "(JJII)V"⟩ : MethodName)) hown (mvT hZ (hw _ (List.mem_of_getElem? (i := 48) rfl))) (mvT hZ (hw _ (List.mem_of_getElem? (i := 49) rfl))) (notFace_of_selects (args := #[]) (mvT hZ (hw _ (List.mem_of_getElem? (i := 51) rfl)))) (mvT hZ (hw _ (List.mem_of_getElem? (i := 51) rfl))) (mvT hZ (hw _ (List.mem_of_getElem? (i := 50) rfl))) (by decide) (backOf (W := 0) (rm_exactly l Z a0 hw [] a0x q1 q2 p1 p2 a1x tab qs h0 n0 Z0 Ft Vt E0x g0x g1x ne01 Fs hok hok2 hq) hZ (hw _ (List.mem_of_getElem? (i := 52) rfl)) (hw _ (List.mem_of_getElem? (i := 2) rfl)) (by decide) (by decide)) q3a q3c (g := (mkF m 12 #[.val (.ref a0x), .val (.long q1), .second, .val (.long q2), .second, .val (.int p1), .val (.int p2), .val (.int p3)] [(.int p2), (.int p1), (.long q2), (.long q1), (.ref a0x)])) rfl (by rw [hml]; rfl) (Steps.refl _) (argsL := [(.long q1), (.long q2), (.int p1), (.int p2)]) (rest := []) (lenOf pd_4 rfl) rfl (by show 2 * 0 + _ ≤ _; exact Nat.le_of_eq rfl) (hb hby d3_12) (fun _ _ => ⟨rfl, e0, (by decide : 0 + 0 ≤ _), (by decide : 0 + 0 ≤ _)⟩)
    dsimp only [Pt.U, Pt.locs, Pt.cells, Pt.slots] at X3 l3 y3 z3 st3 hQ3
    subst l3 y3 z3
    obtain ⟨rfl, N3q, x3c0, x3c1, x3c2, x3c3⟩ := hQ3
    have N3 := Fr.app N0 N3q
    have E0x_3 : Exa Z T3.heap a0x "com/example/outcry/outcry/allocation/Memo" := E0x.keep x3c0
    have Z3 : n0 ≤ T3.heap.size := Nat.le_trans Z0 x3c0.1
    have K3 : Keep h0 T3.heap [a0x, a1x] := K0.trans x3c0 (allS (P := fun x => x ∈ [a0x, a1x] ∨ h0.size ≤ x) (Or.inl (List.mem_of_getElem? (i := 0) rfl)) (allS (P := fun x => x ∈ [a0x, a1x] ∨ h0.size ≤ x) (Or.inl (List.mem_of_getElem? (i := 1) rfl)) all0))
    obtain ⟨fs, hr, hrun, hended, hW, hsame⟩ := X3.leave (v := none) (fun _ => rfl)
    refine ⟨_, _, pre0 _ ?_, hrun, hended, _, _, rfl, ?_, ⟨_, rfl⟩, hW, hsame.mono (by decide) (by decide)⟩
    · refine k1 _ ?_
      show Steps p.tables e below (s₁.setTop (mkF m 2 #[.val (.ref a0x), .val (.long q1), .second, .val (.long q2), .second, .val (.int p1), .val (.int p2), .val (.int p3)] [(.int p3)])) _
      refine XS.ifNo X0.here hx rfl (hb hby d3_2) rfl ((if0 _ _).trans (feq hc2).1) ?_
      show Steps p.tables e below (s₁.setTop (mkF m 5 #[.val (.ref a0x), .val (.long q1), .second, .val (.long q2), .second, .val (.int p1), .val (.int p2), .val (.int p3)] [])) _
      refine XS.aloadN X0.here hx rfl (hb hby d3_5) rfl rfl ?_
      show Steps p.tables e below (s₁.setTop (mkF m 6 #[.val (.ref a0x), .val (.long q1), .second, .val (.long q2), .second, .val (.int p1), .val (.int p2), .val (.int p3)] [(.ref a0x)])) _
      refine XS.lloadN X0.here hx rfl (hb hby d3_6) rfl ?_
      show Steps p.tables e below (s₁.setTop (mkF m 7 #[.val (.ref a0x), .val (.long q1), .second, .val (.long q2), .second, .val (.int p1), .val (.int p2), .val (.int p3)] [(.long q1), (.ref a0x)])) _
      refine XS.lloadN X0.here hx rfl (hb hby d3_7) rfl ?_
      show Steps p.tables e below (s₁.setTop (mkF m 8 #[.val (.ref a0x), .val (.long q1), .second, .val (.long q2), .second, .val (.int p1), .val (.int p2), .val (.int p3)] [(.long q2), (.long q1), (.ref a0x)])) _
      refine XS.iload X0.here hx rfl (hb hby d3_8) rfl ?_
      show Steps p.tables e below (s₁.setTop (mkF m 10 #[.val (.ref a0x), .val (.long q1), .second, .val (.long q2), .second, .val (.int p1), .val (.int p2), .val (.int p3)] [(.int p1), (.long q2), (.long q1), (.ref a0x)])) _
      refine XS.iload X0.here hx rfl (hb hby d3_10) rfl ?_
      show Steps p.tables e below (s₁.setTop (mkF m 12 #[.val (.ref a0x), .val (.long q1), .second, .val (.long q2), .second, .val (.int p1), .val (.int p2), .val (.int p3)] [(.int p2), (.int p1), (.long q2), (.long q1), (.ref a0x)])) _
      refine st3.trans ?_
      show Steps p.tables e below (T3.setTop (mkF m 15 #[.val (.ref a0x), .val (.long q1), .second, .val (.long q2), .second, .val (.int p1), .val (.int p2), .val (.int p3)] [])) _
      refine XS.goto X3.here hx rfl (pc0 := 15) (pc' := 26) rfl (hb hby d3_15) (by decide) (by decide) ?_
      show Steps p.tables e below (T3.setTop (mkF m 26 #[.val (.ref a0x), .val (.long q1), .second, .val (.long q2), .second, .val (.int p1), .val (.int p2), .val (.int p3)] [])) _
      exact X3.returnOut hx Bd.returns (hb hby d3_26) hr
    · show Q_rm_store Z a0x q1 q2 p1 p2 p3 a1x tab qs h0 n0 _ T3.heap _
      exact ⟨rfl, N3, K3, x3c1, x3c2, (own_Tab.cong x3c3 (fun j _ _ => by unfold own_out; rw [if_neg hc2]))⟩
theorem own_ok_0 (f s : Int64) : own_ok (fun _ => (0 : Int64)) f s := Or.inl rfl
theorem own_ok2_0 (f s : Int64) : own_ok2 (fun _ => (0 : Int64)) f s := Or.inl rfl
theorem own_find_0 (f s : Int64) : own_find (fun _ => (0 : Int64)) f s = -1 := by simp [own_find]
theorem own_free_0 (f s : Int64) : own_free (fun _ => (0 : Int64)) f s = own_s f s * 3 := by simp [own_free]
theorem own_ne_of {x y : Int32} (h : x.toInt ≠ y.toInt) : x ≠ y := fun e => h (by rw [e])
theorem own_ixs {a : Int32} (h : 0 ≤ a.toInt ∧ a.toInt ≤ 1023) : (a * 3 ≠ a * 3 + 1) ∧ (a * 3 ≠ a * 3 + 2) ∧ (a * 3 + 1 ≠ a * 3 + 2) := by
  refine ⟨own_ne_of ?_, own_ne_of ?_, own_ne_of ?_⟩ <;> (try rw [own_i0 h]) <;> (try rw [own_i1 h]) <;> (try rw [own_i2 h]) <;> omega
theorem own_ix {a b : Int32} (h : 0 ≤ a.toInt ∧ a.toInt ≤ 1023) (k : 0 ≤ b.toInt ∧ b.toInt ≤ 1023) (q : a ≠ b) : (a * 3 ≠ b * 3) ∧ (a * 3 ≠ b * 3 + 1) ∧ (a * 3 ≠ b * 3 + 2) ∧ (a * 3 + 1 ≠ b * 3) ∧ (a * 3 + 1 ≠ b * 3 + 1) ∧ (a * 3 + 1 ≠ b * 3 + 2) ∧ (a * 3 + 2 ≠ b * 3) ∧ (a * 3 + 2 ≠ b * 3 + 1) ∧ (a * 3 + 2 ≠ b * 3 + 2) := by
  have q' : a.toInt ≠ b.toInt := fun e => q (Int32.toInt_inj.mp e)
  refine ⟨own_ne_of ?_, own_ne_of ?_, own_ne_of ?_, own_ne_of ?_, own_ne_of ?_, own_ne_of ?_, own_ne_of ?_, own_ne_of ?_, own_ne_of ?_⟩ <;> simp only [own_i0 h, own_i1 h, own_i2 h, own_i0 k, own_i1 k, own_i2 k] <;> omega
def own_up (t : Int32 → Int64) (a : Int32) (f s o : Int64) : Int32 → Int64 := fun i => if i = a * 3 + 2 then o else if i = a * 3 + 1 then s else if i = a * 3 then f else t i
theorem own_up_0 {t : Int32 → Int64} {a : Int32} {f s o : Int64} (h : 0 ≤ a.toInt ∧ a.toInt ≤ 1023) : own_up t a f s o (a * 3) = f ∧ own_up t a f s o (a * 3 + 1) = s ∧ own_up t a f s o (a * 3 + 2) = o := by
  obtain ⟨h1, h2, h3⟩ := own_ixs h
  simp [own_up, h1, h2, h3]
theorem own_up_1 {t : Int32 → Int64} {a b : Int32} {f s o : Int64} (h : 0 ≤ a.toInt ∧ a.toInt ≤ 1023) (k : 0 ≤ b.toInt ∧ b.toInt ≤ 1023) (q : b ≠ a) : own_up t a f s o (b * 3) = t (b * 3) ∧ own_up t a f s o (b * 3 + 1) = t (b * 3 + 1) ∧ own_up t a f s o (b * 3 + 2) = t (b * 3 + 2) := by
  obtain ⟨h1, h2, h3, h4, h5, h6, h7, h8, h9⟩ := own_ix k h q
  simp [own_up, h1, h2, h3, h4, h5, h6, h7, h8, h9]
theorem own_put_new {t : Int32 → Int64} {f s o : Int64} {a : Int32} (h : own_find t f s = -1) (e : own_free t f s = a * 3) : own_put t f s o = own_up t a f s o := by
  unfold own_put own_up
  rw [if_pos (by rw [h]; decide), e]
theorem own_T1 (f s o : Int64) : own_put (fun _ => (0 : Int64)) f s o = own_up (fun _ => 0) (own_s f s) f s o := own_put_new (own_find_0 f s) (own_free_0 f s)
theorem own_sz1 (f s : Int64) : own_szz (fun _ => (0 : Int64)) f s 0 = 1 := by unfold own_szz; rw [own_find_0, if_pos (by decide)]; rfl
theorem own_hq1 (f s : Int64) : ¬ (((3072 : Int32) / (3 : Int32)) < ((2 : Int32) * (own_szz (fun _ => (0 : Int64)) f s 0 + (1 : Int32)))) := by rw [own_sz1]; decide
theorem own_n_ne {a : Int32} (h : 0 ≤ a.toInt ∧ a.toInt ≤ 1023) : own_n a ≠ a := by
  refine own_ne_of ?_
  have e : (own_n a).toInt = (a + 1).toInt % 2 ^ 10 := Jvm.Kit.i32_mask (a + 1) 1023 (k := 10) (by decide) (by decide)
  have e1 : (1 : Int32).toInt = 1 := rfl
  have e2 : (a + 1).toInt = a.toInt + 1 := by rw [Int32.toInt_add, e1]; exact Int.bmod_eq_of_le (by omega) (by omega)
  rw [e, e2]; omega
section
variable {f s s' o o' : Int64}
/-- the first key's entry in a table that holds it at its own slot -/
theorem own_hit {t : Int32 → Int64} (h2 : t (own_s f s * 3 + 2) ≠ 0) (h0 : t (own_s f s * 3) = f) (h1 : t (own_s f s * 3 + 1) = s) : own_find t f s = own_s f s * 3 := by
  unfold own_find; rw [if_neg h2, if_pos ⟨h0, h1⟩]
theorem own_hit_ok {t : Int32 → Int64} (h0 : t (own_s f s * 3) = f) (h1 : t (own_s f s * 3 + 1) = s) : own_ok t f s := Or.inr (Or.inl ⟨h0, h1⟩)
theorem own_nonneg {a : Int32} (h : 0 ≤ a.toInt ∧ a.toInt ≤ 1023) : ¬ (a * 3 < 0) := (own_b0 h).1
-- the same key twice
theorem own_same_ok : own_ok (own_put (fun _ => (0 : Int64)) f s o) f s := by
  rw [own_T1]; exact own_hit_ok (own_up_0 (own_sb f s)).1 (own_up_0 (own_sb f s)).2.1
theorem own_same_find (ho : o ≠ 0) : own_find (own_put (fun _ => (0 : Int64)) f s o) f s = own_s f s * 3 := by
  rw [own_T1]; exact own_hit (by rw [(own_up_0 (own_sb f s)).2.2]; exact ho) (own_up_0 (own_sb f s)).1 (own_up_0 (own_sb f s)).2.1
theorem own_same_imp (ho : o ≠ 0) (h : own_find (own_put (fun _ => (0 : Int64)) f s o) f s < 0) : own_ok2 (own_put (fun _ => (0 : Int64)) f s o) f s := by
  rw [own_same_find ho] at h; exact absurd h (own_nonneg (own_sb f s))
theorem own_same_T2 (ho : o ≠ 0) : own_put (own_put (fun _ => (0 : Int64)) f s o) f s o' = fun i => if i = own_s f s * 3 + 2 then o' else own_up (fun _ => 0) (own_s f s) f s o i := by
  rw [own_put, own_same_find ho, if_neg (own_nonneg (own_sb f s)), own_T1]
theorem own_same_v (ho : o ≠ 0) : (own_put (own_put (fun _ => (0 : Int64)) f s o) f s o') (own_s f s * 3) = f ∧ (own_put (own_put (fun _ => (0 : Int64)) f s o) f s o') (own_s f s * 3 + 1) = s ∧ (own_put (own_put (fun _ => (0 : Int64)) f s o) f s o') (own_s f s * 3 + 2) = o' := by
  rw [own_same_T2 ho]
  obtain ⟨h1, h2, h3⟩ := own_ixs (own_sb f s)
  obtain ⟨k1, k2, k3⟩ := own_up_0 (t := fun _ => 0) (f := f) (s := s) (o := o) (own_sb f s)
  simp [h2, h3, k1, k2]
theorem own_same_ok2 (ho : o ≠ 0) : own_ok (own_put (own_put (fun _ => (0 : Int64)) f s o) f s o') f s := own_hit_ok (own_same_v ho).1 (own_same_v ho).2.1
theorem own_same_f2 (ho : o ≠ 0) (ho' : o' ≠ 0) : own_find (own_put (own_put (fun _ => (0 : Int64)) f s o) f s o') f s = own_s f s * 3 := own_hit (by rw [(own_same_v ho).2.2]; exact ho') (own_same_v ho).1 (own_same_v ho).2.1
-- two keys
def own_R (f s s' : Int64) : Int32 := if own_s f s' = own_s f s then own_n (own_s f s) else own_s f s'
theorem own_Rb (f s s' : Int64) : 0 ≤ (own_R f s s').toInt ∧ (own_R f s s').toInt ≤ 1023 := by unfold own_R; split; exact own_nb _; exact own_sb _ _
theorem own_Rne (f s s' : Int64) : own_R f s s' ≠ own_s f s := by
  unfold own_R
  by_cases h : own_s f s' = own_s f s
  · rw [if_pos h]; exact own_n_ne (own_sb f s)
  · rw [if_neg h]; exact h
theorem own_two_z : (own_up (fun _ => 0) (own_s f s) f s o) (own_R f s s' * 3 + 2) = 0 := by rw [(own_up_1 (own_sb f s) (own_Rb f s s') (own_Rne f s s')).2.2]
/-- the second key's probe in any table that holds the first key at its slot *)-/
theorem own_two_find {t : Int32 → Int64} (hs : s' ≠ s) (h2 : t (own_s f s * 3 + 2) ≠ 0) (h1 : t (own_s f s * 3 + 1) = s) : own_find t f s' = if own_s f s' = own_s f s then (if t (own_R f s s' * 3 + 2) = 0 then -1 else own_R f s s' * 3) else own_find t f s' := by
  by_cases h : own_s f s' = own_s f s
  · rw [if_pos h]
    unfold own_find own_R
    rw [h, if_neg h2, if_neg (fun q => hs (q.2.symm.trans h1)), if_pos rfl]
  · rw [if_neg h]
theorem own_two_f1 (hs : s' ≠ s) (ho : o ≠ 0) : own_find (own_put (fun _ => (0 : Int64)) f s o) f s' = -1 := by
  rw [own_T1]
  obtain ⟨k0, k1, k2⟩ := own_up_0 (t := fun _ => 0) (f := f) (s := s) (o := o) (own_sb f s)
  have z := own_two_z (f := f) (s := s) (s' := s') (o := o)
  by_cases h : own_s f s' = own_s f s
  · rw [own_two_find hs (by rw [k2]; exact ho) k1, if_pos h, if_pos z]
  · unfold own_find; rw [own_R, if_neg h] at z; rw [if_pos z]
theorem own_two_ok1 (hs : s' ≠ s) (ho : o ≠ 0) : own_ok (own_put (fun _ => (0 : Int64)) f s o) f s' := by
  rw [own_T1]
  have z := own_two_z (f := f) (s := s) (s' := s') (o := o)
  by_cases h : own_s f s' = own_s f s
  · rw [own_R, if_pos h] at z; exact Or.inr (Or.inr (Or.inl (by rw [h]; exact z)))
  · rw [own_R, if_neg h] at z; exact Or.inl z
theorem own_two_ok2 (hs : s' ≠ s) (ho : o ≠ 0) (_ : own_find (own_put (fun _ => (0 : Int64)) f s o) f s' < 0) : own_ok2 (own_put (fun _ => (0 : Int64)) f s o) f s' := by
  rw [own_T1]
  have z := own_two_z (f := f) (s := s) (s' := s') (o := o)
  by_cases h : own_s f s' = own_s f s
  · rw [own_R, if_pos h] at z; exact Or.inr (by rw [h]; exact z)
  · rw [own_R, if_neg h] at z; exact Or.inl z
theorem own_two_fr (hs : s' ≠ s) (ho : o ≠ 0) : own_free (own_put (fun _ => (0 : Int64)) f s o) f s' = own_R f s s' * 3 := by
  rw [own_T1]
  obtain ⟨k0, k1, k2⟩ := own_up_0 (t := fun _ => 0) (f := f) (s := s) (o := o) (own_sb f s)
  have z := own_two_z (f := f) (s := s) (s' := s') (o := o)
  unfold own_free
  by_cases h : own_s f s' = own_s f s
  · rw [h, if_neg (by rw [k2]; exact ho), own_R, if_pos h]
  · rw [own_R, if_neg h] at z; rw [if_pos z, own_R, if_neg h]
theorem own_two_T2 (hs : s' ≠ s) (ho : o ≠ 0) : own_put (own_put (fun _ => (0 : Int64)) f s o) f s' o' = own_up (own_up (fun _ => 0) (own_s f s) f s o) (own_R f s s') f s' o' := by
  rw [own_put_new (own_two_f1 hs ho) (own_two_fr hs ho), own_T1]
theorem own_two_a (hs : s' ≠ s) (ho : o ≠ 0) : (own_put (own_put (fun _ => (0 : Int64)) f s o) f s' o') (own_s f s * 3) = f ∧ (own_put (own_put (fun _ => (0 : Int64)) f s o) f s' o') (own_s f s * 3 + 1) = s ∧ (own_put (own_put (fun _ => (0 : Int64)) f s o) f s' o') (own_s f s * 3 + 2) = o := by
  rw [own_two_T2 hs ho]
  obtain ⟨k0, k1, k2⟩ := own_up_0 (t := fun _ => 0) (f := f) (s := s) (o := o) (own_sb f s)
  obtain ⟨m0, m1, m2⟩ := own_up_1 (t := own_up (fun _ => 0) (own_s f s) f s o) (f := f) (s := s') (o := o') (own_Rb f s s') (own_sb f s) (own_Rne f s s').symm
  rw [m0, m1, m2]; exact ⟨k0, k1, k2⟩
theorem own_two_b (hs : s' ≠ s) (ho : o ≠ 0) : (own_put (own_put (fun _ => (0 : Int64)) f s o) f s' o') (own_R f s s' * 3) = f ∧ (own_put (own_put (fun _ => (0 : Int64)) f s o) f s' o') (own_R f s s' * 3 + 1) = s' ∧ (own_put (own_put (fun _ => (0 : Int64)) f s o) f s' o') (own_R f s s' * 3 + 2) = o' := by
  rw [own_two_T2 hs ho]; exact own_up_0 (own_Rb f s s')
theorem own_two_okA (hs : s' ≠ s) (ho : o ≠ 0) : own_ok (own_put (own_put (fun _ => (0 : Int64)) f s o) f s' o') f s := own_hit_ok (own_two_a hs ho).1 (own_two_a hs ho).2.1
theorem own_two_fA (hs : s' ≠ s) (ho : o ≠ 0) : own_find (own_put (own_put (fun _ => (0 : Int64)) f s o) f s' o') f s = own_s f s * 3 := own_hit (by rw [(own_two_a hs ho).2.2]; exact ho) (own_two_a hs ho).1 (own_two_a hs ho).2.1
theorem own_two_okB (hs : s' ≠ s) (ho : o ≠ 0) : own_ok (own_put (own_put (fun _ => (0 : Int64)) f s o) f s' o') f s' := by
  obtain ⟨b0, b1, b2⟩ := own_two_b (o' := o') hs ho (f := f)
  by_cases h : own_s f s' = own_s f s
  · rw [own_R, if_pos h] at b0 b1; exact Or.inr (Or.inr (Or.inr ⟨by rw [h]; exact b0, by rw [h]; exact b1⟩))
  · rw [own_R, if_neg h] at b0 b1; exact Or.inr (Or.inl ⟨b0, b1⟩)
theorem own_two_fB (hs : s' ≠ s) (ho : o ≠ 0) (ho' : o' ≠ 0) : own_find (own_put (own_put (fun _ => (0 : Int64)) f s o) f s' o') f s' = own_R f s s' * 3 := by
  obtain ⟨b0, b1, b2⟩ := own_two_b (o' := o') hs ho (f := f)
  obtain ⟨a0, a1, a2⟩ := own_two_a (o' := o') hs ho (f := f)
  by_cases h : own_s f s' = own_s f s
  · rw [own_two_find hs (by rw [a2]; exact ho) a1, if_pos h, if_neg (by rw [b2]; exact ho')]
  · rw [own_R, if_neg h] at b0 b1 b2 ⊢; exact own_hit (by rw [b2]; exact ho') b0 b1
end
theorem own_succ (s : Int64) : s + (1 : Int64) ≠ s := by
  intro h
  have h2 : s.toBitVec + 1#64 = s.toBitVec := congrArg Int64.toBitVec h
  have h3 : (s.toBitVec + 1#64).toNat = s.toBitVec.toNat := by rw [h2]
  rw [BitVec.toNat_add] at h3
  have := s.toBitVec.isLt
  have e : (1#64 : BitVec 64).toNat = 1 := rfl
  omega
theorem own_ge {x a : Int32} (h : 0 ≤ a.toInt ∧ a.toInt ≤ 1023) (e : x = a * 3) : ¬ x < 0 := by rw [e]; exact own_nonneg h
theorem own_bb {x a : Int32} (h : 0 ≤ a.toInt ∧ a.toInt ≤ 1023) (e : x = a * 3) : ¬ (x + (2 : Int32)) < 0 ∧ (x + (2 : Int32)) < (3072 : Int32) := by rw [e]; exact own_b2 h
def own_bun (p : Int32) : Int32 := p &&& (1073741823 : Int32)
theorem own_bun_b (p : Int32) : 0 ≤ (own_bun p).toInt ∧ (own_bun p).toInt ≤ 1073741823 := by
  have e : (own_bun p).toInt = p.toInt % 2 ^ 30 := Jvm.Kit.i32_mask p 1073741823 (k := 30) (by decide) (by decide)
  have h1 := Int.emod_nonneg p.toInt (show (2 ^ 30 : Int) ≠ 0 by decide)
  have h2 := Int.emod_lt_of_pos p.toInt (show (0 : Int) < 2 ^ 30 by decide)
  rw [e]; omega
theorem own_low (v w : BitVec 32) (hw : w.msb = false) : ((((v.signExtend 64) <<< 32) ||| w.signExtend 64).sshiftRight 32).signExtend 32 = v := by
  apply BitVec.eq_of_getLsbD_eq
  intro i hi
  have h1 : 32 + i < 64 := by omega
  have h2 : ¬ (32 + i < 32) := by omega
  have h4 : ¬ (64 ≤ i) := by omega
  have h6 : i < 64 := by omega
  have h5 : 32 + i - 32 = i := by omega
  simp [BitVec.getLsbD_setWidth, BitVec.getLsbD_sshiftRight, BitVec.getLsbD_or, BitVec.getLsbD_shiftLeft, BitVec.getElem_signExtend, BitVec.getElem_sshiftRight, hw, hi, h1, h2, h4, h5, h6]

theorem own_low2 (v w : BitVec 32) : (((v.signExtend 64) <<< 32) ||| w.signExtend 64).signExtend 32 = w := by
  apply BitVec.eq_of_getLsbD_eq
  intro i hi
  have h3 : i < 64 := by omega
  simp [BitVec.getLsbD_setWidth, BitVec.getLsbD_or, BitVec.getLsbD_shiftLeft, BitVec.getElem_signExtend, hi, h3]
theorem own_msb {w : Int32} (h : 0 ≤ w.toInt) : w.toBitVec.msb = false := by
  have : ¬ w.toBitVec.toInt < 0 := Int.not_lt.mpr h
  rw [BitVec.toInt_neg_iff] at this
  rw [BitVec.msb_eq_decide]
  simp; omega
theorem own_hi32 (v w : Int32) (h : 0 ≤ w.toInt) : (((v.toInt64 <<< ((32 : Int32) &&& 0x3f).toInt64) ||| w.toInt64) >>> ((32 : Int32) &&& 0x3f).toInt64).toInt32 = v := by
  apply Int32.toBitVec_inj.mp
  exact own_low v.toBitVec w.toBitVec (own_msb h)
theorem own_lo32 (v w : Int32) : ((v.toInt64 <<< ((32 : Int32) &&& 0x3f).toInt64) ||| w.toInt64).toInt32 = w := by
  apply Int32.toBitVec_inj.mp
  exact own_low2 v.toBitVec w.toBitVec
theorem own_one : (1 : Int64) = (1 : Int32).toInt64 := by decide
theorem own_b22 (p : Int32) : (own_bun p + 2).toInt = (own_bun p).toInt + 2 := by
  have h := own_bun_b p
  have e2 : (2 : Int32).toInt = 2 := rfl
  rw [Int32.toInt_add, e2]; exact Int.bmod_eq_of_le (by omega) (by omega)
theorem own_out_v (v p e : Int32) : ((own_out v (own_bun p) e) >>> ((32 : Int32) &&& 0x3f).toInt64).toInt32 = v := by
  have h := own_bun_b p
  unfold own_out
  split
  · rw [own_one]; exact own_hi32 v 1 (by decide)
  · exact own_hi32 v _ (by rw [own_b22]; omega)
theorem own_out_nz (v p e : Int32) : own_out v (own_bun p) e ≠ 0 := by
  have h := own_bun_b p
  intro q
  have z : (own_out v (own_bun p) e).toInt32 = 0 := by rw [q]; rfl
  unfold own_out at z
  split at z
  · rw [own_one, own_lo32] at z; exact absurd z (by decide)
  · rw [own_lo32] at z
    have := own_b22 p
    rw [z] at this
    have e0 : (0 : Int32).toInt = 0 := rfl
    omega
theorem own_valeq {t : Int32 → Int64} {E a v : Int32} {o : Int64} (e : E = a * 3) (h : t (a * 3 + 2) = o) (hv : (o >>> ((32 : Int32) &&& 0x3f).toInt64).toInt32 = v) : ((t (E + (2 : Int32))) >>> ((32 : Int32) &&& 0x3f).toInt64).toInt32 = v := by rw [e, h]; exact hv
theorem pd_5 : parseMethodDescriptor "()V" = some ⟨[], none⟩ := by decide +kernel
theorem pd_6 : parseMethodDescriptor "(Lcom/example/outcry/outcry/allocation/Memo;JJIIZ)V" = some ⟨[(.object "com/example/outcry/outcry/allocation/Memo"), .long, .long, .int, .int, .boolean], none⟩ := by decide +kernel
theorem pd_7 : parseMethodDescriptor "(I)I" = some ⟨[.int], some .int⟩ := by decide +kernel
theorem ef_0 (m : MethodId) (x0 : Int64) (x1 : Int64) (x2 : Int32) (x3 : Int32) (x4 : Int32) (x5 : Int32) : entryFrame m #[(.long x0), (.long x1), (.int x2), (.int x3), (.int x4), (.int x5)] maxLocals = mkF m 0 #[.val (.long x0), .second, .val (.long x1), .second, .val (.int x2), .val (.int x3), .val (.int x4), .val (.int x5), .unset, .unset, .unset, .unset, .unset, .unset, .unset, .unset, .unset, .unset] [] := by first | (simp [entryFrame, mkF, argsToLocals, Value.category, maxLocals]; done) | rfl
def Q_rm_law (Z : State) (q1 : Int64) (q2 : Int64) (p1 : Int32) (p2 : Int32) (p3 : Int32) (p4 : Int32) (h0 : Heap) (n0 : Nat) (v : Option Value) (h : Heap) (L : List Loc) : Prop := v = some (.int (1 : Int32)) ∧ Fr n0 L ∧ True
set_option maxRecDepth 65536 in
set_option maxHeartbeats 40000000 in
theorem rm_law (l : Launch) (Z : State) (a0 : Array Value) (hw : ∀ d ∈ tables_1, d.before a0 Z = true) (ws : List Jvm.Cond) (q1 : Int64) (q2 : Int64) (p1 : Int32) (p2 : Int32) (p3 : Int32) (p4 : Int32) (h0 : Heap) (n0 : Nat) (Z0 : n0 ≤ h0.size)  :
    MetFree l x (head1 (Jvm.Cond.code x code maxLocals ret :: ws) room_1) (fun a U => a = #[(.long q1), (.long q2), (.int p1), (.int p2), (.int p3), (.int p4)] ∧ Z.Warmed39 U.vm ∧ U.heap = h0) (fun _ _ _ _ _ => True) (fun _ U o U' => ∃ v L, o = .returned v ∧ Q_rm_law Z q1 q2 p1 p2 p3 p4 h0 n0 v U'.heap L ∧ FrameEnd U o U' L room_1.cells room_1.slots) := by
  refine MetFree.of_bodySF (plainFor_of_name pn_1) hisR ?_
  intro p e s m args below meth c s₁ Bd hml0 hP hK
  obtain ⟨rfl, hZ, hh⟩ := hP
  have hx := Bd.exec
  have hby := Bd.bytes
  have hml : c.maxLocals = 18 := hml0
  have hown : s.vm.findClass "com/example/outcry/outcry/allocation/MemoValuePinLaw" = some m.cls := findClass_of_methodNamed Bd.named
  have hnm := (name_of_methodNamed Bd.named Bd.method).1
  have X0 : Stand p l e room_1 s m #[(.long q1), (.long q2), (.int p1), (.int p2), (.int p3), (.int p4)] below meth c s₁ [] 0 0 := Stand.of_body Bd
  have e0 : s₁.heap = h0 := by rw [← hh, Bd.state]; rfl
  have N0 := Fr.nil n0
  have pre0 : ∀ t, Steps p.tables e below (s₁.setTop (mkF m 0 #[.val (.long q1), .second, .val (.long q2), .second, .val (.int p1), .val (.int p2), .val (.int p3), .val (.int p4), .unset, .unset, .unset, .unset, .unset, .unset, .unset, .unset, .unset, .unset] [])) t → Steps p.tables e below (s₁.setTop (entryFrame m #[(.long q1), (.long q2), (.int p1), (.int p2), (.int p3), (.int p4)] maxLocals)) t := fun t k => castTop (ef_0 m q1 q2 p1 p2 p3 p4) k
  obtain ⟨T1, h1, X1, e1, E1, A1, D1, -, st1⟩ := newO X0 hx hZ hown (hw _ (List.mem_of_getElem? (i := 0) rfl)) (hw _ (List.mem_of_getElem? (i := 1) rfl)) (hw _ (List.mem_of_getElem? (i := 2) rfl)) e0 (g := (mkF m 0 #[.val (.long q1), .second, .val (.long q2), .second, .val (.int p1), .val (.int p2), .val (.int p3), .val (.int p4), .unset, .unset, .unset, .unset, .unset, .unset, .unset, .unset, .unset, .unset] [])) rfl (hb hby at_0) (by decide) (by decide)
  obtain ⟨b1, g1⟩ : ∃ z, z = h0.size := ⟨_, rfl⟩
  rw [← g1] at A1 D1 st1
  have g_b1 : n0 ≤ b1 := Nat.le_trans Z0 (Nat.le_of_eq g1.symm)
  have Z1 : n0 ≤ h1.size := Nat.le_trans Z0 E1.1
  have F_table_b1 : Fld Z h1 b1 "com/example/outcry/outcry/allocation/Memo" "table" "[J" .null := D1 (Or.inl (hw _ (List.mem_of_getElem? (i := 11) rfl))) (ty := (.array .long)) (by decide)
  have F_size_b1 : Fld Z h1 b1 "com/example/outcry/outcry/allocation/Memo" "size" "I" (.int (0 : Int32)) := D1 (Or.inl (hw _ (List.mem_of_getElem? (i := 37) rfl))) (ty := .int) (by decide)
  obtain ⟨_, _, ⟨T2, L2, k2, n2⟩, -, X2, ⟨Lc2, hQ2, l2, y2, z2⟩, st2⟩ := X1.specialBack hx (y := (⟨"com/example/outcry/outcry/allocation/Memo", "<init>", "()V"⟩ : MethodName)) rfl hown (mvT hZ (hw _ (List.mem_of_getElem? (i := 3) rfl))) (mvT hZ (hw _ (List.mem_of_getElem? (i := 4) rfl))) (mvT hZ (hw _ (List.mem_of_getElem? (i := 5) rfl))) (by decide) (backOf (W := 1) (rm_init l Z a0 hw [] b1 h1 n0 Z1 A1 g_b1 F_table_b1 F_size_b1) hZ (hw _ (List.mem_of_getElem? (i := 5) rfl)) (hw _ (List.mem_of_getElem? (i := 2) rfl)) (by decide) (by decide)) (g := (mkF m 4 #[.val (.long q1), .second, .val (.long q2), .second, .val (.int p1), .val (.int p2), .val (.int p3), .val (.int p4), .unset, .unset, .unset, .unset, .unset, .unset, .unset, .unset, .unset, .unset] [(.ref b1), (.ref b1)])) rfl (by rw [hml]; rfl) (Steps.refl _) (a := b1) (argsL := []) (rest := [(.ref b1)]) (lenOf pd_5 rfl) rfl (by show 2 * 0 + _ ≤ _; exact Nat.le_of_eq rfl) (hb hby at_4) (fun _ _ => ⟨rfl, e1, (by decide : 1 + 1 ≤ _), (by decide : 2 + 3072 ≤ _)⟩)
  dsimp only [Pt.U, Pt.locs, Pt.cells, Pt.slots] at X2 l2 y2 z2 st2 hQ2
  subst l2 y2 z2
  obtain ⟨rfl, N2q, x2c0, x2c1, x2c2⟩ := hQ2
  have N2 := Fr.app N0 N2q
  obtain ⟨tb, gtb, btb, Ftb, Vtb⟩ := x2c2
  have A1_2 : Exa Z T2.heap b1 "com/example/outcry/outcry/allocation/Memo" := A1.keep x2c0
  have Z2 : n0 ≤ T2.heap.size := Nat.le_trans Z1 x2c0.1
  have ne_ob_tb : b1 ≠ tb := Nat.ne_of_lt (Nat.lt_of_lt_of_le A1.lt btb)
  have k3 : ∀ target, Steps p.tables e below (T2.setTop (mkF m 20 #[.val (.long q1), .second, .val (.long q2), .second, .val (.int p1), .val (.int p2), .val (.int p3), .val (.int p4), .val (.ref b1), .val (.int (own_bun p3)), .unset, .unset, .unset, .unset, .unset, .unset, .unset, .unset] [(.int (p4 &&& (1 : Int32)))])) target → Steps p.tables e below (s₁.setTop (mkF m 0 #[.val (.long q1), .second, .val (.long q2), .second, .val (.int p1), .val (.int p2), .val (.int p3), .val (.int p4), .unset, .unset, .unset, .unset, .unset, .unset, .unset, .unset, .unset, .unset] [])) target := by
    intro target kt
    show Steps p.tables e below (s₁.setTop (mkF m 0 #[.val (.long q1), .second, .val (.long q2), .second, .val (.int p1), .val (.int p2), .val (.int p3), .val (.int p4), .unset, .unset, .unset, .unset, .unset, .unset, .unset, .unset, .unset, .unset] [])) _
    refine st1 _ ?_
    show Steps p.tables e below (T1.setTop (mkF m 3 #[.val (.long q1), .second, .val (.long q2), .second, .val (.int p1), .val (.int p2), .val (.int p3), .val (.int p4), .unset, .unset, .unset, .unset, .unset, .unset, .unset, .unset, .unset, .unset] [(.ref b1)])) _
    refine XS.dup X1.here hx rfl (hb hby at_3) rfl rfl ?_
    show Steps p.tables e below (T1.setTop (mkF m 4 #[.val (.long q1), .second, .val (.long q2), .second, .val (.int p1), .val (.int p2), .val (.int p3), .val (.int p4), .unset, .unset, .unset, .unset, .unset, .unset, .unset, .unset, .unset, .unset] [(.ref b1), (.ref b1)])) _
    refine st2.trans ?_
    show Steps p.tables e below (T2.setTop (mkF m 7 #[.val (.long q1), .second, .val (.long q2), .second, .val (.int p1), .val (.int p2), .val (.int p3), .val (.int p4), .unset, .unset, .unset, .unset, .unset, .unset, .unset, .unset, .unset, .unset] [(.ref b1)])) _
    refine XS.astore X2.here hx rfl (hb hby at_7) rfl rfl (l' := #[.val (.long q1), .second, .val (.long q2), .second, .val (.int p1), .val (.int p2), .val (.int p3), .val (.int p4), .val (.ref b1), .unset, .unset, .unset, .unset, .unset, .unset, .unset, .unset, .unset]) rfl ?_
    show Steps p.tables e below (T2.setTop (mkF m 9 #[.val (.long q1), .second, .val (.long q2), .second, .val (.int p1), .val (.int p2), .val (.int p3), .val (.int p4), .val (.ref b1), .unset, .unset, .unset, .unset, .unset, .unset, .unset, .unset, .unset] [])) _
    refine XS.iload X2.here hx rfl (hb hby at_9) rfl ?_
    show Steps p.tables e below (T2.setTop (mkF m 11 #[.val (.long q1), .second, .val (.long q2), .second, .val (.int p1), .val (.int p2), .val (.int p3), .val (.int p4), .val (.ref b1), .unset, .unset, .unset, .unset, .unset, .unset, .unset, .unset, .unset] [(.int p3)])) _
    refine X2.ldcInt hx hown (mvT hZ (hw _ (List.mem_of_getElem? (i := 12) rfl))) (g := (mkF m 11 #[.val (.long q1), .second, .val (.long q2), .second, .val (.int p1), .val (.int p2), .val (.int p3), .val (.int p4), .val (.ref b1), .unset, .unset, .unset, .unset, .unset, .unset, .unset, .unset, .unset] [(.int p3)])) rfl (hb hby at_11) _ ?_
    show Steps p.tables e below (T2.setTop (mkF m 13 #[.val (.long q1), .second, .val (.long q2), .second, .val (.int p1), .val (.int p2), .val (.int p3), .val (.int p4), .val (.ref b1), .unset, .unset, .unset, .unset, .unset, .unset, .unset, .unset, .unset] [(.int (1073741823 : Int32)), (.int p3)])) _
    refine XS.iand X2.here hx rfl (hb hby at_13) rfl ?_
    show Steps p.tables e below (T2.setTop (mkF m 14 #[.val (.long q1), .second, .val (.long q2), .second, .val (.int p1), .val (.int p2), .val (.int p3), .val (.int p4), .val (.ref b1), .unset, .unset, .unset, .unset, .unset, .unset, .unset, .unset, .unset] [(.int (p3 &&& (1073741823 : Int32)))])) _
    refine XS.istore X2.here hx rfl (hb hby at_14) rfl (l' := #[.val (.long q1), .second, .val (.long q2), .second, .val (.int p1), .val (.int p2), .val (.int p3), .val (.int p4), .val (.ref b1), .val (.int (p3 &&& (1073741823 : Int32))), .unset, .unset, .unset, .unset, .unset, .unset, .unset, .unset]) rfl ?_
    show Steps p.tables e below (T2.setTop (mkF m 16 #[.val (.long q1), .second, .val (.long q2), .second, .val (.int p1), .val (.int p2), .val (.int p3), .val (.int p4), .val (.ref b1), .val (.int (own_bun p3)), .unset, .unset, .unset, .unset, .unset, .unset, .unset, .unset] [])) _
    refine XS.iload X2.here hx rfl (hb hby at_16) rfl ?_
    show Steps p.tables e below (T2.setTop (mkF m 18 #[.val (.long q1), .second, .val (.long q2), .second, .val (.int p1), .val (.int p2), .val (.int p3), .val (.int p4), .val (.ref b1), .val (.int (own_bun p3)), .unset, .unset, .unset, .unset, .unset, .unset, .unset, .unset] [(.int p4)])) _
    refine XS.iconst X2.here hx rfl (hb hby at_18) ?_
    show Steps p.tables e below (T2.setTop (mkF m 19 #[.val (.long q1), .second, .val (.long q2), .second, .val (.int p1), .val (.int p2), .val (.int p3), .val (.int p4), .val (.ref b1), .val (.int (own_bun p3)), .unset, .unset, .unset, .unset, .unset, .unset, .unset, .unset] [(.int (1 : Int32)), (.int p4)])) _
    refine XS.iand X2.here hx rfl (hb hby at_19) rfl ?_
    exact kt
  by_cases hc20 : (p4 &&& (1 : Int32)) = (0 : Int32)
  · have k4 : ∀ target, Steps p.tables e below (T2.setTop (mkF m 34 #[.val (.long q1), .second, .val (.long q2), .second, .val (.int p1), .val (.int p2), .val (.int p3), .val (.int p4), .val (.ref b1), .val (.int (own_bun p3)), .val (.int (0 : Int32)), .unset, .unset, .unset, .unset, .unset, .unset, .unset] [(.int (p4 &&& (2 : Int32)))])) target → Steps p.tables e below (s₁.setTop (mkF m 0 #[.val (.long q1), .second, .val (.long q2), .second, .val (.int p1), .val (.int p2), .val (.int p3), .val (.int p4), .unset, .unset, .unset, .unset, .unset, .unset, .unset, .unset, .unset, .unset] [])) target := by
      intro target kt
      refine k3 _ ?_
      show Steps p.tables e below (T2.setTop (mkF m 20 #[.val (.long q1), .second, .val (.long q2), .second, .val (.int p1), .val (.int p2), .val (.int p3), .val (.int p4), .val (.ref b1), .val (.int (own_bun p3)), .unset, .unset, .unset, .unset, .unset, .unset, .unset, .unset] [(.int (p4 &&& (1 : Int32)))])) _
      refine XS.ifYes X2.here hx rfl (pc0 := 20) (pc' := 27) rfl (hb hby at_20) rfl ((if0 _ _).trans (teq hc20).1) (by decide) (by decide) ?_
      show Steps p.tables e below (T2.setTop (mkF m 27 #[.val (.long q1), .second, .val (.long q2), .second, .val (.int p1), .val (.int p2), .val (.int p3), .val (.int p4), .val (.ref b1), .val (.int (own_bun p3)), .unset, .unset, .unset, .unset, .unset, .unset, .unset, .unset] [])) _
      refine XS.iconst X2.here hx rfl (hb hby at_27) ?_
      show Steps p.tables e below (T2.setTop (mkF m 28 #[.val (.long q1), .second, .val (.long q2), .second, .val (.int p1), .val (.int p2), .val (.int p3), .val (.int p4), .val (.ref b1), .val (.int (own_bun p3)), .unset, .unset, .unset, .unset, .unset, .unset, .unset, .unset] [(.int (0 : Int32))])) _
      refine XS.istore X2.here hx rfl (hb hby at_28) rfl (l' := #[.val (.long q1), .second, .val (.long q2), .second, .val (.int p1), .val (.int p2), .val (.int p3), .val (.int p4), .val (.ref b1), .val (.int (own_bun p3)), .val (.int (0 : Int32)), .unset, .unset, .unset, .unset, .unset, .unset, .unset]) rfl ?_
      show Steps p.tables e below (T2.setTop (mkF m 30 #[.val (.long q1), .second, .val (.long q2), .second, .val (.int p1), .val (.int p2), .val (.int p3), .val (.int p4), .val (.ref b1), .val (.int (own_bun p3)), .val (.int (0 : Int32)), .unset, .unset, .unset, .unset, .unset, .unset, .unset] [])) _
      refine XS.iload X2.here hx rfl (hb hby at_30) rfl ?_
      show Steps p.tables e below (T2.setTop (mkF m 32 #[.val (.long q1), .second, .val (.long q2), .second, .val (.int p1), .val (.int p2), .val (.int p3), .val (.int p4), .val (.ref b1), .val (.int (own_bun p3)), .val (.int (0 : Int32)), .unset, .unset, .unset, .unset, .unset, .unset, .unset] [(.int p4)])) _
      refine XS.iconst X2.here hx rfl (hb hby at_32) ?_
      show Steps p.tables e below (T2.setTop (mkF m 33 #[.val (.long q1), .second, .val (.long q2), .second, .val (.int p1), .val (.int p2), .val (.int p3), .val (.int p4), .val (.ref b1), .val (.int (own_bun p3)), .val (.int (0 : Int32)), .unset, .unset, .unset, .unset, .unset, .unset, .unset] [(.int (2 : Int32)), (.int p4)])) _
      refine XS.iand X2.here hx rfl (hb hby at_33) rfl ?_
      exact kt
    by_cases hc34 : (p4 &&& (2 : Int32)) = (0 : Int32)
    · have k5 : ∀ target, Steps p.tables e below (T2.setTop (mkF m 48 #[.val (.long q1), .second, .val (.long q2), .second, .val (.int p1), .val (.int p2), .val (.int p3), .val (.int p4), .val (.ref b1), .val (.int (own_bun p3)), .val (.int (0 : Int32)), .val (.int (0 : Int32)), .unset, .unset, .unset, .unset, .unset, .unset] [(.int (p4 &&& (4 : Int32)))])) target → Steps p.tables e below (s₁.setTop (mkF m 0 #[.val (.long q1), .second, .val (.long q2), .second, .val (.int p1), .val (.int p2), .val (.int p3), .val (.int p4), .unset, .unset, .unset, .unset, .unset, .unset, .unset, .unset, .unset, .unset] [])) target := by
        intro target kt
        refine k4 _ ?_
        show Steps p.tables e below (T2.setTop (mkF m 34 #[.val (.long q1), .second, .val (.long q2), .second, .val (.int p1), .val (.int p2), .val (.int p3), .val (.int p4), .val (.ref b1), .val (.int (own_bun p3)), .val (.int (0 : Int32)), .unset, .unset, .unset, .unset, .unset, .unset, .unset] [(.int (p4 &&& (2 : Int32)))])) _
        refine XS.ifYes X2.here hx rfl (pc0 := 34) (pc' := 41) rfl (hb hby at_34) rfl ((if0 _ _).trans (teq hc34).1) (by decide) (by decide) ?_
        show Steps p.tables e below (T2.setTop (mkF m 41 #[.val (.long q1), .second, .val (.long q2), .second, .val (.int p1), .val (.int p2), .val (.int p3), .val (.int p4), .val (.ref b1), .val (.int (own_bun p3)), .val (.int (0 : Int32)), .unset, .unset, .unset, .unset, .unset, .unset, .unset] [])) _
        refine XS.iconst X2.here hx rfl (hb hby at_41) ?_
        show Steps p.tables e below (T2.setTop (mkF m 42 #[.val (.long q1), .second, .val (.long q2), .second, .val (.int p1), .val (.int p2), .val (.int p3), .val (.int p4), .val (.ref b1), .val (.int (own_bun p3)), .val (.int (0 : Int32)), .unset, .unset, .unset, .unset, .unset, .unset, .unset] [(.int (0 : Int32))])) _
        refine XS.istore X2.here hx rfl (hb hby at_42) rfl (l' := #[.val (.long q1), .second, .val (.long q2), .second, .val (.int p1), .val (.int p2), .val (.int p3), .val (.int p4), .val (.ref b1), .val (.int (own_bun p3)), .val (.int (0 : Int32)), .val (.int (0 : Int32)), .unset, .unset, .unset, .unset, .unset, .unset]) rfl ?_
        show Steps p.tables e below (T2.setTop (mkF m 44 #[.val (.long q1), .second, .val (.long q2), .second, .val (.int p1), .val (.int p2), .val (.int p3), .val (.int p4), .val (.ref b1), .val (.int (own_bun p3)), .val (.int (0 : Int32)), .val (.int (0 : Int32)), .unset, .unset, .unset, .unset, .unset, .unset] [])) _
        refine XS.iload X2.here hx rfl (hb hby at_44) rfl ?_
        show Steps p.tables e below (T2.setTop (mkF m 46 #[.val (.long q1), .second, .val (.long q2), .second, .val (.int p1), .val (.int p2), .val (.int p3), .val (.int p4), .val (.ref b1), .val (.int (own_bun p3)), .val (.int (0 : Int32)), .val (.int (0 : Int32)), .unset, .unset, .unset, .unset, .unset, .unset] [(.int p4)])) _
        refine XS.iconst X2.here hx rfl (hb hby at_46) ?_
        show Steps p.tables e below (T2.setTop (mkF m 47 #[.val (.long q1), .second, .val (.long q2), .second, .val (.int p1), .val (.int p2), .val (.int p3), .val (.int p4), .val (.ref b1), .val (.int (own_bun p3)), .val (.int (0 : Int32)), .val (.int (0 : Int32)), .unset, .unset, .unset, .unset, .unset, .unset] [(.int (4 : Int32)), (.int p4)])) _
        refine XS.iand X2.here hx rfl (hb hby at_47) rfl ?_
        exact kt
      by_cases hc48 : (p4 &&& (4 : Int32)) = (0 : Int32)
      · obtain ⟨_, _, ⟨T6, L6, k6, n6⟩, -, X6, ⟨Lc6, hQ6, l6, y6, z6⟩, st6⟩ := Jvm.LawKit.callS X2 hx (y := (⟨"com/example/outcry/outcry/allocation/MemoValuePinLaw", "store", "(Lcom/example/outcry/outcry/allocation/Memo;JJIIZ)V"⟩ : MethodName)) hown (mvT hZ (hw _ (List.mem_of_getElem? (i := 13) rfl))) (mvT hZ (hw _ (List.mem_of_getElem? (i := 14) rfl))) (mvT hZ (hw _ (List.mem_of_getElem? (i := 15) rfl))) (mvT hZ (hw _ (List.mem_of_getElem? (i := 16) rfl))) (by decide) (backOf (W := 0) (rm_store l Z a0 hw [] b1 q1 q2 p1 (own_bun p3) (0 : Int32) tb (fun _ => (0 : Int64)) (0 : Int32) T2.heap n0 Z2 Ftb Vtb A1_2 g_b1 gtb ne_ob_tb x2c1 (own_ok_0 _ _) (fun _ => own_ok2_0 _ _) (by decide)) hZ (hw _ (List.mem_of_getElem? (i := 16) rfl)) (hw _ (List.mem_of_getElem? (i := 15) rfl)) (by decide) (by decide)) (g := (mkF m 82 #[.val (.long q1), .second, .val (.long q2), .second, .val (.int p1), .val (.int p2), .val (.int p3), .val (.int p4), .val (.ref b1), .val (.int (own_bun p3)), .val (.int (0 : Int32)), .val (.int (0 : Int32)), .val (.int (0 : Int32)), .val (.long (q2 + (1 : Int64))), .second, .unset, .unset, .unset] [(.int (0 : Int32)), (.int (own_bun p3)), (.int p1), (.long q2), (.long q1), (.ref b1)])) rfl (by rw [hml]; rfl) (argsL := [(.ref b1), (.long q1), (.long q2), (.int p1), (.int (own_bun p3)), (.int (0 : Int32))]) (rest := []) (lenOf pd_6 rfl) rfl (by show 2 * 0 + _ ≤ _; exact Nat.le_of_eq rfl) (hb hby at_82) (fun _ _ => ⟨rfl, rfl, (by decide : 2 + 0 ≤ _), (by decide : 3074 + 0 ≤ _)⟩)
        dsimp only [Pt.U, Pt.locs, Pt.cells, Pt.slots] at X6 l6 y6 z6 st6 hQ6
        subst l6 y6 z6
        obtain ⟨rfl, N6q, x6c0, x6c1, x6c2, x6c3⟩ := hQ6
        have N6 := Fr.app N2 N6q
        have A1_6 : Exa Z T6.heap b1 "com/example/outcry/outcry/allocation/Memo" := A1_2.keep x6c0
        have Z6 : n0 ≤ T6.heap.size := Nat.le_trans Z2 x6c0.1
        obtain ⟨_, _, ⟨T7, L7, k7, n7⟩, -, X7, ⟨Lc7, hQ7, l7, y7, z7⟩, st7⟩ := Jvm.LawKit.callS X6 hx (y := (⟨"com/example/outcry/outcry/allocation/MemoValuePinLaw", "store", "(Lcom/example/outcry/outcry/allocation/Memo;JJIIZ)V"⟩ : MethodName)) hown (mvT hZ (hw _ (List.mem_of_getElem? (i := 13) rfl))) (mvT hZ (hw _ (List.mem_of_getElem? (i := 14) rfl))) (mvT hZ (hw _ (List.mem_of_getElem? (i := 15) rfl))) (mvT hZ (hw _ (List.mem_of_getElem? (i := 16) rfl))) (by decide) (backOf (W := 0) (rm_store l Z a0 hw [] b1 q1 (q2 + (1 : Int64)) p2 (own_bun p3) (0 : Int32) tb (own_put (fun _ => (0 : Int64)) q1 q2 (own_out p1 (own_bun p3) (0 : Int32))) (own_szz (fun _ => (0 : Int64)) q1 q2 (0 : Int32)) T6.heap n0 Z6 x6c1 x6c3 A1_6 g_b1 gtb ne_ob_tb x6c2 (own_two_ok1 (own_succ _) (own_out_nz _ _ _)) (own_two_ok2 (own_succ _) (own_out_nz _ _ _)) (own_hq1 _ _)) hZ (hw _ (List.mem_of_getElem? (i := 16) rfl)) (hw _ (List.mem_of_getElem? (i := 15) rfl)) (by decide) (by decide)) (g := (mkF m 96 #[.val (.long q1), .second, .val (.long q2), .second, .val (.int p1), .val (.int p2), .val (.int p3), .val (.int p4), .val (.ref b1), .val (.int (own_bun p3)), .val (.int (0 : Int32)), .val (.int (0 : Int32)), .val (.int (0 : Int32)), .val (.long (q2 + (1 : Int64))), .second, .unset, .unset, .unset] [(.int (0 : Int32)), (.int (own_bun p3)), (.int p2), (.long (q2 + (1 : Int64))), (.long q1), (.ref b1)])) rfl (by rw [hml]; rfl) (argsL := [(.ref b1), (.long q1), (.long (q2 + (1 : Int64))), (.int p2), (.int (own_bun p3)), (.int (0 : Int32))]) (rest := []) (lenOf pd_6 rfl) rfl (by show 2 * 0 + _ ≤ _; exact Nat.le_of_eq rfl) (hb hby at_96) (fun _ _ => ⟨rfl, rfl, (by decide : 2 + 0 ≤ _), (by decide : 3074 + 0 ≤ _)⟩)
        dsimp only [Pt.U, Pt.locs, Pt.cells, Pt.slots] at X7 l7 y7 z7 st7 hQ7
        subst l7 y7 z7
        obtain ⟨rfl, N7q, x7c0, x7c1, x7c2, x7c3⟩ := hQ7
        have N7 := Fr.app N6 N7q
        have A1_7 : Exa Z T7.heap b1 "com/example/outcry/outcry/allocation/Memo" := A1_6.keep x7c0
        have Z7 : n0 ≤ T7.heap.size := Nat.le_trans Z6 x7c0.1
        obtain ⟨cq8, kq8, q8a, q8b, q8c⟩ := isOf hZ rfl A1_7
        obtain ⟨_, _, ⟨T8, L8, k8, n8⟩, -, X8, ⟨Lc8, hQ8, l8, y8, z8⟩, st8⟩ := X7.virtualBack hx (y := (⟨"com/example/outcry/outcry/allocation/Memo", "find", "(JJ)I"⟩ : MethodName)) (z := (⟨"com/example/outcry/outcry/allocation/Memo", "find", "(JJ)I"⟩ : MethodName)) hown (mvT hZ (hw _ (List.mem_of_getElem? (i := 42) rfl))) (mvT hZ (hw _ (List.mem_of_getElem? (i := 27) rfl))) (notFace_of_selects (args := #[]) (mvT hZ (hw _ (List.mem_of_getElem? (i := 29) rfl)))) (mvT hZ (hw _ (List.mem_of_getElem? (i := 29) rfl))) (mvT hZ (hw _ (List.mem_of_getElem? (i := 28) rfl))) (by decide) (backOf (W := 0) (rm_find l Z a0 hw [] b1 q1 q2 tb (own_put (own_put (fun _ => (0 : Int64)) q1 q2 (own_out p1 (own_bun p3) (0 : Int32))) q1 (q2 + (1 : Int64)) (own_out p2 (own_bun p3) (0 : Int32))) T7.heap n0 Z7 x7c1 x7c3 (own_two_okA (own_succ _) (own_out_nz _ _ _))) hZ (hw _ (List.mem_of_getElem? (i := 30) rfl)) (hw _ (List.mem_of_getElem? (i := 2) rfl)) (by decide) (by decide)) q8a q8c (g := (mkF m 103 #[.val (.long q1), .second, .val (.long q2), .second, .val (.int p1), .val (.int p2), .val (.int p3), .val (.int p4), .val (.ref b1), .val (.int (own_bun p3)), .val (.int (0 : Int32)), .val (.int (0 : Int32)), .val (.int (0 : Int32)), .val (.long (q2 + (1 : Int64))), .second, .unset, .unset, .unset] [(.long q2), (.long q1), (.ref b1)])) rfl (by rw [hml]; rfl) (Steps.refl _) (argsL := [(.long q1), (.long q2)]) (rest := []) (lenOf pd_1 rfl) rfl (by show 2 * 0 + _ ≤ _; exact Nat.le_of_eq rfl) (hb hby at_103) (fun _ _ => ⟨rfl, rfl, (by decide : 2 + 0 ≤ _), (by decide : 3074 + 0 ≤ _)⟩)
        dsimp only [Pt.U, Pt.locs, Pt.cells, Pt.slots] at X8 l8 y8 z8 st8 hQ8
        subst l8 y8 z8
        obtain ⟨rfl, N8q, e8⟩ := hQ8
        have N8 := Fr.app N7 N8q
        obtain ⟨cq9, kq9, q9a, q9b, q9c⟩ := isOf hZ e8 A1_7
        obtain ⟨_, _, ⟨T9, L9, k9, n9⟩, -, X9, ⟨Lc9, hQ9, l9, y9, z9⟩, st9⟩ := X8.virtualBack hx (y := (⟨"com/example/outcry/outcry/allocation/Memo", "value", "(I)I"⟩ : MethodName)) (z := (⟨"com/example/outcry/outcry/allocation/Memo", "value", "(I)I"⟩ : MethodName)) hown (mvT hZ (hw _ (List.mem_of_getElem? (i := 43) rfl))) (mvT hZ (hw _ (List.mem_of_getElem? (i := 44) rfl))) (notFace_of_selects (args := #[]) (mvT hZ (hw _ (List.mem_of_getElem? (i := 46) rfl)))) (mvT hZ (hw _ (List.mem_of_getElem? (i := 46) rfl))) (mvT hZ (hw _ (List.mem_of_getElem? (i := 45) rfl))) (by decide) (backOf (W := 0) (rm_value l Z a0 hw [] b1 (own_find (own_put (own_put (fun _ => (0 : Int64)) q1 q2 (own_out p1 (own_bun p3) (0 : Int32))) q1 (q2 + (1 : Int64)) (own_out p2 (own_bun p3) (0 : Int32))) q1 q2) tb (own_put (own_put (fun _ => (0 : Int64)) q1 q2 (own_out p1 (own_bun p3) (0 : Int32))) q1 (q2 + (1 : Int64)) (own_out p2 (own_bun p3) (0 : Int32))) T7.heap n0 Z7 x7c1 x7c3 (own_bb (own_sb _ _) (own_two_fA (own_succ _) (own_out_nz _ _ _)))) hZ (hw _ (List.mem_of_getElem? (i := 47) rfl)) (hw _ (List.mem_of_getElem? (i := 2) rfl)) (by decide) (by decide)) q9a q9c (g := (mkF m 133 #[.val (.long q1), .second, .val (.long q2), .second, .val (.int p1), .val (.int p2), .val (.int p3), .val (.int p4), .val (.ref b1), .val (.int (own_bun p3)), .val (.int (0 : Int32)), .val (.int (0 : Int32)), .val (.int (0 : Int32)), .val (.long (q2 + (1 : Int64))), .second, .val (.int (own_find (own_put (own_put (fun _ => (0 : Int64)) q1 q2 (own_out p1 (own_bun p3) (0 : Int32))) q1 (q2 + (1 : Int64)) (own_out p2 (own_bun p3) (0 : Int32))) q1 q2)), .val (.int p1), .unset] [(.int (own_find (own_put (own_put (fun _ => (0 : Int64)) q1 q2 (own_out p1 (own_bun p3) (0 : Int32))) q1 (q2 + (1 : Int64)) (own_out p2 (own_bun p3) (0 : Int32))) q1 q2)), (.ref b1)])) rfl (by rw [hml]; rfl) (Steps.refl _) (argsL := [(.int (own_find (own_put (own_put (fun _ => (0 : Int64)) q1 q2 (own_out p1 (own_bun p3) (0 : Int32))) q1 (q2 + (1 : Int64)) (own_out p2 (own_bun p3) (0 : Int32))) q1 q2))]) (rest := []) (lenOf pd_7 rfl) rfl (by show 2 * 0 + _ ≤ _; exact Nat.le_of_eq rfl) (hb hby at_133) (fun _ _ => ⟨rfl, e8, (by decide : 2 + 0 ≤ _), (by decide : 3074 + 0 ≤ _)⟩)
        dsimp only [Pt.U, Pt.locs, Pt.cells, Pt.slots] at X9 l9 y9 z9 st9 hQ9
        subst l9 y9 z9
        obtain ⟨rfl, N9q, e9⟩ := hQ9
        have N9 := Fr.app N8 N9q
        obtain ⟨cq10, kq10, q10a, q10b, q10c⟩ := isOf hZ e9 A1_7
        obtain ⟨_, _, ⟨T10, L10, k10, n10⟩, -, X10, ⟨Lc10, hQ10, l10, y10, z10⟩, st10⟩ := X9.virtualBack hx (y := (⟨"com/example/outcry/outcry/allocation/Memo", "find", "(JJ)I"⟩ : MethodName)) (z := (⟨"com/example/outcry/outcry/allocation/Memo", "find", "(JJ)I"⟩ : MethodName)) hown (mvT hZ (hw _ (List.mem_of_getElem? (i := 42) rfl))) (mvT hZ (hw _ (List.mem_of_getElem? (i := 27) rfl))) (notFace_of_selects (args := #[]) (mvT hZ (hw _ (List.mem_of_getElem? (i := 29) rfl)))) (mvT hZ (hw _ (List.mem_of_getElem? (i := 29) rfl))) (mvT hZ (hw _ (List.mem_of_getElem? (i := 28) rfl))) (by decide) (backOf (W := 0) (rm_find l Z a0 hw [] b1 q1 (q2 + (1 : Int64)) tb (own_put (own_put (fun _ => (0 : Int64)) q1 q2 (own_out p1 (own_bun p3) (0 : Int32))) q1 (q2 + (1 : Int64)) (own_out p2 (own_bun p3) (0 : Int32))) T7.heap n0 Z7 x7c1 x7c3 (own_two_okB (own_succ _) (own_out_nz _ _ _))) hZ (hw _ (List.mem_of_getElem? (i := 30) rfl)) (hw _ (List.mem_of_getElem? (i := 2) rfl)) (by decide) (by decide)) q10a q10c (g := (mkF m 153 #[.val (.long q1), .second, .val (.long q2), .second, .val (.int p1), .val (.int p2), .val (.int p3), .val (.int p4), .val (.ref b1), .val (.int (own_bun p3)), .val (.int (0 : Int32)), .val (.int (0 : Int32)), .val (.int (0 : Int32)), .val (.long (q2 + (1 : Int64))), .second, .val (.int (own_find (own_put (own_put (fun _ => (0 : Int64)) q1 q2 (own_out p1 (own_bun p3) (0 : Int32))) q1 (q2 + (1 : Int64)) (own_out p2 (own_bun p3) (0 : Int32))) q1 q2)), .val (.int p1), .unset] [(.long (q2 + (1 : Int64))), (.long q1), (.ref b1)])) rfl (by rw [hml]; rfl) (Steps.refl _) (argsL := [(.long q1), (.long (q2 + (1 : Int64)))]) (rest := []) (lenOf pd_1 rfl) rfl (by show 2 * 0 + _ ≤ _; exact Nat.le_of_eq rfl) (hb hby at_153) (fun _ _ => ⟨rfl, e9, (by decide : 2 + 0 ≤ _), (by decide : 3074 + 0 ≤ _)⟩)
        dsimp only [Pt.U, Pt.locs, Pt.cells, Pt.slots] at X10 l10 y10 z10 st10 hQ10
        subst l10 y10 z10
        obtain ⟨rfl, N10q, e10⟩ := hQ10
        have N10 := Fr.app N9 N10q
        obtain ⟨cq11, kq11, q11a, q11b, q11c⟩ := isOf hZ e10 A1_7
        obtain ⟨_, _, ⟨T11, L11, k11, n11⟩, -, X11, ⟨Lc11, hQ11, l11, y11, z11⟩, st11⟩ := X10.virtualBack hx (y := (⟨"com/example/outcry/outcry/allocation/Memo", "value", "(I)I"⟩ : MethodName)) (z := (⟨"com/example/outcry/outcry/allocation/Memo", "value", "(I)I"⟩ : MethodName)) hown (mvT hZ (hw _ (List.mem_of_getElem? (i := 43) rfl))) (mvT hZ (hw _ (List.mem_of_getElem? (i := 44) rfl))) (notFace_of_selects (args := #[]) (mvT hZ (hw _ (List.mem_of_getElem? (i := 46) rfl)))) (mvT hZ (hw _ (List.mem_of_getElem? (i := 46) rfl))) (mvT hZ (hw _ (List.mem_of_getElem? (i := 45) rfl))) (by decide) (backOf (W := 0) (rm_value l Z a0 hw [] b1 (own_find (own_put (own_put (fun _ => (0 : Int64)) q1 q2 (own_out p1 (own_bun p3) (0 : Int32))) q1 (q2 + (1 : Int64)) (own_out p2 (own_bun p3) (0 : Int32))) q1 (q2 + (1 : Int64))) tb (own_put (own_put (fun _ => (0 : Int64)) q1 q2 (own_out p1 (own_bun p3) (0 : Int32))) q1 (q2 + (1 : Int64)) (own_out p2 (own_bun p3) (0 : Int32))) T7.heap n0 Z7 x7c1 x7c3 (own_bb (own_Rb _ _ _) (own_two_fB (own_succ _) (own_out_nz _ _ _) (own_out_nz _ _ _)))) hZ (hw _ (List.mem_of_getElem? (i := 47) rfl)) (hw _ (List.mem_of_getElem? (i := 2) rfl)) (by decide) (by decide)) q11a q11c (g := (mkF m 169 #[.val (.long q1), .second, .val (.long q2), .second, .val (.int p1), .val (.int p2), .val (.int p3), .val (.int p4), .val (.ref b1), .val (.int (own_bun p3)), .val (.int (0 : Int32)), .val (.int (0 : Int32)), .val (.int (0 : Int32)), .val (.long (q2 + (1 : Int64))), .second, .val (.int (own_find (own_put (own_put (fun _ => (0 : Int64)) q1 q2 (own_out p1 (own_bun p3) (0 : Int32))) q1 (q2 + (1 : Int64)) (own_out p2 (own_bun p3) (0 : Int32))) q1 q2)), .val (.int p1), .val (.int (own_find (own_put (own_put (fun _ => (0 : Int64)) q1 q2 (own_out p1 (own_bun p3) (0 : Int32))) q1 (q2 + (1 : Int64)) (own_out p2 (own_bun p3) (0 : Int32))) q1 (q2 + (1 : Int64))))] [(.int (own_find (own_put (own_put (fun _ => (0 : Int64)) q1 q2 (own_out p1 (own_bun p3) (0 : Int32))) q1 (q2 + (1 : Int64)) (own_out p2 (own_bun p3) (0 : Int32))) q1 (q2 + (1 : Int64)))), (.ref b1)])) rfl (by rw [hml]; rfl) (Steps.refl _) (argsL := [(.int (own_find (own_put (own_put (fun _ => (0 : Int64)) q1 q2 (own_out p1 (own_bun p3) (0 : Int32))) q1 (q2 + (1 : Int64)) (own_out p2 (own_bun p3) (0 : Int32))) q1 (q2 + (1 : Int64))))]) (rest := []) (lenOf pd_7 rfl) rfl (by show 2 * 0 + _ ≤ _; exact Nat.le_of_eq rfl) (hb hby at_169) (fun _ _ => ⟨rfl, e10, (by decide : 2 + 0 ≤ _), (by decide : 3074 + 0 ≤ _)⟩)
        dsimp only [Pt.U, Pt.locs, Pt.cells, Pt.slots] at X11 l11 y11 z11 st11 hQ11
        subst l11 y11 z11
        obtain ⟨rfl, N11q, e11⟩ := hQ11
        have N11 := Fr.app N10 N11q
        obtain ⟨fs, hr, hrun, hended, hW, hsame⟩ := X11.leave (v := some (.int (1 : Int32))) (fun h => by rw [Bd.returns] at h; cases h)
        refine ⟨_, _, pre0 _ ?_, hrun, hended, _, _, rfl, ?_, ⟨_, rfl⟩, hW, hsame.mono (by decide) (by decide)⟩
        · refine k5 _ ?_
          show Steps p.tables e below (T2.setTop (mkF m 48 #[.val (.long q1), .second, .val (.long q2), .second, .val (.int p1), .val (.int p2), .val (.int p3), .val (.int p4), .val (.ref b1), .val (.int (own_bun p3)), .val (.int (0 : Int32)), .val (.int (0 : Int32)), .unset, .unset, .unset, .unset, .unset, .unset] [(.int (p4 &&& (4 : Int32)))])) _
          refine XS.ifYes X2.here hx rfl (pc0 := 48) (pc' := 55) rfl (hb hby at_48) rfl ((if0 _ _).trans (teq hc48).1) (by decide) (by decide) ?_
          show Steps p.tables e below (T2.setTop (mkF m 55 #[.val (.long q1), .second, .val (.long q2), .second, .val (.int p1), .val (.int p2), .val (.int p3), .val (.int p4), .val (.ref b1), .val (.int (own_bun p3)), .val (.int (0 : Int32)), .val (.int (0 : Int32)), .unset, .unset, .unset, .unset, .unset, .unset] [])) _
          refine XS.iconst X2.here hx rfl (hb hby at_55) ?_
          show Steps p.tables e below (T2.setTop (mkF m 56 #[.val (.long q1), .second, .val (.long q2), .second, .val (.int p1), .val (.int p2), .val (.int p3), .val (.int p4), .val (.ref b1), .val (.int (own_bun p3)), .val (.int (0 : Int32)), .val (.int (0 : Int32)), .unset, .unset, .unset, .unset, .unset, .unset] [(.int (0 : Int32))])) _
          refine XS.istore X2.here hx rfl (hb hby at_56) rfl (l' := #[.val (.long q1), .second, .val (.long q2), .second, .val (.int p1), .val (.int p2), .val (.int p3), .val (.int p4), .val (.ref b1), .val (.int (own_bun p3)), .val (.int (0 : Int32)), .val (.int (0 : Int32)), .val (.int (0 : Int32)), .unset, .unset, .unset, .unset, .unset]) rfl ?_
          show Steps p.tables e below (T2.setTop (mkF m 58 #[.val (.long q1), .second, .val (.long q2), .second, .val (.int p1), .val (.int p2), .val (.int p3), .val (.int p4), .val (.ref b1), .val (.int (own_bun p3)), .val (.int (0 : Int32)), .val (.int (0 : Int32)), .val (.int (0 : Int32)), .unset, .unset, .unset, .unset, .unset] [])) _
          refine XS.iload X2.here hx rfl (hb hby at_58) rfl ?_
          show Steps p.tables e below (T2.setTop (mkF m 60 #[.val (.long q1), .second, .val (.long q2), .second, .val (.int p1), .val (.int p2), .val (.int p3), .val (.int p4), .val (.ref b1), .val (.int (own_bun p3)), .val (.int (0 : Int32)), .val (.int (0 : Int32)), .val (.int (0 : Int32)), .unset, .unset, .unset, .unset, .unset] [(.int (0 : Int32))])) _
          refine XS.ifYes X2.here hx rfl (pc0 := 60) (pc' := 67) rfl (hb hby at_60) rfl ((if0 _ _).trans (teq (by decide : (0 : Int32) = (0 : Int32))).1) (by decide) (by decide) ?_
          show Steps p.tables e below (T2.setTop (mkF m 67 #[.val (.long q1), .second, .val (.long q2), .second, .val (.int p1), .val (.int p2), .val (.int p3), .val (.int p4), .val (.ref b1), .val (.int (own_bun p3)), .val (.int (0 : Int32)), .val (.int (0 : Int32)), .val (.int (0 : Int32)), .unset, .unset, .unset, .unset, .unset] [])) _
          refine XS.lloadN X2.here hx rfl (hb hby at_67) rfl ?_
          show Steps p.tables e below (T2.setTop (mkF m 68 #[.val (.long q1), .second, .val (.long q2), .second, .val (.int p1), .val (.int p2), .val (.int p3), .val (.int p4), .val (.ref b1), .val (.int (own_bun p3)), .val (.int (0 : Int32)), .val (.int (0 : Int32)), .val (.int (0 : Int32)), .unset, .unset, .unset, .unset, .unset] [(.long q2)])) _
          refine XS.lconst X2.here hx rfl (hb hby at_68) ?_
          show Steps p.tables e below (T2.setTop (mkF m 69 #[.val (.long q1), .second, .val (.long q2), .second, .val (.int p1), .val (.int p2), .val (.int p3), .val (.int p4), .val (.ref b1), .val (.int (own_bun p3)), .val (.int (0 : Int32)), .val (.int (0 : Int32)), .val (.int (0 : Int32)), .unset, .unset, .unset, .unset, .unset] [(.long (1 : Int64)), (.long q2)])) _
          refine XS.ladd X2.here hx rfl (hb hby at_69) rfl ?_
          show Steps p.tables e below (T2.setTop (mkF m 70 #[.val (.long q1), .second, .val (.long q2), .second, .val (.int p1), .val (.int p2), .val (.int p3), .val (.int p4), .val (.ref b1), .val (.int (own_bun p3)), .val (.int (0 : Int32)), .val (.int (0 : Int32)), .val (.int (0 : Int32)), .unset, .unset, .unset, .unset, .unset] [(.long (q2 + (1 : Int64)))])) _
          refine XS.lstore X2.here hx rfl (hb hby at_70) rfl (l' := #[.val (.long q1), .second, .val (.long q2), .second, .val (.int p1), .val (.int p2), .val (.int p3), .val (.int p4), .val (.ref b1), .val (.int (own_bun p3)), .val (.int (0 : Int32)), .val (.int (0 : Int32)), .val (.int (0 : Int32)), .val (.long (q2 + (1 : Int64))), .second, .unset, .unset, .unset]) rfl ?_
          show Steps p.tables e below (T2.setTop (mkF m 72 #[.val (.long q1), .second, .val (.long q2), .second, .val (.int p1), .val (.int p2), .val (.int p3), .val (.int p4), .val (.ref b1), .val (.int (own_bun p3)), .val (.int (0 : Int32)), .val (.int (0 : Int32)), .val (.int (0 : Int32)), .val (.long (q2 + (1 : Int64))), .second, .unset, .unset, .unset] [])) _
          refine XS.aload X2.here hx rfl (hb hby at_72) rfl rfl ?_
          show Steps p.tables e below (T2.setTop (mkF m 74 #[.val (.long q1), .second, .val (.long q2), .second, .val (.int p1), .val (.int p2), .val (.int p3), .val (.int p4), .val (.ref b1), .val (.int (own_bun p3)), .val (.int (0 : Int32)), .val (.int (0 : Int32)), .val (.int (0 : Int32)), .val (.long (q2 + (1 : Int64))), .second, .unset, .unset, .unset] [(.ref b1)])) _
          refine XS.lloadN X2.here hx rfl (hb hby at_74) rfl ?_
          show Steps p.tables e below (T2.setTop (mkF m 75 #[.val (.long q1), .second, .val (.long q2), .second, .val (.int p1), .val (.int p2), .val (.int p3), .val (.int p4), .val (.ref b1), .val (.int (own_bun p3)), .val (.int (0 : Int32)), .val (.int (0 : Int32)), .val (.int (0 : Int32)), .val (.long (q2 + (1 : Int64))), .second, .unset, .unset, .unset] [(.long q1), (.ref b1)])) _
          refine XS.lloadN X2.here hx rfl (hb hby at_75) rfl ?_
          show Steps p.tables e below (T2.setTop (mkF m 76 #[.val (.long q1), .second, .val (.long q2), .second, .val (.int p1), .val (.int p2), .val (.int p3), .val (.int p4), .val (.ref b1), .val (.int (own_bun p3)), .val (.int (0 : Int32)), .val (.int (0 : Int32)), .val (.int (0 : Int32)), .val (.long (q2 + (1 : Int64))), .second, .unset, .unset, .unset] [(.long q2), (.long q1), (.ref b1)])) _
          refine XS.iload X2.here hx rfl (hb hby at_76) rfl ?_
          show Steps p.tables e below (T2.setTop (mkF m 78 #[.val (.long q1), .second, .val (.long q2), .second, .val (.int p1), .val (.int p2), .val (.int p3), .val (.int p4), .val (.ref b1), .val (.int (own_bun p3)), .val (.int (0 : Int32)), .val (.int (0 : Int32)), .val (.int (0 : Int32)), .val (.long (q2 + (1 : Int64))), .second, .unset, .unset, .unset] [(.int p1), (.long q2), (.long q1), (.ref b1)])) _
          refine XS.iload X2.here hx rfl (hb hby at_78) rfl ?_
          show Steps p.tables e below (T2.setTop (mkF m 80 #[.val (.long q1), .second, .val (.long q2), .second, .val (.int p1), .val (.int p2), .val (.int p3), .val (.int p4), .val (.ref b1), .val (.int (own_bun p3)), .val (.int (0 : Int32)), .val (.int (0 : Int32)), .val (.int (0 : Int32)), .val (.long (q2 + (1 : Int64))), .second, .unset, .unset, .unset] [(.int (own_bun p3)), (.int p1), (.long q2), (.long q1), (.ref b1)])) _
          refine XS.iload X2.here hx rfl (hb hby at_80) rfl ?_
          show Steps p.tables e below (T2.setTop (mkF m 82 #[.val (.long q1), .second, .val (.long q2), .second, .val (.int p1), .val (.int p2), .val (.int p3), .val (.int p4), .val (.ref b1), .val (.int (own_bun p3)), .val (.int (0 : Int32)), .val (.int (0 : Int32)), .val (.int (0 : Int32)), .val (.long (q2 + (1 : Int64))), .second, .unset, .unset, .unset] [(.int (0 : Int32)), (.int (own_bun p3)), (.int p1), (.long q2), (.long q1), (.ref b1)])) _
          refine st6 _ ?_
          show Steps p.tables e below (T6.setTop (mkF m 85 #[.val (.long q1), .second, .val (.long q2), .second, .val (.int p1), .val (.int p2), .val (.int p3), .val (.int p4), .val (.ref b1), .val (.int (own_bun p3)), .val (.int (0 : Int32)), .val (.int (0 : Int32)), .val (.int (0 : Int32)), .val (.long (q2 + (1 : Int64))), .second, .unset, .unset, .unset] [])) _
          refine XS.aload X6.here hx rfl (hb hby at_85) rfl rfl ?_
          show Steps p.tables e below (T6.setTop (mkF m 87 #[.val (.long q1), .second, .val (.long q2), .second, .val (.int p1), .val (.int p2), .val (.int p3), .val (.int p4), .val (.ref b1), .val (.int (own_bun p3)), .val (.int (0 : Int32)), .val (.int (0 : Int32)), .val (.int (0 : Int32)), .val (.long (q2 + (1 : Int64))), .second, .unset, .unset, .unset] [(.ref b1)])) _
          refine XS.lloadN X6.here hx rfl (hb hby at_87) rfl ?_
          show Steps p.tables e below (T6.setTop (mkF m 88 #[.val (.long q1), .second, .val (.long q2), .second, .val (.int p1), .val (.int p2), .val (.int p3), .val (.int p4), .val (.ref b1), .val (.int (own_bun p3)), .val (.int (0 : Int32)), .val (.int (0 : Int32)), .val (.int (0 : Int32)), .val (.long (q2 + (1 : Int64))), .second, .unset, .unset, .unset] [(.long q1), (.ref b1)])) _
          refine XS.lload X6.here hx rfl (hb hby at_88) rfl ?_
          show Steps p.tables e below (T6.setTop (mkF m 90 #[.val (.long q1), .second, .val (.long q2), .second, .val (.int p1), .val (.int p2), .val (.int p3), .val (.int p4), .val (.ref b1), .val (.int (own_bun p3)), .val (.int (0 : Int32)), .val (.int (0 : Int32)), .val (.int (0 : Int32)), .val (.long (q2 + (1 : Int64))), .second, .unset, .unset, .unset] [(.long (q2 + (1 : Int64))), (.long q1), (.ref b1)])) _
          refine XS.iload X6.here hx rfl (hb hby at_90) rfl ?_
          show Steps p.tables e below (T6.setTop (mkF m 92 #[.val (.long q1), .second, .val (.long q2), .second, .val (.int p1), .val (.int p2), .val (.int p3), .val (.int p4), .val (.ref b1), .val (.int (own_bun p3)), .val (.int (0 : Int32)), .val (.int (0 : Int32)), .val (.int (0 : Int32)), .val (.long (q2 + (1 : Int64))), .second, .unset, .unset, .unset] [(.int p2), (.long (q2 + (1 : Int64))), (.long q1), (.ref b1)])) _
          refine XS.iload X6.here hx rfl (hb hby at_92) rfl ?_
          show Steps p.tables e below (T6.setTop (mkF m 94 #[.val (.long q1), .second, .val (.long q2), .second, .val (.int p1), .val (.int p2), .val (.int p3), .val (.int p4), .val (.ref b1), .val (.int (own_bun p3)), .val (.int (0 : Int32)), .val (.int (0 : Int32)), .val (.int (0 : Int32)), .val (.long (q2 + (1 : Int64))), .second, .unset, .unset, .unset] [(.int (own_bun p3)), (.int p2), (.long (q2 + (1 : Int64))), (.long q1), (.ref b1)])) _
          refine XS.iload X6.here hx rfl (hb hby at_94) rfl ?_
          show Steps p.tables e below (T6.setTop (mkF m 96 #[.val (.long q1), .second, .val (.long q2), .second, .val (.int p1), .val (.int p2), .val (.int p3), .val (.int p4), .val (.ref b1), .val (.int (own_bun p3)), .val (.int (0 : Int32)), .val (.int (0 : Int32)), .val (.int (0 : Int32)), .val (.long (q2 + (1 : Int64))), .second, .unset, .unset, .unset] [(.int (0 : Int32)), (.int (own_bun p3)), (.int p2), (.long (q2 + (1 : Int64))), (.long q1), (.ref b1)])) _
          refine st7 _ ?_
          show Steps p.tables e below (T7.setTop (mkF m 99 #[.val (.long q1), .second, .val (.long q2), .second, .val (.int p1), .val (.int p2), .val (.int p3), .val (.int p4), .val (.ref b1), .val (.int (own_bun p3)), .val (.int (0 : Int32)), .val (.int (0 : Int32)), .val (.int (0 : Int32)), .val (.long (q2 + (1 : Int64))), .second, .unset, .unset, .unset] [])) _
          refine XS.aload X7.here hx rfl (hb hby at_99) rfl rfl ?_
          show Steps p.tables e below (T7.setTop (mkF m 101 #[.val (.long q1), .second, .val (.long q2), .second, .val (.int p1), .val (.int p2), .val (.int p3), .val (.int p4), .val (.ref b1), .val (.int (own_bun p3)), .val (.int (0 : Int32)), .val (.int (0 : Int32)), .val (.int (0 : Int32)), .val (.long (q2 + (1 : Int64))), .second, .unset, .unset, .unset] [(.ref b1)])) _
          refine XS.lloadN X7.here hx rfl (hb hby at_101) rfl ?_
          show Steps p.tables e below (T7.setTop (mkF m 102 #[.val (.long q1), .second, .val (.long q2), .second, .val (.int p1), .val (.int p2), .val (.int p3), .val (.int p4), .val (.ref b1), .val (.int (own_bun p3)), .val (.int (0 : Int32)), .val (.int (0 : Int32)), .val (.int (0 : Int32)), .val (.long (q2 + (1 : Int64))), .second, .unset, .unset, .unset] [(.long q1), (.ref b1)])) _
          refine XS.lloadN X7.here hx rfl (hb hby at_102) rfl ?_
          show Steps p.tables e below (T7.setTop (mkF m 103 #[.val (.long q1), .second, .val (.long q2), .second, .val (.int p1), .val (.int p2), .val (.int p3), .val (.int p4), .val (.ref b1), .val (.int (own_bun p3)), .val (.int (0 : Int32)), .val (.int (0 : Int32)), .val (.int (0 : Int32)), .val (.long (q2 + (1 : Int64))), .second, .unset, .unset, .unset] [(.long q2), (.long q1), (.ref b1)])) _
          refine st8.trans ?_
          show Steps p.tables e below (T8.setTop (mkF m 106 #[.val (.long q1), .second, .val (.long q2), .second, .val (.int p1), .val (.int p2), .val (.int p3), .val (.int p4), .val (.ref b1), .val (.int (own_bun p3)), .val (.int (0 : Int32)), .val (.int (0 : Int32)), .val (.int (0 : Int32)), .val (.long (q2 + (1 : Int64))), .second, .unset, .unset, .unset] [(.int (own_find (own_put (own_put (fun _ => (0 : Int64)) q1 q2 (own_out p1 (own_bun p3) (0 : Int32))) q1 (q2 + (1 : Int64)) (own_out p2 (own_bun p3) (0 : Int32))) q1 q2))])) _
          refine XS.istore X8.here hx rfl (hb hby at_106) rfl (l' := #[.val (.long q1), .second, .val (.long q2), .second, .val (.int p1), .val (.int p2), .val (.int p3), .val (.int p4), .val (.ref b1), .val (.int (own_bun p3)), .val (.int (0 : Int32)), .val (.int (0 : Int32)), .val (.int (0 : Int32)), .val (.long (q2 + (1 : Int64))), .second, .val (.int (own_find (own_put (own_put (fun _ => (0 : Int64)) q1 q2 (own_out p1 (own_bun p3) (0 : Int32))) q1 (q2 + (1 : Int64)) (own_out p2 (own_bun p3) (0 : Int32))) q1 q2)), .unset, .unset]) rfl ?_
          show Steps p.tables e below (T8.setTop (mkF m 108 #[.val (.long q1), .second, .val (.long q2), .second, .val (.int p1), .val (.int p2), .val (.int p3), .val (.int p4), .val (.ref b1), .val (.int (own_bun p3)), .val (.int (0 : Int32)), .val (.int (0 : Int32)), .val (.int (0 : Int32)), .val (.long (q2 + (1 : Int64))), .second, .val (.int (own_find (own_put (own_put (fun _ => (0 : Int64)) q1 q2 (own_out p1 (own_bun p3) (0 : Int32))) q1 (q2 + (1 : Int64)) (own_out p2 (own_bun p3) (0 : Int32))) q1 q2)), .unset, .unset] [])) _
          refine XS.iload X8.here hx rfl (hb hby at_108) rfl ?_
          show Steps p.tables e below (T8.setTop (mkF m 110 #[.val (.long q1), .second, .val (.long q2), .second, .val (.int p1), .val (.int p2), .val (.int p3), .val (.int p4), .val (.ref b1), .val (.int (own_bun p3)), .val (.int (0 : Int32)), .val (.int (0 : Int32)), .val (.int (0 : Int32)), .val (.long (q2 + (1 : Int64))), .second, .val (.int (own_find (own_put (own_put (fun _ => (0 : Int64)) q1 q2 (own_out p1 (own_bun p3) (0 : Int32))) q1 (q2 + (1 : Int64)) (own_out p2 (own_bun p3) (0 : Int32))) q1 q2)), .unset, .unset] [(.int (own_find (own_put (own_put (fun _ => (0 : Int64)) q1 q2 (own_out p1 (own_bun p3) (0 : Int32))) q1 (q2 + (1 : Int64)) (own_out p2 (own_bun p3) (0 : Int32))) q1 q2))])) _
          refine XS.ifYes X8.here hx rfl (pc0 := 110) (pc' := 115) rfl (hb hby at_110) rfl ((if0 _ _).trans (flt (own_ge (own_sb _ _) (own_two_fA (own_succ _) (own_out_nz _ _ _)))).2.1) (by decide) (by decide) ?_
          show Steps p.tables e below (T8.setTop (mkF m 115 #[.val (.long q1), .second, .val (.long q2), .second, .val (.int p1), .val (.int p2), .val (.int p3), .val (.int p4), .val (.ref b1), .val (.int (own_bun p3)), .val (.int (0 : Int32)), .val (.int (0 : Int32)), .val (.int (0 : Int32)), .val (.long (q2 + (1 : Int64))), .second, .val (.int (own_find (own_put (own_put (fun _ => (0 : Int64)) q1 q2 (own_out p1 (own_bun p3) (0 : Int32))) q1 (q2 + (1 : Int64)) (own_out p2 (own_bun p3) (0 : Int32))) q1 q2)), .unset, .unset] [])) _
          refine XS.iload X8.here hx rfl (hb hby at_115) rfl ?_
          show Steps p.tables e below (T8.setTop (mkF m 117 #[.val (.long q1), .second, .val (.long q2), .second, .val (.int p1), .val (.int p2), .val (.int p3), .val (.int p4), .val (.ref b1), .val (.int (own_bun p3)), .val (.int (0 : Int32)), .val (.int (0 : Int32)), .val (.int (0 : Int32)), .val (.long (q2 + (1 : Int64))), .second, .val (.int (own_find (own_put (own_put (fun _ => (0 : Int64)) q1 q2 (own_out p1 (own_bun p3) (0 : Int32))) q1 (q2 + (1 : Int64)) (own_out p2 (own_bun p3) (0 : Int32))) q1 q2)), .unset, .unset] [(.int (0 : Int32))])) _
          refine XS.ifYes X8.here hx rfl (pc0 := 117) (pc' := 125) rfl (hb hby at_117) rfl ((if0 _ _).trans (teq (by decide : (0 : Int32) = (0 : Int32))).1) (by decide) (by decide) ?_
          show Steps p.tables e below (T8.setTop (mkF m 125 #[.val (.long q1), .second, .val (.long q2), .second, .val (.int p1), .val (.int p2), .val (.int p3), .val (.int p4), .val (.ref b1), .val (.int (own_bun p3)), .val (.int (0 : Int32)), .val (.int (0 : Int32)), .val (.int (0 : Int32)), .val (.long (q2 + (1 : Int64))), .second, .val (.int (own_find (own_put (own_put (fun _ => (0 : Int64)) q1 q2 (own_out p1 (own_bun p3) (0 : Int32))) q1 (q2 + (1 : Int64)) (own_out p2 (own_bun p3) (0 : Int32))) q1 q2)), .unset, .unset] [])) _
          refine XS.iload X8.here hx rfl (hb hby at_125) rfl ?_
          show Steps p.tables e below (T8.setTop (mkF m 127 #[.val (.long q1), .second, .val (.long q2), .second, .val (.int p1), .val (.int p2), .val (.int p3), .val (.int p4), .val (.ref b1), .val (.int (own_bun p3)), .val (.int (0 : Int32)), .val (.int (0 : Int32)), .val (.int (0 : Int32)), .val (.long (q2 + (1 : Int64))), .second, .val (.int (own_find (own_put (own_put (fun _ => (0 : Int64)) q1 q2 (own_out p1 (own_bun p3) (0 : Int32))) q1 (q2 + (1 : Int64)) (own_out p2 (own_bun p3) (0 : Int32))) q1 q2)), .unset, .unset] [(.int p1)])) _
          refine XS.istore X8.here hx rfl (hb hby at_127) rfl (l' := #[.val (.long q1), .second, .val (.long q2), .second, .val (.int p1), .val (.int p2), .val (.int p3), .val (.int p4), .val (.ref b1), .val (.int (own_bun p3)), .val (.int (0 : Int32)), .val (.int (0 : Int32)), .val (.int (0 : Int32)), .val (.long (q2 + (1 : Int64))), .second, .val (.int (own_find (own_put (own_put (fun _ => (0 : Int64)) q1 q2 (own_out p1 (own_bun p3) (0 : Int32))) q1 (q2 + (1 : Int64)) (own_out p2 (own_bun p3) (0 : Int32))) q1 q2)), .val (.int p1), .unset]) rfl ?_
          show Steps p.tables e below (T8.setTop (mkF m 129 #[.val (.long q1), .second, .val (.long q2), .second, .val (.int p1), .val (.int p2), .val (.int p3), .val (.int p4), .val (.ref b1), .val (.int (own_bun p3)), .val (.int (0 : Int32)), .val (.int (0 : Int32)), .val (.int (0 : Int32)), .val (.long (q2 + (1 : Int64))), .second, .val (.int (own_find (own_put (own_put (fun _ => (0 : Int64)) q1 q2 (own_out p1 (own_bun p3) (0 : Int32))) q1 (q2 + (1 : Int64)) (own_out p2 (own_bun p3) (0 : Int32))) q1 q2)), .val (.int p1), .unset] [])) _
          refine XS.aload X8.here hx rfl (hb hby at_129) rfl rfl ?_
          show Steps p.tables e below (T8.setTop (mkF m 131 #[.val (.long q1), .second, .val (.long q2), .second, .val (.int p1), .val (.int p2), .val (.int p3), .val (.int p4), .val (.ref b1), .val (.int (own_bun p3)), .val (.int (0 : Int32)), .val (.int (0 : Int32)), .val (.int (0 : Int32)), .val (.long (q2 + (1 : Int64))), .second, .val (.int (own_find (own_put (own_put (fun _ => (0 : Int64)) q1 q2 (own_out p1 (own_bun p3) (0 : Int32))) q1 (q2 + (1 : Int64)) (own_out p2 (own_bun p3) (0 : Int32))) q1 q2)), .val (.int p1), .unset] [(.ref b1)])) _
          refine XS.iload X8.here hx rfl (hb hby at_131) rfl ?_
          show Steps p.tables e below (T8.setTop (mkF m 133 #[.val (.long q1), .second, .val (.long q2), .second, .val (.int p1), .val (.int p2), .val (.int p3), .val (.int p4), .val (.ref b1), .val (.int (own_bun p3)), .val (.int (0 : Int32)), .val (.int (0 : Int32)), .val (.int (0 : Int32)), .val (.long (q2 + (1 : Int64))), .second, .val (.int (own_find (own_put (own_put (fun _ => (0 : Int64)) q1 q2 (own_out p1 (own_bun p3) (0 : Int32))) q1 (q2 + (1 : Int64)) (own_out p2 (own_bun p3) (0 : Int32))) q1 q2)), .val (.int p1), .unset] [(.int (own_find (own_put (own_put (fun _ => (0 : Int64)) q1 q2 (own_out p1 (own_bun p3) (0 : Int32))) q1 (q2 + (1 : Int64)) (own_out p2 (own_bun p3) (0 : Int32))) q1 q2)), (.ref b1)])) _
          refine st9.trans ?_
          show Steps p.tables e below (T9.setTop (mkF m 136 #[.val (.long q1), .second, .val (.long q2), .second, .val (.int p1), .val (.int p2), .val (.int p3), .val (.int p4), .val (.ref b1), .val (.int (own_bun p3)), .val (.int (0 : Int32)), .val (.int (0 : Int32)), .val (.int (0 : Int32)), .val (.long (q2 + (1 : Int64))), .second, .val (.int (own_find (own_put (own_put (fun _ => (0 : Int64)) q1 q2 (own_out p1 (own_bun p3) (0 : Int32))) q1 (q2 + (1 : Int64)) (own_out p2 (own_bun p3) (0 : Int32))) q1 q2)), .val (.int p1), .unset] [(.int (((own_put (own_put (fun _ => (0 : Int64)) q1 q2 (own_out p1 (own_bun p3) (0 : Int32))) q1 (q2 + (1 : Int64)) (own_out p2 (own_bun p3) (0 : Int32))) ((own_find (own_put (own_put (fun _ => (0 : Int64)) q1 q2 (own_out p1 (own_bun p3) (0 : Int32))) q1 (q2 + (1 : Int64)) (own_out p2 (own_bun p3) (0 : Int32))) q1 q2) + (2 : Int32))) >>> ((32 : Int32) &&& 0x3f).toInt64).toInt32)])) _
          refine XS.iload X9.here hx rfl (hb hby at_136) rfl ?_
          show Steps p.tables e below (T9.setTop (mkF m 138 #[.val (.long q1), .second, .val (.long q2), .second, .val (.int p1), .val (.int p2), .val (.int p3), .val (.int p4), .val (.ref b1), .val (.int (own_bun p3)), .val (.int (0 : Int32)), .val (.int (0 : Int32)), .val (.int (0 : Int32)), .val (.long (q2 + (1 : Int64))), .second, .val (.int (own_find (own_put (own_put (fun _ => (0 : Int64)) q1 q2 (own_out p1 (own_bun p3) (0 : Int32))) q1 (q2 + (1 : Int64)) (own_out p2 (own_bun p3) (0 : Int32))) q1 q2)), .val (.int p1), .unset] [(.int p1), (.int (((own_put (own_put (fun _ => (0 : Int64)) q1 q2 (own_out p1 (own_bun p3) (0 : Int32))) q1 (q2 + (1 : Int64)) (own_out p2 (own_bun p3) (0 : Int32))) ((own_find (own_put (own_put (fun _ => (0 : Int64)) q1 q2 (own_out p1 (own_bun p3) (0 : Int32))) q1 (q2 + (1 : Int64)) (own_out p2 (own_bun p3) (0 : Int32))) q1 q2) + (2 : Int32))) >>> ((32 : Int32) &&& 0x3f).toInt64).toInt32)])) _
          refine XS.icmpYes X9.here hx rfl (pc0 := 138) (pc' := 143) rfl (hb hby at_138) rfl (teq (own_valeq (own_two_fA (own_succ _) (own_out_nz _ _ _)) (own_two_a (own_succ _) (own_out_nz _ _ _)).2.2 (own_out_v _ _ _))).1 (by decide) (by decide) ?_
          show Steps p.tables e below (T9.setTop (mkF m 143 #[.val (.long q1), .second, .val (.long q2), .second, .val (.int p1), .val (.int p2), .val (.int p3), .val (.int p4), .val (.ref b1), .val (.int (own_bun p3)), .val (.int (0 : Int32)), .val (.int (0 : Int32)), .val (.int (0 : Int32)), .val (.long (q2 + (1 : Int64))), .second, .val (.int (own_find (own_put (own_put (fun _ => (0 : Int64)) q1 q2 (own_out p1 (own_bun p3) (0 : Int32))) q1 (q2 + (1 : Int64)) (own_out p2 (own_bun p3) (0 : Int32))) q1 q2)), .val (.int p1), .unset] [])) _
          refine XS.iload X9.here hx rfl (hb hby at_143) rfl ?_
          show Steps p.tables e below (T9.setTop (mkF m 145 #[.val (.long q1), .second, .val (.long q2), .second, .val (.int p1), .val (.int p2), .val (.int p3), .val (.int p4), .val (.ref b1), .val (.int (own_bun p3)), .val (.int (0 : Int32)), .val (.int (0 : Int32)), .val (.int (0 : Int32)), .val (.long (q2 + (1 : Int64))), .second, .val (.int (own_find (own_put (own_put (fun _ => (0 : Int64)) q1 q2 (own_out p1 (own_bun p3) (0 : Int32))) q1 (q2 + (1 : Int64)) (own_out p2 (own_bun p3) (0 : Int32))) q1 q2)), .val (.int p1), .unset] [(.int (0 : Int32))])) _
          refine XS.ifNo X9.here hx rfl (hb hby at_145) rfl ((if0 _ _).trans (teq (by decide : (0 : Int32) = (0 : Int32))).2) ?_
          show Steps p.tables e below (T9.setTop (mkF m 148 #[.val (.long q1), .second, .val (.long q2), .second, .val (.int p1), .val (.int p2), .val (.int p3), .val (.int p4), .val (.ref b1), .val (.int (own_bun p3)), .val (.int (0 : Int32)), .val (.int (0 : Int32)), .val (.int (0 : Int32)), .val (.long (q2 + (1 : Int64))), .second, .val (.int (own_find (own_put (own_put (fun _ => (0 : Int64)) q1 q2 (own_out p1 (own_bun p3) (0 : Int32))) q1 (q2 + (1 : Int64)) (own_out p2 (own_bun p3) (0 : Int32))) q1 q2)), .val (.int p1), .unset] [])) _
          refine XS.aload X9.here hx rfl (hb hby at_148) rfl rfl ?_
          show Steps p.tables e below (T9.setTop (mkF m 150 #[.val (.long q1), .second, .val (.long q2), .second, .val (.int p1), .val (.int p2), .val (.int p3), .val (.int p4), .val (.ref b1), .val (.int (own_bun p3)), .val (.int (0 : Int32)), .val (.int (0 : Int32)), .val (.int (0 : Int32)), .val (.long (q2 + (1 : Int64))), .second, .val (.int (own_find (own_put (own_put (fun _ => (0 : Int64)) q1 q2 (own_out p1 (own_bun p3) (0 : Int32))) q1 (q2 + (1 : Int64)) (own_out p2 (own_bun p3) (0 : Int32))) q1 q2)), .val (.int p1), .unset] [(.ref b1)])) _
          refine XS.lloadN X9.here hx rfl (hb hby at_150) rfl ?_
          show Steps p.tables e below (T9.setTop (mkF m 151 #[.val (.long q1), .second, .val (.long q2), .second, .val (.int p1), .val (.int p2), .val (.int p3), .val (.int p4), .val (.ref b1), .val (.int (own_bun p3)), .val (.int (0 : Int32)), .val (.int (0 : Int32)), .val (.int (0 : Int32)), .val (.long (q2 + (1 : Int64))), .second, .val (.int (own_find (own_put (own_put (fun _ => (0 : Int64)) q1 q2 (own_out p1 (own_bun p3) (0 : Int32))) q1 (q2 + (1 : Int64)) (own_out p2 (own_bun p3) (0 : Int32))) q1 q2)), .val (.int p1), .unset] [(.long q1), (.ref b1)])) _
          refine XS.lload X9.here hx rfl (hb hby at_151) rfl ?_
          show Steps p.tables e below (T9.setTop (mkF m 153 #[.val (.long q1), .second, .val (.long q2), .second, .val (.int p1), .val (.int p2), .val (.int p3), .val (.int p4), .val (.ref b1), .val (.int (own_bun p3)), .val (.int (0 : Int32)), .val (.int (0 : Int32)), .val (.int (0 : Int32)), .val (.long (q2 + (1 : Int64))), .second, .val (.int (own_find (own_put (own_put (fun _ => (0 : Int64)) q1 q2 (own_out p1 (own_bun p3) (0 : Int32))) q1 (q2 + (1 : Int64)) (own_out p2 (own_bun p3) (0 : Int32))) q1 q2)), .val (.int p1), .unset] [(.long (q2 + (1 : Int64))), (.long q1), (.ref b1)])) _
          refine st10.trans ?_
          show Steps p.tables e below (T10.setTop (mkF m 156 #[.val (.long q1), .second, .val (.long q2), .second, .val (.int p1), .val (.int p2), .val (.int p3), .val (.int p4), .val (.ref b1), .val (.int (own_bun p3)), .val (.int (0 : Int32)), .val (.int (0 : Int32)), .val (.int (0 : Int32)), .val (.long (q2 + (1 : Int64))), .second, .val (.int (own_find (own_put (own_put (fun _ => (0 : Int64)) q1 q2 (own_out p1 (own_bun p3) (0 : Int32))) q1 (q2 + (1 : Int64)) (own_out p2 (own_bun p3) (0 : Int32))) q1 q2)), .val (.int p1), .unset] [(.int (own_find (own_put (own_put (fun _ => (0 : Int64)) q1 q2 (own_out p1 (own_bun p3) (0 : Int32))) q1 (q2 + (1 : Int64)) (own_out p2 (own_bun p3) (0 : Int32))) q1 (q2 + (1 : Int64))))])) _
          refine XS.istore X10.here hx rfl (hb hby at_156) rfl (l' := #[.val (.long q1), .second, .val (.long q2), .second, .val (.int p1), .val (.int p2), .val (.int p3), .val (.int p4), .val (.ref b1), .val (.int (own_bun p3)), .val (.int (0 : Int32)), .val (.int (0 : Int32)), .val (.int (0 : Int32)), .val (.long (q2 + (1 : Int64))), .second, .val (.int (own_find (own_put (own_put (fun _ => (0 : Int64)) q1 q2 (own_out p1 (own_bun p3) (0 : Int32))) q1 (q2 + (1 : Int64)) (own_out p2 (own_bun p3) (0 : Int32))) q1 q2)), .val (.int p1), .val (.int (own_find (own_put (own_put (fun _ => (0 : Int64)) q1 q2 (own_out p1 (own_bun p3) (0 : Int32))) q1 (q2 + (1 : Int64)) (own_out p2 (own_bun p3) (0 : Int32))) q1 (q2 + (1 : Int64))))]) rfl ?_
          show Steps p.tables e below (T10.setTop (mkF m 158 #[.val (.long q1), .second, .val (.long q2), .second, .val (.int p1), .val (.int p2), .val (.int p3), .val (.int p4), .val (.ref b1), .val (.int (own_bun p3)), .val (.int (0 : Int32)), .val (.int (0 : Int32)), .val (.int (0 : Int32)), .val (.long (q2 + (1 : Int64))), .second, .val (.int (own_find (own_put (own_put (fun _ => (0 : Int64)) q1 q2 (own_out p1 (own_bun p3) (0 : Int32))) q1 (q2 + (1 : Int64)) (own_out p2 (own_bun p3) (0 : Int32))) q1 q2)), .val (.int p1), .val (.int (own_find (own_put (own_put (fun _ => (0 : Int64)) q1 q2 (own_out p1 (own_bun p3) (0 : Int32))) q1 (q2 + (1 : Int64)) (own_out p2 (own_bun p3) (0 : Int32))) q1 (q2 + (1 : Int64))))] [])) _
          refine XS.iload X10.here hx rfl (hb hby at_158) rfl ?_
          show Steps p.tables e below (T10.setTop (mkF m 160 #[.val (.long q1), .second, .val (.long q2), .second, .val (.int p1), .val (.int p2), .val (.int p3), .val (.int p4), .val (.ref b1), .val (.int (own_bun p3)), .val (.int (0 : Int32)), .val (.int (0 : Int32)), .val (.int (0 : Int32)), .val (.long (q2 + (1 : Int64))), .second, .val (.int (own_find (own_put (own_put (fun _ => (0 : Int64)) q1 q2 (own_out p1 (own_bun p3) (0 : Int32))) q1 (q2 + (1 : Int64)) (own_out p2 (own_bun p3) (0 : Int32))) q1 q2)), .val (.int p1), .val (.int (own_find (own_put (own_put (fun _ => (0 : Int64)) q1 q2 (own_out p1 (own_bun p3) (0 : Int32))) q1 (q2 + (1 : Int64)) (own_out p2 (own_bun p3) (0 : Int32))) q1 (q2 + (1 : Int64))))] [(.int (own_find (own_put (own_put (fun _ => (0 : Int64)) q1 q2 (own_out p1 (own_bun p3) (0 : Int32))) q1 (q2 + (1 : Int64)) (own_out p2 (own_bun p3) (0 : Int32))) q1 (q2 + (1 : Int64))))])) _
          refine XS.ifYes X10.here hx rfl (pc0 := 160) (pc' := 165) rfl (hb hby at_160) rfl ((if0 _ _).trans (flt (own_ge (own_Rb _ _ _) (own_two_fB (own_succ _) (own_out_nz _ _ _) (own_out_nz _ _ _)))).2.1) (by decide) (by decide) ?_
          show Steps p.tables e below (T10.setTop (mkF m 165 #[.val (.long q1), .second, .val (.long q2), .second, .val (.int p1), .val (.int p2), .val (.int p3), .val (.int p4), .val (.ref b1), .val (.int (own_bun p3)), .val (.int (0 : Int32)), .val (.int (0 : Int32)), .val (.int (0 : Int32)), .val (.long (q2 + (1 : Int64))), .second, .val (.int (own_find (own_put (own_put (fun _ => (0 : Int64)) q1 q2 (own_out p1 (own_bun p3) (0 : Int32))) q1 (q2 + (1 : Int64)) (own_out p2 (own_bun p3) (0 : Int32))) q1 q2)), .val (.int p1), .val (.int (own_find (own_put (own_put (fun _ => (0 : Int64)) q1 q2 (own_out p1 (own_bun p3) (0 : Int32))) q1 (q2 + (1 : Int64)) (own_out p2 (own_bun p3) (0 : Int32))) q1 (q2 + (1 : Int64))))] [])) _
          refine XS.aload X10.here hx rfl (hb hby at_165) rfl rfl ?_
          show Steps p.tables e below (T10.setTop (mkF m 167 #[.val (.long q1), .second, .val (.long q2), .second, .val (.int p1), .val (.int p2), .val (.int p3), .val (.int p4), .val (.ref b1), .val (.int (own_bun p3)), .val (.int (0 : Int32)), .val (.int (0 : Int32)), .val (.int (0 : Int32)), .val (.long (q2 + (1 : Int64))), .second, .val (.int (own_find (own_put (own_put (fun _ => (0 : Int64)) q1 q2 (own_out p1 (own_bun p3) (0 : Int32))) q1 (q2 + (1 : Int64)) (own_out p2 (own_bun p3) (0 : Int32))) q1 q2)), .val (.int p1), .val (.int (own_find (own_put (own_put (fun _ => (0 : Int64)) q1 q2 (own_out p1 (own_bun p3) (0 : Int32))) q1 (q2 + (1 : Int64)) (own_out p2 (own_bun p3) (0 : Int32))) q1 (q2 + (1 : Int64))))] [(.ref b1)])) _
          refine XS.iload X10.here hx rfl (hb hby at_167) rfl ?_
          show Steps p.tables e below (T10.setTop (mkF m 169 #[.val (.long q1), .second, .val (.long q2), .second, .val (.int p1), .val (.int p2), .val (.int p3), .val (.int p4), .val (.ref b1), .val (.int (own_bun p3)), .val (.int (0 : Int32)), .val (.int (0 : Int32)), .val (.int (0 : Int32)), .val (.long (q2 + (1 : Int64))), .second, .val (.int (own_find (own_put (own_put (fun _ => (0 : Int64)) q1 q2 (own_out p1 (own_bun p3) (0 : Int32))) q1 (q2 + (1 : Int64)) (own_out p2 (own_bun p3) (0 : Int32))) q1 q2)), .val (.int p1), .val (.int (own_find (own_put (own_put (fun _ => (0 : Int64)) q1 q2 (own_out p1 (own_bun p3) (0 : Int32))) q1 (q2 + (1 : Int64)) (own_out p2 (own_bun p3) (0 : Int32))) q1 (q2 + (1 : Int64))))] [(.int (own_find (own_put (own_put (fun _ => (0 : Int64)) q1 q2 (own_out p1 (own_bun p3) (0 : Int32))) q1 (q2 + (1 : Int64)) (own_out p2 (own_bun p3) (0 : Int32))) q1 (q2 + (1 : Int64)))), (.ref b1)])) _
          refine st11.trans ?_
          show Steps p.tables e below (T11.setTop (mkF m 172 #[.val (.long q1), .second, .val (.long q2), .second, .val (.int p1), .val (.int p2), .val (.int p3), .val (.int p4), .val (.ref b1), .val (.int (own_bun p3)), .val (.int (0 : Int32)), .val (.int (0 : Int32)), .val (.int (0 : Int32)), .val (.long (q2 + (1 : Int64))), .second, .val (.int (own_find (own_put (own_put (fun _ => (0 : Int64)) q1 q2 (own_out p1 (own_bun p3) (0 : Int32))) q1 (q2 + (1 : Int64)) (own_out p2 (own_bun p3) (0 : Int32))) q1 q2)), .val (.int p1), .val (.int (own_find (own_put (own_put (fun _ => (0 : Int64)) q1 q2 (own_out p1 (own_bun p3) (0 : Int32))) q1 (q2 + (1 : Int64)) (own_out p2 (own_bun p3) (0 : Int32))) q1 (q2 + (1 : Int64))))] [(.int (((own_put (own_put (fun _ => (0 : Int64)) q1 q2 (own_out p1 (own_bun p3) (0 : Int32))) q1 (q2 + (1 : Int64)) (own_out p2 (own_bun p3) (0 : Int32))) ((own_find (own_put (own_put (fun _ => (0 : Int64)) q1 q2 (own_out p1 (own_bun p3) (0 : Int32))) q1 (q2 + (1 : Int64)) (own_out p2 (own_bun p3) (0 : Int32))) q1 (q2 + (1 : Int64))) + (2 : Int32))) >>> ((32 : Int32) &&& 0x3f).toInt64).toInt32)])) _
          refine XS.iload X11.here hx rfl (hb hby at_172) rfl ?_
          show Steps p.tables e below (T11.setTop (mkF m 174 #[.val (.long q1), .second, .val (.long q2), .second, .val (.int p1), .val (.int p2), .val (.int p3), .val (.int p4), .val (.ref b1), .val (.int (own_bun p3)), .val (.int (0 : Int32)), .val (.int (0 : Int32)), .val (.int (0 : Int32)), .val (.long (q2 + (1 : Int64))), .second, .val (.int (own_find (own_put (own_put (fun _ => (0 : Int64)) q1 q2 (own_out p1 (own_bun p3) (0 : Int32))) q1 (q2 + (1 : Int64)) (own_out p2 (own_bun p3) (0 : Int32))) q1 q2)), .val (.int p1), .val (.int (own_find (own_put (own_put (fun _ => (0 : Int64)) q1 q2 (own_out p1 (own_bun p3) (0 : Int32))) q1 (q2 + (1 : Int64)) (own_out p2 (own_bun p3) (0 : Int32))) q1 (q2 + (1 : Int64))))] [(.int p2), (.int (((own_put (own_put (fun _ => (0 : Int64)) q1 q2 (own_out p1 (own_bun p3) (0 : Int32))) q1 (q2 + (1 : Int64)) (own_out p2 (own_bun p3) (0 : Int32))) ((own_find (own_put (own_put (fun _ => (0 : Int64)) q1 q2 (own_out p1 (own_bun p3) (0 : Int32))) q1 (q2 + (1 : Int64)) (own_out p2 (own_bun p3) (0 : Int32))) q1 (q2 + (1 : Int64))) + (2 : Int32))) >>> ((32 : Int32) &&& 0x3f).toInt64).toInt32)])) _
          refine XS.icmpYes X11.here hx rfl (pc0 := 174) (pc' := 179) rfl (hb hby at_174) rfl (teq (own_valeq (own_two_fB (own_succ _) (own_out_nz _ _ _) (own_out_nz _ _ _)) (own_two_b (own_succ _) (own_out_nz _ _ _)).2.2 (own_out_v _ _ _))).1 (by decide) (by decide) ?_
          show Steps p.tables e below (T11.setTop (mkF m 179 #[.val (.long q1), .second, .val (.long q2), .second, .val (.int p1), .val (.int p2), .val (.int p3), .val (.int p4), .val (.ref b1), .val (.int (own_bun p3)), .val (.int (0 : Int32)), .val (.int (0 : Int32)), .val (.int (0 : Int32)), .val (.long (q2 + (1 : Int64))), .second, .val (.int (own_find (own_put (own_put (fun _ => (0 : Int64)) q1 q2 (own_out p1 (own_bun p3) (0 : Int32))) q1 (q2 + (1 : Int64)) (own_out p2 (own_bun p3) (0 : Int32))) q1 q2)), .val (.int p1), .val (.int (own_find (own_put (own_put (fun _ => (0 : Int64)) q1 q2 (own_out p1 (own_bun p3) (0 : Int32))) q1 (q2 + (1 : Int64)) (own_out p2 (own_bun p3) (0 : Int32))) q1 (q2 + (1 : Int64))))] [])) _
          refine XS.iconst X11.here hx rfl (hb hby at_179) ?_
          show Steps p.tables e below (T11.setTop (mkF m 180 #[.val (.long q1), .second, .val (.long q2), .second, .val (.int p1), .val (.int p2), .val (.int p3), .val (.int p4), .val (.ref b1), .val (.int (own_bun p3)), .val (.int (0 : Int32)), .val (.int (0 : Int32)), .val (.int (0 : Int32)), .val (.long (q2 + (1 : Int64))), .second, .val (.int (own_find (own_put (own_put (fun _ => (0 : Int64)) q1 q2 (own_out p1 (own_bun p3) (0 : Int32))) q1 (q2 + (1 : Int64)) (own_out p2 (own_bun p3) (0 : Int32))) q1 q2)), .val (.int p1), .val (.int (own_find (own_put (own_put (fun _ => (0 : Int64)) q1 q2 (own_out p1 (own_bun p3) (0 : Int32))) q1 (q2 + (1 : Int64)) (own_out p2 (own_bun p3) (0 : Int32))) q1 (q2 + (1 : Int64))))] [(.int (1 : Int32))])) _
          exact retN X11 hx (t := .boolean) Bd.returns (by simp) (hb hby at_180) hr
        · show Q_rm_law Z q1 q2 p1 p2 p3 p4 h0 n0 _ T11.heap _
          rw [e11]
          exact ⟨rfl, N11, trivial⟩
      · obtain ⟨_, _, ⟨T12, L12, k12, n12⟩, -, X12, ⟨Lc12, hQ12, l12, y12, z12⟩, st12⟩ := Jvm.LawKit.callS X2 hx (y := (⟨"com/example/outcry/outcry/allocation/MemoValuePinLaw", "store", "(Lcom/example/outcry/outcry/allocation/Memo;JJIIZ)V"⟩ : MethodName)) hown (mvT hZ (hw _ (List.mem_of_getElem? (i := 13) rfl))) (mvT hZ (hw _ (List.mem_of_getElem? (i := 14) rfl))) (mvT hZ (hw _ (List.mem_of_getElem? (i := 15) rfl))) (mvT hZ (hw _ (List.mem_of_getElem? (i := 16) rfl))) (by decide) (backOf (W := 0) (rm_store l Z a0 hw [] b1 q1 q2 p1 (own_bun p3) (0 : Int32) tb (fun _ => (0 : Int64)) (0 : Int32) T2.heap n0 Z2 Ftb Vtb A1_2 g_b1 gtb ne_ob_tb x2c1 (own_ok_0 _ _) (fun _ => own_ok2_0 _ _) (by decide)) hZ (hw _ (List.mem_of_getElem? (i := 16) rfl)) (hw _ (List.mem_of_getElem? (i := 15) rfl)) (by decide) (by decide)) (g := (mkF m 82 #[.val (.long q1), .second, .val (.long q2), .second, .val (.int p1), .val (.int p2), .val (.int p3), .val (.int p4), .val (.ref b1), .val (.int (own_bun p3)), .val (.int (0 : Int32)), .val (.int (0 : Int32)), .val (.int (1 : Int32)), .val (.long (q2 + (1 : Int64))), .second, .unset, .unset, .unset] [(.int (0 : Int32)), (.int (own_bun p3)), (.int p1), (.long q2), (.long q1), (.ref b1)])) rfl (by rw [hml]; rfl) (argsL := [(.ref b1), (.long q1), (.long q2), (.int p1), (.int (own_bun p3)), (.int (0 : Int32))]) (rest := []) (lenOf pd_6 rfl) rfl (by show 2 * 0 + _ ≤ _; exact Nat.le_of_eq rfl) (hb hby at_82) (fun _ _ => ⟨rfl, rfl, (by decide : 2 + 0 ≤ _), (by decide : 3074 + 0 ≤ _)⟩)
        dsimp only [Pt.U, Pt.locs, Pt.cells, Pt.slots] at X12 l12 y12 z12 st12 hQ12
        subst l12 y12 z12
        obtain ⟨rfl, N12q, x12c0, x12c1, x12c2, x12c3⟩ := hQ12
        have N12 := Fr.app N2 N12q
        have A1_12 : Exa Z T12.heap b1 "com/example/outcry/outcry/allocation/Memo" := A1_2.keep x12c0
        have Z12 : n0 ≤ T12.heap.size := Nat.le_trans Z2 x12c0.1
        obtain ⟨_, _, ⟨T13, L13, k13, n13⟩, -, X13, ⟨Lc13, hQ13, l13, y13, z13⟩, st13⟩ := Jvm.LawKit.callS X12 hx (y := (⟨"com/example/outcry/outcry/allocation/MemoValuePinLaw", "store", "(Lcom/example/outcry/outcry/allocation/Memo;JJIIZ)V"⟩ : MethodName)) hown (mvT hZ (hw _ (List.mem_of_getElem? (i := 13) rfl))) (mvT hZ (hw _ (List.mem_of_getElem? (i := 14) rfl))) (mvT hZ (hw _ (List.mem_of_getElem? (i := 15) rfl))) (mvT hZ (hw _ (List.mem_of_getElem? (i := 16) rfl))) (by decide) (backOf (W := 0) (rm_store l Z a0 hw [] b1 q1 (q2 + (1 : Int64)) p2 (own_bun p3) (1 : Int32) tb (own_put (fun _ => (0 : Int64)) q1 q2 (own_out p1 (own_bun p3) (0 : Int32))) (own_szz (fun _ => (0 : Int64)) q1 q2 (0 : Int32)) T12.heap n0 Z12 x12c1 x12c3 A1_12 g_b1 gtb ne_ob_tb x12c2 (own_two_ok1 (own_succ _) (own_out_nz _ _ _)) (own_two_ok2 (own_succ _) (own_out_nz _ _ _)) (own_hq1 _ _)) hZ (hw _ (List.mem_of_getElem? (i := 16) rfl)) (hw _ (List.mem_of_getElem? (i := 15) rfl)) (by decide) (by decide)) (g := (mkF m 96 #[.val (.long q1), .second, .val (.long q2), .second, .val (.int p1), .val (.int p2), .val (.int p3), .val (.int p4), .val (.ref b1), .val (.int (own_bun p3)), .val (.int (0 : Int32)), .val (.int (0 : Int32)), .val (.int (1 : Int32)), .val (.long (q2 + (1 : Int64))), .second, .unset, .unset, .unset] [(.int (1 : Int32)), (.int (own_bun p3)), (.int p2), (.long (q2 + (1 : Int64))), (.long q1), (.ref b1)])) rfl (by rw [hml]; rfl) (argsL := [(.ref b1), (.long q1), (.long (q2 + (1 : Int64))), (.int p2), (.int (own_bun p3)), (.int (1 : Int32))]) (rest := []) (lenOf pd_6 rfl) rfl (by show 2 * 0 + _ ≤ _; exact Nat.le_of_eq rfl) (hb hby at_96) (fun _ _ => ⟨rfl, rfl, (by decide : 2 + 0 ≤ _), (by decide : 3074 + 0 ≤ _)⟩)
        dsimp only [Pt.U, Pt.locs, Pt.cells, Pt.slots] at X13 l13 y13 z13 st13 hQ13
        subst l13 y13 z13
        obtain ⟨rfl, N13q, x13c0, x13c1, x13c2, x13c3⟩ := hQ13
        have N13 := Fr.app N12 N13q
        have A1_13 : Exa Z T13.heap b1 "com/example/outcry/outcry/allocation/Memo" := A1_12.keep x13c0
        have Z13 : n0 ≤ T13.heap.size := Nat.le_trans Z12 x13c0.1
        obtain ⟨cq14, kq14, q14a, q14b, q14c⟩ := isOf hZ rfl A1_13
        obtain ⟨_, _, ⟨T14, L14, k14, n14⟩, -, X14, ⟨Lc14, hQ14, l14, y14, z14⟩, st14⟩ := X13.virtualBack hx (y := (⟨"com/example/outcry/outcry/allocation/Memo", "find", "(JJ)I"⟩ : MethodName)) (z := (⟨"com/example/outcry/outcry/allocation/Memo", "find", "(JJ)I"⟩ : MethodName)) hown (mvT hZ (hw _ (List.mem_of_getElem? (i := 42) rfl))) (mvT hZ (hw _ (List.mem_of_getElem? (i := 27) rfl))) (notFace_of_selects (args := #[]) (mvT hZ (hw _ (List.mem_of_getElem? (i := 29) rfl)))) (mvT hZ (hw _ (List.mem_of_getElem? (i := 29) rfl))) (mvT hZ (hw _ (List.mem_of_getElem? (i := 28) rfl))) (by decide) (backOf (W := 0) (rm_find l Z a0 hw [] b1 q1 q2 tb (own_put (own_put (fun _ => (0 : Int64)) q1 q2 (own_out p1 (own_bun p3) (0 : Int32))) q1 (q2 + (1 : Int64)) (own_out p2 (own_bun p3) (1 : Int32))) T13.heap n0 Z13 x13c1 x13c3 (own_two_okA (own_succ _) (own_out_nz _ _ _))) hZ (hw _ (List.mem_of_getElem? (i := 30) rfl)) (hw _ (List.mem_of_getElem? (i := 2) rfl)) (by decide) (by decide)) q14a q14c (g := (mkF m 103 #[.val (.long q1), .second, .val (.long q2), .second, .val (.int p1), .val (.int p2), .val (.int p3), .val (.int p4), .val (.ref b1), .val (.int (own_bun p3)), .val (.int (0 : Int32)), .val (.int (0 : Int32)), .val (.int (1 : Int32)), .val (.long (q2 + (1 : Int64))), .second, .unset, .unset, .unset] [(.long q2), (.long q1), (.ref b1)])) rfl (by rw [hml]; rfl) (Steps.refl _) (argsL := [(.long q1), (.long q2)]) (rest := []) (lenOf pd_1 rfl) rfl (by show 2 * 0 + _ ≤ _; exact Nat.le_of_eq rfl) (hb hby at_103) (fun _ _ => ⟨rfl, rfl, (by decide : 2 + 0 ≤ _), (by decide : 3074 + 0 ≤ _)⟩)
        dsimp only [Pt.U, Pt.locs, Pt.cells, Pt.slots] at X14 l14 y14 z14 st14 hQ14
        subst l14 y14 z14
        obtain ⟨rfl, N14q, e14⟩ := hQ14
        have N14 := Fr.app N13 N14q
        obtain ⟨cq15, kq15, q15a, q15b, q15c⟩ := isOf hZ e14 A1_13
        obtain ⟨_, _, ⟨T15, L15, k15, n15⟩, -, X15, ⟨Lc15, hQ15, l15, y15, z15⟩, st15⟩ := X14.virtualBack hx (y := (⟨"com/example/outcry/outcry/allocation/Memo", "value", "(I)I"⟩ : MethodName)) (z := (⟨"com/example/outcry/outcry/allocation/Memo", "value", "(I)I"⟩ : MethodName)) hown (mvT hZ (hw _ (List.mem_of_getElem? (i := 43) rfl))) (mvT hZ (hw _ (List.mem_of_getElem? (i := 44) rfl))) (notFace_of_selects (args := #[]) (mvT hZ (hw _ (List.mem_of_getElem? (i := 46) rfl)))) (mvT hZ (hw _ (List.mem_of_getElem? (i := 46) rfl))) (mvT hZ (hw _ (List.mem_of_getElem? (i := 45) rfl))) (by decide) (backOf (W := 0) (rm_value l Z a0 hw [] b1 (own_find (own_put (own_put (fun _ => (0 : Int64)) q1 q2 (own_out p1 (own_bun p3) (0 : Int32))) q1 (q2 + (1 : Int64)) (own_out p2 (own_bun p3) (1 : Int32))) q1 q2) tb (own_put (own_put (fun _ => (0 : Int64)) q1 q2 (own_out p1 (own_bun p3) (0 : Int32))) q1 (q2 + (1 : Int64)) (own_out p2 (own_bun p3) (1 : Int32))) T13.heap n0 Z13 x13c1 x13c3 (own_bb (own_sb _ _) (own_two_fA (own_succ _) (own_out_nz _ _ _)))) hZ (hw _ (List.mem_of_getElem? (i := 47) rfl)) (hw _ (List.mem_of_getElem? (i := 2) rfl)) (by decide) (by decide)) q15a q15c (g := (mkF m 133 #[.val (.long q1), .second, .val (.long q2), .second, .val (.int p1), .val (.int p2), .val (.int p3), .val (.int p4), .val (.ref b1), .val (.int (own_bun p3)), .val (.int (0 : Int32)), .val (.int (0 : Int32)), .val (.int (1 : Int32)), .val (.long (q2 + (1 : Int64))), .second, .val (.int (own_find (own_put (own_put (fun _ => (0 : Int64)) q1 q2 (own_out p1 (own_bun p3) (0 : Int32))) q1 (q2 + (1 : Int64)) (own_out p2 (own_bun p3) (1 : Int32))) q1 q2)), .val (.int p1), .unset] [(.int (own_find (own_put (own_put (fun _ => (0 : Int64)) q1 q2 (own_out p1 (own_bun p3) (0 : Int32))) q1 (q2 + (1 : Int64)) (own_out p2 (own_bun p3) (1 : Int32))) q1 q2)), (.ref b1)])) rfl (by rw [hml]; rfl) (Steps.refl _) (argsL := [(.int (own_find (own_put (own_put (fun _ => (0 : Int64)) q1 q2 (own_out p1 (own_bun p3) (0 : Int32))) q1 (q2 + (1 : Int64)) (own_out p2 (own_bun p3) (1 : Int32))) q1 q2))]) (rest := []) (lenOf pd_7 rfl) rfl (by show 2 * 0 + _ ≤ _; exact Nat.le_of_eq rfl) (hb hby at_133) (fun _ _ => ⟨rfl, e14, (by decide : 2 + 0 ≤ _), (by decide : 3074 + 0 ≤ _)⟩)
        dsimp only [Pt.U, Pt.locs, Pt.cells, Pt.slots] at X15 l15 y15 z15 st15 hQ15
        subst l15 y15 z15
        obtain ⟨rfl, N15q, e15⟩ := hQ15
        have N15 := Fr.app N14 N15q
        obtain ⟨cq16, kq16, q16a, q16b, q16c⟩ := isOf hZ e15 A1_13
        obtain ⟨_, _, ⟨T16, L16, k16, n16⟩, -, X16, ⟨Lc16, hQ16, l16, y16, z16⟩, st16⟩ := X15.virtualBack hx (y := (⟨"com/example/outcry/outcry/allocation/Memo", "find", "(JJ)I"⟩ : MethodName)) (z := (⟨"com/example/outcry/outcry/allocation/Memo", "find", "(JJ)I"⟩ : MethodName)) hown (mvT hZ (hw _ (List.mem_of_getElem? (i := 42) rfl))) (mvT hZ (hw _ (List.mem_of_getElem? (i := 27) rfl))) (notFace_of_selects (args := #[]) (mvT hZ (hw _ (List.mem_of_getElem? (i := 29) rfl)))) (mvT hZ (hw _ (List.mem_of_getElem? (i := 29) rfl))) (mvT hZ (hw _ (List.mem_of_getElem? (i := 28) rfl))) (by decide) (backOf (W := 0) (rm_find l Z a0 hw [] b1 q1 (q2 + (1 : Int64)) tb (own_put (own_put (fun _ => (0 : Int64)) q1 q2 (own_out p1 (own_bun p3) (0 : Int32))) q1 (q2 + (1 : Int64)) (own_out p2 (own_bun p3) (1 : Int32))) T13.heap n0 Z13 x13c1 x13c3 (own_two_okB (own_succ _) (own_out_nz _ _ _))) hZ (hw _ (List.mem_of_getElem? (i := 30) rfl)) (hw _ (List.mem_of_getElem? (i := 2) rfl)) (by decide) (by decide)) q16a q16c (g := (mkF m 153 #[.val (.long q1), .second, .val (.long q2), .second, .val (.int p1), .val (.int p2), .val (.int p3), .val (.int p4), .val (.ref b1), .val (.int (own_bun p3)), .val (.int (0 : Int32)), .val (.int (0 : Int32)), .val (.int (1 : Int32)), .val (.long (q2 + (1 : Int64))), .second, .val (.int (own_find (own_put (own_put (fun _ => (0 : Int64)) q1 q2 (own_out p1 (own_bun p3) (0 : Int32))) q1 (q2 + (1 : Int64)) (own_out p2 (own_bun p3) (1 : Int32))) q1 q2)), .val (.int p1), .unset] [(.long (q2 + (1 : Int64))), (.long q1), (.ref b1)])) rfl (by rw [hml]; rfl) (Steps.refl _) (argsL := [(.long q1), (.long (q2 + (1 : Int64)))]) (rest := []) (lenOf pd_1 rfl) rfl (by show 2 * 0 + _ ≤ _; exact Nat.le_of_eq rfl) (hb hby at_153) (fun _ _ => ⟨rfl, e15, (by decide : 2 + 0 ≤ _), (by decide : 3074 + 0 ≤ _)⟩)
        dsimp only [Pt.U, Pt.locs, Pt.cells, Pt.slots] at X16 l16 y16 z16 st16 hQ16
        subst l16 y16 z16
        obtain ⟨rfl, N16q, e16⟩ := hQ16
        have N16 := Fr.app N15 N16q
        obtain ⟨cq17, kq17, q17a, q17b, q17c⟩ := isOf hZ e16 A1_13
        obtain ⟨_, _, ⟨T17, L17, k17, n17⟩, -, X17, ⟨Lc17, hQ17, l17, y17, z17⟩, st17⟩ := X16.virtualBack hx (y := (⟨"com/example/outcry/outcry/allocation/Memo", "value", "(I)I"⟩ : MethodName)) (z := (⟨"com/example/outcry/outcry/allocation/Memo", "value", "(I)I"⟩ : MethodName)) hown (mvT hZ (hw _ (List.mem_of_getElem? (i := 43) rfl))) (mvT hZ (hw _ (List.mem_of_getElem? (i := 44) rfl))) (notFace_of_selects (args := #[]) (mvT hZ (hw _ (List.mem_of_getElem? (i := 46) rfl)))) (mvT hZ (hw _ (List.mem_of_getElem? (i := 46) rfl))) (mvT hZ (hw _ (List.mem_of_getElem? (i := 45) rfl))) (by decide) (backOf (W := 0) (rm_value l Z a0 hw [] b1 (own_find (own_put (own_put (fun _ => (0 : Int64)) q1 q2 (own_out p1 (own_bun p3) (0 : Int32))) q1 (q2 + (1 : Int64)) (own_out p2 (own_bun p3) (1 : Int32))) q1 (q2 + (1 : Int64))) tb (own_put (own_put (fun _ => (0 : Int64)) q1 q2 (own_out p1 (own_bun p3) (0 : Int32))) q1 (q2 + (1 : Int64)) (own_out p2 (own_bun p3) (1 : Int32))) T13.heap n0 Z13 x13c1 x13c3 (own_bb (own_Rb _ _ _) (own_two_fB (own_succ _) (own_out_nz _ _ _) (own_out_nz _ _ _)))) hZ (hw _ (List.mem_of_getElem? (i := 47) rfl)) (hw _ (List.mem_of_getElem? (i := 2) rfl)) (by decide) (by decide)) q17a q17c (g := (mkF m 169 #[.val (.long q1), .second, .val (.long q2), .second, .val (.int p1), .val (.int p2), .val (.int p3), .val (.int p4), .val (.ref b1), .val (.int (own_bun p3)), .val (.int (0 : Int32)), .val (.int (0 : Int32)), .val (.int (1 : Int32)), .val (.long (q2 + (1 : Int64))), .second, .val (.int (own_find (own_put (own_put (fun _ => (0 : Int64)) q1 q2 (own_out p1 (own_bun p3) (0 : Int32))) q1 (q2 + (1 : Int64)) (own_out p2 (own_bun p3) (1 : Int32))) q1 q2)), .val (.int p1), .val (.int (own_find (own_put (own_put (fun _ => (0 : Int64)) q1 q2 (own_out p1 (own_bun p3) (0 : Int32))) q1 (q2 + (1 : Int64)) (own_out p2 (own_bun p3) (1 : Int32))) q1 (q2 + (1 : Int64))))] [(.int (own_find (own_put (own_put (fun _ => (0 : Int64)) q1 q2 (own_out p1 (own_bun p3) (0 : Int32))) q1 (q2 + (1 : Int64)) (own_out p2 (own_bun p3) (1 : Int32))) q1 (q2 + (1 : Int64)))), (.ref b1)])) rfl (by rw [hml]; rfl) (Steps.refl _) (argsL := [(.int (own_find (own_put (own_put (fun _ => (0 : Int64)) q1 q2 (own_out p1 (own_bun p3) (0 : Int32))) q1 (q2 + (1 : Int64)) (own_out p2 (own_bun p3) (1 : Int32))) q1 (q2 + (1 : Int64))))]) (rest := []) (lenOf pd_7 rfl) rfl (by show 2 * 0 + _ ≤ _; exact Nat.le_of_eq rfl) (hb hby at_169) (fun _ _ => ⟨rfl, e16, (by decide : 2 + 0 ≤ _), (by decide : 3074 + 0 ≤ _)⟩)
        dsimp only [Pt.U, Pt.locs, Pt.cells, Pt.slots] at X17 l17 y17 z17 st17 hQ17
        subst l17 y17 z17
        obtain ⟨rfl, N17q, e17⟩ := hQ17
        have N17 := Fr.app N16 N17q
        obtain ⟨fs, hr, hrun, hended, hW, hsame⟩ := X17.leave (v := some (.int (1 : Int32))) (fun h => by rw [Bd.returns] at h; cases h)
        refine ⟨_, _, pre0 _ ?_, hrun, hended, _, _, rfl, ?_, ⟨_, rfl⟩, hW, hsame.mono (by decide) (by decide)⟩
        · refine k5 _ ?_
          show Steps p.tables e below (T2.setTop (mkF m 48 #[.val (.long q1), .second, .val (.long q2), .second, .val (.int p1), .val (.int p2), .val (.int p3), .val (.int p4), .val (.ref b1), .val (.int (own_bun p3)), .val (.int (0 : Int32)), .val (.int (0 : Int32)), .unset, .unset, .unset, .unset, .unset, .unset] [(.int (p4 &&& (4 : Int32)))])) _
          refine XS.ifNo X2.here hx rfl (hb hby at_48) rfl ((if0 _ _).trans (feq hc48).1) ?_
          show Steps p.tables e below (T2.setTop (mkF m 51 #[.val (.long q1), .second, .val (.long q2), .second, .val (.int p1), .val (.int p2), .val (.int p3), .val (.int p4), .val (.ref b1), .val (.int (own_bun p3)), .val (.int (0 : Int32)), .val (.int (0 : Int32)), .unset, .unset, .unset, .unset, .unset, .unset] [])) _
          refine XS.iconst X2.here hx rfl (hb hby at_51) ?_
          show Steps p.tables e below (T2.setTop (mkF m 52 #[.val (.long q1), .second, .val (.long q2), .second, .val (.int p1), .val (.int p2), .val (.int p3), .val (.int p4), .val (.ref b1), .val (.int (own_bun p3)), .val (.int (0 : Int32)), .val (.int (0 : Int32)), .unset, .unset, .unset, .unset, .unset, .unset] [(.int (1 : Int32))])) _
          refine XS.goto X2.here hx rfl (pc0 := 52) (pc' := 56) rfl (hb hby at_52) (by decide) (by decide) ?_
          show Steps p.tables e below (T2.setTop (mkF m 56 #[.val (.long q1), .second, .val (.long q2), .second, .val (.int p1), .val (.int p2), .val (.int p3), .val (.int p4), .val (.ref b1), .val (.int (own_bun p3)), .val (.int (0 : Int32)), .val (.int (0 : Int32)), .unset, .unset, .unset, .unset, .unset, .unset] [(.int (1 : Int32))])) _
          refine XS.istore X2.here hx rfl (hb hby at_56) rfl (l' := #[.val (.long q1), .second, .val (.long q2), .second, .val (.int p1), .val (.int p2), .val (.int p3), .val (.int p4), .val (.ref b1), .val (.int (own_bun p3)), .val (.int (0 : Int32)), .val (.int (0 : Int32)), .val (.int (1 : Int32)), .unset, .unset, .unset, .unset, .unset]) rfl ?_
          show Steps p.tables e below (T2.setTop (mkF m 58 #[.val (.long q1), .second, .val (.long q2), .second, .val (.int p1), .val (.int p2), .val (.int p3), .val (.int p4), .val (.ref b1), .val (.int (own_bun p3)), .val (.int (0 : Int32)), .val (.int (0 : Int32)), .val (.int (1 : Int32)), .unset, .unset, .unset, .unset, .unset] [])) _
          refine XS.iload X2.here hx rfl (hb hby at_58) rfl ?_
          show Steps p.tables e below (T2.setTop (mkF m 60 #[.val (.long q1), .second, .val (.long q2), .second, .val (.int p1), .val (.int p2), .val (.int p3), .val (.int p4), .val (.ref b1), .val (.int (own_bun p3)), .val (.int (0 : Int32)), .val (.int (0 : Int32)), .val (.int (1 : Int32)), .unset, .unset, .unset, .unset, .unset] [(.int (0 : Int32))])) _
          refine XS.ifYes X2.here hx rfl (pc0 := 60) (pc' := 67) rfl (hb hby at_60) rfl ((if0 _ _).trans (teq (by decide : (0 : Int32) = (0 : Int32))).1) (by decide) (by decide) ?_
          show Steps p.tables e below (T2.setTop (mkF m 67 #[.val (.long q1), .second, .val (.long q2), .second, .val (.int p1), .val (.int p2), .val (.int p3), .val (.int p4), .val (.ref b1), .val (.int (own_bun p3)), .val (.int (0 : Int32)), .val (.int (0 : Int32)), .val (.int (1 : Int32)), .unset, .unset, .unset, .unset, .unset] [])) _
          refine XS.lloadN X2.here hx rfl (hb hby at_67) rfl ?_
          show Steps p.tables e below (T2.setTop (mkF m 68 #[.val (.long q1), .second, .val (.long q2), .second, .val (.int p1), .val (.int p2), .val (.int p3), .val (.int p4), .val (.ref b1), .val (.int (own_bun p3)), .val (.int (0 : Int32)), .val (.int (0 : Int32)), .val (.int (1 : Int32)), .unset, .unset, .unset, .unset, .unset] [(.long q2)])) _
          refine XS.lconst X2.here hx rfl (hb hby at_68) ?_
          show Steps p.tables e below (T2.setTop (mkF m 69 #[.val (.long q1), .second, .val (.long q2), .second, .val (.int p1), .val (.int p2), .val (.int p3), .val (.int p4), .val (.ref b1), .val (.int (own_bun p3)), .val (.int (0 : Int32)), .val (.int (0 : Int32)), .val (.int (1 : Int32)), .unset, .unset, .unset, .unset, .unset] [(.long (1 : Int64)), (.long q2)])) _
          refine XS.ladd X2.here hx rfl (hb hby at_69) rfl ?_
          show Steps p.tables e below (T2.setTop (mkF m 70 #[.val (.long q1), .second, .val (.long q2), .second, .val (.int p1), .val (.int p2), .val (.int p3), .val (.int p4), .val (.ref b1), .val (.int (own_bun p3)), .val (.int (0 : Int32)), .val (.int (0 : Int32)), .val (.int (1 : Int32)), .unset, .unset, .unset, .unset, .unset] [(.long (q2 + (1 : Int64)))])) _
          refine XS.lstore X2.here hx rfl (hb hby at_70) rfl (l' := #[.val (.long q1), .second, .val (.long q2), .second, .val (.int p1), .val (.int p2), .val (.int p3), .val (.int p4), .val (.ref b1), .val (.int (own_bun p3)), .val (.int (0 : Int32)), .val (.int (0 : Int32)), .val (.int (1 : Int32)), .val (.long (q2 + (1 : Int64))), .second, .unset, .unset, .unset]) rfl ?_
          show Steps p.tables e below (T2.setTop (mkF m 72 #[.val (.long q1), .second, .val (.long q2), .second, .val (.int p1), .val (.int p2), .val (.int p3), .val (.int p4), .val (.ref b1), .val (.int (own_bun p3)), .val (.int (0 : Int32)), .val (.int (0 : Int32)), .val (.int (1 : Int32)), .val (.long (q2 + (1 : Int64))), .second, .unset, .unset, .unset] [])) _
          refine XS.aload X2.here hx rfl (hb hby at_72) rfl rfl ?_
          show Steps p.tables e below (T2.setTop (mkF m 74 #[.val (.long q1), .second, .val (.long q2), .second, .val (.int p1), .val (.int p2), .val (.int p3), .val (.int p4), .val (.ref b1), .val (.int (own_bun p3)), .val (.int (0 : Int32)), .val (.int (0 : Int32)), .val (.int (1 : Int32)), .val (.long (q2 + (1 : Int64))), .second, .unset, .unset, .unset] [(.ref b1)])) _
          refine XS.lloadN X2.here hx rfl (hb hby at_74) rfl ?_
          show Steps p.tables e below (T2.setTop (mkF m 75 #[.val (.long q1), .second, .val (.long q2), .second, .val (.int p1), .val (.int p2), .val (.int p3), .val (.int p4), .val (.ref b1), .val (.int (own_bun p3)), .val (.int (0 : Int32)), .val (.int (0 : Int32)), .val (.int (1 : Int32)), .val (.long (q2 + (1 : Int64))), .second, .unset, .unset, .unset] [(.long q1), (.ref b1)])) _
          refine XS.lloadN X2.here hx rfl (hb hby at_75) rfl ?_
          show Steps p.tables e below (T2.setTop (mkF m 76 #[.val (.long q1), .second, .val (.long q2), .second, .val (.int p1), .val (.int p2), .val (.int p3), .val (.int p4), .val (.ref b1), .val (.int (own_bun p3)), .val (.int (0 : Int32)), .val (.int (0 : Int32)), .val (.int (1 : Int32)), .val (.long (q2 + (1 : Int64))), .second, .unset, .unset, .unset] [(.long q2), (.long q1), (.ref b1)])) _
          refine XS.iload X2.here hx rfl (hb hby at_76) rfl ?_
          show Steps p.tables e below (T2.setTop (mkF m 78 #[.val (.long q1), .second, .val (.long q2), .second, .val (.int p1), .val (.int p2), .val (.int p3), .val (.int p4), .val (.ref b1), .val (.int (own_bun p3)), .val (.int (0 : Int32)), .val (.int (0 : Int32)), .val (.int (1 : Int32)), .val (.long (q2 + (1 : Int64))), .second, .unset, .unset, .unset] [(.int p1), (.long q2), (.long q1), (.ref b1)])) _
          refine XS.iload X2.here hx rfl (hb hby at_78) rfl ?_
          show Steps p.tables e below (T2.setTop (mkF m 80 #[.val (.long q1), .second, .val (.long q2), .second, .val (.int p1), .val (.int p2), .val (.int p3), .val (.int p4), .val (.ref b1), .val (.int (own_bun p3)), .val (.int (0 : Int32)), .val (.int (0 : Int32)), .val (.int (1 : Int32)), .val (.long (q2 + (1 : Int64))), .second, .unset, .unset, .unset] [(.int (own_bun p3)), (.int p1), (.long q2), (.long q1), (.ref b1)])) _
          refine XS.iload X2.here hx rfl (hb hby at_80) rfl ?_
          show Steps p.tables e below (T2.setTop (mkF m 82 #[.val (.long q1), .second, .val (.long q2), .second, .val (.int p1), .val (.int p2), .val (.int p3), .val (.int p4), .val (.ref b1), .val (.int (own_bun p3)), .val (.int (0 : Int32)), .val (.int (0 : Int32)), .val (.int (1 : Int32)), .val (.long (q2 + (1 : Int64))), .second, .unset, .unset, .unset] [(.int (0 : Int32)), (.int (own_bun p3)), (.int p1), (.long q2), (.long q1), (.ref b1)])) _
          refine st12 _ ?_
          show Steps p.tables e below (T12.setTop (mkF m 85 #[.val (.long q1), .second, .val (.long q2), .second, .val (.int p1), .val (.int p2), .val (.int p3), .val (.int p4), .val (.ref b1), .val (.int (own_bun p3)), .val (.int (0 : Int32)), .val (.int (0 : Int32)), .val (.int (1 : Int32)), .val (.long (q2 + (1 : Int64))), .second, .unset, .unset, .unset] [])) _
          refine XS.aload X12.here hx rfl (hb hby at_85) rfl rfl ?_
          show Steps p.tables e below (T12.setTop (mkF m 87 #[.val (.long q1), .second, .val (.long q2), .second, .val (.int p1), .val (.int p2), .val (.int p3), .val (.int p4), .val (.ref b1), .val (.int (own_bun p3)), .val (.int (0 : Int32)), .val (.int (0 : Int32)), .val (.int (1 : Int32)), .val (.long (q2 + (1 : Int64))), .second, .unset, .unset, .unset] [(.ref b1)])) _
          refine XS.lloadN X12.here hx rfl (hb hby at_87) rfl ?_
          show Steps p.tables e below (T12.setTop (mkF m 88 #[.val (.long q1), .second, .val (.long q2), .second, .val (.int p1), .val (.int p2), .val (.int p3), .val (.int p4), .val (.ref b1), .val (.int (own_bun p3)), .val (.int (0 : Int32)), .val (.int (0 : Int32)), .val (.int (1 : Int32)), .val (.long (q2 + (1 : Int64))), .second, .unset, .unset, .unset] [(.long q1), (.ref b1)])) _
          refine XS.lload X12.here hx rfl (hb hby at_88) rfl ?_
          show Steps p.tables e below (T12.setTop (mkF m 90 #[.val (.long q1), .second, .val (.long q2), .second, .val (.int p1), .val (.int p2), .val (.int p3), .val (.int p4), .val (.ref b1), .val (.int (own_bun p3)), .val (.int (0 : Int32)), .val (.int (0 : Int32)), .val (.int (1 : Int32)), .val (.long (q2 + (1 : Int64))), .second, .unset, .unset, .unset] [(.long (q2 + (1 : Int64))), (.long q1), (.ref b1)])) _
          refine XS.iload X12.here hx rfl (hb hby at_90) rfl ?_
          show Steps p.tables e below (T12.setTop (mkF m 92 #[.val (.long q1), .second, .val (.long q2), .second, .val (.int p1), .val (.int p2), .val (.int p3), .val (.int p4), .val (.ref b1), .val (.int (own_bun p3)), .val (.int (0 : Int32)), .val (.int (0 : Int32)), .val (.int (1 : Int32)), .val (.long (q2 + (1 : Int64))), .second, .unset, .unset, .unset] [(.int p2), (.long (q2 + (1 : Int64))), (.long q1), (.ref b1)])) _
          refine XS.iload X12.here hx rfl (hb hby at_92) rfl ?_
          show Steps p.tables e below (T12.setTop (mkF m 94 #[.val (.long q1), .second, .val (.long q2), .second, .val (.int p1), .val (.int p2), .val (.int p3), .val (.int p4), .val (.ref b1), .val (.int (own_bun p3)), .val (.int (0 : Int32)), .val (.int (0 : Int32)), .val (.int (1 : Int32)), .val (.long (q2 + (1 : Int64))), .second, .unset, .unset, .unset] [(.int (own_bun p3)), (.int p2), (.long (q2 + (1 : Int64))), (.long q1), (.ref b1)])) _
          refine XS.iload X12.here hx rfl (hb hby at_94) rfl ?_
          show Steps p.tables e below (T12.setTop (mkF m 96 #[.val (.long q1), .second, .val (.long q2), .second, .val (.int p1), .val (.int p2), .val (.int p3), .val (.int p4), .val (.ref b1), .val (.int (own_bun p3)), .val (.int (0 : Int32)), .val (.int (0 : Int32)), .val (.int (1 : Int32)), .val (.long (q2 + (1 : Int64))), .second, .unset, .unset, .unset] [(.int (1 : Int32)), (.int (own_bun p3)), (.int p2), (.long (q2 + (1 : Int64))), (.long q1), (.ref b1)])) _
          refine st13 _ ?_
          show Steps p.tables e below (T13.setTop (mkF m 99 #[.val (.long q1), .second, .val (.long q2), .second, .val (.int p1), .val (.int p2), .val (.int p3), .val (.int p4), .val (.ref b1), .val (.int (own_bun p3)), .val (.int (0 : Int32)), .val (.int (0 : Int32)), .val (.int (1 : Int32)), .val (.long (q2 + (1 : Int64))), .second, .unset, .unset, .unset] [])) _
          refine XS.aload X13.here hx rfl (hb hby at_99) rfl rfl ?_
          show Steps p.tables e below (T13.setTop (mkF m 101 #[.val (.long q1), .second, .val (.long q2), .second, .val (.int p1), .val (.int p2), .val (.int p3), .val (.int p4), .val (.ref b1), .val (.int (own_bun p3)), .val (.int (0 : Int32)), .val (.int (0 : Int32)), .val (.int (1 : Int32)), .val (.long (q2 + (1 : Int64))), .second, .unset, .unset, .unset] [(.ref b1)])) _
          refine XS.lloadN X13.here hx rfl (hb hby at_101) rfl ?_
          show Steps p.tables e below (T13.setTop (mkF m 102 #[.val (.long q1), .second, .val (.long q2), .second, .val (.int p1), .val (.int p2), .val (.int p3), .val (.int p4), .val (.ref b1), .val (.int (own_bun p3)), .val (.int (0 : Int32)), .val (.int (0 : Int32)), .val (.int (1 : Int32)), .val (.long (q2 + (1 : Int64))), .second, .unset, .unset, .unset] [(.long q1), (.ref b1)])) _
          refine XS.lloadN X13.here hx rfl (hb hby at_102) rfl ?_
          show Steps p.tables e below (T13.setTop (mkF m 103 #[.val (.long q1), .second, .val (.long q2), .second, .val (.int p1), .val (.int p2), .val (.int p3), .val (.int p4), .val (.ref b1), .val (.int (own_bun p3)), .val (.int (0 : Int32)), .val (.int (0 : Int32)), .val (.int (1 : Int32)), .val (.long (q2 + (1 : Int64))), .second, .unset, .unset, .unset] [(.long q2), (.long q1), (.ref b1)])) _
          refine st14.trans ?_
          show Steps p.tables e below (T14.setTop (mkF m 106 #[.val (.long q1), .second, .val (.long q2), .second, .val (.int p1), .val (.int p2), .val (.int p3), .val (.int p4), .val (.ref b1), .val (.int (own_bun p3)), .val (.int (0 : Int32)), .val (.int (0 : Int32)), .val (.int (1 : Int32)), .val (.long (q2 + (1 : Int64))), .second, .unset, .unset, .unset] [(.int (own_find (own_put (own_put (fun _ => (0 : Int64)) q1 q2 (own_out p1 (own_bun p3) (0 : Int32))) q1 (q2 + (1 : Int64)) (own_out p2 (own_bun p3) (1 : Int32))) q1 q2))])) _
          refine XS.istore X14.here hx rfl (hb hby at_106) rfl (l' := #[.val (.long q1), .second, .val (.long q2), .second, .val (.int p1), .val (.int p2), .val (.int p3), .val (.int p4), .val (.ref b1), .val (.int (own_bun p3)), .val (.int (0 : Int32)), .val (.int (0 : Int32)), .val (.int (1 : Int32)), .val (.long (q2 + (1 : Int64))), .second, .val (.int (own_find (own_put (own_put (fun _ => (0 : Int64)) q1 q2 (own_out p1 (own_bun p3) (0 : Int32))) q1 (q2 + (1 : Int64)) (own_out p2 (own_bun p3) (1 : Int32))) q1 q2)), .unset, .unset]) rfl ?_
          show Steps p.tables e below (T14.setTop (mkF m 108 #[.val (.long q1), .second, .val (.long q2), .second, .val (.int p1), .val (.int p2), .val (.int p3), .val (.int p4), .val (.ref b1), .val (.int (own_bun p3)), .val (.int (0 : Int32)), .val (.int (0 : Int32)), .val (.int (1 : Int32)), .val (.long (q2 + (1 : Int64))), .second, .val (.int (own_find (own_put (own_put (fun _ => (0 : Int64)) q1 q2 (own_out p1 (own_bun p3) (0 : Int32))) q1 (q2 + (1 : Int64)) (own_out p2 (own_bun p3) (1 : Int32))) q1 q2)), .unset, .unset] [])) _
          refine XS.iload X14.here hx rfl (hb hby at_108) rfl ?_
          show Steps p.tables e below (T14.setTop (mkF m 110 #[.val (.long q1), .second, .val (.long q2), .second, .val (.int p1), .val (.int p2), .val (.int p3), .val (.int p4), .val (.ref b1), .val (.int (own_bun p3)), .val (.int (0 : Int32)), .val (.int (0 : Int32)), .val (.int (1 : Int32)), .val (.long (q2 + (1 : Int64))), .second, .val (.int (own_find (own_put (own_put (fun _ => (0 : Int64)) q1 q2 (own_out p1 (own_bun p3) (0 : Int32))) q1 (q2 + (1 : Int64)) (own_out p2 (own_bun p3) (1 : Int32))) q1 q2)), .unset, .unset] [(.int (own_find (own_put (own_put (fun _ => (0 : Int64)) q1 q2 (own_out p1 (own_bun p3) (0 : Int32))) q1 (q2 + (1 : Int64)) (own_out p2 (own_bun p3) (1 : Int32))) q1 q2))])) _
          refine XS.ifYes X14.here hx rfl (pc0 := 110) (pc' := 115) rfl (hb hby at_110) rfl ((if0 _ _).trans (flt (own_ge (own_sb _ _) (own_two_fA (own_succ _) (own_out_nz _ _ _)))).2.1) (by decide) (by decide) ?_
          show Steps p.tables e below (T14.setTop (mkF m 115 #[.val (.long q1), .second, .val (.long q2), .second, .val (.int p1), .val (.int p2), .val (.int p3), .val (.int p4), .val (.ref b1), .val (.int (own_bun p3)), .val (.int (0 : Int32)), .val (.int (0 : Int32)), .val (.int (1 : Int32)), .val (.long (q2 + (1 : Int64))), .second, .val (.int (own_find (own_put (own_put (fun _ => (0 : Int64)) q1 q2 (own_out p1 (own_bun p3) (0 : Int32))) q1 (q2 + (1 : Int64)) (own_out p2 (own_bun p3) (1 : Int32))) q1 q2)), .unset, .unset] [])) _
          refine XS.iload X14.here hx rfl (hb hby at_115) rfl ?_
          show Steps p.tables e below (T14.setTop (mkF m 117 #[.val (.long q1), .second, .val (.long q2), .second, .val (.int p1), .val (.int p2), .val (.int p3), .val (.int p4), .val (.ref b1), .val (.int (own_bun p3)), .val (.int (0 : Int32)), .val (.int (0 : Int32)), .val (.int (1 : Int32)), .val (.long (q2 + (1 : Int64))), .second, .val (.int (own_find (own_put (own_put (fun _ => (0 : Int64)) q1 q2 (own_out p1 (own_bun p3) (0 : Int32))) q1 (q2 + (1 : Int64)) (own_out p2 (own_bun p3) (1 : Int32))) q1 q2)), .unset, .unset] [(.int (0 : Int32))])) _
          refine XS.ifYes X14.here hx rfl (pc0 := 117) (pc' := 125) rfl (hb hby at_117) rfl ((if0 _ _).trans (teq (by decide : (0 : Int32) = (0 : Int32))).1) (by decide) (by decide) ?_
          show Steps p.tables e below (T14.setTop (mkF m 125 #[.val (.long q1), .second, .val (.long q2), .second, .val (.int p1), .val (.int p2), .val (.int p3), .val (.int p4), .val (.ref b1), .val (.int (own_bun p3)), .val (.int (0 : Int32)), .val (.int (0 : Int32)), .val (.int (1 : Int32)), .val (.long (q2 + (1 : Int64))), .second, .val (.int (own_find (own_put (own_put (fun _ => (0 : Int64)) q1 q2 (own_out p1 (own_bun p3) (0 : Int32))) q1 (q2 + (1 : Int64)) (own_out p2 (own_bun p3) (1 : Int32))) q1 q2)), .unset, .unset] [])) _
          refine XS.iload X14.here hx rfl (hb hby at_125) rfl ?_
          show Steps p.tables e below (T14.setTop (mkF m 127 #[.val (.long q1), .second, .val (.long q2), .second, .val (.int p1), .val (.int p2), .val (.int p3), .val (.int p4), .val (.ref b1), .val (.int (own_bun p3)), .val (.int (0 : Int32)), .val (.int (0 : Int32)), .val (.int (1 : Int32)), .val (.long (q2 + (1 : Int64))), .second, .val (.int (own_find (own_put (own_put (fun _ => (0 : Int64)) q1 q2 (own_out p1 (own_bun p3) (0 : Int32))) q1 (q2 + (1 : Int64)) (own_out p2 (own_bun p3) (1 : Int32))) q1 q2)), .unset, .unset] [(.int p1)])) _
          refine XS.istore X14.here hx rfl (hb hby at_127) rfl (l' := #[.val (.long q1), .second, .val (.long q2), .second, .val (.int p1), .val (.int p2), .val (.int p3), .val (.int p4), .val (.ref b1), .val (.int (own_bun p3)), .val (.int (0 : Int32)), .val (.int (0 : Int32)), .val (.int (1 : Int32)), .val (.long (q2 + (1 : Int64))), .second, .val (.int (own_find (own_put (own_put (fun _ => (0 : Int64)) q1 q2 (own_out p1 (own_bun p3) (0 : Int32))) q1 (q2 + (1 : Int64)) (own_out p2 (own_bun p3) (1 : Int32))) q1 q2)), .val (.int p1), .unset]) rfl ?_
          show Steps p.tables e below (T14.setTop (mkF m 129 #[.val (.long q1), .second, .val (.long q2), .second, .val (.int p1), .val (.int p2), .val (.int p3), .val (.int p4), .val (.ref b1), .val (.int (own_bun p3)), .val (.int (0 : Int32)), .val (.int (0 : Int32)), .val (.int (1 : Int32)), .val (.long (q2 + (1 : Int64))), .second, .val (.int (own_find (own_put (own_put (fun _ => (0 : Int64)) q1 q2 (own_out p1 (own_bun p3) (0 : Int32))) q1 (q2 + (1 : Int64)) (own_out p2 (own_bun p3) (1 : Int32))) q1 q2)), .val (.int p1), .unset] [])) _
          refine XS.aload X14.here hx rfl (hb hby at_129) rfl rfl ?_
          show Steps p.tables e below (T14.setTop (mkF m 131 #[.val (.long q1), .second, .val (.long q2), .second, .val (.int p1), .val (.int p2), .val (.int p3), .val (.int p4), .val (.ref b1), .val (.int (own_bun p3)), .val (.int (0 : Int32)), .val (.int (0 : Int32)), .val (.int (1 : Int32)), .val (.long (q2 + (1 : Int64))), .second, .val (.int (own_find (own_put (own_put (fun _ => (0 : Int64)) q1 q2 (own_out p1 (own_bun p3) (0 : Int32))) q1 (q2 + (1 : Int64)) (own_out p2 (own_bun p3) (1 : Int32))) q1 q2)), .val (.int p1), .unset] [(.ref b1)])) _
          refine XS.iload X14.here hx rfl (hb hby at_131) rfl ?_
          show Steps p.tables e below (T14.setTop (mkF m 133 #[.val (.long q1), .second, .val (.long q2), .second, .val (.int p1), .val (.int p2), .val (.int p3), .val (.int p4), .val (.ref b1), .val (.int (own_bun p3)), .val (.int (0 : Int32)), .val (.int (0 : Int32)), .val (.int (1 : Int32)), .val (.long (q2 + (1 : Int64))), .second, .val (.int (own_find (own_put (own_put (fun _ => (0 : Int64)) q1 q2 (own_out p1 (own_bun p3) (0 : Int32))) q1 (q2 + (1 : Int64)) (own_out p2 (own_bun p3) (1 : Int32))) q1 q2)), .val (.int p1), .unset] [(.int (own_find (own_put (own_put (fun _ => (0 : Int64)) q1 q2 (own_out p1 (own_bun p3) (0 : Int32))) q1 (q2 + (1 : Int64)) (own_out p2 (own_bun p3) (1 : Int32))) q1 q2)), (.ref b1)])) _
          refine st15.trans ?_
          show Steps p.tables e below (T15.setTop (mkF m 136 #[.val (.long q1), .second, .val (.long q2), .second, .val (.int p1), .val (.int p2), .val (.int p3), .val (.int p4), .val (.ref b1), .val (.int (own_bun p3)), .val (.int (0 : Int32)), .val (.int (0 : Int32)), .val (.int (1 : Int32)), .val (.long (q2 + (1 : Int64))), .second, .val (.int (own_find (own_put (own_put (fun _ => (0 : Int64)) q1 q2 (own_out p1 (own_bun p3) (0 : Int32))) q1 (q2 + (1 : Int64)) (own_out p2 (own_bun p3) (1 : Int32))) q1 q2)), .val (.int p1), .unset] [(.int (((own_put (own_put (fun _ => (0 : Int64)) q1 q2 (own_out p1 (own_bun p3) (0 : Int32))) q1 (q2 + (1 : Int64)) (own_out p2 (own_bun p3) (1 : Int32))) ((own_find (own_put (own_put (fun _ => (0 : Int64)) q1 q2 (own_out p1 (own_bun p3) (0 : Int32))) q1 (q2 + (1 : Int64)) (own_out p2 (own_bun p3) (1 : Int32))) q1 q2) + (2 : Int32))) >>> ((32 : Int32) &&& 0x3f).toInt64).toInt32)])) _
          refine XS.iload X15.here hx rfl (hb hby at_136) rfl ?_
          show Steps p.tables e below (T15.setTop (mkF m 138 #[.val (.long q1), .second, .val (.long q2), .second, .val (.int p1), .val (.int p2), .val (.int p3), .val (.int p4), .val (.ref b1), .val (.int (own_bun p3)), .val (.int (0 : Int32)), .val (.int (0 : Int32)), .val (.int (1 : Int32)), .val (.long (q2 + (1 : Int64))), .second, .val (.int (own_find (own_put (own_put (fun _ => (0 : Int64)) q1 q2 (own_out p1 (own_bun p3) (0 : Int32))) q1 (q2 + (1 : Int64)) (own_out p2 (own_bun p3) (1 : Int32))) q1 q2)), .val (.int p1), .unset] [(.int p1), (.int (((own_put (own_put (fun _ => (0 : Int64)) q1 q2 (own_out p1 (own_bun p3) (0 : Int32))) q1 (q2 + (1 : Int64)) (own_out p2 (own_bun p3) (1 : Int32))) ((own_find (own_put (own_put (fun _ => (0 : Int64)) q1 q2 (own_out p1 (own_bun p3) (0 : Int32))) q1 (q2 + (1 : Int64)) (own_out p2 (own_bun p3) (1 : Int32))) q1 q2) + (2 : Int32))) >>> ((32 : Int32) &&& 0x3f).toInt64).toInt32)])) _
          refine XS.icmpYes X15.here hx rfl (pc0 := 138) (pc' := 143) rfl (hb hby at_138) rfl (teq (own_valeq (own_two_fA (own_succ _) (own_out_nz _ _ _)) (own_two_a (own_succ _) (own_out_nz _ _ _)).2.2 (own_out_v _ _ _))).1 (by decide) (by decide) ?_
          show Steps p.tables e below (T15.setTop (mkF m 143 #[.val (.long q1), .second, .val (.long q2), .second, .val (.int p1), .val (.int p2), .val (.int p3), .val (.int p4), .val (.ref b1), .val (.int (own_bun p3)), .val (.int (0 : Int32)), .val (.int (0 : Int32)), .val (.int (1 : Int32)), .val (.long (q2 + (1 : Int64))), .second, .val (.int (own_find (own_put (own_put (fun _ => (0 : Int64)) q1 q2 (own_out p1 (own_bun p3) (0 : Int32))) q1 (q2 + (1 : Int64)) (own_out p2 (own_bun p3) (1 : Int32))) q1 q2)), .val (.int p1), .unset] [])) _
          refine XS.iload X15.here hx rfl (hb hby at_143) rfl ?_
          show Steps p.tables e below (T15.setTop (mkF m 145 #[.val (.long q1), .second, .val (.long q2), .second, .val (.int p1), .val (.int p2), .val (.int p3), .val (.int p4), .val (.ref b1), .val (.int (own_bun p3)), .val (.int (0 : Int32)), .val (.int (0 : Int32)), .val (.int (1 : Int32)), .val (.long (q2 + (1 : Int64))), .second, .val (.int (own_find (own_put (own_put (fun _ => (0 : Int64)) q1 q2 (own_out p1 (own_bun p3) (0 : Int32))) q1 (q2 + (1 : Int64)) (own_out p2 (own_bun p3) (1 : Int32))) q1 q2)), .val (.int p1), .unset] [(.int (0 : Int32))])) _
          refine XS.ifNo X15.here hx rfl (hb hby at_145) rfl ((if0 _ _).trans (teq (by decide : (0 : Int32) = (0 : Int32))).2) ?_
          show Steps p.tables e below (T15.setTop (mkF m 148 #[.val (.long q1), .second, .val (.long q2), .second, .val (.int p1), .val (.int p2), .val (.int p3), .val (.int p4), .val (.ref b1), .val (.int (own_bun p3)), .val (.int (0 : Int32)), .val (.int (0 : Int32)), .val (.int (1 : Int32)), .val (.long (q2 + (1 : Int64))), .second, .val (.int (own_find (own_put (own_put (fun _ => (0 : Int64)) q1 q2 (own_out p1 (own_bun p3) (0 : Int32))) q1 (q2 + (1 : Int64)) (own_out p2 (own_bun p3) (1 : Int32))) q1 q2)), .val (.int p1), .unset] [])) _
          refine XS.aload X15.here hx rfl (hb hby at_148) rfl rfl ?_
          show Steps p.tables e below (T15.setTop (mkF m 150 #[.val (.long q1), .second, .val (.long q2), .second, .val (.int p1), .val (.int p2), .val (.int p3), .val (.int p4), .val (.ref b1), .val (.int (own_bun p3)), .val (.int (0 : Int32)), .val (.int (0 : Int32)), .val (.int (1 : Int32)), .val (.long (q2 + (1 : Int64))), .second, .val (.int (own_find (own_put (own_put (fun _ => (0 : Int64)) q1 q2 (own_out p1 (own_bun p3) (0 : Int32))) q1 (q2 + (1 : Int64)) (own_out p2 (own_bun p3) (1 : Int32))) q1 q2)), .val (.int p1), .unset] [(.ref b1)])) _
          refine XS.lloadN X15.here hx rfl (hb hby at_150) rfl ?_
          show Steps p.tables e below (T15.setTop (mkF m 151 #[.val (.long q1), .second, .val (.long q2), .second, .val (.int p1), .val (.int p2), .val (.int p3), .val (.int p4), .val (.ref b1), .val (.int (own_bun p3)), .val (.int (0 : Int32)), .val (.int (0 : Int32)), .val (.int (1 : Int32)), .val (.long (q2 + (1 : Int64))), .second, .val (.int (own_find (own_put (own_put (fun _ => (0 : Int64)) q1 q2 (own_out p1 (own_bun p3) (0 : Int32))) q1 (q2 + (1 : Int64)) (own_out p2 (own_bun p3) (1 : Int32))) q1 q2)), .val (.int p1), .unset] [(.long q1), (.ref b1)])) _
          refine XS.lload X15.here hx rfl (hb hby at_151) rfl ?_
          show Steps p.tables e below (T15.setTop (mkF m 153 #[.val (.long q1), .second, .val (.long q2), .second, .val (.int p1), .val (.int p2), .val (.int p3), .val (.int p4), .val (.ref b1), .val (.int (own_bun p3)), .val (.int (0 : Int32)), .val (.int (0 : Int32)), .val (.int (1 : Int32)), .val (.long (q2 + (1 : Int64))), .second, .val (.int (own_find (own_put (own_put (fun _ => (0 : Int64)) q1 q2 (own_out p1 (own_bun p3) (0 : Int32))) q1 (q2 + (1 : Int64)) (own_out p2 (own_bun p3) (1 : Int32))) q1 q2)), .val (.int p1), .unset] [(.long (q2 + (1 : Int64))), (.long q1), (.ref b1)])) _
          refine st16.trans ?_
          show Steps p.tables e below (T16.setTop (mkF m 156 #[.val (.long q1), .second, .val (.long q2), .second, .val (.int p1), .val (.int p2), .val (.int p3), .val (.int p4), .val (.ref b1), .val (.int (own_bun p3)), .val (.int (0 : Int32)), .val (.int (0 : Int32)), .val (.int (1 : Int32)), .val (.long (q2 + (1 : Int64))), .second, .val (.int (own_find (own_put (own_put (fun _ => (0 : Int64)) q1 q2 (own_out p1 (own_bun p3) (0 : Int32))) q1 (q2 + (1 : Int64)) (own_out p2 (own_bun p3) (1 : Int32))) q1 q2)), .val (.int p1), .unset] [(.int (own_find (own_put (own_put (fun _ => (0 : Int64)) q1 q2 (own_out p1 (own_bun p3) (0 : Int32))) q1 (q2 + (1 : Int64)) (own_out p2 (own_bun p3) (1 : Int32))) q1 (q2 + (1 : Int64))))])) _
          refine XS.istore X16.here hx rfl (hb hby at_156) rfl (l' := #[.val (.long q1), .second, .val (.long q2), .second, .val (.int p1), .val (.int p2), .val (.int p3), .val (.int p4), .val (.ref b1), .val (.int (own_bun p3)), .val (.int (0 : Int32)), .val (.int (0 : Int32)), .val (.int (1 : Int32)), .val (.long (q2 + (1 : Int64))), .second, .val (.int (own_find (own_put (own_put (fun _ => (0 : Int64)) q1 q2 (own_out p1 (own_bun p3) (0 : Int32))) q1 (q2 + (1 : Int64)) (own_out p2 (own_bun p3) (1 : Int32))) q1 q2)), .val (.int p1), .val (.int (own_find (own_put (own_put (fun _ => (0 : Int64)) q1 q2 (own_out p1 (own_bun p3) (0 : Int32))) q1 (q2 + (1 : Int64)) (own_out p2 (own_bun p3) (1 : Int32))) q1 (q2 + (1 : Int64))))]) rfl ?_
          show Steps p.tables e below (T16.setTop (mkF m 158 #[.val (.long q1), .second, .val (.long q2), .second, .val (.int p1), .val (.int p2), .val (.int p3), .val (.int p4), .val (.ref b1), .val (.int (own_bun p3)), .val (.int (0 : Int32)), .val (.int (0 : Int32)), .val (.int (1 : Int32)), .val (.long (q2 + (1 : Int64))), .second, .val (.int (own_find (own_put (own_put (fun _ => (0 : Int64)) q1 q2 (own_out p1 (own_bun p3) (0 : Int32))) q1 (q2 + (1 : Int64)) (own_out p2 (own_bun p3) (1 : Int32))) q1 q2)), .val (.int p1), .val (.int (own_find (own_put (own_put (fun _ => (0 : Int64)) q1 q2 (own_out p1 (own_bun p3) (0 : Int32))) q1 (q2 + (1 : Int64)) (own_out p2 (own_bun p3) (1 : Int32))) q1 (q2 + (1 : Int64))))] [])) _
          refine XS.iload X16.here hx rfl (hb hby at_158) rfl ?_
          show Steps p.tables e below (T16.setTop (mkF m 160 #[.val (.long q1), .second, .val (.long q2), .second, .val (.int p1), .val (.int p2), .val (.int p3), .val (.int p4), .val (.ref b1), .val (.int (own_bun p3)), .val (.int (0 : Int32)), .val (.int (0 : Int32)), .val (.int (1 : Int32)), .val (.long (q2 + (1 : Int64))), .second, .val (.int (own_find (own_put (own_put (fun _ => (0 : Int64)) q1 q2 (own_out p1 (own_bun p3) (0 : Int32))) q1 (q2 + (1 : Int64)) (own_out p2 (own_bun p3) (1 : Int32))) q1 q2)), .val (.int p1), .val (.int (own_find (own_put (own_put (fun _ => (0 : Int64)) q1 q2 (own_out p1 (own_bun p3) (0 : Int32))) q1 (q2 + (1 : Int64)) (own_out p2 (own_bun p3) (1 : Int32))) q1 (q2 + (1 : Int64))))] [(.int (own_find (own_put (own_put (fun _ => (0 : Int64)) q1 q2 (own_out p1 (own_bun p3) (0 : Int32))) q1 (q2 + (1 : Int64)) (own_out p2 (own_bun p3) (1 : Int32))) q1 (q2 + (1 : Int64))))])) _
          refine XS.ifYes X16.here hx rfl (pc0 := 160) (pc' := 165) rfl (hb hby at_160) rfl ((if0 _ _).trans (flt (own_ge (own_Rb _ _ _) (own_two_fB (own_succ _) (own_out_nz _ _ _) (own_out_nz _ _ _)))).2.1) (by decide) (by decide) ?_
          show Steps p.tables e below (T16.setTop (mkF m 165 #[.val (.long q1), .second, .val (.long q2), .second, .val (.int p1), .val (.int p2), .val (.int p3), .val (.int p4), .val (.ref b1), .val (.int (own_bun p3)), .val (.int (0 : Int32)), .val (.int (0 : Int32)), .val (.int (1 : Int32)), .val (.long (q2 + (1 : Int64))), .second, .val (.int (own_find (own_put (own_put (fun _ => (0 : Int64)) q1 q2 (own_out p1 (own_bun p3) (0 : Int32))) q1 (q2 + (1 : Int64)) (own_out p2 (own_bun p3) (1 : Int32))) q1 q2)), .val (.int p1), .val (.int (own_find (own_put (own_put (fun _ => (0 : Int64)) q1 q2 (own_out p1 (own_bun p3) (0 : Int32))) q1 (q2 + (1 : Int64)) (own_out p2 (own_bun p3) (1 : Int32))) q1 (q2 + (1 : Int64))))] [])) _
          refine XS.aload X16.here hx rfl (hb hby at_165) rfl rfl ?_
          show Steps p.tables e below (T16.setTop (mkF m 167 #[.val (.long q1), .second, .val (.long q2), .second, .val (.int p1), .val (.int p2), .val (.int p3), .val (.int p4), .val (.ref b1), .val (.int (own_bun p3)), .val (.int (0 : Int32)), .val (.int (0 : Int32)), .val (.int (1 : Int32)), .val (.long (q2 + (1 : Int64))), .second, .val (.int (own_find (own_put (own_put (fun _ => (0 : Int64)) q1 q2 (own_out p1 (own_bun p3) (0 : Int32))) q1 (q2 + (1 : Int64)) (own_out p2 (own_bun p3) (1 : Int32))) q1 q2)), .val (.int p1), .val (.int (own_find (own_put (own_put (fun _ => (0 : Int64)) q1 q2 (own_out p1 (own_bun p3) (0 : Int32))) q1 (q2 + (1 : Int64)) (own_out p2 (own_bun p3) (1 : Int32))) q1 (q2 + (1 : Int64))))] [(.ref b1)])) _
          refine XS.iload X16.here hx rfl (hb hby at_167) rfl ?_
          show Steps p.tables e below (T16.setTop (mkF m 169 #[.val (.long q1), .second, .val (.long q2), .second, .val (.int p1), .val (.int p2), .val (.int p3), .val (.int p4), .val (.ref b1), .val (.int (own_bun p3)), .val (.int (0 : Int32)), .val (.int (0 : Int32)), .val (.int (1 : Int32)), .val (.long (q2 + (1 : Int64))), .second, .val (.int (own_find (own_put (own_put (fun _ => (0 : Int64)) q1 q2 (own_out p1 (own_bun p3) (0 : Int32))) q1 (q2 + (1 : Int64)) (own_out p2 (own_bun p3) (1 : Int32))) q1 q2)), .val (.int p1), .val (.int (own_find (own_put (own_put (fun _ => (0 : Int64)) q1 q2 (own_out p1 (own_bun p3) (0 : Int32))) q1 (q2 + (1 : Int64)) (own_out p2 (own_bun p3) (1 : Int32))) q1 (q2 + (1 : Int64))))] [(.int (own_find (own_put (own_put (fun _ => (0 : Int64)) q1 q2 (own_out p1 (own_bun p3) (0 : Int32))) q1 (q2 + (1 : Int64)) (own_out p2 (own_bun p3) (1 : Int32))) q1 (q2 + (1 : Int64)))), (.ref b1)])) _
          refine st17.trans ?_
          show Steps p.tables e below (T17.setTop (mkF m 172 #[.val (.long q1), .second, .val (.long q2), .second, .val (.int p1), .val (.int p2), .val (.int p3), .val (.int p4), .val (.ref b1), .val (.int (own_bun p3)), .val (.int (0 : Int32)), .val (.int (0 : Int32)), .val (.int (1 : Int32)), .val (.long (q2 + (1 : Int64))), .second, .val (.int (own_find (own_put (own_put (fun _ => (0 : Int64)) q1 q2 (own_out p1 (own_bun p3) (0 : Int32))) q1 (q2 + (1 : Int64)) (own_out p2 (own_bun p3) (1 : Int32))) q1 q2)), .val (.int p1), .val (.int (own_find (own_put (own_put (fun _ => (0 : Int64)) q1 q2 (own_out p1 (own_bun p3) (0 : Int32))) q1 (q2 + (1 : Int64)) (own_out p2 (own_bun p3) (1 : Int32))) q1 (q2 + (1 : Int64))))] [(.int (((own_put (own_put (fun _ => (0 : Int64)) q1 q2 (own_out p1 (own_bun p3) (0 : Int32))) q1 (q2 + (1 : Int64)) (own_out p2 (own_bun p3) (1 : Int32))) ((own_find (own_put (own_put (fun _ => (0 : Int64)) q1 q2 (own_out p1 (own_bun p3) (0 : Int32))) q1 (q2 + (1 : Int64)) (own_out p2 (own_bun p3) (1 : Int32))) q1 (q2 + (1 : Int64))) + (2 : Int32))) >>> ((32 : Int32) &&& 0x3f).toInt64).toInt32)])) _
          refine XS.iload X17.here hx rfl (hb hby at_172) rfl ?_
          show Steps p.tables e below (T17.setTop (mkF m 174 #[.val (.long q1), .second, .val (.long q2), .second, .val (.int p1), .val (.int p2), .val (.int p3), .val (.int p4), .val (.ref b1), .val (.int (own_bun p3)), .val (.int (0 : Int32)), .val (.int (0 : Int32)), .val (.int (1 : Int32)), .val (.long (q2 + (1 : Int64))), .second, .val (.int (own_find (own_put (own_put (fun _ => (0 : Int64)) q1 q2 (own_out p1 (own_bun p3) (0 : Int32))) q1 (q2 + (1 : Int64)) (own_out p2 (own_bun p3) (1 : Int32))) q1 q2)), .val (.int p1), .val (.int (own_find (own_put (own_put (fun _ => (0 : Int64)) q1 q2 (own_out p1 (own_bun p3) (0 : Int32))) q1 (q2 + (1 : Int64)) (own_out p2 (own_bun p3) (1 : Int32))) q1 (q2 + (1 : Int64))))] [(.int p2), (.int (((own_put (own_put (fun _ => (0 : Int64)) q1 q2 (own_out p1 (own_bun p3) (0 : Int32))) q1 (q2 + (1 : Int64)) (own_out p2 (own_bun p3) (1 : Int32))) ((own_find (own_put (own_put (fun _ => (0 : Int64)) q1 q2 (own_out p1 (own_bun p3) (0 : Int32))) q1 (q2 + (1 : Int64)) (own_out p2 (own_bun p3) (1 : Int32))) q1 (q2 + (1 : Int64))) + (2 : Int32))) >>> ((32 : Int32) &&& 0x3f).toInt64).toInt32)])) _
          refine XS.icmpYes X17.here hx rfl (pc0 := 174) (pc' := 179) rfl (hb hby at_174) rfl (teq (own_valeq (own_two_fB (own_succ _) (own_out_nz _ _ _) (own_out_nz _ _ _)) (own_two_b (own_succ _) (own_out_nz _ _ _)).2.2 (own_out_v _ _ _))).1 (by decide) (by decide) ?_
          show Steps p.tables e below (T17.setTop (mkF m 179 #[.val (.long q1), .second, .val (.long q2), .second, .val (.int p1), .val (.int p2), .val (.int p3), .val (.int p4), .val (.ref b1), .val (.int (own_bun p3)), .val (.int (0 : Int32)), .val (.int (0 : Int32)), .val (.int (1 : Int32)), .val (.long (q2 + (1 : Int64))), .second, .val (.int (own_find (own_put (own_put (fun _ => (0 : Int64)) q1 q2 (own_out p1 (own_bun p3) (0 : Int32))) q1 (q2 + (1 : Int64)) (own_out p2 (own_bun p3) (1 : Int32))) q1 q2)), .val (.int p1), .val (.int (own_find (own_put (own_put (fun _ => (0 : Int64)) q1 q2 (own_out p1 (own_bun p3) (0 : Int32))) q1 (q2 + (1 : Int64)) (own_out p2 (own_bun p3) (1 : Int32))) q1 (q2 + (1 : Int64))))] [])) _
          refine XS.iconst X17.here hx rfl (hb hby at_179) ?_
          show Steps p.tables e below (T17.setTop (mkF m 180 #[.val (.long q1), .second, .val (.long q2), .second, .val (.int p1), .val (.int p2), .val (.int p3), .val (.int p4), .val (.ref b1), .val (.int (own_bun p3)), .val (.int (0 : Int32)), .val (.int (0 : Int32)), .val (.int (1 : Int32)), .val (.long (q2 + (1 : Int64))), .second, .val (.int (own_find (own_put (own_put (fun _ => (0 : Int64)) q1 q2 (own_out p1 (own_bun p3) (0 : Int32))) q1 (q2 + (1 : Int64)) (own_out p2 (own_bun p3) (1 : Int32))) q1 q2)), .val (.int p1), .val (.int (own_find (own_put (own_put (fun _ => (0 : Int64)) q1 q2 (own_out p1 (own_bun p3) (0 : Int32))) q1 (q2 + (1 : Int64)) (own_out p2 (own_bun p3) (1 : Int32))) q1 (q2 + (1 : Int64))))] [(.int (1 : Int32))])) _
          exact retN X17 hx (t := .boolean) Bd.returns (by simp) (hb hby at_180) hr
        · show Q_rm_law Z q1 q2 p1 p2 p3 p4 h0 n0 _ T17.heap _
          rw [e17]
          exact ⟨rfl, N17, trivial⟩
    · have k18 : ∀ target, Steps p.tables e below (T2.setTop (mkF m 48 #[.val (.long q1), .second, .val (.long q2), .second, .val (.int p1), .val (.int p2), .val (.int p3), .val (.int p4), .val (.ref b1), .val (.int (own_bun p3)), .val (.int (0 : Int32)), .val (.int (1 : Int32)), .unset, .unset, .unset, .unset, .unset, .unset] [(.int (p4 &&& (4 : Int32)))])) target → Steps p.tables e below (s₁.setTop (mkF m 0 #[.val (.long q1), .second, .val (.long q2), .second, .val (.int p1), .val (.int p2), .val (.int p3), .val (.int p4), .unset, .unset, .unset, .unset, .unset, .unset, .unset, .unset, .unset, .unset] [])) target := by
        intro target kt
        refine k4 _ ?_
        show Steps p.tables e below (T2.setTop (mkF m 34 #[.val (.long q1), .second, .val (.long q2), .second, .val (.int p1), .val (.int p2), .val (.int p3), .val (.int p4), .val (.ref b1), .val (.int (own_bun p3)), .val (.int (0 : Int32)), .unset, .unset, .unset, .unset, .unset, .unset, .unset] [(.int (p4 &&& (2 : Int32)))])) _
        refine XS.ifNo X2.here hx rfl (hb hby at_34) rfl ((if0 _ _).trans (feq hc34).1) ?_
        show Steps p.tables e below (T2.setTop (mkF m 37 #[.val (.long q1), .second, .val (.long q2), .second, .val (.int p1), .val (.int p2), .val (.int p3), .val (.int p4), .val (.ref b1), .val (.int (own_bun p3)), .val (.int (0 : Int32)), .unset, .unset, .unset, .unset, .unset, .unset, .unset] [])) _
        refine XS.iconst X2.here hx rfl (hb hby at_37) ?_
        show Steps p.tables e below (T2.setTop (mkF m 38 #[.val (.long q1), .second, .val (.long q2), .second, .val (.int p1), .val (.int p2), .val (.int p3), .val (.int p4), .val (.ref b1), .val (.int (own_bun p3)), .val (.int (0 : Int32)), .unset, .unset, .unset, .unset, .unset, .unset, .unset] [(.int (1 : Int32))])) _
        refine XS.goto X2.here hx rfl (pc0 := 38) (pc' := 42) rfl (hb hby at_38) (by decide) (by decide) ?_
        show Steps p.tables e below (T2.setTop (mkF m 42 #[.val (.long q1), .second, .val (.long q2), .second, .val (.int p1), .val (.int p2), .val (.int p3), .val (.int p4), .val (.ref b1), .val (.int (own_bun p3)), .val (.int (0 : Int32)), .unset, .unset, .unset, .unset, .unset, .unset, .unset] [(.int (1 : Int32))])) _
        refine XS.istore X2.here hx rfl (hb hby at_42) rfl (l' := #[.val (.long q1), .second, .val (.long q2), .second, .val (.int p1), .val (.int p2), .val (.int p3), .val (.int p4), .val (.ref b1), .val (.int (own_bun p3)), .val (.int (0 : Int32)), .val (.int (1 : Int32)), .unset, .unset, .unset, .unset, .unset, .unset]) rfl ?_
        show Steps p.tables e below (T2.setTop (mkF m 44 #[.val (.long q1), .second, .val (.long q2), .second, .val (.int p1), .val (.int p2), .val (.int p3), .val (.int p4), .val (.ref b1), .val (.int (own_bun p3)), .val (.int (0 : Int32)), .val (.int (1 : Int32)), .unset, .unset, .unset, .unset, .unset, .unset] [])) _
        refine XS.iload X2.here hx rfl (hb hby at_44) rfl ?_
        show Steps p.tables e below (T2.setTop (mkF m 46 #[.val (.long q1), .second, .val (.long q2), .second, .val (.int p1), .val (.int p2), .val (.int p3), .val (.int p4), .val (.ref b1), .val (.int (own_bun p3)), .val (.int (0 : Int32)), .val (.int (1 : Int32)), .unset, .unset, .unset, .unset, .unset, .unset] [(.int p4)])) _
        refine XS.iconst X2.here hx rfl (hb hby at_46) ?_
        show Steps p.tables e below (T2.setTop (mkF m 47 #[.val (.long q1), .second, .val (.long q2), .second, .val (.int p1), .val (.int p2), .val (.int p3), .val (.int p4), .val (.ref b1), .val (.int (own_bun p3)), .val (.int (0 : Int32)), .val (.int (1 : Int32)), .unset, .unset, .unset, .unset, .unset, .unset] [(.int (4 : Int32)), (.int p4)])) _
        refine XS.iand X2.here hx rfl (hb hby at_47) rfl ?_
        exact kt
      by_cases hc48 : (p4 &&& (4 : Int32)) = (0 : Int32)
      · obtain ⟨_, _, ⟨T19, L19, k19, n19⟩, -, X19, ⟨Lc19, hQ19, l19, y19, z19⟩, st19⟩ := Jvm.LawKit.callS X2 hx (y := (⟨"com/example/outcry/outcry/allocation/MemoValuePinLaw", "store", "(Lcom/example/outcry/outcry/allocation/Memo;JJIIZ)V"⟩ : MethodName)) hown (mvT hZ (hw _ (List.mem_of_getElem? (i := 13) rfl))) (mvT hZ (hw _ (List.mem_of_getElem? (i := 14) rfl))) (mvT hZ (hw _ (List.mem_of_getElem? (i := 15) rfl))) (mvT hZ (hw _ (List.mem_of_getElem? (i := 16) rfl))) (by decide) (backOf (W := 0) (rm_store l Z a0 hw [] b1 q1 q2 p1 (own_bun p3) (0 : Int32) tb (fun _ => (0 : Int64)) (0 : Int32) T2.heap n0 Z2 Ftb Vtb A1_2 g_b1 gtb ne_ob_tb x2c1 (own_ok_0 _ _) (fun _ => own_ok2_0 _ _) (by decide)) hZ (hw _ (List.mem_of_getElem? (i := 16) rfl)) (hw _ (List.mem_of_getElem? (i := 15) rfl)) (by decide) (by decide)) (g := (mkF m 82 #[.val (.long q1), .second, .val (.long q2), .second, .val (.int p1), .val (.int p2), .val (.int p3), .val (.int p4), .val (.ref b1), .val (.int (own_bun p3)), .val (.int (0 : Int32)), .val (.int (1 : Int32)), .val (.int (0 : Int32)), .val (.long q2), .second, .unset, .unset, .unset] [(.int (0 : Int32)), (.int (own_bun p3)), (.int p1), (.long q2), (.long q1), (.ref b1)])) rfl (by rw [hml]; rfl) (argsL := [(.ref b1), (.long q1), (.long q2), (.int p1), (.int (own_bun p3)), (.int (0 : Int32))]) (rest := []) (lenOf pd_6 rfl) rfl (by show 2 * 0 + _ ≤ _; exact Nat.le_of_eq rfl) (hb hby at_82) (fun _ _ => ⟨rfl, rfl, (by decide : 2 + 0 ≤ _), (by decide : 3074 + 0 ≤ _)⟩)
        dsimp only [Pt.U, Pt.locs, Pt.cells, Pt.slots] at X19 l19 y19 z19 st19 hQ19
        subst l19 y19 z19
        obtain ⟨rfl, N19q, x19c0, x19c1, x19c2, x19c3⟩ := hQ19
        have N19 := Fr.app N2 N19q
        have A1_19 : Exa Z T19.heap b1 "com/example/outcry/outcry/allocation/Memo" := A1_2.keep x19c0
        have Z19 : n0 ≤ T19.heap.size := Nat.le_trans Z2 x19c0.1
        obtain ⟨_, _, ⟨T20, L20, k20, n20⟩, -, X20, ⟨Lc20, hQ20, l20, y20, z20⟩, st20⟩ := Jvm.LawKit.callS X19 hx (y := (⟨"com/example/outcry/outcry/allocation/MemoValuePinLaw", "store", "(Lcom/example/outcry/outcry/allocation/Memo;JJIIZ)V"⟩ : MethodName)) hown (mvT hZ (hw _ (List.mem_of_getElem? (i := 13) rfl))) (mvT hZ (hw _ (List.mem_of_getElem? (i := 14) rfl))) (mvT hZ (hw _ (List.mem_of_getElem? (i := 15) rfl))) (mvT hZ (hw _ (List.mem_of_getElem? (i := 16) rfl))) (by decide) (backOf (W := 0) (rm_store l Z a0 hw [] b1 q1 q2 p2 (own_bun p3) (0 : Int32) tb (own_put (fun _ => (0 : Int64)) q1 q2 (own_out p1 (own_bun p3) (0 : Int32))) (own_szz (fun _ => (0 : Int64)) q1 q2 (0 : Int32)) T19.heap n0 Z19 x19c1 x19c3 A1_19 g_b1 gtb ne_ob_tb x19c2 own_same_ok (own_same_imp (own_out_nz _ _ _)) (own_hq1 _ _)) hZ (hw _ (List.mem_of_getElem? (i := 16) rfl)) (hw _ (List.mem_of_getElem? (i := 15) rfl)) (by decide) (by decide)) (g := (mkF m 96 #[.val (.long q1), .second, .val (.long q2), .second, .val (.int p1), .val (.int p2), .val (.int p3), .val (.int p4), .val (.ref b1), .val (.int (own_bun p3)), .val (.int (0 : Int32)), .val (.int (1 : Int32)), .val (.int (0 : Int32)), .val (.long q2), .second, .unset, .unset, .unset] [(.int (0 : Int32)), (.int (own_bun p3)), (.int p2), (.long q2), (.long q1), (.ref b1)])) rfl (by rw [hml]; rfl) (argsL := [(.ref b1), (.long q1), (.long q2), (.int p2), (.int (own_bun p3)), (.int (0 : Int32))]) (rest := []) (lenOf pd_6 rfl) rfl (by show 2 * 0 + _ ≤ _; exact Nat.le_of_eq rfl) (hb hby at_96) (fun _ _ => ⟨rfl, rfl, (by decide : 2 + 0 ≤ _), (by decide : 3074 + 0 ≤ _)⟩)
        dsimp only [Pt.U, Pt.locs, Pt.cells, Pt.slots] at X20 l20 y20 z20 st20 hQ20
        subst l20 y20 z20
        obtain ⟨rfl, N20q, x20c0, x20c1, x20c2, x20c3⟩ := hQ20
        have N20 := Fr.app N19 N20q
        have A1_20 : Exa Z T20.heap b1 "com/example/outcry/outcry/allocation/Memo" := A1_19.keep x20c0
        have Z20 : n0 ≤ T20.heap.size := Nat.le_trans Z19 x20c0.1
        obtain ⟨cq21, kq21, q21a, q21b, q21c⟩ := isOf hZ rfl A1_20
        obtain ⟨_, _, ⟨T21, L21, k21, n21⟩, -, X21, ⟨Lc21, hQ21, l21, y21, z21⟩, st21⟩ := X20.virtualBack hx (y := (⟨"com/example/outcry/outcry/allocation/Memo", "find", "(JJ)I"⟩ : MethodName)) (z := (⟨"com/example/outcry/outcry/allocation/Memo", "find", "(JJ)I"⟩ : MethodName)) hown (mvT hZ (hw _ (List.mem_of_getElem? (i := 42) rfl))) (mvT hZ (hw _ (List.mem_of_getElem? (i := 27) rfl))) (notFace_of_selects (args := #[]) (mvT hZ (hw _ (List.mem_of_getElem? (i := 29) rfl)))) (mvT hZ (hw _ (List.mem_of_getElem? (i := 29) rfl))) (mvT hZ (hw _ (List.mem_of_getElem? (i := 28) rfl))) (by decide) (backOf (W := 0) (rm_find l Z a0 hw [] b1 q1 q2 tb (own_put (own_put (fun _ => (0 : Int64)) q1 q2 (own_out p1 (own_bun p3) (0 : Int32))) q1 q2 (own_out p2 (own_bun p3) (0 : Int32))) T20.heap n0 Z20 x20c1 x20c3 (own_same_ok2 (own_out_nz _ _ _))) hZ (hw _ (List.mem_of_getElem? (i := 30) rfl)) (hw _ (List.mem_of_getElem? (i := 2) rfl)) (by decide) (by decide)) q21a q21c (g := (mkF m 103 #[.val (.long q1), .second, .val (.long q2), .second, .val (.int p1), .val (.int p2), .val (.int p3), .val (.int p4), .val (.ref b1), .val (.int (own_bun p3)), .val (.int (0 : Int32)), .val (.int (1 : Int32)), .val (.int (0 : Int32)), .val (.long q2), .second, .unset, .unset, .unset] [(.long q2), (.long q1), (.ref b1)])) rfl (by rw [hml]; rfl) (Steps.refl _) (argsL := [(.long q1), (.long q2)]) (rest := []) (lenOf pd_1 rfl) rfl (by show 2 * 0 + _ ≤ _; exact Nat.le_of_eq rfl) (hb hby at_103) (fun _ _ => ⟨rfl, rfl, (by decide : 2 + 0 ≤ _), (by decide : 3074 + 0 ≤ _)⟩)
        dsimp only [Pt.U, Pt.locs, Pt.cells, Pt.slots] at X21 l21 y21 z21 st21 hQ21
        subst l21 y21 z21
        obtain ⟨rfl, N21q, e21⟩ := hQ21
        have N21 := Fr.app N20 N21q
        obtain ⟨cq22, kq22, q22a, q22b, q22c⟩ := isOf hZ e21 A1_20
        obtain ⟨_, _, ⟨T22, L22, k22, n22⟩, -, X22, ⟨Lc22, hQ22, l22, y22, z22⟩, st22⟩ := X21.virtualBack hx (y := (⟨"com/example/outcry/outcry/allocation/Memo", "value", "(I)I"⟩ : MethodName)) (z := (⟨"com/example/outcry/outcry/allocation/Memo", "value", "(I)I"⟩ : MethodName)) hown (mvT hZ (hw _ (List.mem_of_getElem? (i := 43) rfl))) (mvT hZ (hw _ (List.mem_of_getElem? (i := 44) rfl))) (notFace_of_selects (args := #[]) (mvT hZ (hw _ (List.mem_of_getElem? (i := 46) rfl)))) (mvT hZ (hw _ (List.mem_of_getElem? (i := 46) rfl))) (mvT hZ (hw _ (List.mem_of_getElem? (i := 45) rfl))) (by decide) (backOf (W := 0) (rm_value l Z a0 hw [] b1 (own_find (own_put (own_put (fun _ => (0 : Int64)) q1 q2 (own_out p1 (own_bun p3) (0 : Int32))) q1 q2 (own_out p2 (own_bun p3) (0 : Int32))) q1 q2) tb (own_put (own_put (fun _ => (0 : Int64)) q1 q2 (own_out p1 (own_bun p3) (0 : Int32))) q1 q2 (own_out p2 (own_bun p3) (0 : Int32))) T20.heap n0 Z20 x20c1 x20c3 (own_bb (own_sb _ _) (own_same_f2 (own_out_nz _ _ _) (own_out_nz _ _ _)))) hZ (hw _ (List.mem_of_getElem? (i := 47) rfl)) (hw _ (List.mem_of_getElem? (i := 2) rfl)) (by decide) (by decide)) q22a q22c (g := (mkF m 133 #[.val (.long q1), .second, .val (.long q2), .second, .val (.int p1), .val (.int p2), .val (.int p3), .val (.int p4), .val (.ref b1), .val (.int (own_bun p3)), .val (.int (0 : Int32)), .val (.int (1 : Int32)), .val (.int (0 : Int32)), .val (.long q2), .second, .val (.int (own_find (own_put (own_put (fun _ => (0 : Int64)) q1 q2 (own_out p1 (own_bun p3) (0 : Int32))) q1 q2 (own_out p2 (own_bun p3) (0 : Int32))) q1 q2)), .val (.int p2), .unset] [(.int (own_find (own_put (own_put (fun _ => (0 : Int64)) q1 q2 (own_out p1 (own_bun p3) (0 : Int32))) q1 q2 (own_out p2 (own_bun p3) (0 : Int32))) q1 q2)), (.ref b1)])) rfl (by rw [hml]; rfl) (Steps.refl _) (argsL := [(.int (own_find (own_put (own_put (fun _ => (0 : Int64)) q1 q2 (own_out p1 (own_bun p3) (0 : Int32))) q1 q2 (own_out p2 (own_bun p3) (0 : Int32))) q1 q2))]) (rest := []) (lenOf pd_7 rfl) rfl (by show 2 * 0 + _ ≤ _; exact Nat.le_of_eq rfl) (hb hby at_133) (fun _ _ => ⟨rfl, e21, (by decide : 2 + 0 ≤ _), (by decide : 3074 + 0 ≤ _)⟩)
        dsimp only [Pt.U, Pt.locs, Pt.cells, Pt.slots] at X22 l22 y22 z22 st22 hQ22
        subst l22 y22 z22
        obtain ⟨rfl, N22q, e22⟩ := hQ22
        have N22 := Fr.app N21 N22q
        obtain ⟨fs, hr, hrun, hended, hW, hsame⟩ := X22.leave (v := some (.int (1 : Int32))) (fun h => by rw [Bd.returns] at h; cases h)
        refine ⟨_, _, pre0 _ ?_, hrun, hended, _, _, rfl, ?_, ⟨_, rfl⟩, hW, hsame.mono (by decide) (by decide)⟩
        · refine k18 _ ?_
          show Steps p.tables e below (T2.setTop (mkF m 48 #[.val (.long q1), .second, .val (.long q2), .second, .val (.int p1), .val (.int p2), .val (.int p3), .val (.int p4), .val (.ref b1), .val (.int (own_bun p3)), .val (.int (0 : Int32)), .val (.int (1 : Int32)), .unset, .unset, .unset, .unset, .unset, .unset] [(.int (p4 &&& (4 : Int32)))])) _
          refine XS.ifYes X2.here hx rfl (pc0 := 48) (pc' := 55) rfl (hb hby at_48) rfl ((if0 _ _).trans (teq hc48).1) (by decide) (by decide) ?_
          show Steps p.tables e below (T2.setTop (mkF m 55 #[.val (.long q1), .second, .val (.long q2), .second, .val (.int p1), .val (.int p2), .val (.int p3), .val (.int p4), .val (.ref b1), .val (.int (own_bun p3)), .val (.int (0 : Int32)), .val (.int (1 : Int32)), .unset, .unset, .unset, .unset, .unset, .unset] [])) _
          refine XS.iconst X2.here hx rfl (hb hby at_55) ?_
          show Steps p.tables e below (T2.setTop (mkF m 56 #[.val (.long q1), .second, .val (.long q2), .second, .val (.int p1), .val (.int p2), .val (.int p3), .val (.int p4), .val (.ref b1), .val (.int (own_bun p3)), .val (.int (0 : Int32)), .val (.int (1 : Int32)), .unset, .unset, .unset, .unset, .unset, .unset] [(.int (0 : Int32))])) _
          refine XS.istore X2.here hx rfl (hb hby at_56) rfl (l' := #[.val (.long q1), .second, .val (.long q2), .second, .val (.int p1), .val (.int p2), .val (.int p3), .val (.int p4), .val (.ref b1), .val (.int (own_bun p3)), .val (.int (0 : Int32)), .val (.int (1 : Int32)), .val (.int (0 : Int32)), .unset, .unset, .unset, .unset, .unset]) rfl ?_
          show Steps p.tables e below (T2.setTop (mkF m 58 #[.val (.long q1), .second, .val (.long q2), .second, .val (.int p1), .val (.int p2), .val (.int p3), .val (.int p4), .val (.ref b1), .val (.int (own_bun p3)), .val (.int (0 : Int32)), .val (.int (1 : Int32)), .val (.int (0 : Int32)), .unset, .unset, .unset, .unset, .unset] [])) _
          refine XS.iload X2.here hx rfl (hb hby at_58) rfl ?_
          show Steps p.tables e below (T2.setTop (mkF m 60 #[.val (.long q1), .second, .val (.long q2), .second, .val (.int p1), .val (.int p2), .val (.int p3), .val (.int p4), .val (.ref b1), .val (.int (own_bun p3)), .val (.int (0 : Int32)), .val (.int (1 : Int32)), .val (.int (0 : Int32)), .unset, .unset, .unset, .unset, .unset] [(.int (1 : Int32))])) _
          refine XS.ifNo X2.here hx rfl (hb hby at_60) rfl ((if0 _ _).trans (feq (by decide : ¬ ((1 : Int32) = (0 : Int32)))).1) ?_
          show Steps p.tables e below (T2.setTop (mkF m 63 #[.val (.long q1), .second, .val (.long q2), .second, .val (.int p1), .val (.int p2), .val (.int p3), .val (.int p4), .val (.ref b1), .val (.int (own_bun p3)), .val (.int (0 : Int32)), .val (.int (1 : Int32)), .val (.int (0 : Int32)), .unset, .unset, .unset, .unset, .unset] [])) _
          refine XS.lloadN X2.here hx rfl (hb hby at_63) rfl ?_
          show Steps p.tables e below (T2.setTop (mkF m 64 #[.val (.long q1), .second, .val (.long q2), .second, .val (.int p1), .val (.int p2), .val (.int p3), .val (.int p4), .val (.ref b1), .val (.int (own_bun p3)), .val (.int (0 : Int32)), .val (.int (1 : Int32)), .val (.int (0 : Int32)), .unset, .unset, .unset, .unset, .unset] [(.long q2)])) _
          refine XS.goto X2.here hx rfl (pc0 := 64) (pc' := 70) rfl (hb hby at_64) (by decide) (by decide) ?_
          show Steps p.tables e below (T2.setTop (mkF m 70 #[.val (.long q1), .second, .val (.long q2), .second, .val (.int p1), .val (.int p2), .val (.int p3), .val (.int p4), .val (.ref b1), .val (.int (own_bun p3)), .val (.int (0 : Int32)), .val (.int (1 : Int32)), .val (.int (0 : Int32)), .unset, .unset, .unset, .unset, .unset] [(.long q2)])) _
          refine XS.lstore X2.here hx rfl (hb hby at_70) rfl (l' := #[.val (.long q1), .second, .val (.long q2), .second, .val (.int p1), .val (.int p2), .val (.int p3), .val (.int p4), .val (.ref b1), .val (.int (own_bun p3)), .val (.int (0 : Int32)), .val (.int (1 : Int32)), .val (.int (0 : Int32)), .val (.long q2), .second, .unset, .unset, .unset]) rfl ?_
          show Steps p.tables e below (T2.setTop (mkF m 72 #[.val (.long q1), .second, .val (.long q2), .second, .val (.int p1), .val (.int p2), .val (.int p3), .val (.int p4), .val (.ref b1), .val (.int (own_bun p3)), .val (.int (0 : Int32)), .val (.int (1 : Int32)), .val (.int (0 : Int32)), .val (.long q2), .second, .unset, .unset, .unset] [])) _
          refine XS.aload X2.here hx rfl (hb hby at_72) rfl rfl ?_
          show Steps p.tables e below (T2.setTop (mkF m 74 #[.val (.long q1), .second, .val (.long q2), .second, .val (.int p1), .val (.int p2), .val (.int p3), .val (.int p4), .val (.ref b1), .val (.int (own_bun p3)), .val (.int (0 : Int32)), .val (.int (1 : Int32)), .val (.int (0 : Int32)), .val (.long q2), .second, .unset, .unset, .unset] [(.ref b1)])) _
          refine XS.lloadN X2.here hx rfl (hb hby at_74) rfl ?_
          show Steps p.tables e below (T2.setTop (mkF m 75 #[.val (.long q1), .second, .val (.long q2), .second, .val (.int p1), .val (.int p2), .val (.int p3), .val (.int p4), .val (.ref b1), .val (.int (own_bun p3)), .val (.int (0 : Int32)), .val (.int (1 : Int32)), .val (.int (0 : Int32)), .val (.long q2), .second, .unset, .unset, .unset] [(.long q1), (.ref b1)])) _
          refine XS.lloadN X2.here hx rfl (hb hby at_75) rfl ?_
          show Steps p.tables e below (T2.setTop (mkF m 76 #[.val (.long q1), .second, .val (.long q2), .second, .val (.int p1), .val (.int p2), .val (.int p3), .val (.int p4), .val (.ref b1), .val (.int (own_bun p3)), .val (.int (0 : Int32)), .val (.int (1 : Int32)), .val (.int (0 : Int32)), .val (.long q2), .second, .unset, .unset, .unset] [(.long q2), (.long q1), (.ref b1)])) _
          refine XS.iload X2.here hx rfl (hb hby at_76) rfl ?_
          show Steps p.tables e below (T2.setTop (mkF m 78 #[.val (.long q1), .second, .val (.long q2), .second, .val (.int p1), .val (.int p2), .val (.int p3), .val (.int p4), .val (.ref b1), .val (.int (own_bun p3)), .val (.int (0 : Int32)), .val (.int (1 : Int32)), .val (.int (0 : Int32)), .val (.long q2), .second, .unset, .unset, .unset] [(.int p1), (.long q2), (.long q1), (.ref b1)])) _
          refine XS.iload X2.here hx rfl (hb hby at_78) rfl ?_
          show Steps p.tables e below (T2.setTop (mkF m 80 #[.val (.long q1), .second, .val (.long q2), .second, .val (.int p1), .val (.int p2), .val (.int p3), .val (.int p4), .val (.ref b1), .val (.int (own_bun p3)), .val (.int (0 : Int32)), .val (.int (1 : Int32)), .val (.int (0 : Int32)), .val (.long q2), .second, .unset, .unset, .unset] [(.int (own_bun p3)), (.int p1), (.long q2), (.long q1), (.ref b1)])) _
          refine XS.iload X2.here hx rfl (hb hby at_80) rfl ?_
          show Steps p.tables e below (T2.setTop (mkF m 82 #[.val (.long q1), .second, .val (.long q2), .second, .val (.int p1), .val (.int p2), .val (.int p3), .val (.int p4), .val (.ref b1), .val (.int (own_bun p3)), .val (.int (0 : Int32)), .val (.int (1 : Int32)), .val (.int (0 : Int32)), .val (.long q2), .second, .unset, .unset, .unset] [(.int (0 : Int32)), (.int (own_bun p3)), (.int p1), (.long q2), (.long q1), (.ref b1)])) _
          refine st19 _ ?_
          show Steps p.tables e below (T19.setTop (mkF m 85 #[.val (.long q1), .second, .val (.long q2), .second, .val (.int p1), .val (.int p2), .val (.int p3), .val (.int p4), .val (.ref b1), .val (.int (own_bun p3)), .val (.int (0 : Int32)), .val (.int (1 : Int32)), .val (.int (0 : Int32)), .val (.long q2), .second, .unset, .unset, .unset] [])) _
          refine XS.aload X19.here hx rfl (hb hby at_85) rfl rfl ?_
          show Steps p.tables e below (T19.setTop (mkF m 87 #[.val (.long q1), .second, .val (.long q2), .second, .val (.int p1), .val (.int p2), .val (.int p3), .val (.int p4), .val (.ref b1), .val (.int (own_bun p3)), .val (.int (0 : Int32)), .val (.int (1 : Int32)), .val (.int (0 : Int32)), .val (.long q2), .second, .unset, .unset, .unset] [(.ref b1)])) _
          refine XS.lloadN X19.here hx rfl (hb hby at_87) rfl ?_
          show Steps p.tables e below (T19.setTop (mkF m 88 #[.val (.long q1), .second, .val (.long q2), .second, .val (.int p1), .val (.int p2), .val (.int p3), .val (.int p4), .val (.ref b1), .val (.int (own_bun p3)), .val (.int (0 : Int32)), .val (.int (1 : Int32)), .val (.int (0 : Int32)), .val (.long q2), .second, .unset, .unset, .unset] [(.long q1), (.ref b1)])) _
          refine XS.lload X19.here hx rfl (hb hby at_88) rfl ?_
          show Steps p.tables e below (T19.setTop (mkF m 90 #[.val (.long q1), .second, .val (.long q2), .second, .val (.int p1), .val (.int p2), .val (.int p3), .val (.int p4), .val (.ref b1), .val (.int (own_bun p3)), .val (.int (0 : Int32)), .val (.int (1 : Int32)), .val (.int (0 : Int32)), .val (.long q2), .second, .unset, .unset, .unset] [(.long q2), (.long q1), (.ref b1)])) _
          refine XS.iload X19.here hx rfl (hb hby at_90) rfl ?_
          show Steps p.tables e below (T19.setTop (mkF m 92 #[.val (.long q1), .second, .val (.long q2), .second, .val (.int p1), .val (.int p2), .val (.int p3), .val (.int p4), .val (.ref b1), .val (.int (own_bun p3)), .val (.int (0 : Int32)), .val (.int (1 : Int32)), .val (.int (0 : Int32)), .val (.long q2), .second, .unset, .unset, .unset] [(.int p2), (.long q2), (.long q1), (.ref b1)])) _
          refine XS.iload X19.here hx rfl (hb hby at_92) rfl ?_
          show Steps p.tables e below (T19.setTop (mkF m 94 #[.val (.long q1), .second, .val (.long q2), .second, .val (.int p1), .val (.int p2), .val (.int p3), .val (.int p4), .val (.ref b1), .val (.int (own_bun p3)), .val (.int (0 : Int32)), .val (.int (1 : Int32)), .val (.int (0 : Int32)), .val (.long q2), .second, .unset, .unset, .unset] [(.int (own_bun p3)), (.int p2), (.long q2), (.long q1), (.ref b1)])) _
          refine XS.iload X19.here hx rfl (hb hby at_94) rfl ?_
          show Steps p.tables e below (T19.setTop (mkF m 96 #[.val (.long q1), .second, .val (.long q2), .second, .val (.int p1), .val (.int p2), .val (.int p3), .val (.int p4), .val (.ref b1), .val (.int (own_bun p3)), .val (.int (0 : Int32)), .val (.int (1 : Int32)), .val (.int (0 : Int32)), .val (.long q2), .second, .unset, .unset, .unset] [(.int (0 : Int32)), (.int (own_bun p3)), (.int p2), (.long q2), (.long q1), (.ref b1)])) _
          refine st20 _ ?_
          show Steps p.tables e below (T20.setTop (mkF m 99 #[.val (.long q1), .second, .val (.long q2), .second, .val (.int p1), .val (.int p2), .val (.int p3), .val (.int p4), .val (.ref b1), .val (.int (own_bun p3)), .val (.int (0 : Int32)), .val (.int (1 : Int32)), .val (.int (0 : Int32)), .val (.long q2), .second, .unset, .unset, .unset] [])) _
          refine XS.aload X20.here hx rfl (hb hby at_99) rfl rfl ?_
          show Steps p.tables e below (T20.setTop (mkF m 101 #[.val (.long q1), .second, .val (.long q2), .second, .val (.int p1), .val (.int p2), .val (.int p3), .val (.int p4), .val (.ref b1), .val (.int (own_bun p3)), .val (.int (0 : Int32)), .val (.int (1 : Int32)), .val (.int (0 : Int32)), .val (.long q2), .second, .unset, .unset, .unset] [(.ref b1)])) _
          refine XS.lloadN X20.here hx rfl (hb hby at_101) rfl ?_
          show Steps p.tables e below (T20.setTop (mkF m 102 #[.val (.long q1), .second, .val (.long q2), .second, .val (.int p1), .val (.int p2), .val (.int p3), .val (.int p4), .val (.ref b1), .val (.int (own_bun p3)), .val (.int (0 : Int32)), .val (.int (1 : Int32)), .val (.int (0 : Int32)), .val (.long q2), .second, .unset, .unset, .unset] [(.long q1), (.ref b1)])) _
          refine XS.lloadN X20.here hx rfl (hb hby at_102) rfl ?_
          show Steps p.tables e below (T20.setTop (mkF m 103 #[.val (.long q1), .second, .val (.long q2), .second, .val (.int p1), .val (.int p2), .val (.int p3), .val (.int p4), .val (.ref b1), .val (.int (own_bun p3)), .val (.int (0 : Int32)), .val (.int (1 : Int32)), .val (.int (0 : Int32)), .val (.long q2), .second, .unset, .unset, .unset] [(.long q2), (.long q1), (.ref b1)])) _
          refine st21.trans ?_
          show Steps p.tables e below (T21.setTop (mkF m 106 #[.val (.long q1), .second, .val (.long q2), .second, .val (.int p1), .val (.int p2), .val (.int p3), .val (.int p4), .val (.ref b1), .val (.int (own_bun p3)), .val (.int (0 : Int32)), .val (.int (1 : Int32)), .val (.int (0 : Int32)), .val (.long q2), .second, .unset, .unset, .unset] [(.int (own_find (own_put (own_put (fun _ => (0 : Int64)) q1 q2 (own_out p1 (own_bun p3) (0 : Int32))) q1 q2 (own_out p2 (own_bun p3) (0 : Int32))) q1 q2))])) _
          refine XS.istore X21.here hx rfl (hb hby at_106) rfl (l' := #[.val (.long q1), .second, .val (.long q2), .second, .val (.int p1), .val (.int p2), .val (.int p3), .val (.int p4), .val (.ref b1), .val (.int (own_bun p3)), .val (.int (0 : Int32)), .val (.int (1 : Int32)), .val (.int (0 : Int32)), .val (.long q2), .second, .val (.int (own_find (own_put (own_put (fun _ => (0 : Int64)) q1 q2 (own_out p1 (own_bun p3) (0 : Int32))) q1 q2 (own_out p2 (own_bun p3) (0 : Int32))) q1 q2)), .unset, .unset]) rfl ?_
          show Steps p.tables e below (T21.setTop (mkF m 108 #[.val (.long q1), .second, .val (.long q2), .second, .val (.int p1), .val (.int p2), .val (.int p3), .val (.int p4), .val (.ref b1), .val (.int (own_bun p3)), .val (.int (0 : Int32)), .val (.int (1 : Int32)), .val (.int (0 : Int32)), .val (.long q2), .second, .val (.int (own_find (own_put (own_put (fun _ => (0 : Int64)) q1 q2 (own_out p1 (own_bun p3) (0 : Int32))) q1 q2 (own_out p2 (own_bun p3) (0 : Int32))) q1 q2)), .unset, .unset] [])) _
          refine XS.iload X21.here hx rfl (hb hby at_108) rfl ?_
          show Steps p.tables e below (T21.setTop (mkF m 110 #[.val (.long q1), .second, .val (.long q2), .second, .val (.int p1), .val (.int p2), .val (.int p3), .val (.int p4), .val (.ref b1), .val (.int (own_bun p3)), .val (.int (0 : Int32)), .val (.int (1 : Int32)), .val (.int (0 : Int32)), .val (.long q2), .second, .val (.int (own_find (own_put (own_put (fun _ => (0 : Int64)) q1 q2 (own_out p1 (own_bun p3) (0 : Int32))) q1 q2 (own_out p2 (own_bun p3) (0 : Int32))) q1 q2)), .unset, .unset] [(.int (own_find (own_put (own_put (fun _ => (0 : Int64)) q1 q2 (own_out p1 (own_bun p3) (0 : Int32))) q1 q2 (own_out p2 (own_bun p3) (0 : Int32))) q1 q2))])) _
          refine XS.ifYes X21.here hx rfl (pc0 := 110) (pc' := 115) rfl (hb hby at_110) rfl ((if0 _ _).trans (flt (own_ge (own_sb _ _) (own_same_f2 (own_out_nz _ _ _) (own_out_nz _ _ _)))).2.1) (by decide) (by decide) ?_
          show Steps p.tables e below (T21.setTop (mkF m 115 #[.val (.long q1), .second, .val (.long q2), .second, .val (.int p1), .val (.int p2), .val (.int p3), .val (.int p4), .val (.ref b1), .val (.int (own_bun p3)), .val (.int (0 : Int32)), .val (.int (1 : Int32)), .val (.int (0 : Int32)), .val (.long q2), .second, .val (.int (own_find (own_put (own_put (fun _ => (0 : Int64)) q1 q2 (own_out p1 (own_bun p3) (0 : Int32))) q1 q2 (own_out p2 (own_bun p3) (0 : Int32))) q1 q2)), .unset, .unset] [])) _
          refine XS.iload X21.here hx rfl (hb hby at_115) rfl ?_
          show Steps p.tables e below (T21.setTop (mkF m 117 #[.val (.long q1), .second, .val (.long q2), .second, .val (.int p1), .val (.int p2), .val (.int p3), .val (.int p4), .val (.ref b1), .val (.int (own_bun p3)), .val (.int (0 : Int32)), .val (.int (1 : Int32)), .val (.int (0 : Int32)), .val (.long q2), .second, .val (.int (own_find (own_put (own_put (fun _ => (0 : Int64)) q1 q2 (own_out p1 (own_bun p3) (0 : Int32))) q1 q2 (own_out p2 (own_bun p3) (0 : Int32))) q1 q2)), .unset, .unset] [(.int (1 : Int32))])) _
          refine XS.ifNo X21.here hx rfl (hb hby at_117) rfl ((if0 _ _).trans (feq (by decide : ¬ ((1 : Int32) = (0 : Int32)))).1) ?_
          show Steps p.tables e below (T21.setTop (mkF m 120 #[.val (.long q1), .second, .val (.long q2), .second, .val (.int p1), .val (.int p2), .val (.int p3), .val (.int p4), .val (.ref b1), .val (.int (own_bun p3)), .val (.int (0 : Int32)), .val (.int (1 : Int32)), .val (.int (0 : Int32)), .val (.long q2), .second, .val (.int (own_find (own_put (own_put (fun _ => (0 : Int64)) q1 q2 (own_out p1 (own_bun p3) (0 : Int32))) q1 q2 (own_out p2 (own_bun p3) (0 : Int32))) q1 q2)), .unset, .unset] [])) _
          refine XS.iload X21.here hx rfl (hb hby at_120) rfl ?_
          show Steps p.tables e below (T21.setTop (mkF m 122 #[.val (.long q1), .second, .val (.long q2), .second, .val (.int p1), .val (.int p2), .val (.int p3), .val (.int p4), .val (.ref b1), .val (.int (own_bun p3)), .val (.int (0 : Int32)), .val (.int (1 : Int32)), .val (.int (0 : Int32)), .val (.long q2), .second, .val (.int (own_find (own_put (own_put (fun _ => (0 : Int64)) q1 q2 (own_out p1 (own_bun p3) (0 : Int32))) q1 q2 (own_out p2 (own_bun p3) (0 : Int32))) q1 q2)), .unset, .unset] [(.int p2)])) _
          refine XS.goto X21.here hx rfl (pc0 := 122) (pc' := 127) rfl (hb hby at_122) (by decide) (by decide) ?_
          show Steps p.tables e below (T21.setTop (mkF m 127 #[.val (.long q1), .second, .val (.long q2), .second, .val (.int p1), .val (.int p2), .val (.int p3), .val (.int p4), .val (.ref b1), .val (.int (own_bun p3)), .val (.int (0 : Int32)), .val (.int (1 : Int32)), .val (.int (0 : Int32)), .val (.long q2), .second, .val (.int (own_find (own_put (own_put (fun _ => (0 : Int64)) q1 q2 (own_out p1 (own_bun p3) (0 : Int32))) q1 q2 (own_out p2 (own_bun p3) (0 : Int32))) q1 q2)), .unset, .unset] [(.int p2)])) _
          refine XS.istore X21.here hx rfl (hb hby at_127) rfl (l' := #[.val (.long q1), .second, .val (.long q2), .second, .val (.int p1), .val (.int p2), .val (.int p3), .val (.int p4), .val (.ref b1), .val (.int (own_bun p3)), .val (.int (0 : Int32)), .val (.int (1 : Int32)), .val (.int (0 : Int32)), .val (.long q2), .second, .val (.int (own_find (own_put (own_put (fun _ => (0 : Int64)) q1 q2 (own_out p1 (own_bun p3) (0 : Int32))) q1 q2 (own_out p2 (own_bun p3) (0 : Int32))) q1 q2)), .val (.int p2), .unset]) rfl ?_
          show Steps p.tables e below (T21.setTop (mkF m 129 #[.val (.long q1), .second, .val (.long q2), .second, .val (.int p1), .val (.int p2), .val (.int p3), .val (.int p4), .val (.ref b1), .val (.int (own_bun p3)), .val (.int (0 : Int32)), .val (.int (1 : Int32)), .val (.int (0 : Int32)), .val (.long q2), .second, .val (.int (own_find (own_put (own_put (fun _ => (0 : Int64)) q1 q2 (own_out p1 (own_bun p3) (0 : Int32))) q1 q2 (own_out p2 (own_bun p3) (0 : Int32))) q1 q2)), .val (.int p2), .unset] [])) _
          refine XS.aload X21.here hx rfl (hb hby at_129) rfl rfl ?_
          show Steps p.tables e below (T21.setTop (mkF m 131 #[.val (.long q1), .second, .val (.long q2), .second, .val (.int p1), .val (.int p2), .val (.int p3), .val (.int p4), .val (.ref b1), .val (.int (own_bun p3)), .val (.int (0 : Int32)), .val (.int (1 : Int32)), .val (.int (0 : Int32)), .val (.long q2), .second, .val (.int (own_find (own_put (own_put (fun _ => (0 : Int64)) q1 q2 (own_out p1 (own_bun p3) (0 : Int32))) q1 q2 (own_out p2 (own_bun p3) (0 : Int32))) q1 q2)), .val (.int p2), .unset] [(.ref b1)])) _
          refine XS.iload X21.here hx rfl (hb hby at_131) rfl ?_
          show Steps p.tables e below (T21.setTop (mkF m 133 #[.val (.long q1), .second, .val (.long q2), .second, .val (.int p1), .val (.int p2), .val (.int p3), .val (.int p4), .val (.ref b1), .val (.int (own_bun p3)), .val (.int (0 : Int32)), .val (.int (1 : Int32)), .val (.int (0 : Int32)), .val (.long q2), .second, .val (.int (own_find (own_put (own_put (fun _ => (0 : Int64)) q1 q2 (own_out p1 (own_bun p3) (0 : Int32))) q1 q2 (own_out p2 (own_bun p3) (0 : Int32))) q1 q2)), .val (.int p2), .unset] [(.int (own_find (own_put (own_put (fun _ => (0 : Int64)) q1 q2 (own_out p1 (own_bun p3) (0 : Int32))) q1 q2 (own_out p2 (own_bun p3) (0 : Int32))) q1 q2)), (.ref b1)])) _
          refine st22.trans ?_
          show Steps p.tables e below (T22.setTop (mkF m 136 #[.val (.long q1), .second, .val (.long q2), .second, .val (.int p1), .val (.int p2), .val (.int p3), .val (.int p4), .val (.ref b1), .val (.int (own_bun p3)), .val (.int (0 : Int32)), .val (.int (1 : Int32)), .val (.int (0 : Int32)), .val (.long q2), .second, .val (.int (own_find (own_put (own_put (fun _ => (0 : Int64)) q1 q2 (own_out p1 (own_bun p3) (0 : Int32))) q1 q2 (own_out p2 (own_bun p3) (0 : Int32))) q1 q2)), .val (.int p2), .unset] [(.int (((own_put (own_put (fun _ => (0 : Int64)) q1 q2 (own_out p1 (own_bun p3) (0 : Int32))) q1 q2 (own_out p2 (own_bun p3) (0 : Int32))) ((own_find (own_put (own_put (fun _ => (0 : Int64)) q1 q2 (own_out p1 (own_bun p3) (0 : Int32))) q1 q2 (own_out p2 (own_bun p3) (0 : Int32))) q1 q2) + (2 : Int32))) >>> ((32 : Int32) &&& 0x3f).toInt64).toInt32)])) _
          refine XS.iload X22.here hx rfl (hb hby at_136) rfl ?_
          show Steps p.tables e below (T22.setTop (mkF m 138 #[.val (.long q1), .second, .val (.long q2), .second, .val (.int p1), .val (.int p2), .val (.int p3), .val (.int p4), .val (.ref b1), .val (.int (own_bun p3)), .val (.int (0 : Int32)), .val (.int (1 : Int32)), .val (.int (0 : Int32)), .val (.long q2), .second, .val (.int (own_find (own_put (own_put (fun _ => (0 : Int64)) q1 q2 (own_out p1 (own_bun p3) (0 : Int32))) q1 q2 (own_out p2 (own_bun p3) (0 : Int32))) q1 q2)), .val (.int p2), .unset] [(.int p2), (.int (((own_put (own_put (fun _ => (0 : Int64)) q1 q2 (own_out p1 (own_bun p3) (0 : Int32))) q1 q2 (own_out p2 (own_bun p3) (0 : Int32))) ((own_find (own_put (own_put (fun _ => (0 : Int64)) q1 q2 (own_out p1 (own_bun p3) (0 : Int32))) q1 q2 (own_out p2 (own_bun p3) (0 : Int32))) q1 q2) + (2 : Int32))) >>> ((32 : Int32) &&& 0x3f).toInt64).toInt32)])) _
          refine XS.icmpYes X22.here hx rfl (pc0 := 138) (pc' := 143) rfl (hb hby at_138) rfl (teq (own_valeq (own_same_f2 (own_out_nz _ _ _) (own_out_nz _ _ _)) (own_same_v (own_out_nz _ _ _)).2.2 (own_out_v _ _ _))).1 (by decide) (by decide) ?_
          show Steps p.tables e below (T22.setTop (mkF m 143 #[.val (.long q1), .second, .val (.long q2), .second, .val (.int p1), .val (.int p2), .val (.int p3), .val (.int p4), .val (.ref b1), .val (.int (own_bun p3)), .val (.int (0 : Int32)), .val (.int (1 : Int32)), .val (.int (0 : Int32)), .val (.long q2), .second, .val (.int (own_find (own_put (own_put (fun _ => (0 : Int64)) q1 q2 (own_out p1 (own_bun p3) (0 : Int32))) q1 q2 (own_out p2 (own_bun p3) (0 : Int32))) q1 q2)), .val (.int p2), .unset] [])) _
          refine XS.iload X22.here hx rfl (hb hby at_143) rfl ?_
          show Steps p.tables e below (T22.setTop (mkF m 145 #[.val (.long q1), .second, .val (.long q2), .second, .val (.int p1), .val (.int p2), .val (.int p3), .val (.int p4), .val (.ref b1), .val (.int (own_bun p3)), .val (.int (0 : Int32)), .val (.int (1 : Int32)), .val (.int (0 : Int32)), .val (.long q2), .second, .val (.int (own_find (own_put (own_put (fun _ => (0 : Int64)) q1 q2 (own_out p1 (own_bun p3) (0 : Int32))) q1 q2 (own_out p2 (own_bun p3) (0 : Int32))) q1 q2)), .val (.int p2), .unset] [(.int (1 : Int32))])) _
          refine XS.ifYes X22.here hx rfl (pc0 := 145) (pc' := 179) rfl (hb hby at_145) rfl ((if0 _ _).trans (feq (by decide : ¬ ((1 : Int32) = (0 : Int32)))).2) (by decide) (by decide) ?_
          show Steps p.tables e below (T22.setTop (mkF m 179 #[.val (.long q1), .second, .val (.long q2), .second, .val (.int p1), .val (.int p2), .val (.int p3), .val (.int p4), .val (.ref b1), .val (.int (own_bun p3)), .val (.int (0 : Int32)), .val (.int (1 : Int32)), .val (.int (0 : Int32)), .val (.long q2), .second, .val (.int (own_find (own_put (own_put (fun _ => (0 : Int64)) q1 q2 (own_out p1 (own_bun p3) (0 : Int32))) q1 q2 (own_out p2 (own_bun p3) (0 : Int32))) q1 q2)), .val (.int p2), .unset] [])) _
          refine XS.iconst X22.here hx rfl (hb hby at_179) ?_
          show Steps p.tables e below (T22.setTop (mkF m 180 #[.val (.long q1), .second, .val (.long q2), .second, .val (.int p1), .val (.int p2), .val (.int p3), .val (.int p4), .val (.ref b1), .val (.int (own_bun p3)), .val (.int (0 : Int32)), .val (.int (1 : Int32)), .val (.int (0 : Int32)), .val (.long q2), .second, .val (.int (own_find (own_put (own_put (fun _ => (0 : Int64)) q1 q2 (own_out p1 (own_bun p3) (0 : Int32))) q1 q2 (own_out p2 (own_bun p3) (0 : Int32))) q1 q2)), .val (.int p2), .unset] [(.int (1 : Int32))])) _
          exact retN X22 hx (t := .boolean) Bd.returns (by simp) (hb hby at_180) hr
        · show Q_rm_law Z q1 q2 p1 p2 p3 p4 h0 n0 _ T22.heap _
          rw [e22]
          exact ⟨rfl, N22, trivial⟩
      · obtain ⟨_, _, ⟨T23, L23, k23, n23⟩, -, X23, ⟨Lc23, hQ23, l23, y23, z23⟩, st23⟩ := Jvm.LawKit.callS X2 hx (y := (⟨"com/example/outcry/outcry/allocation/MemoValuePinLaw", "store", "(Lcom/example/outcry/outcry/allocation/Memo;JJIIZ)V"⟩ : MethodName)) hown (mvT hZ (hw _ (List.mem_of_getElem? (i := 13) rfl))) (mvT hZ (hw _ (List.mem_of_getElem? (i := 14) rfl))) (mvT hZ (hw _ (List.mem_of_getElem? (i := 15) rfl))) (mvT hZ (hw _ (List.mem_of_getElem? (i := 16) rfl))) (by decide) (backOf (W := 0) (rm_store l Z a0 hw [] b1 q1 q2 p1 (own_bun p3) (0 : Int32) tb (fun _ => (0 : Int64)) (0 : Int32) T2.heap n0 Z2 Ftb Vtb A1_2 g_b1 gtb ne_ob_tb x2c1 (own_ok_0 _ _) (fun _ => own_ok2_0 _ _) (by decide)) hZ (hw _ (List.mem_of_getElem? (i := 16) rfl)) (hw _ (List.mem_of_getElem? (i := 15) rfl)) (by decide) (by decide)) (g := (mkF m 82 #[.val (.long q1), .second, .val (.long q2), .second, .val (.int p1), .val (.int p2), .val (.int p3), .val (.int p4), .val (.ref b1), .val (.int (own_bun p3)), .val (.int (0 : Int32)), .val (.int (1 : Int32)), .val (.int (1 : Int32)), .val (.long q2), .second, .unset, .unset, .unset] [(.int (0 : Int32)), (.int (own_bun p3)), (.int p1), (.long q2), (.long q1), (.ref b1)])) rfl (by rw [hml]; rfl) (argsL := [(.ref b1), (.long q1), (.long q2), (.int p1), (.int (own_bun p3)), (.int (0 : Int32))]) (rest := []) (lenOf pd_6 rfl) rfl (by show 2 * 0 + _ ≤ _; exact Nat.le_of_eq rfl) (hb hby at_82) (fun _ _ => ⟨rfl, rfl, (by decide : 2 + 0 ≤ _), (by decide : 3074 + 0 ≤ _)⟩)
        dsimp only [Pt.U, Pt.locs, Pt.cells, Pt.slots] at X23 l23 y23 z23 st23 hQ23
        subst l23 y23 z23
        obtain ⟨rfl, N23q, x23c0, x23c1, x23c2, x23c3⟩ := hQ23
        have N23 := Fr.app N2 N23q
        have A1_23 : Exa Z T23.heap b1 "com/example/outcry/outcry/allocation/Memo" := A1_2.keep x23c0
        have Z23 : n0 ≤ T23.heap.size := Nat.le_trans Z2 x23c0.1
        obtain ⟨_, _, ⟨T24, L24, k24, n24⟩, -, X24, ⟨Lc24, hQ24, l24, y24, z24⟩, st24⟩ := Jvm.LawKit.callS X23 hx (y := (⟨"com/example/outcry/outcry/allocation/MemoValuePinLaw", "store", "(Lcom/example/outcry/outcry/allocation/Memo;JJIIZ)V"⟩ : MethodName)) hown (mvT hZ (hw _ (List.mem_of_getElem? (i := 13) rfl))) (mvT hZ (hw _ (List.mem_of_getElem? (i := 14) rfl))) (mvT hZ (hw _ (List.mem_of_getElem? (i := 15) rfl))) (mvT hZ (hw _ (List.mem_of_getElem? (i := 16) rfl))) (by decide) (backOf (W := 0) (rm_store l Z a0 hw [] b1 q1 q2 p2 (own_bun p3) (1 : Int32) tb (own_put (fun _ => (0 : Int64)) q1 q2 (own_out p1 (own_bun p3) (0 : Int32))) (own_szz (fun _ => (0 : Int64)) q1 q2 (0 : Int32)) T23.heap n0 Z23 x23c1 x23c3 A1_23 g_b1 gtb ne_ob_tb x23c2 own_same_ok (own_same_imp (own_out_nz _ _ _)) (own_hq1 _ _)) hZ (hw _ (List.mem_of_getElem? (i := 16) rfl)) (hw _ (List.mem_of_getElem? (i := 15) rfl)) (by decide) (by decide)) (g := (mkF m 96 #[.val (.long q1), .second, .val (.long q2), .second, .val (.int p1), .val (.int p2), .val (.int p3), .val (.int p4), .val (.ref b1), .val (.int (own_bun p3)), .val (.int (0 : Int32)), .val (.int (1 : Int32)), .val (.int (1 : Int32)), .val (.long q2), .second, .unset, .unset, .unset] [(.int (1 : Int32)), (.int (own_bun p3)), (.int p2), (.long q2), (.long q1), (.ref b1)])) rfl (by rw [hml]; rfl) (argsL := [(.ref b1), (.long q1), (.long q2), (.int p2), (.int (own_bun p3)), (.int (1 : Int32))]) (rest := []) (lenOf pd_6 rfl) rfl (by show 2 * 0 + _ ≤ _; exact Nat.le_of_eq rfl) (hb hby at_96) (fun _ _ => ⟨rfl, rfl, (by decide : 2 + 0 ≤ _), (by decide : 3074 + 0 ≤ _)⟩)
        dsimp only [Pt.U, Pt.locs, Pt.cells, Pt.slots] at X24 l24 y24 z24 st24 hQ24
        subst l24 y24 z24
        obtain ⟨rfl, N24q, x24c0, x24c1, x24c2, x24c3⟩ := hQ24
        have N24 := Fr.app N23 N24q
        have A1_24 : Exa Z T24.heap b1 "com/example/outcry/outcry/allocation/Memo" := A1_23.keep x24c0
        have Z24 : n0 ≤ T24.heap.size := Nat.le_trans Z23 x24c0.1
        obtain ⟨cq25, kq25, q25a, q25b, q25c⟩ := isOf hZ rfl A1_24
        obtain ⟨_, _, ⟨T25, L25, k25, n25⟩, -, X25, ⟨Lc25, hQ25, l25, y25, z25⟩, st25⟩ := X24.virtualBack hx (y := (⟨"com/example/outcry/outcry/allocation/Memo", "find", "(JJ)I"⟩ : MethodName)) (z := (⟨"com/example/outcry/outcry/allocation/Memo", "find", "(JJ)I"⟩ : MethodName)) hown (mvT hZ (hw _ (List.mem_of_getElem? (i := 42) rfl))) (mvT hZ (hw _ (List.mem_of_getElem? (i := 27) rfl))) (notFace_of_selects (args := #[]) (mvT hZ (hw _ (List.mem_of_getElem? (i := 29) rfl)))) (mvT hZ (hw _ (List.mem_of_getElem? (i := 29) rfl))) (mvT hZ (hw _ (List.mem_of_getElem? (i := 28) rfl))) (by decide) (backOf (W := 0) (rm_find l Z a0 hw [] b1 q1 q2 tb (own_put (own_put (fun _ => (0 : Int64)) q1 q2 (own_out p1 (own_bun p3) (0 : Int32))) q1 q2 (own_out p2 (own_bun p3) (1 : Int32))) T24.heap n0 Z24 x24c1 x24c3 (own_same_ok2 (own_out_nz _ _ _))) hZ (hw _ (List.mem_of_getElem? (i := 30) rfl)) (hw _ (List.mem_of_getElem? (i := 2) rfl)) (by decide) (by decide)) q25a q25c (g := (mkF m 103 #[.val (.long q1), .second, .val (.long q2), .second, .val (.int p1), .val (.int p2), .val (.int p3), .val (.int p4), .val (.ref b1), .val (.int (own_bun p3)), .val (.int (0 : Int32)), .val (.int (1 : Int32)), .val (.int (1 : Int32)), .val (.long q2), .second, .unset, .unset, .unset] [(.long q2), (.long q1), (.ref b1)])) rfl (by rw [hml]; rfl) (Steps.refl _) (argsL := [(.long q1), (.long q2)]) (rest := []) (lenOf pd_1 rfl) rfl (by show 2 * 0 + _ ≤ _; exact Nat.le_of_eq rfl) (hb hby at_103) (fun _ _ => ⟨rfl, rfl, (by decide : 2 + 0 ≤ _), (by decide : 3074 + 0 ≤ _)⟩)
        dsimp only [Pt.U, Pt.locs, Pt.cells, Pt.slots] at X25 l25 y25 z25 st25 hQ25
        subst l25 y25 z25
        obtain ⟨rfl, N25q, e25⟩ := hQ25
        have N25 := Fr.app N24 N25q
        obtain ⟨cq26, kq26, q26a, q26b, q26c⟩ := isOf hZ e25 A1_24
        obtain ⟨_, _, ⟨T26, L26, k26, n26⟩, -, X26, ⟨Lc26, hQ26, l26, y26, z26⟩, st26⟩ := X25.virtualBack hx (y := (⟨"com/example/outcry/outcry/allocation/Memo", "value", "(I)I"⟩ : MethodName)) (z := (⟨"com/example/outcry/outcry/allocation/Memo", "value", "(I)I"⟩ : MethodName)) hown (mvT hZ (hw _ (List.mem_of_getElem? (i := 43) rfl))) (mvT hZ (hw _ (List.mem_of_getElem? (i := 44) rfl))) (notFace_of_selects (args := #[]) (mvT hZ (hw _ (List.mem_of_getElem? (i := 46) rfl)))) (mvT hZ (hw _ (List.mem_of_getElem? (i := 46) rfl))) (mvT hZ (hw _ (List.mem_of_getElem? (i := 45) rfl))) (by decide) (backOf (W := 0) (rm_value l Z a0 hw [] b1 (own_find (own_put (own_put (fun _ => (0 : Int64)) q1 q2 (own_out p1 (own_bun p3) (0 : Int32))) q1 q2 (own_out p2 (own_bun p3) (1 : Int32))) q1 q2) tb (own_put (own_put (fun _ => (0 : Int64)) q1 q2 (own_out p1 (own_bun p3) (0 : Int32))) q1 q2 (own_out p2 (own_bun p3) (1 : Int32))) T24.heap n0 Z24 x24c1 x24c3 (own_bb (own_sb _ _) (own_same_f2 (own_out_nz _ _ _) (own_out_nz _ _ _)))) hZ (hw _ (List.mem_of_getElem? (i := 47) rfl)) (hw _ (List.mem_of_getElem? (i := 2) rfl)) (by decide) (by decide)) q26a q26c (g := (mkF m 133 #[.val (.long q1), .second, .val (.long q2), .second, .val (.int p1), .val (.int p2), .val (.int p3), .val (.int p4), .val (.ref b1), .val (.int (own_bun p3)), .val (.int (0 : Int32)), .val (.int (1 : Int32)), .val (.int (1 : Int32)), .val (.long q2), .second, .val (.int (own_find (own_put (own_put (fun _ => (0 : Int64)) q1 q2 (own_out p1 (own_bun p3) (0 : Int32))) q1 q2 (own_out p2 (own_bun p3) (1 : Int32))) q1 q2)), .val (.int p2), .unset] [(.int (own_find (own_put (own_put (fun _ => (0 : Int64)) q1 q2 (own_out p1 (own_bun p3) (0 : Int32))) q1 q2 (own_out p2 (own_bun p3) (1 : Int32))) q1 q2)), (.ref b1)])) rfl (by rw [hml]; rfl) (Steps.refl _) (argsL := [(.int (own_find (own_put (own_put (fun _ => (0 : Int64)) q1 q2 (own_out p1 (own_bun p3) (0 : Int32))) q1 q2 (own_out p2 (own_bun p3) (1 : Int32))) q1 q2))]) (rest := []) (lenOf pd_7 rfl) rfl (by show 2 * 0 + _ ≤ _; exact Nat.le_of_eq rfl) (hb hby at_133) (fun _ _ => ⟨rfl, e25, (by decide : 2 + 0 ≤ _), (by decide : 3074 + 0 ≤ _)⟩)
        dsimp only [Pt.U, Pt.locs, Pt.cells, Pt.slots] at X26 l26 y26 z26 st26 hQ26
        subst l26 y26 z26
        obtain ⟨rfl, N26q, e26⟩ := hQ26
        have N26 := Fr.app N25 N26q
        obtain ⟨fs, hr, hrun, hended, hW, hsame⟩ := X26.leave (v := some (.int (1 : Int32))) (fun h => by rw [Bd.returns] at h; cases h)
        refine ⟨_, _, pre0 _ ?_, hrun, hended, _, _, rfl, ?_, ⟨_, rfl⟩, hW, hsame.mono (by decide) (by decide)⟩
        · refine k18 _ ?_
          show Steps p.tables e below (T2.setTop (mkF m 48 #[.val (.long q1), .second, .val (.long q2), .second, .val (.int p1), .val (.int p2), .val (.int p3), .val (.int p4), .val (.ref b1), .val (.int (own_bun p3)), .val (.int (0 : Int32)), .val (.int (1 : Int32)), .unset, .unset, .unset, .unset, .unset, .unset] [(.int (p4 &&& (4 : Int32)))])) _
          refine XS.ifNo X2.here hx rfl (hb hby at_48) rfl ((if0 _ _).trans (feq hc48).1) ?_
          show Steps p.tables e below (T2.setTop (mkF m 51 #[.val (.long q1), .second, .val (.long q2), .second, .val (.int p1), .val (.int p2), .val (.int p3), .val (.int p4), .val (.ref b1), .val (.int (own_bun p3)), .val (.int (0 : Int32)), .val (.int (1 : Int32)), .unset, .unset, .unset, .unset, .unset, .unset] [])) _
          refine XS.iconst X2.here hx rfl (hb hby at_51) ?_
          show Steps p.tables e below (T2.setTop (mkF m 52 #[.val (.long q1), .second, .val (.long q2), .second, .val (.int p1), .val (.int p2), .val (.int p3), .val (.int p4), .val (.ref b1), .val (.int (own_bun p3)), .val (.int (0 : Int32)), .val (.int (1 : Int32)), .unset, .unset, .unset, .unset, .unset, .unset] [(.int (1 : Int32))])) _
          refine XS.goto X2.here hx rfl (pc0 := 52) (pc' := 56) rfl (hb hby at_52) (by decide) (by decide) ?_
          show Steps p.tables e below (T2.setTop (mkF m 56 #[.val (.long q1), .second, .val (.long q2), .second, .val (.int p1), .val (.int p2), .val (.int p3), .val (.int p4), .val (.ref b1), .val (.int (own_bun p3)), .val (.int (0 : Int32)), .val (.int (1 : Int32)), .unset, .unset, .unset, .unset, .unset, .unset] [(.int (1 : Int32))])) _
          refine XS.istore X2.here hx rfl (hb hby at_56) rfl (l' := #[.val (.long q1), .second, .val (.long q2), .second, .val (.int p1), .val (.int p2), .val (.int p3), .val (.int p4), .val (.ref b1), .val (.int (own_bun p3)), .val (.int (0 : Int32)), .val (.int (1 : Int32)), .val (.int (1 : Int32)), .unset, .unset, .unset, .unset, .unset]) rfl ?_
          show Steps p.tables e below (T2.setTop (mkF m 58 #[.val (.long q1), .second, .val (.long q2), .second, .val (.int p1), .val (.int p2), .val (.int p3), .val (.int p4), .val (.ref b1), .val (.int (own_bun p3)), .val (.int (0 : Int32)), .val (.int (1 : Int32)), .val (.int (1 : Int32)), .unset, .unset, .unset, .unset, .unset] [])) _
          refine XS.iload X2.here hx rfl (hb hby at_58) rfl ?_
          show Steps p.tables e below (T2.setTop (mkF m 60 #[.val (.long q1), .second, .val (.long q2), .second, .val (.int p1), .val (.int p2), .val (.int p3), .val (.int p4), .val (.ref b1), .val (.int (own_bun p3)), .val (.int (0 : Int32)), .val (.int (1 : Int32)), .val (.int (1 : Int32)), .unset, .unset, .unset, .unset, .unset] [(.int (1 : Int32))])) _
          refine XS.ifNo X2.here hx rfl (hb hby at_60) rfl ((if0 _ _).trans (feq (by decide : ¬ ((1 : Int32) = (0 : Int32)))).1) ?_
          show Steps p.tables e below (T2.setTop (mkF m 63 #[.val (.long q1), .second, .val (.long q2), .second, .val (.int p1), .val (.int p2), .val (.int p3), .val (.int p4), .val (.ref b1), .val (.int (own_bun p3)), .val (.int (0 : Int32)), .val (.int (1 : Int32)), .val (.int (1 : Int32)), .unset, .unset, .unset, .unset, .unset] [])) _
          refine XS.lloadN X2.here hx rfl (hb hby at_63) rfl ?_
          show Steps p.tables e below (T2.setTop (mkF m 64 #[.val (.long q1), .second, .val (.long q2), .second, .val (.int p1), .val (.int p2), .val (.int p3), .val (.int p4), .val (.ref b1), .val (.int (own_bun p3)), .val (.int (0 : Int32)), .val (.int (1 : Int32)), .val (.int (1 : Int32)), .unset, .unset, .unset, .unset, .unset] [(.long q2)])) _
          refine XS.goto X2.here hx rfl (pc0 := 64) (pc' := 70) rfl (hb hby at_64) (by decide) (by decide) ?_
          show Steps p.tables e below (T2.setTop (mkF m 70 #[.val (.long q1), .second, .val (.long q2), .second, .val (.int p1), .val (.int p2), .val (.int p3), .val (.int p4), .val (.ref b1), .val (.int (own_bun p3)), .val (.int (0 : Int32)), .val (.int (1 : Int32)), .val (.int (1 : Int32)), .unset, .unset, .unset, .unset, .unset] [(.long q2)])) _
          refine XS.lstore X2.here hx rfl (hb hby at_70) rfl (l' := #[.val (.long q1), .second, .val (.long q2), .second, .val (.int p1), .val (.int p2), .val (.int p3), .val (.int p4), .val (.ref b1), .val (.int (own_bun p3)), .val (.int (0 : Int32)), .val (.int (1 : Int32)), .val (.int (1 : Int32)), .val (.long q2), .second, .unset, .unset, .unset]) rfl ?_
          show Steps p.tables e below (T2.setTop (mkF m 72 #[.val (.long q1), .second, .val (.long q2), .second, .val (.int p1), .val (.int p2), .val (.int p3), .val (.int p4), .val (.ref b1), .val (.int (own_bun p3)), .val (.int (0 : Int32)), .val (.int (1 : Int32)), .val (.int (1 : Int32)), .val (.long q2), .second, .unset, .unset, .unset] [])) _
          refine XS.aload X2.here hx rfl (hb hby at_72) rfl rfl ?_
          show Steps p.tables e below (T2.setTop (mkF m 74 #[.val (.long q1), .second, .val (.long q2), .second, .val (.int p1), .val (.int p2), .val (.int p3), .val (.int p4), .val (.ref b1), .val (.int (own_bun p3)), .val (.int (0 : Int32)), .val (.int (1 : Int32)), .val (.int (1 : Int32)), .val (.long q2), .second, .unset, .unset, .unset] [(.ref b1)])) _
          refine XS.lloadN X2.here hx rfl (hb hby at_74) rfl ?_
          show Steps p.tables e below (T2.setTop (mkF m 75 #[.val (.long q1), .second, .val (.long q2), .second, .val (.int p1), .val (.int p2), .val (.int p3), .val (.int p4), .val (.ref b1), .val (.int (own_bun p3)), .val (.int (0 : Int32)), .val (.int (1 : Int32)), .val (.int (1 : Int32)), .val (.long q2), .second, .unset, .unset, .unset] [(.long q1), (.ref b1)])) _
          refine XS.lloadN X2.here hx rfl (hb hby at_75) rfl ?_
          show Steps p.tables e below (T2.setTop (mkF m 76 #[.val (.long q1), .second, .val (.long q2), .second, .val (.int p1), .val (.int p2), .val (.int p3), .val (.int p4), .val (.ref b1), .val (.int (own_bun p3)), .val (.int (0 : Int32)), .val (.int (1 : Int32)), .val (.int (1 : Int32)), .val (.long q2), .second, .unset, .unset, .unset] [(.long q2), (.long q1), (.ref b1)])) _
          refine XS.iload X2.here hx rfl (hb hby at_76) rfl ?_
          show Steps p.tables e below (T2.setTop (mkF m 78 #[.val (.long q1), .second, .val (.long q2), .second, .val (.int p1), .val (.int p2), .val (.int p3), .val (.int p4), .val (.ref b1), .val (.int (own_bun p3)), .val (.int (0 : Int32)), .val (.int (1 : Int32)), .val (.int (1 : Int32)), .val (.long q2), .second, .unset, .unset, .unset] [(.int p1), (.long q2), (.long q1), (.ref b1)])) _
          refine XS.iload X2.here hx rfl (hb hby at_78) rfl ?_
          show Steps p.tables e below (T2.setTop (mkF m 80 #[.val (.long q1), .second, .val (.long q2), .second, .val (.int p1), .val (.int p2), .val (.int p3), .val (.int p4), .val (.ref b1), .val (.int (own_bun p3)), .val (.int (0 : Int32)), .val (.int (1 : Int32)), .val (.int (1 : Int32)), .val (.long q2), .second, .unset, .unset, .unset] [(.int (own_bun p3)), (.int p1), (.long q2), (.long q1), (.ref b1)])) _
          refine XS.iload X2.here hx rfl (hb hby at_80) rfl ?_
          show Steps p.tables e below (T2.setTop (mkF m 82 #[.val (.long q1), .second, .val (.long q2), .second, .val (.int p1), .val (.int p2), .val (.int p3), .val (.int p4), .val (.ref b1), .val (.int (own_bun p3)), .val (.int (0 : Int32)), .val (.int (1 : Int32)), .val (.int (1 : Int32)), .val (.long q2), .second, .unset, .unset, .unset] [(.int (0 : Int32)), (.int (own_bun p3)), (.int p1), (.long q2), (.long q1), (.ref b1)])) _
          refine st23 _ ?_
          show Steps p.tables e below (T23.setTop (mkF m 85 #[.val (.long q1), .second, .val (.long q2), .second, .val (.int p1), .val (.int p2), .val (.int p3), .val (.int p4), .val (.ref b1), .val (.int (own_bun p3)), .val (.int (0 : Int32)), .val (.int (1 : Int32)), .val (.int (1 : Int32)), .val (.long q2), .second, .unset, .unset, .unset] [])) _
          refine XS.aload X23.here hx rfl (hb hby at_85) rfl rfl ?_
          show Steps p.tables e below (T23.setTop (mkF m 87 #[.val (.long q1), .second, .val (.long q2), .second, .val (.int p1), .val (.int p2), .val (.int p3), .val (.int p4), .val (.ref b1), .val (.int (own_bun p3)), .val (.int (0 : Int32)), .val (.int (1 : Int32)), .val (.int (1 : Int32)), .val (.long q2), .second, .unset, .unset, .unset] [(.ref b1)])) _
          refine XS.lloadN X23.here hx rfl (hb hby at_87) rfl ?_
          show Steps p.tables e below (T23.setTop (mkF m 88 #[.val (.long q1), .second, .val (.long q2), .second, .val (.int p1), .val (.int p2), .val (.int p3), .val (.int p4), .val (.ref b1), .val (.int (own_bun p3)), .val (.int (0 : Int32)), .val (.int (1 : Int32)), .val (.int (1 : Int32)), .val (.long q2), .second, .unset, .unset, .unset] [(.long q1), (.ref b1)])) _
          refine XS.lload X23.here hx rfl (hb hby at_88) rfl ?_
          show Steps p.tables e below (T23.setTop (mkF m 90 #[.val (.long q1), .second, .val (.long q2), .second, .val (.int p1), .val (.int p2), .val (.int p3), .val (.int p4), .val (.ref b1), .val (.int (own_bun p3)), .val (.int (0 : Int32)), .val (.int (1 : Int32)), .val (.int (1 : Int32)), .val (.long q2), .second, .unset, .unset, .unset] [(.long q2), (.long q1), (.ref b1)])) _
          refine XS.iload X23.here hx rfl (hb hby at_90) rfl ?_
          show Steps p.tables e below (T23.setTop (mkF m 92 #[.val (.long q1), .second, .val (.long q2), .second, .val (.int p1), .val (.int p2), .val (.int p3), .val (.int p4), .val (.ref b1), .val (.int (own_bun p3)), .val (.int (0 : Int32)), .val (.int (1 : Int32)), .val (.int (1 : Int32)), .val (.long q2), .second, .unset, .unset, .unset] [(.int p2), (.long q2), (.long q1), (.ref b1)])) _
          refine XS.iload X23.here hx rfl (hb hby at_92) rfl ?_
          show Steps p.tables e below (T23.setTop (mkF m 94 #[.val (.long q1), .second, .val (.long q2), .second, .val (.int p1), .val (.int p2), .val (.int p3), .val (.int p4), .val (.ref b1), .val (.int (own_bun p3)), .val (.int (0 : Int32)), .val (.int (1 : Int32)), .val (.int (1 : Int32)), .val (.long q2), .second, .unset, .unset, .unset] [(.int (own_bun p3)), (.int p2), (.long q2), (.long q1), (.ref b1)])) _
          refine XS.iload X23.here hx rfl (hb hby at_94) rfl ?_
          show Steps p.tables e below (T23.setTop (mkF m 96 #[.val (.long q1), .second, .val (.long q2), .second, .val (.int p1), .val (.int p2), .val (.int p3), .val (.int p4), .val (.ref b1), .val (.int (own_bun p3)), .val (.int (0 : Int32)), .val (.int (1 : Int32)), .val (.int (1 : Int32)), .val (.long q2), .second, .unset, .unset, .unset] [(.int (1 : Int32)), (.int (own_bun p3)), (.int p2), (.long q2), (.long q1), (.ref b1)])) _
          refine st24 _ ?_
          show Steps p.tables e below (T24.setTop (mkF m 99 #[.val (.long q1), .second, .val (.long q2), .second, .val (.int p1), .val (.int p2), .val (.int p3), .val (.int p4), .val (.ref b1), .val (.int (own_bun p3)), .val (.int (0 : Int32)), .val (.int (1 : Int32)), .val (.int (1 : Int32)), .val (.long q2), .second, .unset, .unset, .unset] [])) _
          refine XS.aload X24.here hx rfl (hb hby at_99) rfl rfl ?_
          show Steps p.tables e below (T24.setTop (mkF m 101 #[.val (.long q1), .second, .val (.long q2), .second, .val (.int p1), .val (.int p2), .val (.int p3), .val (.int p4), .val (.ref b1), .val (.int (own_bun p3)), .val (.int (0 : Int32)), .val (.int (1 : Int32)), .val (.int (1 : Int32)), .val (.long q2), .second, .unset, .unset, .unset] [(.ref b1)])) _
          refine XS.lloadN X24.here hx rfl (hb hby at_101) rfl ?_
          show Steps p.tables e below (T24.setTop (mkF m 102 #[.val (.long q1), .second, .val (.long q2), .second, .val (.int p1), .val (.int p2), .val (.int p3), .val (.int p4), .val (.ref b1), .val (.int (own_bun p3)), .val (.int (0 : Int32)), .val (.int (1 : Int32)), .val (.int (1 : Int32)), .val (.long q2), .second, .unset, .unset, .unset] [(.long q1), (.ref b1)])) _
          refine XS.lloadN X24.here hx rfl (hb hby at_102) rfl ?_
          show Steps p.tables e below (T24.setTop (mkF m 103 #[.val (.long q1), .second, .val (.long q2), .second, .val (.int p1), .val (.int p2), .val (.int p3), .val (.int p4), .val (.ref b1), .val (.int (own_bun p3)), .val (.int (0 : Int32)), .val (.int (1 : Int32)), .val (.int (1 : Int32)), .val (.long q2), .second, .unset, .unset, .unset] [(.long q2), (.long q1), (.ref b1)])) _
          refine st25.trans ?_
          show Steps p.tables e below (T25.setTop (mkF m 106 #[.val (.long q1), .second, .val (.long q2), .second, .val (.int p1), .val (.int p2), .val (.int p3), .val (.int p4), .val (.ref b1), .val (.int (own_bun p3)), .val (.int (0 : Int32)), .val (.int (1 : Int32)), .val (.int (1 : Int32)), .val (.long q2), .second, .unset, .unset, .unset] [(.int (own_find (own_put (own_put (fun _ => (0 : Int64)) q1 q2 (own_out p1 (own_bun p3) (0 : Int32))) q1 q2 (own_out p2 (own_bun p3) (1 : Int32))) q1 q2))])) _
          refine XS.istore X25.here hx rfl (hb hby at_106) rfl (l' := #[.val (.long q1), .second, .val (.long q2), .second, .val (.int p1), .val (.int p2), .val (.int p3), .val (.int p4), .val (.ref b1), .val (.int (own_bun p3)), .val (.int (0 : Int32)), .val (.int (1 : Int32)), .val (.int (1 : Int32)), .val (.long q2), .second, .val (.int (own_find (own_put (own_put (fun _ => (0 : Int64)) q1 q2 (own_out p1 (own_bun p3) (0 : Int32))) q1 q2 (own_out p2 (own_bun p3) (1 : Int32))) q1 q2)), .unset, .unset]) rfl ?_
          show Steps p.tables e below (T25.setTop (mkF m 108 #[.val (.long q1), .second, .val (.long q2), .second, .val (.int p1), .val (.int p2), .val (.int p3), .val (.int p4), .val (.ref b1), .val (.int (own_bun p3)), .val (.int (0 : Int32)), .val (.int (1 : Int32)), .val (.int (1 : Int32)), .val (.long q2), .second, .val (.int (own_find (own_put (own_put (fun _ => (0 : Int64)) q1 q2 (own_out p1 (own_bun p3) (0 : Int32))) q1 q2 (own_out p2 (own_bun p3) (1 : Int32))) q1 q2)), .unset, .unset] [])) _
          refine XS.iload X25.here hx rfl (hb hby at_108) rfl ?_
          show Steps p.tables e below (T25.setTop (mkF m 110 #[.val (.long q1), .second, .val (.long q2), .second, .val (.int p1), .val (.int p2), .val (.int p3), .val (.int p4), .val (.ref b1), .val (.int (own_bun p3)), .val (.int (0 : Int32)), .val (.int (1 : Int32)), .val (.int (1 : Int32)), .val (.long q2), .second, .val (.int (own_find (own_put (own_put (fun _ => (0 : Int64)) q1 q2 (own_out p1 (own_bun p3) (0 : Int32))) q1 q2 (own_out p2 (own_bun p3) (1 : Int32))) q1 q2)), .unset, .unset] [(.int (own_find (own_put (own_put (fun _ => (0 : Int64)) q1 q2 (own_out p1 (own_bun p3) (0 : Int32))) q1 q2 (own_out p2 (own_bun p3) (1 : Int32))) q1 q2))])) _
          refine XS.ifYes X25.here hx rfl (pc0 := 110) (pc' := 115) rfl (hb hby at_110) rfl ((if0 _ _).trans (flt (own_ge (own_sb _ _) (own_same_f2 (own_out_nz _ _ _) (own_out_nz _ _ _)))).2.1) (by decide) (by decide) ?_
          show Steps p.tables e below (T25.setTop (mkF m 115 #[.val (.long q1), .second, .val (.long q2), .second, .val (.int p1), .val (.int p2), .val (.int p3), .val (.int p4), .val (.ref b1), .val (.int (own_bun p3)), .val (.int (0 : Int32)), .val (.int (1 : Int32)), .val (.int (1 : Int32)), .val (.long q2), .second, .val (.int (own_find (own_put (own_put (fun _ => (0 : Int64)) q1 q2 (own_out p1 (own_bun p3) (0 : Int32))) q1 q2 (own_out p2 (own_bun p3) (1 : Int32))) q1 q2)), .unset, .unset] [])) _
          refine XS.iload X25.here hx rfl (hb hby at_115) rfl ?_
          show Steps p.tables e below (T25.setTop (mkF m 117 #[.val (.long q1), .second, .val (.long q2), .second, .val (.int p1), .val (.int p2), .val (.int p3), .val (.int p4), .val (.ref b1), .val (.int (own_bun p3)), .val (.int (0 : Int32)), .val (.int (1 : Int32)), .val (.int (1 : Int32)), .val (.long q2), .second, .val (.int (own_find (own_put (own_put (fun _ => (0 : Int64)) q1 q2 (own_out p1 (own_bun p3) (0 : Int32))) q1 q2 (own_out p2 (own_bun p3) (1 : Int32))) q1 q2)), .unset, .unset] [(.int (1 : Int32))])) _
          refine XS.ifNo X25.here hx rfl (hb hby at_117) rfl ((if0 _ _).trans (feq (by decide : ¬ ((1 : Int32) = (0 : Int32)))).1) ?_
          show Steps p.tables e below (T25.setTop (mkF m 120 #[.val (.long q1), .second, .val (.long q2), .second, .val (.int p1), .val (.int p2), .val (.int p3), .val (.int p4), .val (.ref b1), .val (.int (own_bun p3)), .val (.int (0 : Int32)), .val (.int (1 : Int32)), .val (.int (1 : Int32)), .val (.long q2), .second, .val (.int (own_find (own_put (own_put (fun _ => (0 : Int64)) q1 q2 (own_out p1 (own_bun p3) (0 : Int32))) q1 q2 (own_out p2 (own_bun p3) (1 : Int32))) q1 q2)), .unset, .unset] [])) _
          refine XS.iload X25.here hx rfl (hb hby at_120) rfl ?_
          show Steps p.tables e below (T25.setTop (mkF m 122 #[.val (.long q1), .second, .val (.long q2), .second, .val (.int p1), .val (.int p2), .val (.int p3), .val (.int p4), .val (.ref b1), .val (.int (own_bun p3)), .val (.int (0 : Int32)), .val (.int (1 : Int32)), .val (.int (1 : Int32)), .val (.long q2), .second, .val (.int (own_find (own_put (own_put (fun _ => (0 : Int64)) q1 q2 (own_out p1 (own_bun p3) (0 : Int32))) q1 q2 (own_out p2 (own_bun p3) (1 : Int32))) q1 q2)), .unset, .unset] [(.int p2)])) _
          refine XS.goto X25.here hx rfl (pc0 := 122) (pc' := 127) rfl (hb hby at_122) (by decide) (by decide) ?_
          show Steps p.tables e below (T25.setTop (mkF m 127 #[.val (.long q1), .second, .val (.long q2), .second, .val (.int p1), .val (.int p2), .val (.int p3), .val (.int p4), .val (.ref b1), .val (.int (own_bun p3)), .val (.int (0 : Int32)), .val (.int (1 : Int32)), .val (.int (1 : Int32)), .val (.long q2), .second, .val (.int (own_find (own_put (own_put (fun _ => (0 : Int64)) q1 q2 (own_out p1 (own_bun p3) (0 : Int32))) q1 q2 (own_out p2 (own_bun p3) (1 : Int32))) q1 q2)), .unset, .unset] [(.int p2)])) _
          refine XS.istore X25.here hx rfl (hb hby at_127) rfl (l' := #[.val (.long q1), .second, .val (.long q2), .second, .val (.int p1), .val (.int p2), .val (.int p3), .val (.int p4), .val (.ref b1), .val (.int (own_bun p3)), .val (.int (0 : Int32)), .val (.int (1 : Int32)), .val (.int (1 : Int32)), .val (.long q2), .second, .val (.int (own_find (own_put (own_put (fun _ => (0 : Int64)) q1 q2 (own_out p1 (own_bun p3) (0 : Int32))) q1 q2 (own_out p2 (own_bun p3) (1 : Int32))) q1 q2)), .val (.int p2), .unset]) rfl ?_
          show Steps p.tables e below (T25.setTop (mkF m 129 #[.val (.long q1), .second, .val (.long q2), .second, .val (.int p1), .val (.int p2), .val (.int p3), .val (.int p4), .val (.ref b1), .val (.int (own_bun p3)), .val (.int (0 : Int32)), .val (.int (1 : Int32)), .val (.int (1 : Int32)), .val (.long q2), .second, .val (.int (own_find (own_put (own_put (fun _ => (0 : Int64)) q1 q2 (own_out p1 (own_bun p3) (0 : Int32))) q1 q2 (own_out p2 (own_bun p3) (1 : Int32))) q1 q2)), .val (.int p2), .unset] [])) _
          refine XS.aload X25.here hx rfl (hb hby at_129) rfl rfl ?_
          show Steps p.tables e below (T25.setTop (mkF m 131 #[.val (.long q1), .second, .val (.long q2), .second, .val (.int p1), .val (.int p2), .val (.int p3), .val (.int p4), .val (.ref b1), .val (.int (own_bun p3)), .val (.int (0 : Int32)), .val (.int (1 : Int32)), .val (.int (1 : Int32)), .val (.long q2), .second, .val (.int (own_find (own_put (own_put (fun _ => (0 : Int64)) q1 q2 (own_out p1 (own_bun p3) (0 : Int32))) q1 q2 (own_out p2 (own_bun p3) (1 : Int32))) q1 q2)), .val (.int p2), .unset] [(.ref b1)])) _
          refine XS.iload X25.here hx rfl (hb hby at_131) rfl ?_
          show Steps p.tables e below (T25.setTop (mkF m 133 #[.val (.long q1), .second, .val (.long q2), .second, .val (.int p1), .val (.int p2), .val (.int p3), .val (.int p4), .val (.ref b1), .val (.int (own_bun p3)), .val (.int (0 : Int32)), .val (.int (1 : Int32)), .val (.int (1 : Int32)), .val (.long q2), .second, .val (.int (own_find (own_put (own_put (fun _ => (0 : Int64)) q1 q2 (own_out p1 (own_bun p3) (0 : Int32))) q1 q2 (own_out p2 (own_bun p3) (1 : Int32))) q1 q2)), .val (.int p2), .unset] [(.int (own_find (own_put (own_put (fun _ => (0 : Int64)) q1 q2 (own_out p1 (own_bun p3) (0 : Int32))) q1 q2 (own_out p2 (own_bun p3) (1 : Int32))) q1 q2)), (.ref b1)])) _
          refine st26.trans ?_
          show Steps p.tables e below (T26.setTop (mkF m 136 #[.val (.long q1), .second, .val (.long q2), .second, .val (.int p1), .val (.int p2), .val (.int p3), .val (.int p4), .val (.ref b1), .val (.int (own_bun p3)), .val (.int (0 : Int32)), .val (.int (1 : Int32)), .val (.int (1 : Int32)), .val (.long q2), .second, .val (.int (own_find (own_put (own_put (fun _ => (0 : Int64)) q1 q2 (own_out p1 (own_bun p3) (0 : Int32))) q1 q2 (own_out p2 (own_bun p3) (1 : Int32))) q1 q2)), .val (.int p2), .unset] [(.int (((own_put (own_put (fun _ => (0 : Int64)) q1 q2 (own_out p1 (own_bun p3) (0 : Int32))) q1 q2 (own_out p2 (own_bun p3) (1 : Int32))) ((own_find (own_put (own_put (fun _ => (0 : Int64)) q1 q2 (own_out p1 (own_bun p3) (0 : Int32))) q1 q2 (own_out p2 (own_bun p3) (1 : Int32))) q1 q2) + (2 : Int32))) >>> ((32 : Int32) &&& 0x3f).toInt64).toInt32)])) _
          refine XS.iload X26.here hx rfl (hb hby at_136) rfl ?_
          show Steps p.tables e below (T26.setTop (mkF m 138 #[.val (.long q1), .second, .val (.long q2), .second, .val (.int p1), .val (.int p2), .val (.int p3), .val (.int p4), .val (.ref b1), .val (.int (own_bun p3)), .val (.int (0 : Int32)), .val (.int (1 : Int32)), .val (.int (1 : Int32)), .val (.long q2), .second, .val (.int (own_find (own_put (own_put (fun _ => (0 : Int64)) q1 q2 (own_out p1 (own_bun p3) (0 : Int32))) q1 q2 (own_out p2 (own_bun p3) (1 : Int32))) q1 q2)), .val (.int p2), .unset] [(.int p2), (.int (((own_put (own_put (fun _ => (0 : Int64)) q1 q2 (own_out p1 (own_bun p3) (0 : Int32))) q1 q2 (own_out p2 (own_bun p3) (1 : Int32))) ((own_find (own_put (own_put (fun _ => (0 : Int64)) q1 q2 (own_out p1 (own_bun p3) (0 : Int32))) q1 q2 (own_out p2 (own_bun p3) (1 : Int32))) q1 q2) + (2 : Int32))) >>> ((32 : Int32) &&& 0x3f).toInt64).toInt32)])) _
          refine XS.icmpYes X26.here hx rfl (pc0 := 138) (pc' := 143) rfl (hb hby at_138) rfl (teq (own_valeq (own_same_f2 (own_out_nz _ _ _) (own_out_nz _ _ _)) (own_same_v (own_out_nz _ _ _)).2.2 (own_out_v _ _ _))).1 (by decide) (by decide) ?_
          show Steps p.tables e below (T26.setTop (mkF m 143 #[.val (.long q1), .second, .val (.long q2), .second, .val (.int p1), .val (.int p2), .val (.int p3), .val (.int p4), .val (.ref b1), .val (.int (own_bun p3)), .val (.int (0 : Int32)), .val (.int (1 : Int32)), .val (.int (1 : Int32)), .val (.long q2), .second, .val (.int (own_find (own_put (own_put (fun _ => (0 : Int64)) q1 q2 (own_out p1 (own_bun p3) (0 : Int32))) q1 q2 (own_out p2 (own_bun p3) (1 : Int32))) q1 q2)), .val (.int p2), .unset] [])) _
          refine XS.iload X26.here hx rfl (hb hby at_143) rfl ?_
          show Steps p.tables e below (T26.setTop (mkF m 145 #[.val (.long q1), .second, .val (.long q2), .second, .val (.int p1), .val (.int p2), .val (.int p3), .val (.int p4), .val (.ref b1), .val (.int (own_bun p3)), .val (.int (0 : Int32)), .val (.int (1 : Int32)), .val (.int (1 : Int32)), .val (.long q2), .second, .val (.int (own_find (own_put (own_put (fun _ => (0 : Int64)) q1 q2 (own_out p1 (own_bun p3) (0 : Int32))) q1 q2 (own_out p2 (own_bun p3) (1 : Int32))) q1 q2)), .val (.int p2), .unset] [(.int (1 : Int32))])) _
          refine XS.ifYes X26.here hx rfl (pc0 := 145) (pc' := 179) rfl (hb hby at_145) rfl ((if0 _ _).trans (feq (by decide : ¬ ((1 : Int32) = (0 : Int32)))).2) (by decide) (by decide) ?_
          show Steps p.tables e below (T26.setTop (mkF m 179 #[.val (.long q1), .second, .val (.long q2), .second, .val (.int p1), .val (.int p2), .val (.int p3), .val (.int p4), .val (.ref b1), .val (.int (own_bun p3)), .val (.int (0 : Int32)), .val (.int (1 : Int32)), .val (.int (1 : Int32)), .val (.long q2), .second, .val (.int (own_find (own_put (own_put (fun _ => (0 : Int64)) q1 q2 (own_out p1 (own_bun p3) (0 : Int32))) q1 q2 (own_out p2 (own_bun p3) (1 : Int32))) q1 q2)), .val (.int p2), .unset] [])) _
          refine XS.iconst X26.here hx rfl (hb hby at_179) ?_
          show Steps p.tables e below (T26.setTop (mkF m 180 #[.val (.long q1), .second, .val (.long q2), .second, .val (.int p1), .val (.int p2), .val (.int p3), .val (.int p4), .val (.ref b1), .val (.int (own_bun p3)), .val (.int (0 : Int32)), .val (.int (1 : Int32)), .val (.int (1 : Int32)), .val (.long q2), .second, .val (.int (own_find (own_put (own_put (fun _ => (0 : Int64)) q1 q2 (own_out p1 (own_bun p3) (0 : Int32))) q1 q2 (own_out p2 (own_bun p3) (1 : Int32))) q1 q2)), .val (.int p2), .unset] [(.int (1 : Int32))])) _
          exact retN X26 hx (t := .boolean) Bd.returns (by simp) (hb hby at_180) hr
        · show Q_rm_law Z q1 q2 p1 p2 p3 p4 h0 n0 _ T26.heap _
          rw [e26]
          exact ⟨rfl, N26, trivial⟩
  · have k27 : ∀ target, Steps p.tables e below (T2.setTop (mkF m 34 #[.val (.long q1), .second, .val (.long q2), .second, .val (.int p1), .val (.int p2), .val (.int p3), .val (.int p4), .val (.ref b1), .val (.int (own_bun p3)), .val (.int (1 : Int32)), .unset, .unset, .unset, .unset, .unset, .unset, .unset] [(.int (p4 &&& (2 : Int32)))])) target → Steps p.tables e below (s₁.setTop (mkF m 0 #[.val (.long q1), .second, .val (.long q2), .second, .val (.int p1), .val (.int p2), .val (.int p3), .val (.int p4), .unset, .unset, .unset, .unset, .unset, .unset, .unset, .unset, .unset, .unset] [])) target := by
      intro target kt
      refine k3 _ ?_
      show Steps p.tables e below (T2.setTop (mkF m 20 #[.val (.long q1), .second, .val (.long q2), .second, .val (.int p1), .val (.int p2), .val (.int p3), .val (.int p4), .val (.ref b1), .val (.int (own_bun p3)), .unset, .unset, .unset, .unset, .unset, .unset, .unset, .unset] [(.int (p4 &&& (1 : Int32)))])) _
      refine XS.ifNo X2.here hx rfl (hb hby at_20) rfl ((if0 _ _).trans (feq hc20).1) ?_
      show Steps p.tables e below (T2.setTop (mkF m 23 #[.val (.long q1), .second, .val (.long q2), .second, .val (.int p1), .val (.int p2), .val (.int p3), .val (.int p4), .val (.ref b1), .val (.int (own_bun p3)), .unset, .unset, .unset, .unset, .unset, .unset, .unset, .unset] [])) _
      refine XS.iconst X2.here hx rfl (hb hby at_23) ?_
      show Steps p.tables e below (T2.setTop (mkF m 24 #[.val (.long q1), .second, .val (.long q2), .second, .val (.int p1), .val (.int p2), .val (.int p3), .val (.int p4), .val (.ref b1), .val (.int (own_bun p3)), .unset, .unset, .unset, .unset, .unset, .unset, .unset, .unset] [(.int (1 : Int32))])) _
      refine XS.goto X2.here hx rfl (pc0 := 24) (pc' := 28) rfl (hb hby at_24) (by decide) (by decide) ?_
      show Steps p.tables e below (T2.setTop (mkF m 28 #[.val (.long q1), .second, .val (.long q2), .second, .val (.int p1), .val (.int p2), .val (.int p3), .val (.int p4), .val (.ref b1), .val (.int (own_bun p3)), .unset, .unset, .unset, .unset, .unset, .unset, .unset, .unset] [(.int (1 : Int32))])) _
      refine XS.istore X2.here hx rfl (hb hby at_28) rfl (l' := #[.val (.long q1), .second, .val (.long q2), .second, .val (.int p1), .val (.int p2), .val (.int p3), .val (.int p4), .val (.ref b1), .val (.int (own_bun p3)), .val (.int (1 : Int32)), .unset, .unset, .unset, .unset, .unset, .unset, .unset]) rfl ?_
      show Steps p.tables e below (T2.setTop (mkF m 30 #[.val (.long q1), .second, .val (.long q2), .second, .val (.int p1), .val (.int p2), .val (.int p3), .val (.int p4), .val (.ref b1), .val (.int (own_bun p3)), .val (.int (1 : Int32)), .unset, .unset, .unset, .unset, .unset, .unset, .unset] [])) _
      refine XS.iload X2.here hx rfl (hb hby at_30) rfl ?_
      show Steps p.tables e below (T2.setTop (mkF m 32 #[.val (.long q1), .second, .val (.long q2), .second, .val (.int p1), .val (.int p2), .val (.int p3), .val (.int p4), .val (.ref b1), .val (.int (own_bun p3)), .val (.int (1 : Int32)), .unset, .unset, .unset, .unset, .unset, .unset, .unset] [(.int p4)])) _
      refine XS.iconst X2.here hx rfl (hb hby at_32) ?_
      show Steps p.tables e below (T2.setTop (mkF m 33 #[.val (.long q1), .second, .val (.long q2), .second, .val (.int p1), .val (.int p2), .val (.int p3), .val (.int p4), .val (.ref b1), .val (.int (own_bun p3)), .val (.int (1 : Int32)), .unset, .unset, .unset, .unset, .unset, .unset, .unset] [(.int (2 : Int32)), (.int p4)])) _
      refine XS.iand X2.here hx rfl (hb hby at_33) rfl ?_
      exact kt
    by_cases hc34 : (p4 &&& (2 : Int32)) = (0 : Int32)
    · have k28 : ∀ target, Steps p.tables e below (T2.setTop (mkF m 48 #[.val (.long q1), .second, .val (.long q2), .second, .val (.int p1), .val (.int p2), .val (.int p3), .val (.int p4), .val (.ref b1), .val (.int (own_bun p3)), .val (.int (1 : Int32)), .val (.int (0 : Int32)), .unset, .unset, .unset, .unset, .unset, .unset] [(.int (p4 &&& (4 : Int32)))])) target → Steps p.tables e below (s₁.setTop (mkF m 0 #[.val (.long q1), .second, .val (.long q2), .second, .val (.int p1), .val (.int p2), .val (.int p3), .val (.int p4), .unset, .unset, .unset, .unset, .unset, .unset, .unset, .unset, .unset, .unset] [])) target := by
        intro target kt
        refine k27 _ ?_
        show Steps p.tables e below (T2.setTop (mkF m 34 #[.val (.long q1), .second, .val (.long q2), .second, .val (.int p1), .val (.int p2), .val (.int p3), .val (.int p4), .val (.ref b1), .val (.int (own_bun p3)), .val (.int (1 : Int32)), .unset, .unset, .unset, .unset, .unset, .unset, .unset] [(.int (p4 &&& (2 : Int32)))])) _
        refine XS.ifYes X2.here hx rfl (pc0 := 34) (pc' := 41) rfl (hb hby at_34) rfl ((if0 _ _).trans (teq hc34).1) (by decide) (by decide) ?_
        show Steps p.tables e below (T2.setTop (mkF m 41 #[.val (.long q1), .second, .val (.long q2), .second, .val (.int p1), .val (.int p2), .val (.int p3), .val (.int p4), .val (.ref b1), .val (.int (own_bun p3)), .val (.int (1 : Int32)), .unset, .unset, .unset, .unset, .unset, .unset, .unset] [])) _
        refine XS.iconst X2.here hx rfl (hb hby at_41) ?_
        show Steps p.tables e below (T2.setTop (mkF m 42 #[.val (.long q1), .second, .val (.long q2), .second, .val (.int p1), .val (.int p2), .val (.int p3), .val (.int p4), .val (.ref b1), .val (.int (own_bun p3)), .val (.int (1 : Int32)), .unset, .unset, .unset, .unset, .unset, .unset, .unset] [(.int (0 : Int32))])) _
        refine XS.istore X2.here hx rfl (hb hby at_42) rfl (l' := #[.val (.long q1), .second, .val (.long q2), .second, .val (.int p1), .val (.int p2), .val (.int p3), .val (.int p4), .val (.ref b1), .val (.int (own_bun p3)), .val (.int (1 : Int32)), .val (.int (0 : Int32)), .unset, .unset, .unset, .unset, .unset, .unset]) rfl ?_
        show Steps p.tables e below (T2.setTop (mkF m 44 #[.val (.long q1), .second, .val (.long q2), .second, .val (.int p1), .val (.int p2), .val (.int p3), .val (.int p4), .val (.ref b1), .val (.int (own_bun p3)), .val (.int (1 : Int32)), .val (.int (0 : Int32)), .unset, .unset, .unset, .unset, .unset, .unset] [])) _
        refine XS.iload X2.here hx rfl (hb hby at_44) rfl ?_
        show Steps p.tables e below (T2.setTop (mkF m 46 #[.val (.long q1), .second, .val (.long q2), .second, .val (.int p1), .val (.int p2), .val (.int p3), .val (.int p4), .val (.ref b1), .val (.int (own_bun p3)), .val (.int (1 : Int32)), .val (.int (0 : Int32)), .unset, .unset, .unset, .unset, .unset, .unset] [(.int p4)])) _
        refine XS.iconst X2.here hx rfl (hb hby at_46) ?_
        show Steps p.tables e below (T2.setTop (mkF m 47 #[.val (.long q1), .second, .val (.long q2), .second, .val (.int p1), .val (.int p2), .val (.int p3), .val (.int p4), .val (.ref b1), .val (.int (own_bun p3)), .val (.int (1 : Int32)), .val (.int (0 : Int32)), .unset, .unset, .unset, .unset, .unset, .unset] [(.int (4 : Int32)), (.int p4)])) _
        refine XS.iand X2.here hx rfl (hb hby at_47) rfl ?_
        exact kt
      by_cases hc48 : (p4 &&& (4 : Int32)) = (0 : Int32)
      · obtain ⟨_, _, ⟨T29, L29, k29, n29⟩, -, X29, ⟨Lc29, hQ29, l29, y29, z29⟩, st29⟩ := Jvm.LawKit.callS X2 hx (y := (⟨"com/example/outcry/outcry/allocation/MemoValuePinLaw", "store", "(Lcom/example/outcry/outcry/allocation/Memo;JJIIZ)V"⟩ : MethodName)) hown (mvT hZ (hw _ (List.mem_of_getElem? (i := 13) rfl))) (mvT hZ (hw _ (List.mem_of_getElem? (i := 14) rfl))) (mvT hZ (hw _ (List.mem_of_getElem? (i := 15) rfl))) (mvT hZ (hw _ (List.mem_of_getElem? (i := 16) rfl))) (by decide) (backOf (W := 0) (rm_store l Z a0 hw [] b1 q1 q2 p1 (own_bun p3) (1 : Int32) tb (fun _ => (0 : Int64)) (0 : Int32) T2.heap n0 Z2 Ftb Vtb A1_2 g_b1 gtb ne_ob_tb x2c1 (own_ok_0 _ _) (fun _ => own_ok2_0 _ _) (by decide)) hZ (hw _ (List.mem_of_getElem? (i := 16) rfl)) (hw _ (List.mem_of_getElem? (i := 15) rfl)) (by decide) (by decide)) (g := (mkF m 82 #[.val (.long q1), .second, .val (.long q2), .second, .val (.int p1), .val (.int p2), .val (.int p3), .val (.int p4), .val (.ref b1), .val (.int (own_bun p3)), .val (.int (1 : Int32)), .val (.int (0 : Int32)), .val (.int (0 : Int32)), .val (.long (q2 + (1 : Int64))), .second, .unset, .unset, .unset] [(.int (1 : Int32)), (.int (own_bun p3)), (.int p1), (.long q2), (.long q1), (.ref b1)])) rfl (by rw [hml]; rfl) (argsL := [(.ref b1), (.long q1), (.long q2), (.int p1), (.int (own_bun p3)), (.int (1 : Int32))]) (rest := []) (lenOf pd_6 rfl) rfl (by show 2 * 0 + _ ≤ _; exact Nat.le_of_eq rfl) (hb hby at_82) (fun _ _ => ⟨rfl, rfl, (by decide : 2 + 0 ≤ _), (by decide : 3074 + 0 ≤ _)⟩)
        dsimp only [Pt.U, Pt.locs, Pt.cells, Pt.slots] at X29 l29 y29 z29 st29 hQ29
        subst l29 y29 z29
        obtain ⟨rfl, N29q, x29c0, x29c1, x29c2, x29c3⟩ := hQ29
        have N29 := Fr.app N2 N29q
        have A1_29 : Exa Z T29.heap b1 "com/example/outcry/outcry/allocation/Memo" := A1_2.keep x29c0
        have Z29 : n0 ≤ T29.heap.size := Nat.le_trans Z2 x29c0.1
        obtain ⟨_, _, ⟨T30, L30, k30, n30⟩, -, X30, ⟨Lc30, hQ30, l30, y30, z30⟩, st30⟩ := Jvm.LawKit.callS X29 hx (y := (⟨"com/example/outcry/outcry/allocation/MemoValuePinLaw", "store", "(Lcom/example/outcry/outcry/allocation/Memo;JJIIZ)V"⟩ : MethodName)) hown (mvT hZ (hw _ (List.mem_of_getElem? (i := 13) rfl))) (mvT hZ (hw _ (List.mem_of_getElem? (i := 14) rfl))) (mvT hZ (hw _ (List.mem_of_getElem? (i := 15) rfl))) (mvT hZ (hw _ (List.mem_of_getElem? (i := 16) rfl))) (by decide) (backOf (W := 0) (rm_store l Z a0 hw [] b1 q1 (q2 + (1 : Int64)) p2 (own_bun p3) (0 : Int32) tb (own_put (fun _ => (0 : Int64)) q1 q2 (own_out p1 (own_bun p3) (1 : Int32))) (own_szz (fun _ => (0 : Int64)) q1 q2 (0 : Int32)) T29.heap n0 Z29 x29c1 x29c3 A1_29 g_b1 gtb ne_ob_tb x29c2 (own_two_ok1 (own_succ _) (own_out_nz _ _ _)) (own_two_ok2 (own_succ _) (own_out_nz _ _ _)) (own_hq1 _ _)) hZ (hw _ (List.mem_of_getElem? (i := 16) rfl)) (hw _ (List.mem_of_getElem? (i := 15) rfl)) (by decide) (by decide)) (g := (mkF m 96 #[.val (.long q1), .second, .val (.long q2), .second, .val (.int p1), .val (.int p2), .val (.int p3), .val (.int p4), .val (.ref b1), .val (.int (own_bun p3)), .val (.int (1 : Int32)), .val (.int (0 : Int32)), .val (.int (0 : Int32)), .val (.long (q2 + (1 : Int64))), .second, .unset, .unset, .unset] [(.int (0 : Int32)), (.int (own_bun p3)), (.int p2), (.long (q2 + (1 : Int64))), (.long q1), (.ref b1)])) rfl (by rw [hml]; rfl) (argsL := [(.ref b1), (.long q1), (.long (q2 + (1 : Int64))), (.int p2), (.int (own_bun p3)), (.int (0 : Int32))]) (rest := []) (lenOf pd_6 rfl) rfl (by show 2 * 0 + _ ≤ _; exact Nat.le_of_eq rfl) (hb hby at_96) (fun _ _ => ⟨rfl, rfl, (by decide : 2 + 0 ≤ _), (by decide : 3074 + 0 ≤ _)⟩)
        dsimp only [Pt.U, Pt.locs, Pt.cells, Pt.slots] at X30 l30 y30 z30 st30 hQ30
        subst l30 y30 z30
        obtain ⟨rfl, N30q, x30c0, x30c1, x30c2, x30c3⟩ := hQ30
        have N30 := Fr.app N29 N30q
        have A1_30 : Exa Z T30.heap b1 "com/example/outcry/outcry/allocation/Memo" := A1_29.keep x30c0
        have Z30 : n0 ≤ T30.heap.size := Nat.le_trans Z29 x30c0.1
        obtain ⟨cq31, kq31, q31a, q31b, q31c⟩ := isOf hZ rfl A1_30
        obtain ⟨_, _, ⟨T31, L31, k31, n31⟩, -, X31, ⟨Lc31, hQ31, l31, y31, z31⟩, st31⟩ := X30.virtualBack hx (y := (⟨"com/example/outcry/outcry/allocation/Memo", "find", "(JJ)I"⟩ : MethodName)) (z := (⟨"com/example/outcry/outcry/allocation/Memo", "find", "(JJ)I"⟩ : MethodName)) hown (mvT hZ (hw _ (List.mem_of_getElem? (i := 42) rfl))) (mvT hZ (hw _ (List.mem_of_getElem? (i := 27) rfl))) (notFace_of_selects (args := #[]) (mvT hZ (hw _ (List.mem_of_getElem? (i := 29) rfl)))) (mvT hZ (hw _ (List.mem_of_getElem? (i := 29) rfl))) (mvT hZ (hw _ (List.mem_of_getElem? (i := 28) rfl))) (by decide) (backOf (W := 0) (rm_find l Z a0 hw [] b1 q1 q2 tb (own_put (own_put (fun _ => (0 : Int64)) q1 q2 (own_out p1 (own_bun p3) (1 : Int32))) q1 (q2 + (1 : Int64)) (own_out p2 (own_bun p3) (0 : Int32))) T30.heap n0 Z30 x30c1 x30c3 (own_two_okA (own_succ _) (own_out_nz _ _ _))) hZ (hw _ (List.mem_of_getElem? (i := 30) rfl)) (hw _ (List.mem_of_getElem? (i := 2) rfl)) (by decide) (by decide)) q31a q31c (g := (mkF m 103 #[.val (.long q1), .second, .val (.long q2), .second, .val (.int p1), .val (.int p2), .val (.int p3), .val (.int p4), .val (.ref b1), .val (.int (own_bun p3)), .val (.int (1 : Int32)), .val (.int (0 : Int32)), .val (.int (0 : Int32)), .val (.long (q2 + (1 : Int64))), .second, .unset, .unset, .unset] [(.long q2), (.long q1), (.ref b1)])) rfl (by rw [hml]; rfl) (Steps.refl _) (argsL := [(.long q1), (.long q2)]) (rest := []) (lenOf pd_1 rfl) rfl (by show 2 * 0 + _ ≤ _; exact Nat.le_of_eq rfl) (hb hby at_103) (fun _ _ => ⟨rfl, rfl, (by decide : 2 + 0 ≤ _), (by decide : 3074 + 0 ≤ _)⟩)
        dsimp only [Pt.U, Pt.locs, Pt.cells, Pt.slots] at X31 l31 y31 z31 st31 hQ31
        subst l31 y31 z31
        obtain ⟨rfl, N31q, e31⟩ := hQ31
        have N31 := Fr.app N30 N31q
        obtain ⟨cq32, kq32, q32a, q32b, q32c⟩ := isOf hZ e31 A1_30
        obtain ⟨_, _, ⟨T32, L32, k32, n32⟩, -, X32, ⟨Lc32, hQ32, l32, y32, z32⟩, st32⟩ := X31.virtualBack hx (y := (⟨"com/example/outcry/outcry/allocation/Memo", "value", "(I)I"⟩ : MethodName)) (z := (⟨"com/example/outcry/outcry/allocation/Memo", "value", "(I)I"⟩ : MethodName)) hown (mvT hZ (hw _ (List.mem_of_getElem? (i := 43) rfl))) (mvT hZ (hw _ (List.mem_of_getElem? (i := 44) rfl))) (notFace_of_selects (args := #[]) (mvT hZ (hw _ (List.mem_of_getElem? (i := 46) rfl)))) (mvT hZ (hw _ (List.mem_of_getElem? (i := 46) rfl))) (mvT hZ (hw _ (List.mem_of_getElem? (i := 45) rfl))) (by decide) (backOf (W := 0) (rm_value l Z a0 hw [] b1 (own_find (own_put (own_put (fun _ => (0 : Int64)) q1 q2 (own_out p1 (own_bun p3) (1 : Int32))) q1 (q2 + (1 : Int64)) (own_out p2 (own_bun p3) (0 : Int32))) q1 q2) tb (own_put (own_put (fun _ => (0 : Int64)) q1 q2 (own_out p1 (own_bun p3) (1 : Int32))) q1 (q2 + (1 : Int64)) (own_out p2 (own_bun p3) (0 : Int32))) T30.heap n0 Z30 x30c1 x30c3 (own_bb (own_sb _ _) (own_two_fA (own_succ _) (own_out_nz _ _ _)))) hZ (hw _ (List.mem_of_getElem? (i := 47) rfl)) (hw _ (List.mem_of_getElem? (i := 2) rfl)) (by decide) (by decide)) q32a q32c (g := (mkF m 133 #[.val (.long q1), .second, .val (.long q2), .second, .val (.int p1), .val (.int p2), .val (.int p3), .val (.int p4), .val (.ref b1), .val (.int (own_bun p3)), .val (.int (1 : Int32)), .val (.int (0 : Int32)), .val (.int (0 : Int32)), .val (.long (q2 + (1 : Int64))), .second, .val (.int (own_find (own_put (own_put (fun _ => (0 : Int64)) q1 q2 (own_out p1 (own_bun p3) (1 : Int32))) q1 (q2 + (1 : Int64)) (own_out p2 (own_bun p3) (0 : Int32))) q1 q2)), .val (.int p1), .unset] [(.int (own_find (own_put (own_put (fun _ => (0 : Int64)) q1 q2 (own_out p1 (own_bun p3) (1 : Int32))) q1 (q2 + (1 : Int64)) (own_out p2 (own_bun p3) (0 : Int32))) q1 q2)), (.ref b1)])) rfl (by rw [hml]; rfl) (Steps.refl _) (argsL := [(.int (own_find (own_put (own_put (fun _ => (0 : Int64)) q1 q2 (own_out p1 (own_bun p3) (1 : Int32))) q1 (q2 + (1 : Int64)) (own_out p2 (own_bun p3) (0 : Int32))) q1 q2))]) (rest := []) (lenOf pd_7 rfl) rfl (by show 2 * 0 + _ ≤ _; exact Nat.le_of_eq rfl) (hb hby at_133) (fun _ _ => ⟨rfl, e31, (by decide : 2 + 0 ≤ _), (by decide : 3074 + 0 ≤ _)⟩)
        dsimp only [Pt.U, Pt.locs, Pt.cells, Pt.slots] at X32 l32 y32 z32 st32 hQ32
        subst l32 y32 z32
        obtain ⟨rfl, N32q, e32⟩ := hQ32
        have N32 := Fr.app N31 N32q
        obtain ⟨cq33, kq33, q33a, q33b, q33c⟩ := isOf hZ e32 A1_30
        obtain ⟨_, _, ⟨T33, L33, k33, n33⟩, -, X33, ⟨Lc33, hQ33, l33, y33, z33⟩, st33⟩ := X32.virtualBack hx (y := (⟨"com/example/outcry/outcry/allocation/Memo", "find", "(JJ)I"⟩ : MethodName)) (z := (⟨"com/example/outcry/outcry/allocation/Memo", "find", "(JJ)I"⟩ : MethodName)) hown (mvT hZ (hw _ (List.mem_of_getElem? (i := 42) rfl))) (mvT hZ (hw _ (List.mem_of_getElem? (i := 27) rfl))) (notFace_of_selects (args := #[]) (mvT hZ (hw _ (List.mem_of_getElem? (i := 29) rfl)))) (mvT hZ (hw _ (List.mem_of_getElem? (i := 29) rfl))) (mvT hZ (hw _ (List.mem_of_getElem? (i := 28) rfl))) (by decide) (backOf (W := 0) (rm_find l Z a0 hw [] b1 q1 (q2 + (1 : Int64)) tb (own_put (own_put (fun _ => (0 : Int64)) q1 q2 (own_out p1 (own_bun p3) (1 : Int32))) q1 (q2 + (1 : Int64)) (own_out p2 (own_bun p3) (0 : Int32))) T30.heap n0 Z30 x30c1 x30c3 (own_two_okB (own_succ _) (own_out_nz _ _ _))) hZ (hw _ (List.mem_of_getElem? (i := 30) rfl)) (hw _ (List.mem_of_getElem? (i := 2) rfl)) (by decide) (by decide)) q33a q33c (g := (mkF m 153 #[.val (.long q1), .second, .val (.long q2), .second, .val (.int p1), .val (.int p2), .val (.int p3), .val (.int p4), .val (.ref b1), .val (.int (own_bun p3)), .val (.int (1 : Int32)), .val (.int (0 : Int32)), .val (.int (0 : Int32)), .val (.long (q2 + (1 : Int64))), .second, .val (.int (own_find (own_put (own_put (fun _ => (0 : Int64)) q1 q2 (own_out p1 (own_bun p3) (1 : Int32))) q1 (q2 + (1 : Int64)) (own_out p2 (own_bun p3) (0 : Int32))) q1 q2)), .val (.int p1), .unset] [(.long (q2 + (1 : Int64))), (.long q1), (.ref b1)])) rfl (by rw [hml]; rfl) (Steps.refl _) (argsL := [(.long q1), (.long (q2 + (1 : Int64)))]) (rest := []) (lenOf pd_1 rfl) rfl (by show 2 * 0 + _ ≤ _; exact Nat.le_of_eq rfl) (hb hby at_153) (fun _ _ => ⟨rfl, e32, (by decide : 2 + 0 ≤ _), (by decide : 3074 + 0 ≤ _)⟩)
        dsimp only [Pt.U, Pt.locs, Pt.cells, Pt.slots] at X33 l33 y33 z33 st33 hQ33
        subst l33 y33 z33
        obtain ⟨rfl, N33q, e33⟩ := hQ33
        have N33 := Fr.app N32 N33q
        obtain ⟨cq34, kq34, q34a, q34b, q34c⟩ := isOf hZ e33 A1_30
        obtain ⟨_, _, ⟨T34, L34, k34, n34⟩, -, X34, ⟨Lc34, hQ34, l34, y34, z34⟩, st34⟩ := X33.virtualBack hx (y := (⟨"com/example/outcry/outcry/allocation/Memo", "value", "(I)I"⟩ : MethodName)) (z := (⟨"com/example/outcry/outcry/allocation/Memo", "value", "(I)I"⟩ : MethodName)) hown (mvT hZ (hw _ (List.mem_of_getElem? (i := 43) rfl))) (mvT hZ (hw _ (List.mem_of_getElem? (i := 44) rfl))) (notFace_of_selects (args := #[]) (mvT hZ (hw _ (List.mem_of_getElem? (i := 46) rfl)))) (mvT hZ (hw _ (List.mem_of_getElem? (i := 46) rfl))) (mvT hZ (hw _ (List.mem_of_getElem? (i := 45) rfl))) (by decide) (backOf (W := 0) (rm_value l Z a0 hw [] b1 (own_find (own_put (own_put (fun _ => (0 : Int64)) q1 q2 (own_out p1 (own_bun p3) (1 : Int32))) q1 (q2 + (1 : Int64)) (own_out p2 (own_bun p3) (0 : Int32))) q1 (q2 + (1 : Int64))) tb (own_put (own_put (fun _ => (0 : Int64)) q1 q2 (own_out p1 (own_bun p3) (1 : Int32))) q1 (q2 + (1 : Int64)) (own_out p2 (own_bun p3) (0 : Int32))) T30.heap n0 Z30 x30c1 x30c3 (own_bb (own_Rb _ _ _) (own_two_fB (own_succ _) (own_out_nz _ _ _) (own_out_nz _ _ _)))) hZ (hw _ (List.mem_of_getElem? (i := 47) rfl)) (hw _ (List.mem_of_getElem? (i := 2) rfl)) (by decide) (by decide)) q34a q34c (g := (mkF m 169 #[.val (.long q1), .second, .val (.long q2), .second, .val (.int p1), .val (.int p2), .val (.int p3), .val (.int p4), .val (.ref b1), .val (.int (own_bun p3)), .val (.int (1 : Int32)), .val (.int (0 : Int32)), .val (.int (0 : Int32)), .val (.long (q2 + (1 : Int64))), .second, .val (.int (own_find (own_put (own_put (fun _ => (0 : Int64)) q1 q2 (own_out p1 (own_bun p3) (1 : Int32))) q1 (q2 + (1 : Int64)) (own_out p2 (own_bun p3) (0 : Int32))) q1 q2)), .val (.int p1), .val (.int (own_find (own_put (own_put (fun _ => (0 : Int64)) q1 q2 (own_out p1 (own_bun p3) (1 : Int32))) q1 (q2 + (1 : Int64)) (own_out p2 (own_bun p3) (0 : Int32))) q1 (q2 + (1 : Int64))))] [(.int (own_find (own_put (own_put (fun _ => (0 : Int64)) q1 q2 (own_out p1 (own_bun p3) (1 : Int32))) q1 (q2 + (1 : Int64)) (own_out p2 (own_bun p3) (0 : Int32))) q1 (q2 + (1 : Int64)))), (.ref b1)])) rfl (by rw [hml]; rfl) (Steps.refl _) (argsL := [(.int (own_find (own_put (own_put (fun _ => (0 : Int64)) q1 q2 (own_out p1 (own_bun p3) (1 : Int32))) q1 (q2 + (1 : Int64)) (own_out p2 (own_bun p3) (0 : Int32))) q1 (q2 + (1 : Int64))))]) (rest := []) (lenOf pd_7 rfl) rfl (by show 2 * 0 + _ ≤ _; exact Nat.le_of_eq rfl) (hb hby at_169) (fun _ _ => ⟨rfl, e33, (by decide : 2 + 0 ≤ _), (by decide : 3074 + 0 ≤ _)⟩)
        dsimp only [Pt.U, Pt.locs, Pt.cells, Pt.slots] at X34 l34 y34 z34 st34 hQ34
        subst l34 y34 z34
        obtain ⟨rfl, N34q, e34⟩ := hQ34
        have N34 := Fr.app N33 N34q
        obtain ⟨fs, hr, hrun, hended, hW, hsame⟩ := X34.leave (v := some (.int (1 : Int32))) (fun h => by rw [Bd.returns] at h; cases h)
        refine ⟨_, _, pre0 _ ?_, hrun, hended, _, _, rfl, ?_, ⟨_, rfl⟩, hW, hsame.mono (by decide) (by decide)⟩
        · refine k28 _ ?_
          show Steps p.tables e below (T2.setTop (mkF m 48 #[.val (.long q1), .second, .val (.long q2), .second, .val (.int p1), .val (.int p2), .val (.int p3), .val (.int p4), .val (.ref b1), .val (.int (own_bun p3)), .val (.int (1 : Int32)), .val (.int (0 : Int32)), .unset, .unset, .unset, .unset, .unset, .unset] [(.int (p4 &&& (4 : Int32)))])) _
          refine XS.ifYes X2.here hx rfl (pc0 := 48) (pc' := 55) rfl (hb hby at_48) rfl ((if0 _ _).trans (teq hc48).1) (by decide) (by decide) ?_
          show Steps p.tables e below (T2.setTop (mkF m 55 #[.val (.long q1), .second, .val (.long q2), .second, .val (.int p1), .val (.int p2), .val (.int p3), .val (.int p4), .val (.ref b1), .val (.int (own_bun p3)), .val (.int (1 : Int32)), .val (.int (0 : Int32)), .unset, .unset, .unset, .unset, .unset, .unset] [])) _
          refine XS.iconst X2.here hx rfl (hb hby at_55) ?_
          show Steps p.tables e below (T2.setTop (mkF m 56 #[.val (.long q1), .second, .val (.long q2), .second, .val (.int p1), .val (.int p2), .val (.int p3), .val (.int p4), .val (.ref b1), .val (.int (own_bun p3)), .val (.int (1 : Int32)), .val (.int (0 : Int32)), .unset, .unset, .unset, .unset, .unset, .unset] [(.int (0 : Int32))])) _
          refine XS.istore X2.here hx rfl (hb hby at_56) rfl (l' := #[.val (.long q1), .second, .val (.long q2), .second, .val (.int p1), .val (.int p2), .val (.int p3), .val (.int p4), .val (.ref b1), .val (.int (own_bun p3)), .val (.int (1 : Int32)), .val (.int (0 : Int32)), .val (.int (0 : Int32)), .unset, .unset, .unset, .unset, .unset]) rfl ?_
          show Steps p.tables e below (T2.setTop (mkF m 58 #[.val (.long q1), .second, .val (.long q2), .second, .val (.int p1), .val (.int p2), .val (.int p3), .val (.int p4), .val (.ref b1), .val (.int (own_bun p3)), .val (.int (1 : Int32)), .val (.int (0 : Int32)), .val (.int (0 : Int32)), .unset, .unset, .unset, .unset, .unset] [])) _
          refine XS.iload X2.here hx rfl (hb hby at_58) rfl ?_
          show Steps p.tables e below (T2.setTop (mkF m 60 #[.val (.long q1), .second, .val (.long q2), .second, .val (.int p1), .val (.int p2), .val (.int p3), .val (.int p4), .val (.ref b1), .val (.int (own_bun p3)), .val (.int (1 : Int32)), .val (.int (0 : Int32)), .val (.int (0 : Int32)), .unset, .unset, .unset, .unset, .unset] [(.int (0 : Int32))])) _
          refine XS.ifYes X2.here hx rfl (pc0 := 60) (pc' := 67) rfl (hb hby at_60) rfl ((if0 _ _).trans (teq (by decide : (0 : Int32) = (0 : Int32))).1) (by decide) (by decide) ?_
          show Steps p.tables e below (T2.setTop (mkF m 67 #[.val (.long q1), .second, .val (.long q2), .second, .val (.int p1), .val (.int p2), .val (.int p3), .val (.int p4), .val (.ref b1), .val (.int (own_bun p3)), .val (.int (1 : Int32)), .val (.int (0 : Int32)), .val (.int (0 : Int32)), .unset, .unset, .unset, .unset, .unset] [])) _
          refine XS.lloadN X2.here hx rfl (hb hby at_67) rfl ?_
          show Steps p.tables e below (T2.setTop (mkF m 68 #[.val (.long q1), .second, .val (.long q2), .second, .val (.int p1), .val (.int p2), .val (.int p3), .val (.int p4), .val (.ref b1), .val (.int (own_bun p3)), .val (.int (1 : Int32)), .val (.int (0 : Int32)), .val (.int (0 : Int32)), .unset, .unset, .unset, .unset, .unset] [(.long q2)])) _
          refine XS.lconst X2.here hx rfl (hb hby at_68) ?_
          show Steps p.tables e below (T2.setTop (mkF m 69 #[.val (.long q1), .second, .val (.long q2), .second, .val (.int p1), .val (.int p2), .val (.int p3), .val (.int p4), .val (.ref b1), .val (.int (own_bun p3)), .val (.int (1 : Int32)), .val (.int (0 : Int32)), .val (.int (0 : Int32)), .unset, .unset, .unset, .unset, .unset] [(.long (1 : Int64)), (.long q2)])) _
          refine XS.ladd X2.here hx rfl (hb hby at_69) rfl ?_
          show Steps p.tables e below (T2.setTop (mkF m 70 #[.val (.long q1), .second, .val (.long q2), .second, .val (.int p1), .val (.int p2), .val (.int p3), .val (.int p4), .val (.ref b1), .val (.int (own_bun p3)), .val (.int (1 : Int32)), .val (.int (0 : Int32)), .val (.int (0 : Int32)), .unset, .unset, .unset, .unset, .unset] [(.long (q2 + (1 : Int64)))])) _
          refine XS.lstore X2.here hx rfl (hb hby at_70) rfl (l' := #[.val (.long q1), .second, .val (.long q2), .second, .val (.int p1), .val (.int p2), .val (.int p3), .val (.int p4), .val (.ref b1), .val (.int (own_bun p3)), .val (.int (1 : Int32)), .val (.int (0 : Int32)), .val (.int (0 : Int32)), .val (.long (q2 + (1 : Int64))), .second, .unset, .unset, .unset]) rfl ?_
          show Steps p.tables e below (T2.setTop (mkF m 72 #[.val (.long q1), .second, .val (.long q2), .second, .val (.int p1), .val (.int p2), .val (.int p3), .val (.int p4), .val (.ref b1), .val (.int (own_bun p3)), .val (.int (1 : Int32)), .val (.int (0 : Int32)), .val (.int (0 : Int32)), .val (.long (q2 + (1 : Int64))), .second, .unset, .unset, .unset] [])) _
          refine XS.aload X2.here hx rfl (hb hby at_72) rfl rfl ?_
          show Steps p.tables e below (T2.setTop (mkF m 74 #[.val (.long q1), .second, .val (.long q2), .second, .val (.int p1), .val (.int p2), .val (.int p3), .val (.int p4), .val (.ref b1), .val (.int (own_bun p3)), .val (.int (1 : Int32)), .val (.int (0 : Int32)), .val (.int (0 : Int32)), .val (.long (q2 + (1 : Int64))), .second, .unset, .unset, .unset] [(.ref b1)])) _
          refine XS.lloadN X2.here hx rfl (hb hby at_74) rfl ?_
          show Steps p.tables e below (T2.setTop (mkF m 75 #[.val (.long q1), .second, .val (.long q2), .second, .val (.int p1), .val (.int p2), .val (.int p3), .val (.int p4), .val (.ref b1), .val (.int (own_bun p3)), .val (.int (1 : Int32)), .val (.int (0 : Int32)), .val (.int (0 : Int32)), .val (.long (q2 + (1 : Int64))), .second, .unset, .unset, .unset] [(.long q1), (.ref b1)])) _
          refine XS.lloadN X2.here hx rfl (hb hby at_75) rfl ?_
          show Steps p.tables e below (T2.setTop (mkF m 76 #[.val (.long q1), .second, .val (.long q2), .second, .val (.int p1), .val (.int p2), .val (.int p3), .val (.int p4), .val (.ref b1), .val (.int (own_bun p3)), .val (.int (1 : Int32)), .val (.int (0 : Int32)), .val (.int (0 : Int32)), .val (.long (q2 + (1 : Int64))), .second, .unset, .unset, .unset] [(.long q2), (.long q1), (.ref b1)])) _
          refine XS.iload X2.here hx rfl (hb hby at_76) rfl ?_
          show Steps p.tables e below (T2.setTop (mkF m 78 #[.val (.long q1), .second, .val (.long q2), .second, .val (.int p1), .val (.int p2), .val (.int p3), .val (.int p4), .val (.ref b1), .val (.int (own_bun p3)), .val (.int (1 : Int32)), .val (.int (0 : Int32)), .val (.int (0 : Int32)), .val (.long (q2 + (1 : Int64))), .second, .unset, .unset, .unset] [(.int p1), (.long q2), (.long q1), (.ref b1)])) _
          refine XS.iload X2.here hx rfl (hb hby at_78) rfl ?_
          show Steps p.tables e below (T2.setTop (mkF m 80 #[.val (.long q1), .second, .val (.long q2), .second, .val (.int p1), .val (.int p2), .val (.int p3), .val (.int p4), .val (.ref b1), .val (.int (own_bun p3)), .val (.int (1 : Int32)), .val (.int (0 : Int32)), .val (.int (0 : Int32)), .val (.long (q2 + (1 : Int64))), .second, .unset, .unset, .unset] [(.int (own_bun p3)), (.int p1), (.long q2), (.long q1), (.ref b1)])) _
          refine XS.iload X2.here hx rfl (hb hby at_80) rfl ?_
          show Steps p.tables e below (T2.setTop (mkF m 82 #[.val (.long q1), .second, .val (.long q2), .second, .val (.int p1), .val (.int p2), .val (.int p3), .val (.int p4), .val (.ref b1), .val (.int (own_bun p3)), .val (.int (1 : Int32)), .val (.int (0 : Int32)), .val (.int (0 : Int32)), .val (.long (q2 + (1 : Int64))), .second, .unset, .unset, .unset] [(.int (1 : Int32)), (.int (own_bun p3)), (.int p1), (.long q2), (.long q1), (.ref b1)])) _
          refine st29 _ ?_
          show Steps p.tables e below (T29.setTop (mkF m 85 #[.val (.long q1), .second, .val (.long q2), .second, .val (.int p1), .val (.int p2), .val (.int p3), .val (.int p4), .val (.ref b1), .val (.int (own_bun p3)), .val (.int (1 : Int32)), .val (.int (0 : Int32)), .val (.int (0 : Int32)), .val (.long (q2 + (1 : Int64))), .second, .unset, .unset, .unset] [])) _
          refine XS.aload X29.here hx rfl (hb hby at_85) rfl rfl ?_
          show Steps p.tables e below (T29.setTop (mkF m 87 #[.val (.long q1), .second, .val (.long q2), .second, .val (.int p1), .val (.int p2), .val (.int p3), .val (.int p4), .val (.ref b1), .val (.int (own_bun p3)), .val (.int (1 : Int32)), .val (.int (0 : Int32)), .val (.int (0 : Int32)), .val (.long (q2 + (1 : Int64))), .second, .unset, .unset, .unset] [(.ref b1)])) _
          refine XS.lloadN X29.here hx rfl (hb hby at_87) rfl ?_
          show Steps p.tables e below (T29.setTop (mkF m 88 #[.val (.long q1), .second, .val (.long q2), .second, .val (.int p1), .val (.int p2), .val (.int p3), .val (.int p4), .val (.ref b1), .val (.int (own_bun p3)), .val (.int (1 : Int32)), .val (.int (0 : Int32)), .val (.int (0 : Int32)), .val (.long (q2 + (1 : Int64))), .second, .unset, .unset, .unset] [(.long q1), (.ref b1)])) _
          refine XS.lload X29.here hx rfl (hb hby at_88) rfl ?_
          show Steps p.tables e below (T29.setTop (mkF m 90 #[.val (.long q1), .second, .val (.long q2), .second, .val (.int p1), .val (.int p2), .val (.int p3), .val (.int p4), .val (.ref b1), .val (.int (own_bun p3)), .val (.int (1 : Int32)), .val (.int (0 : Int32)), .val (.int (0 : Int32)), .val (.long (q2 + (1 : Int64))), .second, .unset, .unset, .unset] [(.long (q2 + (1 : Int64))), (.long q1), (.ref b1)])) _
          refine XS.iload X29.here hx rfl (hb hby at_90) rfl ?_
          show Steps p.tables e below (T29.setTop (mkF m 92 #[.val (.long q1), .second, .val (.long q2), .second, .val (.int p1), .val (.int p2), .val (.int p3), .val (.int p4), .val (.ref b1), .val (.int (own_bun p3)), .val (.int (1 : Int32)), .val (.int (0 : Int32)), .val (.int (0 : Int32)), .val (.long (q2 + (1 : Int64))), .second, .unset, .unset, .unset] [(.int p2), (.long (q2 + (1 : Int64))), (.long q1), (.ref b1)])) _
          refine XS.iload X29.here hx rfl (hb hby at_92) rfl ?_
          show Steps p.tables e below (T29.setTop (mkF m 94 #[.val (.long q1), .second, .val (.long q2), .second, .val (.int p1), .val (.int p2), .val (.int p3), .val (.int p4), .val (.ref b1), .val (.int (own_bun p3)), .val (.int (1 : Int32)), .val (.int (0 : Int32)), .val (.int (0 : Int32)), .val (.long (q2 + (1 : Int64))), .second, .unset, .unset, .unset] [(.int (own_bun p3)), (.int p2), (.long (q2 + (1 : Int64))), (.long q1), (.ref b1)])) _
          refine XS.iload X29.here hx rfl (hb hby at_94) rfl ?_
          show Steps p.tables e below (T29.setTop (mkF m 96 #[.val (.long q1), .second, .val (.long q2), .second, .val (.int p1), .val (.int p2), .val (.int p3), .val (.int p4), .val (.ref b1), .val (.int (own_bun p3)), .val (.int (1 : Int32)), .val (.int (0 : Int32)), .val (.int (0 : Int32)), .val (.long (q2 + (1 : Int64))), .second, .unset, .unset, .unset] [(.int (0 : Int32)), (.int (own_bun p3)), (.int p2), (.long (q2 + (1 : Int64))), (.long q1), (.ref b1)])) _
          refine st30 _ ?_
          show Steps p.tables e below (T30.setTop (mkF m 99 #[.val (.long q1), .second, .val (.long q2), .second, .val (.int p1), .val (.int p2), .val (.int p3), .val (.int p4), .val (.ref b1), .val (.int (own_bun p3)), .val (.int (1 : Int32)), .val (.int (0 : Int32)), .val (.int (0 : Int32)), .val (.long (q2 + (1 : Int64))), .second, .unset, .unset, .unset] [])) _
          refine XS.aload X30.here hx rfl (hb hby at_99) rfl rfl ?_
          show Steps p.tables e below (T30.setTop (mkF m 101 #[.val (.long q1), .second, .val (.long q2), .second, .val (.int p1), .val (.int p2), .val (.int p3), .val (.int p4), .val (.ref b1), .val (.int (own_bun p3)), .val (.int (1 : Int32)), .val (.int (0 : Int32)), .val (.int (0 : Int32)), .val (.long (q2 + (1 : Int64))), .second, .unset, .unset, .unset] [(.ref b1)])) _
          refine XS.lloadN X30.here hx rfl (hb hby at_101) rfl ?_
          show Steps p.tables e below (T30.setTop (mkF m 102 #[.val (.long q1), .second, .val (.long q2), .second, .val (.int p1), .val (.int p2), .val (.int p3), .val (.int p4), .val (.ref b1), .val (.int (own_bun p3)), .val (.int (1 : Int32)), .val (.int (0 : Int32)), .val (.int (0 : Int32)), .val (.long (q2 + (1 : Int64))), .second, .unset, .unset, .unset] [(.long q1), (.ref b1)])) _
          refine XS.lloadN X30.here hx rfl (hb hby at_102) rfl ?_
          show Steps p.tables e below (T30.setTop (mkF m 103 #[.val (.long q1), .second, .val (.long q2), .second, .val (.int p1), .val (.int p2), .val (.int p3), .val (.int p4), .val (.ref b1), .val (.int (own_bun p3)), .val (.int (1 : Int32)), .val (.int (0 : Int32)), .val (.int (0 : Int32)), .val (.long (q2 + (1 : Int64))), .second, .unset, .unset, .unset] [(.long q2), (.long q1), (.ref b1)])) _
          refine st31.trans ?_
          show Steps p.tables e below (T31.setTop (mkF m 106 #[.val (.long q1), .second, .val (.long q2), .second, .val (.int p1), .val (.int p2), .val (.int p3), .val (.int p4), .val (.ref b1), .val (.int (own_bun p3)), .val (.int (1 : Int32)), .val (.int (0 : Int32)), .val (.int (0 : Int32)), .val (.long (q2 + (1 : Int64))), .second, .unset, .unset, .unset] [(.int (own_find (own_put (own_put (fun _ => (0 : Int64)) q1 q2 (own_out p1 (own_bun p3) (1 : Int32))) q1 (q2 + (1 : Int64)) (own_out p2 (own_bun p3) (0 : Int32))) q1 q2))])) _
          refine XS.istore X31.here hx rfl (hb hby at_106) rfl (l' := #[.val (.long q1), .second, .val (.long q2), .second, .val (.int p1), .val (.int p2), .val (.int p3), .val (.int p4), .val (.ref b1), .val (.int (own_bun p3)), .val (.int (1 : Int32)), .val (.int (0 : Int32)), .val (.int (0 : Int32)), .val (.long (q2 + (1 : Int64))), .second, .val (.int (own_find (own_put (own_put (fun _ => (0 : Int64)) q1 q2 (own_out p1 (own_bun p3) (1 : Int32))) q1 (q2 + (1 : Int64)) (own_out p2 (own_bun p3) (0 : Int32))) q1 q2)), .unset, .unset]) rfl ?_
          show Steps p.tables e below (T31.setTop (mkF m 108 #[.val (.long q1), .second, .val (.long q2), .second, .val (.int p1), .val (.int p2), .val (.int p3), .val (.int p4), .val (.ref b1), .val (.int (own_bun p3)), .val (.int (1 : Int32)), .val (.int (0 : Int32)), .val (.int (0 : Int32)), .val (.long (q2 + (1 : Int64))), .second, .val (.int (own_find (own_put (own_put (fun _ => (0 : Int64)) q1 q2 (own_out p1 (own_bun p3) (1 : Int32))) q1 (q2 + (1 : Int64)) (own_out p2 (own_bun p3) (0 : Int32))) q1 q2)), .unset, .unset] [])) _
          refine XS.iload X31.here hx rfl (hb hby at_108) rfl ?_
          show Steps p.tables e below (T31.setTop (mkF m 110 #[.val (.long q1), .second, .val (.long q2), .second, .val (.int p1), .val (.int p2), .val (.int p3), .val (.int p4), .val (.ref b1), .val (.int (own_bun p3)), .val (.int (1 : Int32)), .val (.int (0 : Int32)), .val (.int (0 : Int32)), .val (.long (q2 + (1 : Int64))), .second, .val (.int (own_find (own_put (own_put (fun _ => (0 : Int64)) q1 q2 (own_out p1 (own_bun p3) (1 : Int32))) q1 (q2 + (1 : Int64)) (own_out p2 (own_bun p3) (0 : Int32))) q1 q2)), .unset, .unset] [(.int (own_find (own_put (own_put (fun _ => (0 : Int64)) q1 q2 (own_out p1 (own_bun p3) (1 : Int32))) q1 (q2 + (1 : Int64)) (own_out p2 (own_bun p3) (0 : Int32))) q1 q2))])) _
          refine XS.ifYes X31.here hx rfl (pc0 := 110) (pc' := 115) rfl (hb hby at_110) rfl ((if0 _ _).trans (flt (own_ge (own_sb _ _) (own_two_fA (own_succ _) (own_out_nz _ _ _)))).2.1) (by decide) (by decide) ?_
          show Steps p.tables e below (T31.setTop (mkF m 115 #[.val (.long q1), .second, .val (.long q2), .second, .val (.int p1), .val (.int p2), .val (.int p3), .val (.int p4), .val (.ref b1), .val (.int (own_bun p3)), .val (.int (1 : Int32)), .val (.int (0 : Int32)), .val (.int (0 : Int32)), .val (.long (q2 + (1 : Int64))), .second, .val (.int (own_find (own_put (own_put (fun _ => (0 : Int64)) q1 q2 (own_out p1 (own_bun p3) (1 : Int32))) q1 (q2 + (1 : Int64)) (own_out p2 (own_bun p3) (0 : Int32))) q1 q2)), .unset, .unset] [])) _
          refine XS.iload X31.here hx rfl (hb hby at_115) rfl ?_
          show Steps p.tables e below (T31.setTop (mkF m 117 #[.val (.long q1), .second, .val (.long q2), .second, .val (.int p1), .val (.int p2), .val (.int p3), .val (.int p4), .val (.ref b1), .val (.int (own_bun p3)), .val (.int (1 : Int32)), .val (.int (0 : Int32)), .val (.int (0 : Int32)), .val (.long (q2 + (1 : Int64))), .second, .val (.int (own_find (own_put (own_put (fun _ => (0 : Int64)) q1 q2 (own_out p1 (own_bun p3) (1 : Int32))) q1 (q2 + (1 : Int64)) (own_out p2 (own_bun p3) (0 : Int32))) q1 q2)), .unset, .unset] [(.int (0 : Int32))])) _
          refine XS.ifYes X31.here hx rfl (pc0 := 117) (pc' := 125) rfl (hb hby at_117) rfl ((if0 _ _).trans (teq (by decide : (0 : Int32) = (0 : Int32))).1) (by decide) (by decide) ?_
          show Steps p.tables e below (T31.setTop (mkF m 125 #[.val (.long q1), .second, .val (.long q2), .second, .val (.int p1), .val (.int p2), .val (.int p3), .val (.int p4), .val (.ref b1), .val (.int (own_bun p3)), .val (.int (1 : Int32)), .val (.int (0 : Int32)), .val (.int (0 : Int32)), .val (.long (q2 + (1 : Int64))), .second, .val (.int (own_find (own_put (own_put (fun _ => (0 : Int64)) q1 q2 (own_out p1 (own_bun p3) (1 : Int32))) q1 (q2 + (1 : Int64)) (own_out p2 (own_bun p3) (0 : Int32))) q1 q2)), .unset, .unset] [])) _
          refine XS.iload X31.here hx rfl (hb hby at_125) rfl ?_
          show Steps p.tables e below (T31.setTop (mkF m 127 #[.val (.long q1), .second, .val (.long q2), .second, .val (.int p1), .val (.int p2), .val (.int p3), .val (.int p4), .val (.ref b1), .val (.int (own_bun p3)), .val (.int (1 : Int32)), .val (.int (0 : Int32)), .val (.int (0 : Int32)), .val (.long (q2 + (1 : Int64))), .second, .val (.int (own_find (own_put (own_put (fun _ => (0 : Int64)) q1 q2 (own_out p1 (own_bun p3) (1 : Int32))) q1 (q2 + (1 : Int64)) (own_out p2 (own_bun p3) (0 : Int32))) q1 q2)), .unset, .unset] [(.int p1)])) _
          refine XS.istore X31.here hx rfl (hb hby at_127) rfl (l' := #[.val (.long q1), .second, .val (.long q2), .second, .val (.int p1), .val (.int p2), .val (.int p3), .val (.int p4), .val (.ref b1), .val (.int (own_bun p3)), .val (.int (1 : Int32)), .val (.int (0 : Int32)), .val (.int (0 : Int32)), .val (.long (q2 + (1 : Int64))), .second, .val (.int (own_find (own_put (own_put (fun _ => (0 : Int64)) q1 q2 (own_out p1 (own_bun p3) (1 : Int32))) q1 (q2 + (1 : Int64)) (own_out p2 (own_bun p3) (0 : Int32))) q1 q2)), .val (.int p1), .unset]) rfl ?_
          show Steps p.tables e below (T31.setTop (mkF m 129 #[.val (.long q1), .second, .val (.long q2), .second, .val (.int p1), .val (.int p2), .val (.int p3), .val (.int p4), .val (.ref b1), .val (.int (own_bun p3)), .val (.int (1 : Int32)), .val (.int (0 : Int32)), .val (.int (0 : Int32)), .val (.long (q2 + (1 : Int64))), .second, .val (.int (own_find (own_put (own_put (fun _ => (0 : Int64)) q1 q2 (own_out p1 (own_bun p3) (1 : Int32))) q1 (q2 + (1 : Int64)) (own_out p2 (own_bun p3) (0 : Int32))) q1 q2)), .val (.int p1), .unset] [])) _
          refine XS.aload X31.here hx rfl (hb hby at_129) rfl rfl ?_
          show Steps p.tables e below (T31.setTop (mkF m 131 #[.val (.long q1), .second, .val (.long q2), .second, .val (.int p1), .val (.int p2), .val (.int p3), .val (.int p4), .val (.ref b1), .val (.int (own_bun p3)), .val (.int (1 : Int32)), .val (.int (0 : Int32)), .val (.int (0 : Int32)), .val (.long (q2 + (1 : Int64))), .second, .val (.int (own_find (own_put (own_put (fun _ => (0 : Int64)) q1 q2 (own_out p1 (own_bun p3) (1 : Int32))) q1 (q2 + (1 : Int64)) (own_out p2 (own_bun p3) (0 : Int32))) q1 q2)), .val (.int p1), .unset] [(.ref b1)])) _
          refine XS.iload X31.here hx rfl (hb hby at_131) rfl ?_
          show Steps p.tables e below (T31.setTop (mkF m 133 #[.val (.long q1), .second, .val (.long q2), .second, .val (.int p1), .val (.int p2), .val (.int p3), .val (.int p4), .val (.ref b1), .val (.int (own_bun p3)), .val (.int (1 : Int32)), .val (.int (0 : Int32)), .val (.int (0 : Int32)), .val (.long (q2 + (1 : Int64))), .second, .val (.int (own_find (own_put (own_put (fun _ => (0 : Int64)) q1 q2 (own_out p1 (own_bun p3) (1 : Int32))) q1 (q2 + (1 : Int64)) (own_out p2 (own_bun p3) (0 : Int32))) q1 q2)), .val (.int p1), .unset] [(.int (own_find (own_put (own_put (fun _ => (0 : Int64)) q1 q2 (own_out p1 (own_bun p3) (1 : Int32))) q1 (q2 + (1 : Int64)) (own_out p2 (own_bun p3) (0 : Int32))) q1 q2)), (.ref b1)])) _
          refine st32.trans ?_
          show Steps p.tables e below (T32.setTop (mkF m 136 #[.val (.long q1), .second, .val (.long q2), .second, .val (.int p1), .val (.int p2), .val (.int p3), .val (.int p4), .val (.ref b1), .val (.int (own_bun p3)), .val (.int (1 : Int32)), .val (.int (0 : Int32)), .val (.int (0 : Int32)), .val (.long (q2 + (1 : Int64))), .second, .val (.int (own_find (own_put (own_put (fun _ => (0 : Int64)) q1 q2 (own_out p1 (own_bun p3) (1 : Int32))) q1 (q2 + (1 : Int64)) (own_out p2 (own_bun p3) (0 : Int32))) q1 q2)), .val (.int p1), .unset] [(.int (((own_put (own_put (fun _ => (0 : Int64)) q1 q2 (own_out p1 (own_bun p3) (1 : Int32))) q1 (q2 + (1 : Int64)) (own_out p2 (own_bun p3) (0 : Int32))) ((own_find (own_put (own_put (fun _ => (0 : Int64)) q1 q2 (own_out p1 (own_bun p3) (1 : Int32))) q1 (q2 + (1 : Int64)) (own_out p2 (own_bun p3) (0 : Int32))) q1 q2) + (2 : Int32))) >>> ((32 : Int32) &&& 0x3f).toInt64).toInt32)])) _
          refine XS.iload X32.here hx rfl (hb hby at_136) rfl ?_
          show Steps p.tables e below (T32.setTop (mkF m 138 #[.val (.long q1), .second, .val (.long q2), .second, .val (.int p1), .val (.int p2), .val (.int p3), .val (.int p4), .val (.ref b1), .val (.int (own_bun p3)), .val (.int (1 : Int32)), .val (.int (0 : Int32)), .val (.int (0 : Int32)), .val (.long (q2 + (1 : Int64))), .second, .val (.int (own_find (own_put (own_put (fun _ => (0 : Int64)) q1 q2 (own_out p1 (own_bun p3) (1 : Int32))) q1 (q2 + (1 : Int64)) (own_out p2 (own_bun p3) (0 : Int32))) q1 q2)), .val (.int p1), .unset] [(.int p1), (.int (((own_put (own_put (fun _ => (0 : Int64)) q1 q2 (own_out p1 (own_bun p3) (1 : Int32))) q1 (q2 + (1 : Int64)) (own_out p2 (own_bun p3) (0 : Int32))) ((own_find (own_put (own_put (fun _ => (0 : Int64)) q1 q2 (own_out p1 (own_bun p3) (1 : Int32))) q1 (q2 + (1 : Int64)) (own_out p2 (own_bun p3) (0 : Int32))) q1 q2) + (2 : Int32))) >>> ((32 : Int32) &&& 0x3f).toInt64).toInt32)])) _
          refine XS.icmpYes X32.here hx rfl (pc0 := 138) (pc' := 143) rfl (hb hby at_138) rfl (teq (own_valeq (own_two_fA (own_succ _) (own_out_nz _ _ _)) (own_two_a (own_succ _) (own_out_nz _ _ _)).2.2 (own_out_v _ _ _))).1 (by decide) (by decide) ?_
          show Steps p.tables e below (T32.setTop (mkF m 143 #[.val (.long q1), .second, .val (.long q2), .second, .val (.int p1), .val (.int p2), .val (.int p3), .val (.int p4), .val (.ref b1), .val (.int (own_bun p3)), .val (.int (1 : Int32)), .val (.int (0 : Int32)), .val (.int (0 : Int32)), .val (.long (q2 + (1 : Int64))), .second, .val (.int (own_find (own_put (own_put (fun _ => (0 : Int64)) q1 q2 (own_out p1 (own_bun p3) (1 : Int32))) q1 (q2 + (1 : Int64)) (own_out p2 (own_bun p3) (0 : Int32))) q1 q2)), .val (.int p1), .unset] [])) _
          refine XS.iload X32.here hx rfl (hb hby at_143) rfl ?_
          show Steps p.tables e below (T32.setTop (mkF m 145 #[.val (.long q1), .second, .val (.long q2), .second, .val (.int p1), .val (.int p2), .val (.int p3), .val (.int p4), .val (.ref b1), .val (.int (own_bun p3)), .val (.int (1 : Int32)), .val (.int (0 : Int32)), .val (.int (0 : Int32)), .val (.long (q2 + (1 : Int64))), .second, .val (.int (own_find (own_put (own_put (fun _ => (0 : Int64)) q1 q2 (own_out p1 (own_bun p3) (1 : Int32))) q1 (q2 + (1 : Int64)) (own_out p2 (own_bun p3) (0 : Int32))) q1 q2)), .val (.int p1), .unset] [(.int (0 : Int32))])) _
          refine XS.ifNo X32.here hx rfl (hb hby at_145) rfl ((if0 _ _).trans (teq (by decide : (0 : Int32) = (0 : Int32))).2) ?_
          show Steps p.tables e below (T32.setTop (mkF m 148 #[.val (.long q1), .second, .val (.long q2), .second, .val (.int p1), .val (.int p2), .val (.int p3), .val (.int p4), .val (.ref b1), .val (.int (own_bun p3)), .val (.int (1 : Int32)), .val (.int (0 : Int32)), .val (.int (0 : Int32)), .val (.long (q2 + (1 : Int64))), .second, .val (.int (own_find (own_put (own_put (fun _ => (0 : Int64)) q1 q2 (own_out p1 (own_bun p3) (1 : Int32))) q1 (q2 + (1 : Int64)) (own_out p2 (own_bun p3) (0 : Int32))) q1 q2)), .val (.int p1), .unset] [])) _
          refine XS.aload X32.here hx rfl (hb hby at_148) rfl rfl ?_
          show Steps p.tables e below (T32.setTop (mkF m 150 #[.val (.long q1), .second, .val (.long q2), .second, .val (.int p1), .val (.int p2), .val (.int p3), .val (.int p4), .val (.ref b1), .val (.int (own_bun p3)), .val (.int (1 : Int32)), .val (.int (0 : Int32)), .val (.int (0 : Int32)), .val (.long (q2 + (1 : Int64))), .second, .val (.int (own_find (own_put (own_put (fun _ => (0 : Int64)) q1 q2 (own_out p1 (own_bun p3) (1 : Int32))) q1 (q2 + (1 : Int64)) (own_out p2 (own_bun p3) (0 : Int32))) q1 q2)), .val (.int p1), .unset] [(.ref b1)])) _
          refine XS.lloadN X32.here hx rfl (hb hby at_150) rfl ?_
          show Steps p.tables e below (T32.setTop (mkF m 151 #[.val (.long q1), .second, .val (.long q2), .second, .val (.int p1), .val (.int p2), .val (.int p3), .val (.int p4), .val (.ref b1), .val (.int (own_bun p3)), .val (.int (1 : Int32)), .val (.int (0 : Int32)), .val (.int (0 : Int32)), .val (.long (q2 + (1 : Int64))), .second, .val (.int (own_find (own_put (own_put (fun _ => (0 : Int64)) q1 q2 (own_out p1 (own_bun p3) (1 : Int32))) q1 (q2 + (1 : Int64)) (own_out p2 (own_bun p3) (0 : Int32))) q1 q2)), .val (.int p1), .unset] [(.long q1), (.ref b1)])) _
          refine XS.lload X32.here hx rfl (hb hby at_151) rfl ?_
          show Steps p.tables e below (T32.setTop (mkF m 153 #[.val (.long q1), .second, .val (.long q2), .second, .val (.int p1), .val (.int p2), .val (.int p3), .val (.int p4), .val (.ref b1), .val (.int (own_bun p3)), .val (.int (1 : Int32)), .val (.int (0 : Int32)), .val (.int (0 : Int32)), .val (.long (q2 + (1 : Int64))), .second, .val (.int (own_find (own_put (own_put (fun _ => (0 : Int64)) q1 q2 (own_out p1 (own_bun p3) (1 : Int32))) q1 (q2 + (1 : Int64)) (own_out p2 (own_bun p3) (0 : Int32))) q1 q2)), .val (.int p1), .unset] [(.long (q2 + (1 : Int64))), (.long q1), (.ref b1)])) _
          refine st33.trans ?_
          show Steps p.tables e below (T33.setTop (mkF m 156 #[.val (.long q1), .second, .val (.long q2), .second, .val (.int p1), .val (.int p2), .val (.int p3), .val (.int p4), .val (.ref b1), .val (.int (own_bun p3)), .val (.int (1 : Int32)), .val (.int (0 : Int32)), .val (.int (0 : Int32)), .val (.long (q2 + (1 : Int64))), .second, .val (.int (own_find (own_put (own_put (fun _ => (0 : Int64)) q1 q2 (own_out p1 (own_bun p3) (1 : Int32))) q1 (q2 + (1 : Int64)) (own_out p2 (own_bun p3) (0 : Int32))) q1 q2)), .val (.int p1), .unset] [(.int (own_find (own_put (own_put (fun _ => (0 : Int64)) q1 q2 (own_out p1 (own_bun p3) (1 : Int32))) q1 (q2 + (1 : Int64)) (own_out p2 (own_bun p3) (0 : Int32))) q1 (q2 + (1 : Int64))))])) _
          refine XS.istore X33.here hx rfl (hb hby at_156) rfl (l' := #[.val (.long q1), .second, .val (.long q2), .second, .val (.int p1), .val (.int p2), .val (.int p3), .val (.int p4), .val (.ref b1), .val (.int (own_bun p3)), .val (.int (1 : Int32)), .val (.int (0 : Int32)), .val (.int (0 : Int32)), .val (.long (q2 + (1 : Int64))), .second, .val (.int (own_find (own_put (own_put (fun _ => (0 : Int64)) q1 q2 (own_out p1 (own_bun p3) (1 : Int32))) q1 (q2 + (1 : Int64)) (own_out p2 (own_bun p3) (0 : Int32))) q1 q2)), .val (.int p1), .val (.int (own_find (own_put (own_put (fun _ => (0 : Int64)) q1 q2 (own_out p1 (own_bun p3) (1 : Int32))) q1 (q2 + (1 : Int64)) (own_out p2 (own_bun p3) (0 : Int32))) q1 (q2 + (1 : Int64))))]) rfl ?_
          show Steps p.tables e below (T33.setTop (mkF m 158 #[.val (.long q1), .second, .val (.long q2), .second, .val (.int p1), .val (.int p2), .val (.int p3), .val (.int p4), .val (.ref b1), .val (.int (own_bun p3)), .val (.int (1 : Int32)), .val (.int (0 : Int32)), .val (.int (0 : Int32)), .val (.long (q2 + (1 : Int64))), .second, .val (.int (own_find (own_put (own_put (fun _ => (0 : Int64)) q1 q2 (own_out p1 (own_bun p3) (1 : Int32))) q1 (q2 + (1 : Int64)) (own_out p2 (own_bun p3) (0 : Int32))) q1 q2)), .val (.int p1), .val (.int (own_find (own_put (own_put (fun _ => (0 : Int64)) q1 q2 (own_out p1 (own_bun p3) (1 : Int32))) q1 (q2 + (1 : Int64)) (own_out p2 (own_bun p3) (0 : Int32))) q1 (q2 + (1 : Int64))))] [])) _
          refine XS.iload X33.here hx rfl (hb hby at_158) rfl ?_
          show Steps p.tables e below (T33.setTop (mkF m 160 #[.val (.long q1), .second, .val (.long q2), .second, .val (.int p1), .val (.int p2), .val (.int p3), .val (.int p4), .val (.ref b1), .val (.int (own_bun p3)), .val (.int (1 : Int32)), .val (.int (0 : Int32)), .val (.int (0 : Int32)), .val (.long (q2 + (1 : Int64))), .second, .val (.int (own_find (own_put (own_put (fun _ => (0 : Int64)) q1 q2 (own_out p1 (own_bun p3) (1 : Int32))) q1 (q2 + (1 : Int64)) (own_out p2 (own_bun p3) (0 : Int32))) q1 q2)), .val (.int p1), .val (.int (own_find (own_put (own_put (fun _ => (0 : Int64)) q1 q2 (own_out p1 (own_bun p3) (1 : Int32))) q1 (q2 + (1 : Int64)) (own_out p2 (own_bun p3) (0 : Int32))) q1 (q2 + (1 : Int64))))] [(.int (own_find (own_put (own_put (fun _ => (0 : Int64)) q1 q2 (own_out p1 (own_bun p3) (1 : Int32))) q1 (q2 + (1 : Int64)) (own_out p2 (own_bun p3) (0 : Int32))) q1 (q2 + (1 : Int64))))])) _
          refine XS.ifYes X33.here hx rfl (pc0 := 160) (pc' := 165) rfl (hb hby at_160) rfl ((if0 _ _).trans (flt (own_ge (own_Rb _ _ _) (own_two_fB (own_succ _) (own_out_nz _ _ _) (own_out_nz _ _ _)))).2.1) (by decide) (by decide) ?_
          show Steps p.tables e below (T33.setTop (mkF m 165 #[.val (.long q1), .second, .val (.long q2), .second, .val (.int p1), .val (.int p2), .val (.int p3), .val (.int p4), .val (.ref b1), .val (.int (own_bun p3)), .val (.int (1 : Int32)), .val (.int (0 : Int32)), .val (.int (0 : Int32)), .val (.long (q2 + (1 : Int64))), .second, .val (.int (own_find (own_put (own_put (fun _ => (0 : Int64)) q1 q2 (own_out p1 (own_bun p3) (1 : Int32))) q1 (q2 + (1 : Int64)) (own_out p2 (own_bun p3) (0 : Int32))) q1 q2)), .val (.int p1), .val (.int (own_find (own_put (own_put (fun _ => (0 : Int64)) q1 q2 (own_out p1 (own_bun p3) (1 : Int32))) q1 (q2 + (1 : Int64)) (own_out p2 (own_bun p3) (0 : Int32))) q1 (q2 + (1 : Int64))))] [])) _
          refine XS.aload X33.here hx rfl (hb hby at_165) rfl rfl ?_
          show Steps p.tables e below (T33.setTop (mkF m 167 #[.val (.long q1), .second, .val (.long q2), .second, .val (.int p1), .val (.int p2), .val (.int p3), .val (.int p4), .val (.ref b1), .val (.int (own_bun p3)), .val (.int (1 : Int32)), .val (.int (0 : Int32)), .val (.int (0 : Int32)), .val (.long (q2 + (1 : Int64))), .second, .val (.int (own_find (own_put (own_put (fun _ => (0 : Int64)) q1 q2 (own_out p1 (own_bun p3) (1 : Int32))) q1 (q2 + (1 : Int64)) (own_out p2 (own_bun p3) (0 : Int32))) q1 q2)), .val (.int p1), .val (.int (own_find (own_put (own_put (fun _ => (0 : Int64)) q1 q2 (own_out p1 (own_bun p3) (1 : Int32))) q1 (q2 + (1 : Int64)) (own_out p2 (own_bun p3) (0 : Int32))) q1 (q2 + (1 : Int64))))] [(.ref b1)])) _
          refine XS.iload X33.here hx rfl (hb hby at_167) rfl ?_
          show Steps p.tables e below (T33.setTop (mkF m 169 #[.val (.long q1), .second, .val (.long q2), .second, .val (.int p1), .val (.int p2), .val (.int p3), .val (.int p4), .val (.ref b1), .val (.int (own_bun p3)), .val (.int (1 : Int32)), .val (.int (0 : Int32)), .val (.int (0 : Int32)), .val (.long (q2 + (1 : Int64))), .second, .val (.int (own_find (own_put (own_put (fun _ => (0 : Int64)) q1 q2 (own_out p1 (own_bun p3) (1 : Int32))) q1 (q2 + (1 : Int64)) (own_out p2 (own_bun p3) (0 : Int32))) q1 q2)), .val (.int p1), .val (.int (own_find (own_put (own_put (fun _ => (0 : Int64)) q1 q2 (own_out p1 (own_bun p3) (1 : Int32))) q1 (q2 + (1 : Int64)) (own_out p2 (own_bun p3) (0 : Int32))) q1 (q2 + (1 : Int64))))] [(.int (own_find (own_put (own_put (fun _ => (0 : Int64)) q1 q2 (own_out p1 (own_bun p3) (1 : Int32))) q1 (q2 + (1 : Int64)) (own_out p2 (own_bun p3) (0 : Int32))) q1 (q2 + (1 : Int64)))), (.ref b1)])) _
          refine st34.trans ?_
          show Steps p.tables e below (T34.setTop (mkF m 172 #[.val (.long q1), .second, .val (.long q2), .second, .val (.int p1), .val (.int p2), .val (.int p3), .val (.int p4), .val (.ref b1), .val (.int (own_bun p3)), .val (.int (1 : Int32)), .val (.int (0 : Int32)), .val (.int (0 : Int32)), .val (.long (q2 + (1 : Int64))), .second, .val (.int (own_find (own_put (own_put (fun _ => (0 : Int64)) q1 q2 (own_out p1 (own_bun p3) (1 : Int32))) q1 (q2 + (1 : Int64)) (own_out p2 (own_bun p3) (0 : Int32))) q1 q2)), .val (.int p1), .val (.int (own_find (own_put (own_put (fun _ => (0 : Int64)) q1 q2 (own_out p1 (own_bun p3) (1 : Int32))) q1 (q2 + (1 : Int64)) (own_out p2 (own_bun p3) (0 : Int32))) q1 (q2 + (1 : Int64))))] [(.int (((own_put (own_put (fun _ => (0 : Int64)) q1 q2 (own_out p1 (own_bun p3) (1 : Int32))) q1 (q2 + (1 : Int64)) (own_out p2 (own_bun p3) (0 : Int32))) ((own_find (own_put (own_put (fun _ => (0 : Int64)) q1 q2 (own_out p1 (own_bun p3) (1 : Int32))) q1 (q2 + (1 : Int64)) (own_out p2 (own_bun p3) (0 : Int32))) q1 (q2 + (1 : Int64))) + (2 : Int32))) >>> ((32 : Int32) &&& 0x3f).toInt64).toInt32)])) _
          refine XS.iload X34.here hx rfl (hb hby at_172) rfl ?_
          show Steps p.tables e below (T34.setTop (mkF m 174 #[.val (.long q1), .second, .val (.long q2), .second, .val (.int p1), .val (.int p2), .val (.int p3), .val (.int p4), .val (.ref b1), .val (.int (own_bun p3)), .val (.int (1 : Int32)), .val (.int (0 : Int32)), .val (.int (0 : Int32)), .val (.long (q2 + (1 : Int64))), .second, .val (.int (own_find (own_put (own_put (fun _ => (0 : Int64)) q1 q2 (own_out p1 (own_bun p3) (1 : Int32))) q1 (q2 + (1 : Int64)) (own_out p2 (own_bun p3) (0 : Int32))) q1 q2)), .val (.int p1), .val (.int (own_find (own_put (own_put (fun _ => (0 : Int64)) q1 q2 (own_out p1 (own_bun p3) (1 : Int32))) q1 (q2 + (1 : Int64)) (own_out p2 (own_bun p3) (0 : Int32))) q1 (q2 + (1 : Int64))))] [(.int p2), (.int (((own_put (own_put (fun _ => (0 : Int64)) q1 q2 (own_out p1 (own_bun p3) (1 : Int32))) q1 (q2 + (1 : Int64)) (own_out p2 (own_bun p3) (0 : Int32))) ((own_find (own_put (own_put (fun _ => (0 : Int64)) q1 q2 (own_out p1 (own_bun p3) (1 : Int32))) q1 (q2 + (1 : Int64)) (own_out p2 (own_bun p3) (0 : Int32))) q1 (q2 + (1 : Int64))) + (2 : Int32))) >>> ((32 : Int32) &&& 0x3f).toInt64).toInt32)])) _
          refine XS.icmpYes X34.here hx rfl (pc0 := 174) (pc' := 179) rfl (hb hby at_174) rfl (teq (own_valeq (own_two_fB (own_succ _) (own_out_nz _ _ _) (own_out_nz _ _ _)) (own_two_b (own_succ _) (own_out_nz _ _ _)).2.2 (own_out_v _ _ _))).1 (by decide) (by decide) ?_
          show Steps p.tables e below (T34.setTop (mkF m 179 #[.val (.long q1), .second, .val (.long q2), .second, .val (.int p1), .val (.int p2), .val (.int p3), .val (.int p4), .val (.ref b1), .val (.int (own_bun p3)), .val (.int (1 : Int32)), .val (.int (0 : Int32)), .val (.int (0 : Int32)), .val (.long (q2 + (1 : Int64))), .second, .val (.int (own_find (own_put (own_put (fun _ => (0 : Int64)) q1 q2 (own_out p1 (own_bun p3) (1 : Int32))) q1 (q2 + (1 : Int64)) (own_out p2 (own_bun p3) (0 : Int32))) q1 q2)), .val (.int p1), .val (.int (own_find (own_put (own_put (fun _ => (0 : Int64)) q1 q2 (own_out p1 (own_bun p3) (1 : Int32))) q1 (q2 + (1 : Int64)) (own_out p2 (own_bun p3) (0 : Int32))) q1 (q2 + (1 : Int64))))] [])) _
          refine XS.iconst X34.here hx rfl (hb hby at_179) ?_
          show Steps p.tables e below (T34.setTop (mkF m 180 #[.val (.long q1), .second, .val (.long q2), .second, .val (.int p1), .val (.int p2), .val (.int p3), .val (.int p4), .val (.ref b1), .val (.int (own_bun p3)), .val (.int (1 : Int32)), .val (.int (0 : Int32)), .val (.int (0 : Int32)), .val (.long (q2 + (1 : Int64))), .second, .val (.int (own_find (own_put (own_put (fun _ => (0 : Int64)) q1 q2 (own_out p1 (own_bun p3) (1 : Int32))) q1 (q2 + (1 : Int64)) (own_out p2 (own_bun p3) (0 : Int32))) q1 q2)), .val (.int p1), .val (.int (own_find (own_put (own_put (fun _ => (0 : Int64)) q1 q2 (own_out p1 (own_bun p3) (1 : Int32))) q1 (q2 + (1 : Int64)) (own_out p2 (own_bun p3) (0 : Int32))) q1 (q2 + (1 : Int64))))] [(.int (1 : Int32))])) _
          exact retN X34 hx (t := .boolean) Bd.returns (by simp) (hb hby at_180) hr
        · show Q_rm_law Z q1 q2 p1 p2 p3 p4 h0 n0 _ T34.heap _
          rw [e34]
          exact ⟨rfl, N34, trivial⟩
      · obtain ⟨_, _, ⟨T35, L35, k35, n35⟩, -, X35, ⟨Lc35, hQ35, l35, y35, z35⟩, st35⟩ := Jvm.LawKit.callS X2 hx (y := (⟨"com/example/outcry/outcry/allocation/MemoValuePinLaw", "store", "(Lcom/example/outcry/outcry/allocation/Memo;JJIIZ)V"⟩ : MethodName)) hown (mvT hZ (hw _ (List.mem_of_getElem? (i := 13) rfl))) (mvT hZ (hw _ (List.mem_of_getElem? (i := 14) rfl))) (mvT hZ (hw _ (List.mem_of_getElem? (i := 15) rfl))) (mvT hZ (hw _ (List.mem_of_getElem? (i := 16) rfl))) (by decide) (backOf (W := 0) (rm_store l Z a0 hw [] b1 q1 q2 p1 (own_bun p3) (1 : Int32) tb (fun _ => (0 : Int64)) (0 : Int32) T2.heap n0 Z2 Ftb Vtb A1_2 g_b1 gtb ne_ob_tb x2c1 (own_ok_0 _ _) (fun _ => own_ok2_0 _ _) (by decide)) hZ (hw _ (List.mem_of_getElem? (i := 16) rfl)) (hw _ (List.mem_of_getElem? (i := 15) rfl)) (by decide) (by decide)) (g := (mkF m 82 #[.val (.long q1), .second, .val (.long q2), .second, .val (.int p1), .val (.int p2), .val (.int p3), .val (.int p4), .val (.ref b1), .val (.int (own_bun p3)), .val (.int (1 : Int32)), .val (.int (0 : Int32)), .val (.int (1 : Int32)), .val (.long (q2 + (1 : Int64))), .second, .unset, .unset, .unset] [(.int (1 : Int32)), (.int (own_bun p3)), (.int p1), (.long q2), (.long q1), (.ref b1)])) rfl (by rw [hml]; rfl) (argsL := [(.ref b1), (.long q1), (.long q2), (.int p1), (.int (own_bun p3)), (.int (1 : Int32))]) (rest := []) (lenOf pd_6 rfl) rfl (by show 2 * 0 + _ ≤ _; exact Nat.le_of_eq rfl) (hb hby at_82) (fun _ _ => ⟨rfl, rfl, (by decide : 2 + 0 ≤ _), (by decide : 3074 + 0 ≤ _)⟩)
        dsimp only [Pt.U, Pt.locs, Pt.cells, Pt.slots] at X35 l35 y35 z35 st35 hQ35
        subst l35 y35 z35
        obtain ⟨rfl, N35q, x35c0, x35c1, x35c2, x35c3⟩ := hQ35
        have N35 := Fr.app N2 N35q
        have A1_35 : Exa Z T35.heap b1 "com/example/outcry/outcry/allocation/Memo" := A1_2.keep x35c0
        have Z35 : n0 ≤ T35.heap.size := Nat.le_trans Z2 x35c0.1
        obtain ⟨_, _, ⟨T36, L36, k36, n36⟩, -, X36, ⟨Lc36, hQ36, l36, y36, z36⟩, st36⟩ := Jvm.LawKit.callS X35 hx (y := (⟨"com/example/outcry/outcry/allocation/MemoValuePinLaw", "store", "(Lcom/example/outcry/outcry/allocation/Memo;JJIIZ)V"⟩ : MethodName)) hown (mvT hZ (hw _ (List.mem_of_getElem? (i := 13) rfl))) (mvT hZ (hw _ (List.mem_of_getElem? (i := 14) rfl))) (mvT hZ (hw _ (List.mem_of_getElem? (i := 15) rfl))) (mvT hZ (hw _ (List.mem_of_getElem? (i := 16) rfl))) (by decide) (backOf (W := 0) (rm_store l Z a0 hw [] b1 q1 (q2 + (1 : Int64)) p2 (own_bun p3) (1 : Int32) tb (own_put (fun _ => (0 : Int64)) q1 q2 (own_out p1 (own_bun p3) (1 : Int32))) (own_szz (fun _ => (0 : Int64)) q1 q2 (0 : Int32)) T35.heap n0 Z35 x35c1 x35c3 A1_35 g_b1 gtb ne_ob_tb x35c2 (own_two_ok1 (own_succ _) (own_out_nz _ _ _)) (own_two_ok2 (own_succ _) (own_out_nz _ _ _)) (own_hq1 _ _)) hZ (hw _ (List.mem_of_getElem? (i := 16) rfl)) (hw _ (List.mem_of_getElem? (i := 15) rfl)) (by decide) (by decide)) (g := (mkF m 96 #[.val (.long q1), .second, .val (.long q2), .second, .val (.int p1), .val (.int p2), .val (.int p3), .val (.int p4), .val (.ref b1), .val (.int (own_bun p3)), .val (.int (1 : Int32)), .val (.int (0 : Int32)), .val (.int (1 : Int32)), .val (.long (q2 + (1 : Int64))), .second, .unset, .unset, .unset] [(.int (1 : Int32)), (.int (own_bun p3)), (.int p2), (.long (q2 + (1 : Int64))), (.long q1), (.ref b1)])) rfl (by rw [hml]; rfl) (argsL := [(.ref b1), (.long q1), (.long (q2 + (1 : Int64))), (.int p2), (.int (own_bun p3)), (.int (1 : Int32))]) (rest := []) (lenOf pd_6 rfl) rfl (by show 2 * 0 + _ ≤ _; exact Nat.le_of_eq rfl) (hb hby at_96) (fun _ _ => ⟨rfl, rfl, (by decide : 2 + 0 ≤ _), (by decide : 3074 + 0 ≤ _)⟩)
        dsimp only [Pt.U, Pt.locs, Pt.cells, Pt.slots] at X36 l36 y36 z36 st36 hQ36
        subst l36 y36 z36
        obtain ⟨rfl, N36q, x36c0, x36c1, x36c2, x36c3⟩ := hQ36
        have N36 := Fr.app N35 N36q
        have A1_36 : Exa Z T36.heap b1 "com/example/outcry/outcry/allocation/Memo" := A1_35.keep x36c0
        have Z36 : n0 ≤ T36.heap.size := Nat.le_trans Z35 x36c0.1
        obtain ⟨cq37, kq37, q37a, q37b, q37c⟩ := isOf hZ rfl A1_36
        obtain ⟨_, _, ⟨T37, L37, k37, n37⟩, -, X37, ⟨Lc37, hQ37, l37, y37, z37⟩, st37⟩ := X36.virtualBack hx (y := (⟨"com/example/outcry/outcry/allocation/Memo", "find", "(JJ)I"⟩ : MethodName)) (z := (⟨"com/example/outcry/outcry/allocation/Memo", "find", "(JJ)I"⟩ : MethodName)) hown (mvT hZ (hw _ (List.mem_of_getElem? (i := 42) rfl))) (mvT hZ (hw _ (List.mem_of_getElem? (i := 27) rfl))) (notFace_of_selects (args := #[]) (mvT hZ (hw _ (List.mem_of_getElem? (i := 29) rfl)))) (mvT hZ (hw _ (List.mem_of_getElem? (i := 29) rfl))) (mvT hZ (hw _ (List.mem_of_getElem? (i := 28) rfl))) (by decide) (backOf (W := 0) (rm_find l Z a0 hw [] b1 q1 q2 tb (own_put (own_put (fun _ => (0 : Int64)) q1 q2 (own_out p1 (own_bun p3) (1 : Int32))) q1 (q2 + (1 : Int64)) (own_out p2 (own_bun p3) (1 : Int32))) T36.heap n0 Z36 x36c1 x36c3 (own_two_okA (own_succ _) (own_out_nz _ _ _))) hZ (hw _ (List.mem_of_getElem? (i := 30) rfl)) (hw _ (List.mem_of_getElem? (i := 2) rfl)) (by decide) (by decide)) q37a q37c (g := (mkF m 103 #[.val (.long q1), .second, .val (.long q2), .second, .val (.int p1), .val (.int p2), .val (.int p3), .val (.int p4), .val (.ref b1), .val (.int (own_bun p3)), .val (.int (1 : Int32)), .val (.int (0 : Int32)), .val (.int (1 : Int32)), .val (.long (q2 + (1 : Int64))), .second, .unset, .unset, .unset] [(.long q2), (.long q1), (.ref b1)])) rfl (by rw [hml]; rfl) (Steps.refl _) (argsL := [(.long q1), (.long q2)]) (rest := []) (lenOf pd_1 rfl) rfl (by show 2 * 0 + _ ≤ _; exact Nat.le_of_eq rfl) (hb hby at_103) (fun _ _ => ⟨rfl, rfl, (by decide : 2 + 0 ≤ _), (by decide : 3074 + 0 ≤ _)⟩)
        dsimp only [Pt.U, Pt.locs, Pt.cells, Pt.slots] at X37 l37 y37 z37 st37 hQ37
        subst l37 y37 z37
        obtain ⟨rfl, N37q, e37⟩ := hQ37
        have N37 := Fr.app N36 N37q
        obtain ⟨cq38, kq38, q38a, q38b, q38c⟩ := isOf hZ e37 A1_36
        obtain ⟨_, _, ⟨T38, L38, k38, n38⟩, -, X38, ⟨Lc38, hQ38, l38, y38, z38⟩, st38⟩ := X37.virtualBack hx (y := (⟨"com/example/outcry/outcry/allocation/Memo", "value", "(I)I"⟩ : MethodName)) (z := (⟨"com/example/outcry/outcry/allocation/Memo", "value", "(I)I"⟩ : MethodName)) hown (mvT hZ (hw _ (List.mem_of_getElem? (i := 43) rfl))) (mvT hZ (hw _ (List.mem_of_getElem? (i := 44) rfl))) (notFace_of_selects (args := #[]) (mvT hZ (hw _ (List.mem_of_getElem? (i := 46) rfl)))) (mvT hZ (hw _ (List.mem_of_getElem? (i := 46) rfl))) (mvT hZ (hw _ (List.mem_of_getElem? (i := 45) rfl))) (by decide) (backOf (W := 0) (rm_value l Z a0 hw [] b1 (own_find (own_put (own_put (fun _ => (0 : Int64)) q1 q2 (own_out p1 (own_bun p3) (1 : Int32))) q1 (q2 + (1 : Int64)) (own_out p2 (own_bun p3) (1 : Int32))) q1 q2) tb (own_put (own_put (fun _ => (0 : Int64)) q1 q2 (own_out p1 (own_bun p3) (1 : Int32))) q1 (q2 + (1 : Int64)) (own_out p2 (own_bun p3) (1 : Int32))) T36.heap n0 Z36 x36c1 x36c3 (own_bb (own_sb _ _) (own_two_fA (own_succ _) (own_out_nz _ _ _)))) hZ (hw _ (List.mem_of_getElem? (i := 47) rfl)) (hw _ (List.mem_of_getElem? (i := 2) rfl)) (by decide) (by decide)) q38a q38c (g := (mkF m 133 #[.val (.long q1), .second, .val (.long q2), .second, .val (.int p1), .val (.int p2), .val (.int p3), .val (.int p4), .val (.ref b1), .val (.int (own_bun p3)), .val (.int (1 : Int32)), .val (.int (0 : Int32)), .val (.int (1 : Int32)), .val (.long (q2 + (1 : Int64))), .second, .val (.int (own_find (own_put (own_put (fun _ => (0 : Int64)) q1 q2 (own_out p1 (own_bun p3) (1 : Int32))) q1 (q2 + (1 : Int64)) (own_out p2 (own_bun p3) (1 : Int32))) q1 q2)), .val (.int p1), .unset] [(.int (own_find (own_put (own_put (fun _ => (0 : Int64)) q1 q2 (own_out p1 (own_bun p3) (1 : Int32))) q1 (q2 + (1 : Int64)) (own_out p2 (own_bun p3) (1 : Int32))) q1 q2)), (.ref b1)])) rfl (by rw [hml]; rfl) (Steps.refl _) (argsL := [(.int (own_find (own_put (own_put (fun _ => (0 : Int64)) q1 q2 (own_out p1 (own_bun p3) (1 : Int32))) q1 (q2 + (1 : Int64)) (own_out p2 (own_bun p3) (1 : Int32))) q1 q2))]) (rest := []) (lenOf pd_7 rfl) rfl (by show 2 * 0 + _ ≤ _; exact Nat.le_of_eq rfl) (hb hby at_133) (fun _ _ => ⟨rfl, e37, (by decide : 2 + 0 ≤ _), (by decide : 3074 + 0 ≤ _)⟩)
        dsimp only [Pt.U, Pt.locs, Pt.cells, Pt.slots] at X38 l38 y38 z38 st38 hQ38
        subst l38 y38 z38
        obtain ⟨rfl, N38q, e38⟩ := hQ38
        have N38 := Fr.app N37 N38q
        obtain ⟨cq39, kq39, q39a, q39b, q39c⟩ := isOf hZ e38 A1_36
        obtain ⟨_, _, ⟨T39, L39, k39, n39⟩, -, X39, ⟨Lc39, hQ39, l39, y39, z39⟩, st39⟩ := X38.virtualBack hx (y := (⟨"com/example/outcry/outcry/allocation/Memo", "find", "(JJ)I"⟩ : MethodName)) (z := (⟨"com/example/outcry/outcry/allocation/Memo", "find", "(JJ)I"⟩ : MethodName)) hown (mvT hZ (hw _ (List.mem_of_getElem? (i := 42) rfl))) (mvT hZ (hw _ (List.mem_of_getElem? (i := 27) rfl))) (notFace_of_selects (args := #[]) (mvT hZ (hw _ (List.mem_of_getElem? (i := 29) rfl)))) (mvT hZ (hw _ (List.mem_of_getElem? (i := 29) rfl))) (mvT hZ (hw _ (List.mem_of_getElem? (i := 28) rfl))) (by decide) (backOf (W := 0) (rm_find l Z a0 hw [] b1 q1 (q2 + (1 : Int64)) tb (own_put (own_put (fun _ => (0 : Int64)) q1 q2 (own_out p1 (own_bun p3) (1 : Int32))) q1 (q2 + (1 : Int64)) (own_out p2 (own_bun p3) (1 : Int32))) T36.heap n0 Z36 x36c1 x36c3 (own_two_okB (own_succ _) (own_out_nz _ _ _))) hZ (hw _ (List.mem_of_getElem? (i := 30) rfl)) (hw _ (List.mem_of_getElem? (i := 2) rfl)) (by decide) (by decide)) q39a q39c (g := (mkF m 153 #[.val (.long q1), .second, .val (.long q2), .second, .val (.int p1), .val (.int p2), .val (.int p3), .val (.int p4), .val (.ref b1), .val (.int (own_bun p3)), .val (.int (1 : Int32)), .val (.int (0 : Int32)), .val (.int (1 : Int32)), .val (.long (q2 + (1 : Int64))), .second, .val (.int (own_find (own_put (own_put (fun _ => (0 : Int64)) q1 q2 (own_out p1 (own_bun p3) (1 : Int32))) q1 (q2 + (1 : Int64)) (own_out p2 (own_bun p3) (1 : Int32))) q1 q2)), .val (.int p1), .unset] [(.long (q2 + (1 : Int64))), (.long q1), (.ref b1)])) rfl (by rw [hml]; rfl) (Steps.refl _) (argsL := [(.long q1), (.long (q2 + (1 : Int64)))]) (rest := []) (lenOf pd_1 rfl) rfl (by show 2 * 0 + _ ≤ _; exact Nat.le_of_eq rfl) (hb hby at_153) (fun _ _ => ⟨rfl, e38, (by decide : 2 + 0 ≤ _), (by decide : 3074 + 0 ≤ _)⟩)
        dsimp only [Pt.U, Pt.locs, Pt.cells, Pt.slots] at X39 l39 y39 z39 st39 hQ39
        subst l39 y39 z39
        obtain ⟨rfl, N39q, e39⟩ := hQ39
        have N39 := Fr.app N38 N39q
        obtain ⟨cq40, kq40, q40a, q40b, q40c⟩ := isOf hZ e39 A1_36
        obtain ⟨_, _, ⟨T40, L40, k40, n40⟩, -, X40, ⟨Lc40, hQ40, l40, y40, z40⟩, st40⟩ := X39.virtualBack hx (y := (⟨"com/example/outcry/outcry/allocation/Memo", "value", "(I)I"⟩ : MethodName)) (z := (⟨"com/example/outcry/outcry/allocation/Memo", "value", "(I)I"⟩ : MethodName)) hown (mvT hZ (hw _ (List.mem_of_getElem? (i := 43) rfl))) (mvT hZ (hw _ (List.mem_of_getElem? (i := 44) rfl))) (notFace_of_selects (args := #[]) (mvT hZ (hw _ (List.mem_of_getElem? (i := 46) rfl)))) (mvT hZ (hw _ (List.mem_of_getElem? (i := 46) rfl))) (mvT hZ (hw _ (List.mem_of_getElem? (i := 45) rfl))) (by decide) (backOf (W := 0) (rm_value l Z a0 hw [] b1 (own_find (own_put (own_put (fun _ => (0 : Int64)) q1 q2 (own_out p1 (own_bun p3) (1 : Int32))) q1 (q2 + (1 : Int64)) (own_out p2 (own_bun p3) (1 : Int32))) q1 (q2 + (1 : Int64))) tb (own_put (own_put (fun _ => (0 : Int64)) q1 q2 (own_out p1 (own_bun p3) (1 : Int32))) q1 (q2 + (1 : Int64)) (own_out p2 (own_bun p3) (1 : Int32))) T36.heap n0 Z36 x36c1 x36c3 (own_bb (own_Rb _ _ _) (own_two_fB (own_succ _) (own_out_nz _ _ _) (own_out_nz _ _ _)))) hZ (hw _ (List.mem_of_getElem? (i := 47) rfl)) (hw _ (List.mem_of_getElem? (i := 2) rfl)) (by decide) (by decide)) q40a q40c (g := (mkF m 169 #[.val (.long q1), .second, .val (.long q2), .second, .val (.int p1), .val (.int p2), .val (.int p3), .val (.int p4), .val (.ref b1), .val (.int (own_bun p3)), .val (.int (1 : Int32)), .val (.int (0 : Int32)), .val (.int (1 : Int32)), .val (.long (q2 + (1 : Int64))), .second, .val (.int (own_find (own_put (own_put (fun _ => (0 : Int64)) q1 q2 (own_out p1 (own_bun p3) (1 : Int32))) q1 (q2 + (1 : Int64)) (own_out p2 (own_bun p3) (1 : Int32))) q1 q2)), .val (.int p1), .val (.int (own_find (own_put (own_put (fun _ => (0 : Int64)) q1 q2 (own_out p1 (own_bun p3) (1 : Int32))) q1 (q2 + (1 : Int64)) (own_out p2 (own_bun p3) (1 : Int32))) q1 (q2 + (1 : Int64))))] [(.int (own_find (own_put (own_put (fun _ => (0 : Int64)) q1 q2 (own_out p1 (own_bun p3) (1 : Int32))) q1 (q2 + (1 : Int64)) (own_out p2 (own_bun p3) (1 : Int32))) q1 (q2 + (1 : Int64)))), (.ref b1)])) rfl (by rw [hml]; rfl) (Steps.refl _) (argsL := [(.int (own_find (own_put (own_put (fun _ => (0 : Int64)) q1 q2 (own_out p1 (own_bun p3) (1 : Int32))) q1 (q2 + (1 : Int64)) (own_out p2 (own_bun p3) (1 : Int32))) q1 (q2 + (1 : Int64))))]) (rest := []) (lenOf pd_7 rfl) rfl (by show 2 * 0 + _ ≤ _; exact Nat.le_of_eq rfl) (hb hby at_169) (fun _ _ => ⟨rfl, e39, (by decide : 2 + 0 ≤ _), (by decide : 3074 + 0 ≤ _)⟩)
        dsimp only [Pt.U, Pt.locs, Pt.cells, Pt.slots] at X40 l40 y40 z40 st40 hQ40
        subst l40 y40 z40
        obtain ⟨rfl, N40q, e40⟩ := hQ40
        have N40 := Fr.app N39 N40q
        obtain ⟨fs, hr, hrun, hended, hW, hsame⟩ := X40.leave (v := some (.int (1 : Int32))) (fun h => by rw [Bd.returns] at h; cases h)
        refine ⟨_, _, pre0 _ ?_, hrun, hended, _, _, rfl, ?_, ⟨_, rfl⟩, hW, hsame.mono (by decide) (by decide)⟩
        · refine k28 _ ?_
          show Steps p.tables e below (T2.setTop (mkF m 48 #[.val (.long q1), .second, .val (.long q2), .second, .val (.int p1), .val (.int p2), .val (.int p3), .val (.int p4), .val (.ref b1), .val (.int (own_bun p3)), .val (.int (1 : Int32)), .val (.int (0 : Int32)), .unset, .unset, .unset, .unset, .unset, .unset] [(.int (p4 &&& (4 : Int32)))])) _
          refine XS.ifNo X2.here hx rfl (hb hby at_48) rfl ((if0 _ _).trans (feq hc48).1) ?_
          show Steps p.tables e below (T2.setTop (mkF m 51 #[.val (.long q1), .second, .val (.long q2), .second, .val (.int p1), .val (.int p2), .val (.int p3), .val (.int p4), .val (.ref b1), .val (.int (own_bun p3)), .val (.int (1 : Int32)), .val (.int (0 : Int32)), .unset, .unset, .unset, .unset, .unset, .unset] [])) _
          refine XS.iconst X2.here hx rfl (hb hby at_51) ?_
          show Steps p.tables e below (T2.setTop (mkF m 52 #[.val (.long q1), .second, .val (.long q2), .second, .val (.int p1), .val (.int p2), .val (.int p3), .val (.int p4), .val (.ref b1), .val (.int (own_bun p3)), .val (.int (1 : Int32)), .val (.int (0 : Int32)), .unset, .unset, .unset, .unset, .unset, .unset] [(.int (1 : Int32))])) _
          refine XS.goto X2.here hx rfl (pc0 := 52) (pc' := 56) rfl (hb hby at_52) (by decide) (by decide) ?_
          show Steps p.tables e below (T2.setTop (mkF m 56 #[.val (.long q1), .second, .val (.long q2), .second, .val (.int p1), .val (.int p2), .val (.int p3), .val (.int p4), .val (.ref b1), .val (.int (own_bun p3)), .val (.int (1 : Int32)), .val (.int (0 : Int32)), .unset, .unset, .unset, .unset, .unset, .unset] [(.int (1 : Int32))])) _
          refine XS.istore X2.here hx rfl (hb hby at_56) rfl (l' := #[.val (.long q1), .second, .val (.long q2), .second, .val (.int p1), .val (.int p2), .val (.int p3), .val (.int p4), .val (.ref b1), .val (.int (own_bun p3)), .val (.int (1 : Int32)), .val (.int (0 : Int32)), .val (.int (1 : Int32)), .unset, .unset, .unset, .unset, .unset]) rfl ?_
          show Steps p.tables e below (T2.setTop (mkF m 58 #[.val (.long q1), .second, .val (.long q2), .second, .val (.int p1), .val (.int p2), .val (.int p3), .val (.int p4), .val (.ref b1), .val (.int (own_bun p3)), .val (.int (1 : Int32)), .val (.int (0 : Int32)), .val (.int (1 : Int32)), .unset, .unset, .unset, .unset, .unset] [])) _
          refine XS.iload X2.here hx rfl (hb hby at_58) rfl ?_
          show Steps p.tables e below (T2.setTop (mkF m 60 #[.val (.long q1), .second, .val (.long q2), .second, .val (.int p1), .val (.int p2), .val (.int p3), .val (.int p4), .val (.ref b1), .val (.int (own_bun p3)), .val (.int (1 : Int32)), .val (.int (0 : Int32)), .val (.int (1 : Int32)), .unset, .unset, .unset, .unset, .unset] [(.int (0 : Int32))])) _
          refine XS.ifYes X2.here hx rfl (pc0 := 60) (pc' := 67) rfl (hb hby at_60) rfl ((if0 _ _).trans (teq (by decide : (0 : Int32) = (0 : Int32))).1) (by decide) (by decide) ?_
          show Steps p.tables e below (T2.setTop (mkF m 67 #[.val (.long q1), .second, .val (.long q2), .second, .val (.int p1), .val (.int p2), .val (.int p3), .val (.int p4), .val (.ref b1), .val (.int (own_bun p3)), .val (.int (1 : Int32)), .val (.int (0 : Int32)), .val (.int (1 : Int32)), .unset, .unset, .unset, .unset, .unset] [])) _
          refine XS.lloadN X2.here hx rfl (hb hby at_67) rfl ?_
          show Steps p.tables e below (T2.setTop (mkF m 68 #[.val (.long q1), .second, .val (.long q2), .second, .val (.int p1), .val (.int p2), .val (.int p3), .val (.int p4), .val (.ref b1), .val (.int (own_bun p3)), .val (.int (1 : Int32)), .val (.int (0 : Int32)), .val (.int (1 : Int32)), .unset, .unset, .unset, .unset, .unset] [(.long q2)])) _
          refine XS.lconst X2.here hx rfl (hb hby at_68) ?_
          show Steps p.tables e below (T2.setTop (mkF m 69 #[.val (.long q1), .second, .val (.long q2), .second, .val (.int p1), .val (.int p2), .val (.int p3), .val (.int p4), .val (.ref b1), .val (.int (own_bun p3)), .val (.int (1 : Int32)), .val (.int (0 : Int32)), .val (.int (1 : Int32)), .unset, .unset, .unset, .unset, .unset] [(.long (1 : Int64)), (.long q2)])) _
          refine XS.ladd X2.here hx rfl (hb hby at_69) rfl ?_
          show Steps p.tables e below (T2.setTop (mkF m 70 #[.val (.long q1), .second, .val (.long q2), .second, .val (.int p1), .val (.int p2), .val (.int p3), .val (.int p4), .val (.ref b1), .val (.int (own_bun p3)), .val (.int (1 : Int32)), .val (.int (0 : Int32)), .val (.int (1 : Int32)), .unset, .unset, .unset, .unset, .unset] [(.long (q2 + (1 : Int64)))])) _
          refine XS.lstore X2.here hx rfl (hb hby at_70) rfl (l' := #[.val (.long q1), .second, .val (.long q2), .second, .val (.int p1), .val (.int p2), .val (.int p3), .val (.int p4), .val (.ref b1), .val (.int (own_bun p3)), .val (.int (1 : Int32)), .val (.int (0 : Int32)), .val (.int (1 : Int32)), .val (.long (q2 + (1 : Int64))), .second, .unset, .unset, .unset]) rfl ?_
          show Steps p.tables e below (T2.setTop (mkF m 72 #[.val (.long q1), .second, .val (.long q2), .second, .val (.int p1), .val (.int p2), .val (.int p3), .val (.int p4), .val (.ref b1), .val (.int (own_bun p3)), .val (.int (1 : Int32)), .val (.int (0 : Int32)), .val (.int (1 : Int32)), .val (.long (q2 + (1 : Int64))), .second, .unset, .unset, .unset] [])) _
          refine XS.aload X2.here hx rfl (hb hby at_72) rfl rfl ?_
          show Steps p.tables e below (T2.setTop (mkF m 74 #[.val (.long q1), .second, .val (.long q2), .second, .val (.int p1), .val (.int p2), .val (.int p3), .val (.int p4), .val (.ref b1), .val (.int (own_bun p3)), .val (.int (1 : Int32)), .val (.int (0 : Int32)), .val (.int (1 : Int32)), .val (.long (q2 + (1 : Int64))), .second, .unset, .unset, .unset] [(.ref b1)])) _
          refine XS.lloadN X2.here hx rfl (hb hby at_74) rfl ?_
          show Steps p.tables e below (T2.setTop (mkF m 75 #[.val (.long q1), .second, .val (.long q2), .second, .val (.int p1), .val (.int p2), .val (.int p3), .val (.int p4), .val (.ref b1), .val (.int (own_bun p3)), .val (.int (1 : Int32)), .val (.int (0 : Int32)), .val (.int (1 : Int32)), .val (.long (q2 + (1 : Int64))), .second, .unset, .unset, .unset] [(.long q1), (.ref b1)])) _
          refine XS.lloadN X2.here hx rfl (hb hby at_75) rfl ?_
          show Steps p.tables e below (T2.setTop (mkF m 76 #[.val (.long q1), .second, .val (.long q2), .second, .val (.int p1), .val (.int p2), .val (.int p3), .val (.int p4), .val (.ref b1), .val (.int (own_bun p3)), .val (.int (1 : Int32)), .val (.int (0 : Int32)), .val (.int (1 : Int32)), .val (.long (q2 + (1 : Int64))), .second, .unset, .unset, .unset] [(.long q2), (.long q1), (.ref b1)])) _
          refine XS.iload X2.here hx rfl (hb hby at_76) rfl ?_
          show Steps p.tables e below (T2.setTop (mkF m 78 #[.val (.long q1), .second, .val (.long q2), .second, .val (.int p1), .val (.int p2), .val (.int p3), .val (.int p4), .val (.ref b1), .val (.int (own_bun p3)), .val (.int (1 : Int32)), .val (.int (0 : Int32)), .val (.int (1 : Int32)), .val (.long (q2 + (1 : Int64))), .second, .unset, .unset, .unset] [(.int p1), (.long q2), (.long q1), (.ref b1)])) _
          refine XS.iload X2.here hx rfl (hb hby at_78) rfl ?_
          show Steps p.tables e below (T2.setTop (mkF m 80 #[.val (.long q1), .second, .val (.long q2), .second, .val (.int p1), .val (.int p2), .val (.int p3), .val (.int p4), .val (.ref b1), .val (.int (own_bun p3)), .val (.int (1 : Int32)), .val (.int (0 : Int32)), .val (.int (1 : Int32)), .val (.long (q2 + (1 : Int64))), .second, .unset, .unset, .unset] [(.int (own_bun p3)), (.int p1), (.long q2), (.long q1), (.ref b1)])) _
          refine XS.iload X2.here hx rfl (hb hby at_80) rfl ?_
          show Steps p.tables e below (T2.setTop (mkF m 82 #[.val (.long q1), .second, .val (.long q2), .second, .val (.int p1), .val (.int p2), .val (.int p3), .val (.int p4), .val (.ref b1), .val (.int (own_bun p3)), .val (.int (1 : Int32)), .val (.int (0 : Int32)), .val (.int (1 : Int32)), .val (.long (q2 + (1 : Int64))), .second, .unset, .unset, .unset] [(.int (1 : Int32)), (.int (own_bun p3)), (.int p1), (.long q2), (.long q1), (.ref b1)])) _
          refine st35 _ ?_
          show Steps p.tables e below (T35.setTop (mkF m 85 #[.val (.long q1), .second, .val (.long q2), .second, .val (.int p1), .val (.int p2), .val (.int p3), .val (.int p4), .val (.ref b1), .val (.int (own_bun p3)), .val (.int (1 : Int32)), .val (.int (0 : Int32)), .val (.int (1 : Int32)), .val (.long (q2 + (1 : Int64))), .second, .unset, .unset, .unset] [])) _
          refine XS.aload X35.here hx rfl (hb hby at_85) rfl rfl ?_
          show Steps p.tables e below (T35.setTop (mkF m 87 #[.val (.long q1), .second, .val (.long q2), .second, .val (.int p1), .val (.int p2), .val (.int p3), .val (.int p4), .val (.ref b1), .val (.int (own_bun p3)), .val (.int (1 : Int32)), .val (.int (0 : Int32)), .val (.int (1 : Int32)), .val (.long (q2 + (1 : Int64))), .second, .unset, .unset, .unset] [(.ref b1)])) _
          refine XS.lloadN X35.here hx rfl (hb hby at_87) rfl ?_
          show Steps p.tables e below (T35.setTop (mkF m 88 #[.val (.long q1), .second, .val (.long q2), .second, .val (.int p1), .val (.int p2), .val (.int p3), .val (.int p4), .val (.ref b1), .val (.int (own_bun p3)), .val (.int (1 : Int32)), .val (.int (0 : Int32)), .val (.int (1 : Int32)), .val (.long (q2 + (1 : Int64))), .second, .unset, .unset, .unset] [(.long q1), (.ref b1)])) _
          refine XS.lload X35.here hx rfl (hb hby at_88) rfl ?_
          show Steps p.tables e below (T35.setTop (mkF m 90 #[.val (.long q1), .second, .val (.long q2), .second, .val (.int p1), .val (.int p2), .val (.int p3), .val (.int p4), .val (.ref b1), .val (.int (own_bun p3)), .val (.int (1 : Int32)), .val (.int (0 : Int32)), .val (.int (1 : Int32)), .val (.long (q2 + (1 : Int64))), .second, .unset, .unset, .unset] [(.long (q2 + (1 : Int64))), (.long q1), (.ref b1)])) _
          refine XS.iload X35.here hx rfl (hb hby at_90) rfl ?_
          show Steps p.tables e below (T35.setTop (mkF m 92 #[.val (.long q1), .second, .val (.long q2), .second, .val (.int p1), .val (.int p2), .val (.int p3), .val (.int p4), .val (.ref b1), .val (.int (own_bun p3)), .val (.int (1 : Int32)), .val (.int (0 : Int32)), .val (.int (1 : Int32)), .val (.long (q2 + (1 : Int64))), .second, .unset, .unset, .unset] [(.int p2), (.long (q2 + (1 : Int64))), (.long q1), (.ref b1)])) _
          refine XS.iload X35.here hx rfl (hb hby at_92) rfl ?_
          show Steps p.tables e below (T35.setTop (mkF m 94 #[.val (.long q1), .second, .val (.long q2), .second, .val (.int p1), .val (.int p2), .val (.int p3), .val (.int p4), .val (.ref b1), .val (.int (own_bun p3)), .val (.int (1 : Int32)), .val (.int (0 : Int32)), .val (.int (1 : Int32)), .val (.long (q2 + (1 : Int64))), .second, .unset, .unset, .unset] [(.int (own_bun p3)), (.int p2), (.long (q2 + (1 : Int64))), (.long q1), (.ref b1)])) _
          refine XS.iload X35.here hx rfl (hb hby at_94) rfl ?_
          show Steps p.tables e below (T35.setTop (mkF m 96 #[.val (.long q1), .second, .val (.long q2), .second, .val (.int p1), .val (.int p2), .val (.int p3), .val (.int p4), .val (.ref b1), .val (.int (own_bun p3)), .val (.int (1 : Int32)), .val (.int (0 : Int32)), .val (.int (1 : Int32)), .val (.long (q2 + (1 : Int64))), .second, .unset, .unset, .unset] [(.int (1 : Int32)), (.int (own_bun p3)), (.int p2), (.long (q2 + (1 : Int64))), (.long q1), (.ref b1)])) _
          refine st36 _ ?_
          show Steps p.tables e below (T36.setTop (mkF m 99 #[.val (.long q1), .second, .val (.long q2), .second, .val (.int p1), .val (.int p2), .val (.int p3), .val (.int p4), .val (.ref b1), .val (.int (own_bun p3)), .val (.int (1 : Int32)), .val (.int (0 : Int32)), .val (.int (1 : Int32)), .val (.long (q2 + (1 : Int64))), .second, .unset, .unset, .unset] [])) _
          refine XS.aload X36.here hx rfl (hb hby at_99) rfl rfl ?_
          show Steps p.tables e below (T36.setTop (mkF m 101 #[.val (.long q1), .second, .val (.long q2), .second, .val (.int p1), .val (.int p2), .val (.int p3), .val (.int p4), .val (.ref b1), .val (.int (own_bun p3)), .val (.int (1 : Int32)), .val (.int (0 : Int32)), .val (.int (1 : Int32)), .val (.long (q2 + (1 : Int64))), .second, .unset, .unset, .unset] [(.ref b1)])) _
          refine XS.lloadN X36.here hx rfl (hb hby at_101) rfl ?_
          show Steps p.tables e below (T36.setTop (mkF m 102 #[.val (.long q1), .second, .val (.long q2), .second, .val (.int p1), .val (.int p2), .val (.int p3), .val (.int p4), .val (.ref b1), .val (.int (own_bun p3)), .val (.int (1 : Int32)), .val (.int (0 : Int32)), .val (.int (1 : Int32)), .val (.long (q2 + (1 : Int64))), .second, .unset, .unset, .unset] [(.long q1), (.ref b1)])) _
          refine XS.lloadN X36.here hx rfl (hb hby at_102) rfl ?_
          show Steps p.tables e below (T36.setTop (mkF m 103 #[.val (.long q1), .second, .val (.long q2), .second, .val (.int p1), .val (.int p2), .val (.int p3), .val (.int p4), .val (.ref b1), .val (.int (own_bun p3)), .val (.int (1 : Int32)), .val (.int (0 : Int32)), .val (.int (1 : Int32)), .val (.long (q2 + (1 : Int64))), .second, .unset, .unset, .unset] [(.long q2), (.long q1), (.ref b1)])) _
          refine st37.trans ?_
          show Steps p.tables e below (T37.setTop (mkF m 106 #[.val (.long q1), .second, .val (.long q2), .second, .val (.int p1), .val (.int p2), .val (.int p3), .val (.int p4), .val (.ref b1), .val (.int (own_bun p3)), .val (.int (1 : Int32)), .val (.int (0 : Int32)), .val (.int (1 : Int32)), .val (.long (q2 + (1 : Int64))), .second, .unset, .unset, .unset] [(.int (own_find (own_put (own_put (fun _ => (0 : Int64)) q1 q2 (own_out p1 (own_bun p3) (1 : Int32))) q1 (q2 + (1 : Int64)) (own_out p2 (own_bun p3) (1 : Int32))) q1 q2))])) _
          refine XS.istore X37.here hx rfl (hb hby at_106) rfl (l' := #[.val (.long q1), .second, .val (.long q2), .second, .val (.int p1), .val (.int p2), .val (.int p3), .val (.int p4), .val (.ref b1), .val (.int (own_bun p3)), .val (.int (1 : Int32)), .val (.int (0 : Int32)), .val (.int (1 : Int32)), .val (.long (q2 + (1 : Int64))), .second, .val (.int (own_find (own_put (own_put (fun _ => (0 : Int64)) q1 q2 (own_out p1 (own_bun p3) (1 : Int32))) q1 (q2 + (1 : Int64)) (own_out p2 (own_bun p3) (1 : Int32))) q1 q2)), .unset, .unset]) rfl ?_
          show Steps p.tables e below (T37.setTop (mkF m 108 #[.val (.long q1), .second, .val (.long q2), .second, .val (.int p1), .val (.int p2), .val (.int p3), .val (.int p4), .val (.ref b1), .val (.int (own_bun p3)), .val (.int (1 : Int32)), .val (.int (0 : Int32)), .val (.int (1 : Int32)), .val (.long (q2 + (1 : Int64))), .second, .val (.int (own_find (own_put (own_put (fun _ => (0 : Int64)) q1 q2 (own_out p1 (own_bun p3) (1 : Int32))) q1 (q2 + (1 : Int64)) (own_out p2 (own_bun p3) (1 : Int32))) q1 q2)), .unset, .unset] [])) _
          refine XS.iload X37.here hx rfl (hb hby at_108) rfl ?_
          show Steps p.tables e below (T37.setTop (mkF m 110 #[.val (.long q1), .second, .val (.long q2), .second, .val (.int p1), .val (.int p2), .val (.int p3), .val (.int p4), .val (.ref b1), .val (.int (own_bun p3)), .val (.int (1 : Int32)), .val (.int (0 : Int32)), .val (.int (1 : Int32)), .val (.long (q2 + (1 : Int64))), .second, .val (.int (own_find (own_put (own_put (fun _ => (0 : Int64)) q1 q2 (own_out p1 (own_bun p3) (1 : Int32))) q1 (q2 + (1 : Int64)) (own_out p2 (own_bun p3) (1 : Int32))) q1 q2)), .unset, .unset] [(.int (own_find (own_put (own_put (fun _ => (0 : Int64)) q1 q2 (own_out p1 (own_bun p3) (1 : Int32))) q1 (q2 + (1 : Int64)) (own_out p2 (own_bun p3) (1 : Int32))) q1 q2))])) _
          refine XS.ifYes X37.here hx rfl (pc0 := 110) (pc' := 115) rfl (hb hby at_110) rfl ((if0 _ _).trans (flt (own_ge (own_sb _ _) (own_two_fA (own_succ _) (own_out_nz _ _ _)))).2.1) (by decide) (by decide) ?_
          show Steps p.tables e below (T37.setTop (mkF m 115 #[.val (.long q1), .second, .val (.long q2), .second, .val (.int p1), .val (.int p2), .val (.int p3), .val (.int p4), .val (.ref b1), .val (.int (own_bun p3)), .val (.int (1 : Int32)), .val (.int (0 : Int32)), .val (.int (1 : Int32)), .val (.long (q2 + (1 : Int64))), .second, .val (.int (own_find (own_put (own_put (fun _ => (0 : Int64)) q1 q2 (own_out p1 (own_bun p3) (1 : Int32))) q1 (q2 + (1 : Int64)) (own_out p2 (own_bun p3) (1 : Int32))) q1 q2)), .unset, .unset] [])) _
          refine XS.iload X37.here hx rfl (hb hby at_115) rfl ?_
          show Steps p.tables e below (T37.setTop (mkF m 117 #[.val (.long q1), .second, .val (.long q2), .second, .val (.int p1), .val (.int p2), .val (.int p3), .val (.int p4), .val (.ref b1), .val (.int (own_bun p3)), .val (.int (1 : Int32)), .val (.int (0 : Int32)), .val (.int (1 : Int32)), .val (.long (q2 + (1 : Int64))), .second, .val (.int (own_find (own_put (own_put (fun _ => (0 : Int64)) q1 q2 (own_out p1 (own_bun p3) (1 : Int32))) q1 (q2 + (1 : Int64)) (own_out p2 (own_bun p3) (1 : Int32))) q1 q2)), .unset, .unset] [(.int (0 : Int32))])) _
          refine XS.ifYes X37.here hx rfl (pc0 := 117) (pc' := 125) rfl (hb hby at_117) rfl ((if0 _ _).trans (teq (by decide : (0 : Int32) = (0 : Int32))).1) (by decide) (by decide) ?_
          show Steps p.tables e below (T37.setTop (mkF m 125 #[.val (.long q1), .second, .val (.long q2), .second, .val (.int p1), .val (.int p2), .val (.int p3), .val (.int p4), .val (.ref b1), .val (.int (own_bun p3)), .val (.int (1 : Int32)), .val (.int (0 : Int32)), .val (.int (1 : Int32)), .val (.long (q2 + (1 : Int64))), .second, .val (.int (own_find (own_put (own_put (fun _ => (0 : Int64)) q1 q2 (own_out p1 (own_bun p3) (1 : Int32))) q1 (q2 + (1 : Int64)) (own_out p2 (own_bun p3) (1 : Int32))) q1 q2)), .unset, .unset] [])) _
          refine XS.iload X37.here hx rfl (hb hby at_125) rfl ?_
          show Steps p.tables e below (T37.setTop (mkF m 127 #[.val (.long q1), .second, .val (.long q2), .second, .val (.int p1), .val (.int p2), .val (.int p3), .val (.int p4), .val (.ref b1), .val (.int (own_bun p3)), .val (.int (1 : Int32)), .val (.int (0 : Int32)), .val (.int (1 : Int32)), .val (.long (q2 + (1 : Int64))), .second, .val (.int (own_find (own_put (own_put (fun _ => (0 : Int64)) q1 q2 (own_out p1 (own_bun p3) (1 : Int32))) q1 (q2 + (1 : Int64)) (own_out p2 (own_bun p3) (1 : Int32))) q1 q2)), .unset, .unset] [(.int p1)])) _
          refine XS.istore X37.here hx rfl (hb hby at_127) rfl (l' := #[.val (.long q1), .second, .val (.long q2), .second, .val (.int p1), .val (.int p2), .val (.int p3), .val (.int p4), .val (.ref b1), .val (.int (own_bun p3)), .val (.int (1 : Int32)), .val (.int (0 : Int32)), .val (.int (1 : Int32)), .val (.long (q2 + (1 : Int64))), .second, .val (.int (own_find (own_put (own_put (fun _ => (0 : Int64)) q1 q2 (own_out p1 (own_bun p3) (1 : Int32))) q1 (q2 + (1 : Int64)) (own_out p2 (own_bun p3) (1 : Int32))) q1 q2)), .val (.int p1), .unset]) rfl ?_
          show Steps p.tables e below (T37.setTop (mkF m 129 #[.val (.long q1), .second, .val (.long q2), .second, .val (.int p1), .val (.int p2), .val (.int p3), .val (.int p4), .val (.ref b1), .val (.int (own_bun p3)), .val (.int (1 : Int32)), .val (.int (0 : Int32)), .val (.int (1 : Int32)), .val (.long (q2 + (1 : Int64))), .second, .val (.int (own_find (own_put (own_put (fun _ => (0 : Int64)) q1 q2 (own_out p1 (own_bun p3) (1 : Int32))) q1 (q2 + (1 : Int64)) (own_out p2 (own_bun p3) (1 : Int32))) q1 q2)), .val (.int p1), .unset] [])) _
          refine XS.aload X37.here hx rfl (hb hby at_129) rfl rfl ?_
          show Steps p.tables e below (T37.setTop (mkF m 131 #[.val (.long q1), .second, .val (.long q2), .second, .val (.int p1), .val (.int p2), .val (.int p3), .val (.int p4), .val (.ref b1), .val (.int (own_bun p3)), .val (.int (1 : Int32)), .val (.int (0 : Int32)), .val (.int (1 : Int32)), .val (.long (q2 + (1 : Int64))), .second, .val (.int (own_find (own_put (own_put (fun _ => (0 : Int64)) q1 q2 (own_out p1 (own_bun p3) (1 : Int32))) q1 (q2 + (1 : Int64)) (own_out p2 (own_bun p3) (1 : Int32))) q1 q2)), .val (.int p1), .unset] [(.ref b1)])) _
          refine XS.iload X37.here hx rfl (hb hby at_131) rfl ?_
          show Steps p.tables e below (T37.setTop (mkF m 133 #[.val (.long q1), .second, .val (.long q2), .second, .val (.int p1), .val (.int p2), .val (.int p3), .val (.int p4), .val (.ref b1), .val (.int (own_bun p3)), .val (.int (1 : Int32)), .val (.int (0 : Int32)), .val (.int (1 : Int32)), .val (.long (q2 + (1 : Int64))), .second, .val (.int (own_find (own_put (own_put (fun _ => (0 : Int64)) q1 q2 (own_out p1 (own_bun p3) (1 : Int32))) q1 (q2 + (1 : Int64)) (own_out p2 (own_bun p3) (1 : Int32))) q1 q2)), .val (.int p1), .unset] [(.int (own_find (own_put (own_put (fun _ => (0 : Int64)) q1 q2 (own_out p1 (own_bun p3) (1 : Int32))) q1 (q2 + (1 : Int64)) (own_out p2 (own_bun p3) (1 : Int32))) q1 q2)), (.ref b1)])) _
          refine st38.trans ?_
          show Steps p.tables e below (T38.setTop (mkF m 136 #[.val (.long q1), .second, .val (.long q2), .second, .val (.int p1), .val (.int p2), .val (.int p3), .val (.int p4), .val (.ref b1), .val (.int (own_bun p3)), .val (.int (1 : Int32)), .val (.int (0 : Int32)), .val (.int (1 : Int32)), .val (.long (q2 + (1 : Int64))), .second, .val (.int (own_find (own_put (own_put (fun _ => (0 : Int64)) q1 q2 (own_out p1 (own_bun p3) (1 : Int32))) q1 (q2 + (1 : Int64)) (own_out p2 (own_bun p3) (1 : Int32))) q1 q2)), .val (.int p1), .unset] [(.int (((own_put (own_put (fun _ => (0 : Int64)) q1 q2 (own_out p1 (own_bun p3) (1 : Int32))) q1 (q2 + (1 : Int64)) (own_out p2 (own_bun p3) (1 : Int32))) ((own_find (own_put (own_put (fun _ => (0 : Int64)) q1 q2 (own_out p1 (own_bun p3) (1 : Int32))) q1 (q2 + (1 : Int64)) (own_out p2 (own_bun p3) (1 : Int32))) q1 q2) + (2 : Int32))) >>> ((32 : Int32) &&& 0x3f).toInt64).toInt32)])) _
          refine XS.iload X38.here hx rfl (hb hby at_136) rfl ?_
          show Steps p.tables e below (T38.setTop (mkF m 138 #[.val (.long q1), .second, .val (.long q2), .second, .val (.int p1), .val (.int p2), .val (.int p3), .val (.int p4), .val (.ref b1), .val (.int (own_bun p3)), .val (.int (1 : Int32)), .val (.int (0 : Int32)), .val (.int (1 : Int32)), .val (.long (q2 + (1 : Int64))), .second, .val (.int (own_find (own_put (own_put (fun _ => (0 : Int64)) q1 q2 (own_out p1 (own_bun p3) (1 : Int32))) q1 (q2 + (1 : Int64)) (own_out p2 (own_bun p3) (1 : Int32))) q1 q2)), .val (.int p1), .unset] [(.int p1), (.int (((own_put (own_put (fun _ => (0 : Int64)) q1 q2 (own_out p1 (own_bun p3) (1 : Int32))) q1 (q2 + (1 : Int64)) (own_out p2 (own_bun p3) (1 : Int32))) ((own_find (own_put (own_put (fun _ => (0 : Int64)) q1 q2 (own_out p1 (own_bun p3) (1 : Int32))) q1 (q2 + (1 : Int64)) (own_out p2 (own_bun p3) (1 : Int32))) q1 q2) + (2 : Int32))) >>> ((32 : Int32) &&& 0x3f).toInt64).toInt32)])) _
          refine XS.icmpYes X38.here hx rfl (pc0 := 138) (pc' := 143) rfl (hb hby at_138) rfl (teq (own_valeq (own_two_fA (own_succ _) (own_out_nz _ _ _)) (own_two_a (own_succ _) (own_out_nz _ _ _)).2.2 (own_out_v _ _ _))).1 (by decide) (by decide) ?_
          show Steps p.tables e below (T38.setTop (mkF m 143 #[.val (.long q1), .second, .val (.long q2), .second, .val (.int p1), .val (.int p2), .val (.int p3), .val (.int p4), .val (.ref b1), .val (.int (own_bun p3)), .val (.int (1 : Int32)), .val (.int (0 : Int32)), .val (.int (1 : Int32)), .val (.long (q2 + (1 : Int64))), .second, .val (.int (own_find (own_put (own_put (fun _ => (0 : Int64)) q1 q2 (own_out p1 (own_bun p3) (1 : Int32))) q1 (q2 + (1 : Int64)) (own_out p2 (own_bun p3) (1 : Int32))) q1 q2)), .val (.int p1), .unset] [])) _
          refine XS.iload X38.here hx rfl (hb hby at_143) rfl ?_
          show Steps p.tables e below (T38.setTop (mkF m 145 #[.val (.long q1), .second, .val (.long q2), .second, .val (.int p1), .val (.int p2), .val (.int p3), .val (.int p4), .val (.ref b1), .val (.int (own_bun p3)), .val (.int (1 : Int32)), .val (.int (0 : Int32)), .val (.int (1 : Int32)), .val (.long (q2 + (1 : Int64))), .second, .val (.int (own_find (own_put (own_put (fun _ => (0 : Int64)) q1 q2 (own_out p1 (own_bun p3) (1 : Int32))) q1 (q2 + (1 : Int64)) (own_out p2 (own_bun p3) (1 : Int32))) q1 q2)), .val (.int p1), .unset] [(.int (0 : Int32))])) _
          refine XS.ifNo X38.here hx rfl (hb hby at_145) rfl ((if0 _ _).trans (teq (by decide : (0 : Int32) = (0 : Int32))).2) ?_
          show Steps p.tables e below (T38.setTop (mkF m 148 #[.val (.long q1), .second, .val (.long q2), .second, .val (.int p1), .val (.int p2), .val (.int p3), .val (.int p4), .val (.ref b1), .val (.int (own_bun p3)), .val (.int (1 : Int32)), .val (.int (0 : Int32)), .val (.int (1 : Int32)), .val (.long (q2 + (1 : Int64))), .second, .val (.int (own_find (own_put (own_put (fun _ => (0 : Int64)) q1 q2 (own_out p1 (own_bun p3) (1 : Int32))) q1 (q2 + (1 : Int64)) (own_out p2 (own_bun p3) (1 : Int32))) q1 q2)), .val (.int p1), .unset] [])) _
          refine XS.aload X38.here hx rfl (hb hby at_148) rfl rfl ?_
          show Steps p.tables e below (T38.setTop (mkF m 150 #[.val (.long q1), .second, .val (.long q2), .second, .val (.int p1), .val (.int p2), .val (.int p3), .val (.int p4), .val (.ref b1), .val (.int (own_bun p3)), .val (.int (1 : Int32)), .val (.int (0 : Int32)), .val (.int (1 : Int32)), .val (.long (q2 + (1 : Int64))), .second, .val (.int (own_find (own_put (own_put (fun _ => (0 : Int64)) q1 q2 (own_out p1 (own_bun p3) (1 : Int32))) q1 (q2 + (1 : Int64)) (own_out p2 (own_bun p3) (1 : Int32))) q1 q2)), .val (.int p1), .unset] [(.ref b1)])) _
          refine XS.lloadN X38.here hx rfl (hb hby at_150) rfl ?_
          show Steps p.tables e below (T38.setTop (mkF m 151 #[.val (.long q1), .second, .val (.long q2), .second, .val (.int p1), .val (.int p2), .val (.int p3), .val (.int p4), .val (.ref b1), .val (.int (own_bun p3)), .val (.int (1 : Int32)), .val (.int (0 : Int32)), .val (.int (1 : Int32)), .val (.long (q2 + (1 : Int64))), .second, .val (.int (own_find (own_put (own_put (fun _ => (0 : Int64)) q1 q2 (own_out p1 (own_bun p3) (1 : Int32))) q1 (q2 + (1 : Int64)) (own_out p2 (own_bun p3) (1 : Int32))) q1 q2)), .val (.int p1), .unset] [(.long q1), (.ref b1)])) _
          refine XS.lload X38.here hx rfl (hb hby at_151) rfl ?_
          show Steps p.tables e below (T38.setTop (mkF m 153 #[.val (.long q1), .second, .val (.long q2), .second, .val (.int p1), .val (.int p2), .val (.int p3), .val (.int p4), .val (.ref b1), .val (.int (own_bun p3)), .val (.int (1 : Int32)), .val (.int (0 : Int32)), .val (.int (1 : Int32)), .val (.long (q2 + (1 : Int64))), .second, .val (.int (own_find (own_put (own_put (fun _ => (0 : Int64)) q1 q2 (own_out p1 (own_bun p3) (1 : Int32))) q1 (q2 + (1 : Int64)) (own_out p2 (own_bun p3) (1 : Int32))) q1 q2)), .val (.int p1), .unset] [(.long (q2 + (1 : Int64))), (.long q1), (.ref b1)])) _
          refine st39.trans ?_
          show Steps p.tables e below (T39.setTop (mkF m 156 #[.val (.long q1), .second, .val (.long q2), .second, .val (.int p1), .val (.int p2), .val (.int p3), .val (.int p4), .val (.ref b1), .val (.int (own_bun p3)), .val (.int (1 : Int32)), .val (.int (0 : Int32)), .val (.int (1 : Int32)), .val (.long (q2 + (1 : Int64))), .second, .val (.int (own_find (own_put (own_put (fun _ => (0 : Int64)) q1 q2 (own_out p1 (own_bun p3) (1 : Int32))) q1 (q2 + (1 : Int64)) (own_out p2 (own_bun p3) (1 : Int32))) q1 q2)), .val (.int p1), .unset] [(.int (own_find (own_put (own_put (fun _ => (0 : Int64)) q1 q2 (own_out p1 (own_bun p3) (1 : Int32))) q1 (q2 + (1 : Int64)) (own_out p2 (own_bun p3) (1 : Int32))) q1 (q2 + (1 : Int64))))])) _
          refine XS.istore X39.here hx rfl (hb hby at_156) rfl (l' := #[.val (.long q1), .second, .val (.long q2), .second, .val (.int p1), .val (.int p2), .val (.int p3), .val (.int p4), .val (.ref b1), .val (.int (own_bun p3)), .val (.int (1 : Int32)), .val (.int (0 : Int32)), .val (.int (1 : Int32)), .val (.long (q2 + (1 : Int64))), .second, .val (.int (own_find (own_put (own_put (fun _ => (0 : Int64)) q1 q2 (own_out p1 (own_bun p3) (1 : Int32))) q1 (q2 + (1 : Int64)) (own_out p2 (own_bun p3) (1 : Int32))) q1 q2)), .val (.int p1), .val (.int (own_find (own_put (own_put (fun _ => (0 : Int64)) q1 q2 (own_out p1 (own_bun p3) (1 : Int32))) q1 (q2 + (1 : Int64)) (own_out p2 (own_bun p3) (1 : Int32))) q1 (q2 + (1 : Int64))))]) rfl ?_
          show Steps p.tables e below (T39.setTop (mkF m 158 #[.val (.long q1), .second, .val (.long q2), .second, .val (.int p1), .val (.int p2), .val (.int p3), .val (.int p4), .val (.ref b1), .val (.int (own_bun p3)), .val (.int (1 : Int32)), .val (.int (0 : Int32)), .val (.int (1 : Int32)), .val (.long (q2 + (1 : Int64))), .second, .val (.int (own_find (own_put (own_put (fun _ => (0 : Int64)) q1 q2 (own_out p1 (own_bun p3) (1 : Int32))) q1 (q2 + (1 : Int64)) (own_out p2 (own_bun p3) (1 : Int32))) q1 q2)), .val (.int p1), .val (.int (own_find (own_put (own_put (fun _ => (0 : Int64)) q1 q2 (own_out p1 (own_bun p3) (1 : Int32))) q1 (q2 + (1 : Int64)) (own_out p2 (own_bun p3) (1 : Int32))) q1 (q2 + (1 : Int64))))] [])) _
          refine XS.iload X39.here hx rfl (hb hby at_158) rfl ?_
          show Steps p.tables e below (T39.setTop (mkF m 160 #[.val (.long q1), .second, .val (.long q2), .second, .val (.int p1), .val (.int p2), .val (.int p3), .val (.int p4), .val (.ref b1), .val (.int (own_bun p3)), .val (.int (1 : Int32)), .val (.int (0 : Int32)), .val (.int (1 : Int32)), .val (.long (q2 + (1 : Int64))), .second, .val (.int (own_find (own_put (own_put (fun _ => (0 : Int64)) q1 q2 (own_out p1 (own_bun p3) (1 : Int32))) q1 (q2 + (1 : Int64)) (own_out p2 (own_bun p3) (1 : Int32))) q1 q2)), .val (.int p1), .val (.int (own_find (own_put (own_put (fun _ => (0 : Int64)) q1 q2 (own_out p1 (own_bun p3) (1 : Int32))) q1 (q2 + (1 : Int64)) (own_out p2 (own_bun p3) (1 : Int32))) q1 (q2 + (1 : Int64))))] [(.int (own_find (own_put (own_put (fun _ => (0 : Int64)) q1 q2 (own_out p1 (own_bun p3) (1 : Int32))) q1 (q2 + (1 : Int64)) (own_out p2 (own_bun p3) (1 : Int32))) q1 (q2 + (1 : Int64))))])) _
          refine XS.ifYes X39.here hx rfl (pc0 := 160) (pc' := 165) rfl (hb hby at_160) rfl ((if0 _ _).trans (flt (own_ge (own_Rb _ _ _) (own_two_fB (own_succ _) (own_out_nz _ _ _) (own_out_nz _ _ _)))).2.1) (by decide) (by decide) ?_
          show Steps p.tables e below (T39.setTop (mkF m 165 #[.val (.long q1), .second, .val (.long q2), .second, .val (.int p1), .val (.int p2), .val (.int p3), .val (.int p4), .val (.ref b1), .val (.int (own_bun p3)), .val (.int (1 : Int32)), .val (.int (0 : Int32)), .val (.int (1 : Int32)), .val (.long (q2 + (1 : Int64))), .second, .val (.int (own_find (own_put (own_put (fun _ => (0 : Int64)) q1 q2 (own_out p1 (own_bun p3) (1 : Int32))) q1 (q2 + (1 : Int64)) (own_out p2 (own_bun p3) (1 : Int32))) q1 q2)), .val (.int p1), .val (.int (own_find (own_put (own_put (fun _ => (0 : Int64)) q1 q2 (own_out p1 (own_bun p3) (1 : Int32))) q1 (q2 + (1 : Int64)) (own_out p2 (own_bun p3) (1 : Int32))) q1 (q2 + (1 : Int64))))] [])) _
          refine XS.aload X39.here hx rfl (hb hby at_165) rfl rfl ?_
          show Steps p.tables e below (T39.setTop (mkF m 167 #[.val (.long q1), .second, .val (.long q2), .second, .val (.int p1), .val (.int p2), .val (.int p3), .val (.int p4), .val (.ref b1), .val (.int (own_bun p3)), .val (.int (1 : Int32)), .val (.int (0 : Int32)), .val (.int (1 : Int32)), .val (.long (q2 + (1 : Int64))), .second, .val (.int (own_find (own_put (own_put (fun _ => (0 : Int64)) q1 q2 (own_out p1 (own_bun p3) (1 : Int32))) q1 (q2 + (1 : Int64)) (own_out p2 (own_bun p3) (1 : Int32))) q1 q2)), .val (.int p1), .val (.int (own_find (own_put (own_put (fun _ => (0 : Int64)) q1 q2 (own_out p1 (own_bun p3) (1 : Int32))) q1 (q2 + (1 : Int64)) (own_out p2 (own_bun p3) (1 : Int32))) q1 (q2 + (1 : Int64))))] [(.ref b1)])) _
          refine XS.iload X39.here hx rfl (hb hby at_167) rfl ?_
          show Steps p.tables e below (T39.setTop (mkF m 169 #[.val (.long q1), .second, .val (.long q2), .second, .val (.int p1), .val (.int p2), .val (.int p3), .val (.int p4), .val (.ref b1), .val (.int (own_bun p3)), .val (.int (1 : Int32)), .val (.int (0 : Int32)), .val (.int (1 : Int32)), .val (.long (q2 + (1 : Int64))), .second, .val (.int (own_find (own_put (own_put (fun _ => (0 : Int64)) q1 q2 (own_out p1 (own_bun p3) (1 : Int32))) q1 (q2 + (1 : Int64)) (own_out p2 (own_bun p3) (1 : Int32))) q1 q2)), .val (.int p1), .val (.int (own_find (own_put (own_put (fun _ => (0 : Int64)) q1 q2 (own_out p1 (own_bun p3) (1 : Int32))) q1 (q2 + (1 : Int64)) (own_out p2 (own_bun p3) (1 : Int32))) q1 (q2 + (1 : Int64))))] [(.int (own_find (own_put (own_put (fun _ => (0 : Int64)) q1 q2 (own_out p1 (own_bun p3) (1 : Int32))) q1 (q2 + (1 : Int64)) (own_out p2 (own_bun p3) (1 : Int32))) q1 (q2 + (1 : Int64)))), (.ref b1)])) _
          refine st40.trans ?_
          show Steps p.tables e below (T40.setTop (mkF m 172 #[.val (.long q1), .second, .val (.long q2), .second, .val (.int p1), .val (.int p2), .val (.int p3), .val (.int p4), .val (.ref b1), .val (.int (own_bun p3)), .val (.int (1 : Int32)), .val (.int (0 : Int32)), .val (.int (1 : Int32)), .val (.long (q2 + (1 : Int64))), .second, .val (.int (own_find (own_put (own_put (fun _ => (0 : Int64)) q1 q2 (own_out p1 (own_bun p3) (1 : Int32))) q1 (q2 + (1 : Int64)) (own_out p2 (own_bun p3) (1 : Int32))) q1 q2)), .val (.int p1), .val (.int (own_find (own_put (own_put (fun _ => (0 : Int64)) q1 q2 (own_out p1 (own_bun p3) (1 : Int32))) q1 (q2 + (1 : Int64)) (own_out p2 (own_bun p3) (1 : Int32))) q1 (q2 + (1 : Int64))))] [(.int (((own_put (own_put (fun _ => (0 : Int64)) q1 q2 (own_out p1 (own_bun p3) (1 : Int32))) q1 (q2 + (1 : Int64)) (own_out p2 (own_bun p3) (1 : Int32))) ((own_find (own_put (own_put (fun _ => (0 : Int64)) q1 q2 (own_out p1 (own_bun p3) (1 : Int32))) q1 (q2 + (1 : Int64)) (own_out p2 (own_bun p3) (1 : Int32))) q1 (q2 + (1 : Int64))) + (2 : Int32))) >>> ((32 : Int32) &&& 0x3f).toInt64).toInt32)])) _
          refine XS.iload X40.here hx rfl (hb hby at_172) rfl ?_
          show Steps p.tables e below (T40.setTop (mkF m 174 #[.val (.long q1), .second, .val (.long q2), .second, .val (.int p1), .val (.int p2), .val (.int p3), .val (.int p4), .val (.ref b1), .val (.int (own_bun p3)), .val (.int (1 : Int32)), .val (.int (0 : Int32)), .val (.int (1 : Int32)), .val (.long (q2 + (1 : Int64))), .second, .val (.int (own_find (own_put (own_put (fun _ => (0 : Int64)) q1 q2 (own_out p1 (own_bun p3) (1 : Int32))) q1 (q2 + (1 : Int64)) (own_out p2 (own_bun p3) (1 : Int32))) q1 q2)), .val (.int p1), .val (.int (own_find (own_put (own_put (fun _ => (0 : Int64)) q1 q2 (own_out p1 (own_bun p3) (1 : Int32))) q1 (q2 + (1 : Int64)) (own_out p2 (own_bun p3) (1 : Int32))) q1 (q2 + (1 : Int64))))] [(.int p2), (.int (((own_put (own_put (fun _ => (0 : Int64)) q1 q2 (own_out p1 (own_bun p3) (1 : Int32))) q1 (q2 + (1 : Int64)) (own_out p2 (own_bun p3) (1 : Int32))) ((own_find (own_put (own_put (fun _ => (0 : Int64)) q1 q2 (own_out p1 (own_bun p3) (1 : Int32))) q1 (q2 + (1 : Int64)) (own_out p2 (own_bun p3) (1 : Int32))) q1 (q2 + (1 : Int64))) + (2 : Int32))) >>> ((32 : Int32) &&& 0x3f).toInt64).toInt32)])) _
          refine XS.icmpYes X40.here hx rfl (pc0 := 174) (pc' := 179) rfl (hb hby at_174) rfl (teq (own_valeq (own_two_fB (own_succ _) (own_out_nz _ _ _) (own_out_nz _ _ _)) (own_two_b (own_succ _) (own_out_nz _ _ _)).2.2 (own_out_v _ _ _))).1 (by decide) (by decide) ?_
          show Steps p.tables e below (T40.setTop (mkF m 179 #[.val (.long q1), .second, .val (.long q2), .second, .val (.int p1), .val (.int p2), .val (.int p3), .val (.int p4), .val (.ref b1), .val (.int (own_bun p3)), .val (.int (1 : Int32)), .val (.int (0 : Int32)), .val (.int (1 : Int32)), .val (.long (q2 + (1 : Int64))), .second, .val (.int (own_find (own_put (own_put (fun _ => (0 : Int64)) q1 q2 (own_out p1 (own_bun p3) (1 : Int32))) q1 (q2 + (1 : Int64)) (own_out p2 (own_bun p3) (1 : Int32))) q1 q2)), .val (.int p1), .val (.int (own_find (own_put (own_put (fun _ => (0 : Int64)) q1 q2 (own_out p1 (own_bun p3) (1 : Int32))) q1 (q2 + (1 : Int64)) (own_out p2 (own_bun p3) (1 : Int32))) q1 (q2 + (1 : Int64))))] [])) _
          refine XS.iconst X40.here hx rfl (hb hby at_179) ?_
          show Steps p.tables e below (T40.setTop (mkF m 180 #[.val (.long q1), .second, .val (.long q2), .second, .val (.int p1), .val (.int p2), .val (.int p3), .val (.int p4), .val (.ref b1), .val (.int (own_bun p3)), .val (.int (1 : Int32)), .val (.int (0 : Int32)), .val (.int (1 : Int32)), .val (.long (q2 + (1 : Int64))), .second, .val (.int (own_find (own_put (own_put (fun _ => (0 : Int64)) q1 q2 (own_out p1 (own_bun p3) (1 : Int32))) q1 (q2 + (1 : Int64)) (own_out p2 (own_bun p3) (1 : Int32))) q1 q2)), .val (.int p1), .val (.int (own_find (own_put (own_put (fun _ => (0 : Int64)) q1 q2 (own_out p1 (own_bun p3) (1 : Int32))) q1 (q2 + (1 : Int64)) (own_out p2 (own_bun p3) (1 : Int32))) q1 (q2 + (1 : Int64))))] [(.int (1 : Int32))])) _
          exact retN X40 hx (t := .boolean) Bd.returns (by simp) (hb hby at_180) hr
        · show Q_rm_law Z q1 q2 p1 p2 p3 p4 h0 n0 _ T40.heap _
          rw [e40]
          exact ⟨rfl, N40, trivial⟩
    · have k41 : ∀ target, Steps p.tables e below (T2.setTop (mkF m 48 #[.val (.long q1), .second, .val (.long q2), .second, .val (.int p1), .val (.int p2), .val (.int p3), .val (.int p4), .val (.ref b1), .val (.int (own_bun p3)), .val (.int (1 : Int32)), .val (.int (1 : Int32)), .unset, .unset, .unset, .unset, .unset, .unset] [(.int (p4 &&& (4 : Int32)))])) target → Steps p.tables e below (s₁.setTop (mkF m 0 #[.val (.long q1), .second, .val (.long q2), .second, .val (.int p1), .val (.int p2), .val (.int p3), .val (.int p4), .unset, .unset, .unset, .unset, .unset, .unset, .unset, .unset, .unset, .unset] [])) target := by
        intro target kt
        refine k27 _ ?_
        show Steps p.tables e below (T2.setTop (mkF m 34 #[.val (.long q1), .second, .val (.long q2), .second, .val (.int p1), .val (.int p2), .val (.int p3), .val (.int p4), .val (.ref b1), .val (.int (own_bun p3)), .val (.int (1 : Int32)), .unset, .unset, .unset, .unset, .unset, .unset, .unset] [(.int (p4 &&& (2 : Int32)))])) _
        refine XS.ifNo X2.here hx rfl (hb hby at_34) rfl ((if0 _ _).trans (feq hc34).1) ?_
        show Steps p.tables e below (T2.setTop (mkF m 37 #[.val (.long q1), .second, .val (.long q2), .second, .val (.int p1), .val (.int p2), .val (.int p3), .val (.int p4), .val (.ref b1), .val (.int (own_bun p3)), .val (.int (1 : Int32)), .unset, .unset, .unset, .unset, .unset, .unset, .unset] [])) _
        refine XS.iconst X2.here hx rfl (hb hby at_37) ?_
        show Steps p.tables e below (T2.setTop (mkF m 38 #[.val (.long q1), .second, .val (.long q2), .second, .val (.int p1), .val (.int p2), .val (.int p3), .val (.int p4), .val (.ref b1), .val (.int (own_bun p3)), .val (.int (1 : Int32)), .unset, .unset, .unset, .unset, .unset, .unset, .unset] [(.int (1 : Int32))])) _
        refine XS.goto X2.here hx rfl (pc0 := 38) (pc' := 42) rfl (hb hby at_38) (by decide) (by decide) ?_
        show Steps p.tables e below (T2.setTop (mkF m 42 #[.val (.long q1), .second, .val (.long q2), .second, .val (.int p1), .val (.int p2), .val (.int p3), .val (.int p4), .val (.ref b1), .val (.int (own_bun p3)), .val (.int (1 : Int32)), .unset, .unset, .unset, .unset, .unset, .unset, .unset] [(.int (1 : Int32))])) _
        refine XS.istore X2.here hx rfl (hb hby at_42) rfl (l' := #[.val (.long q1), .second, .val (.long q2), .second, .val (.int p1), .val (.int p2), .val (.int p3), .val (.int p4), .val (.ref b1), .val (.int (own_bun p3)), .val (.int (1 : Int32)), .val (.int (1 : Int32)), .unset, .unset, .unset, .unset, .unset, .unset]) rfl ?_
        show Steps p.tables e below (T2.setTop (mkF m 44 #[.val (.long q1), .second, .val (.long q2), .second, .val (.int p1), .val (.int p2), .val (.int p3), .val (.int p4), .val (.ref b1), .val (.int (own_bun p3)), .val (.int (1 : Int32)), .val (.int (1 : Int32)), .unset, .unset, .unset, .unset, .unset, .unset] [])) _
        refine XS.iload X2.here hx rfl (hb hby at_44) rfl ?_
        show Steps p.tables e below (T2.setTop (mkF m 46 #[.val (.long q1), .second, .val (.long q2), .second, .val (.int p1), .val (.int p2), .val (.int p3), .val (.int p4), .val (.ref b1), .val (.int (own_bun p3)), .val (.int (1 : Int32)), .val (.int (1 : Int32)), .unset, .unset, .unset, .unset, .unset, .unset] [(.int p4)])) _
        refine XS.iconst X2.here hx rfl (hb hby at_46) ?_
        show Steps p.tables e below (T2.setTop (mkF m 47 #[.val (.long q1), .second, .val (.long q2), .second, .val (.int p1), .val (.int p2), .val (.int p3), .val (.int p4), .val (.ref b1), .val (.int (own_bun p3)), .val (.int (1 : Int32)), .val (.int (1 : Int32)), .unset, .unset, .unset, .unset, .unset, .unset] [(.int (4 : Int32)), (.int p4)])) _
        refine XS.iand X2.here hx rfl (hb hby at_47) rfl ?_
        exact kt
      by_cases hc48 : (p4 &&& (4 : Int32)) = (0 : Int32)
      · obtain ⟨_, _, ⟨T42, L42, k42, n42⟩, -, X42, ⟨Lc42, hQ42, l42, y42, z42⟩, st42⟩ := Jvm.LawKit.callS X2 hx (y := (⟨"com/example/outcry/outcry/allocation/MemoValuePinLaw", "store", "(Lcom/example/outcry/outcry/allocation/Memo;JJIIZ)V"⟩ : MethodName)) hown (mvT hZ (hw _ (List.mem_of_getElem? (i := 13) rfl))) (mvT hZ (hw _ (List.mem_of_getElem? (i := 14) rfl))) (mvT hZ (hw _ (List.mem_of_getElem? (i := 15) rfl))) (mvT hZ (hw _ (List.mem_of_getElem? (i := 16) rfl))) (by decide) (backOf (W := 0) (rm_store l Z a0 hw [] b1 q1 q2 p1 (own_bun p3) (1 : Int32) tb (fun _ => (0 : Int64)) (0 : Int32) T2.heap n0 Z2 Ftb Vtb A1_2 g_b1 gtb ne_ob_tb x2c1 (own_ok_0 _ _) (fun _ => own_ok2_0 _ _) (by decide)) hZ (hw _ (List.mem_of_getElem? (i := 16) rfl)) (hw _ (List.mem_of_getElem? (i := 15) rfl)) (by decide) (by decide)) (g := (mkF m 82 #[.val (.long q1), .second, .val (.long q2), .second, .val (.int p1), .val (.int p2), .val (.int p3), .val (.int p4), .val (.ref b1), .val (.int (own_bun p3)), .val (.int (1 : Int32)), .val (.int (1 : Int32)), .val (.int (0 : Int32)), .val (.long q2), .second, .unset, .unset, .unset] [(.int (1 : Int32)), (.int (own_bun p3)), (.int p1), (.long q2), (.long q1), (.ref b1)])) rfl (by rw [hml]; rfl) (argsL := [(.ref b1), (.long q1), (.long q2), (.int p1), (.int (own_bun p3)), (.int (1 : Int32))]) (rest := []) (lenOf pd_6 rfl) rfl (by show 2 * 0 + _ ≤ _; exact Nat.le_of_eq rfl) (hb hby at_82) (fun _ _ => ⟨rfl, rfl, (by decide : 2 + 0 ≤ _), (by decide : 3074 + 0 ≤ _)⟩)
        dsimp only [Pt.U, Pt.locs, Pt.cells, Pt.slots] at X42 l42 y42 z42 st42 hQ42
        subst l42 y42 z42
        obtain ⟨rfl, N42q, x42c0, x42c1, x42c2, x42c3⟩ := hQ42
        have N42 := Fr.app N2 N42q
        have A1_42 : Exa Z T42.heap b1 "com/example/outcry/outcry/allocation/Memo" := A1_2.keep x42c0
        have Z42 : n0 ≤ T42.heap.size := Nat.le_trans Z2 x42c0.1
        obtain ⟨_, _, ⟨T43, L43, k43, n43⟩, -, X43, ⟨Lc43, hQ43, l43, y43, z43⟩, st43⟩ := Jvm.LawKit.callS X42 hx (y := (⟨"com/example/outcry/outcry/allocation/MemoValuePinLaw", "store", "(Lcom/example/outcry/outcry/allocation/Memo;JJIIZ)V"⟩ : MethodName)) hown (mvT hZ (hw _ (List.mem_of_getElem? (i := 13) rfl))) (mvT hZ (hw _ (List.mem_of_getElem? (i := 14) rfl))) (mvT hZ (hw _ (List.mem_of_getElem? (i := 15) rfl))) (mvT hZ (hw _ (List.mem_of_getElem? (i := 16) rfl))) (by decide) (backOf (W := 0) (rm_store l Z a0 hw [] b1 q1 q2 p2 (own_bun p3) (0 : Int32) tb (own_put (fun _ => (0 : Int64)) q1 q2 (own_out p1 (own_bun p3) (1 : Int32))) (own_szz (fun _ => (0 : Int64)) q1 q2 (0 : Int32)) T42.heap n0 Z42 x42c1 x42c3 A1_42 g_b1 gtb ne_ob_tb x42c2 own_same_ok (own_same_imp (own_out_nz _ _ _)) (own_hq1 _ _)) hZ (hw _ (List.mem_of_getElem? (i := 16) rfl)) (hw _ (List.mem_of_getElem? (i := 15) rfl)) (by decide) (by decide)) (g := (mkF m 96 #[.val (.long q1), .second, .val (.long q2), .second, .val (.int p1), .val (.int p2), .val (.int p3), .val (.int p4), .val (.ref b1), .val (.int (own_bun p3)), .val (.int (1 : Int32)), .val (.int (1 : Int32)), .val (.int (0 : Int32)), .val (.long q2), .second, .unset, .unset, .unset] [(.int (0 : Int32)), (.int (own_bun p3)), (.int p2), (.long q2), (.long q1), (.ref b1)])) rfl (by rw [hml]; rfl) (argsL := [(.ref b1), (.long q1), (.long q2), (.int p2), (.int (own_bun p3)), (.int (0 : Int32))]) (rest := []) (lenOf pd_6 rfl) rfl (by show 2 * 0 + _ ≤ _; exact Nat.le_of_eq rfl) (hb hby at_96) (fun _ _ => ⟨rfl, rfl, (by decide : 2 + 0 ≤ _), (by decide : 3074 + 0 ≤ _)⟩)
        dsimp only [Pt.U, Pt.locs, Pt.cells, Pt.slots] at X43 l43 y43 z43 st43 hQ43
        subst l43 y43 z43
        obtain ⟨rfl, N43q, x43c0, x43c1, x43c2, x43c3⟩ := hQ43
        have N43 := Fr.app N42 N43q
        have A1_43 : Exa Z T43.heap b1 "com/example/outcry/outcry/allocation/Memo" := A1_42.keep x43c0
        have Z43 : n0 ≤ T43.heap.size := Nat.le_trans Z42 x43c0.1
        obtain ⟨cq44, kq44, q44a, q44b, q44c⟩ := isOf hZ rfl A1_43
        obtain ⟨_, _, ⟨T44, L44, k44, n44⟩, -, X44, ⟨Lc44, hQ44, l44, y44, z44⟩, st44⟩ := X43.virtualBack hx (y := (⟨"com/example/outcry/outcry/allocation/Memo", "find", "(JJ)I"⟩ : MethodName)) (z := (⟨"com/example/outcry/outcry/allocation/Memo", "find", "(JJ)I"⟩ : MethodName)) hown (mvT hZ (hw _ (List.mem_of_getElem? (i := 42) rfl))) (mvT hZ (hw _ (List.mem_of_getElem? (i := 27) rfl))) (notFace_of_selects (args := #[]) (mvT hZ (hw _ (List.mem_of_getElem? (i := 29) rfl)))) (mvT hZ (hw _ (List.mem_of_getElem? (i := 29) rfl))) (mvT hZ (hw _ (List.mem_of_getElem? (i := 28) rfl))) (by decide) (backOf (W := 0) (rm_find l Z a0 hw [] b1 q1 q2 tb (own_put (own_put (fun _ => (0 : Int64)) q1 q2 (own_out p1 (own_bun p3) (1 : Int32))) q1 q2 (own_out p2 (own_bun p3) (0 : Int32))) T43.heap n0 Z43 x43c1 x43c3 (own_same_ok2 (own_out_nz _ _ _))) hZ (hw _ (List.mem_of_getElem? (i := 30) rfl)) (hw _ (List.mem_of_getElem? (i := 2) rfl)) (by decide) (by decide)) q44a q44c (g := (mkF m 103 #[.val (.long q1), .second, .val (.long q2), .second, .val (.int p1), .val (.int p2), .val (.int p3), .val (.int p4), .val (.ref b1), .val (.int (own_bun p3)), .val (.int (1 : Int32)), .val (.int (1 : Int32)), .val (.int (0 : Int32)), .val (.long q2), .second, .unset, .unset, .unset] [(.long q2), (.long q1), (.ref b1)])) rfl (by rw [hml]; rfl) (Steps.refl _) (argsL := [(.long q1), (.long q2)]) (rest := []) (lenOf pd_1 rfl) rfl (by show 2 * 0 + _ ≤ _; exact Nat.le_of_eq rfl) (hb hby at_103) (fun _ _ => ⟨rfl, rfl, (by decide : 2 + 0 ≤ _), (by decide : 3074 + 0 ≤ _)⟩)
        dsimp only [Pt.U, Pt.locs, Pt.cells, Pt.slots] at X44 l44 y44 z44 st44 hQ44
        subst l44 y44 z44
        obtain ⟨rfl, N44q, e44⟩ := hQ44
        have N44 := Fr.app N43 N44q
        obtain ⟨cq45, kq45, q45a, q45b, q45c⟩ := isOf hZ e44 A1_43
        obtain ⟨_, _, ⟨T45, L45, k45, n45⟩, -, X45, ⟨Lc45, hQ45, l45, y45, z45⟩, st45⟩ := X44.virtualBack hx (y := (⟨"com/example/outcry/outcry/allocation/Memo", "value", "(I)I"⟩ : MethodName)) (z := (⟨"com/example/outcry/outcry/allocation/Memo", "value", "(I)I"⟩ : MethodName)) hown (mvT hZ (hw _ (List.mem_of_getElem? (i := 43) rfl))) (mvT hZ (hw _ (List.mem_of_getElem? (i := 44) rfl))) (notFace_of_selects (args := #[]) (mvT hZ (hw _ (List.mem_of_getElem? (i := 46) rfl)))) (mvT hZ (hw _ (List.mem_of_getElem? (i := 46) rfl))) (mvT hZ (hw _ (List.mem_of_getElem? (i := 45) rfl))) (by decide) (backOf (W := 0) (rm_value l Z a0 hw [] b1 (own_find (own_put (own_put (fun _ => (0 : Int64)) q1 q2 (own_out p1 (own_bun p3) (1 : Int32))) q1 q2 (own_out p2 (own_bun p3) (0 : Int32))) q1 q2) tb (own_put (own_put (fun _ => (0 : Int64)) q1 q2 (own_out p1 (own_bun p3) (1 : Int32))) q1 q2 (own_out p2 (own_bun p3) (0 : Int32))) T43.heap n0 Z43 x43c1 x43c3 (own_bb (own_sb _ _) (own_same_f2 (own_out_nz _ _ _) (own_out_nz _ _ _)))) hZ (hw _ (List.mem_of_getElem? (i := 47) rfl)) (hw _ (List.mem_of_getElem? (i := 2) rfl)) (by decide) (by decide)) q45a q45c (g := (mkF m 133 #[.val (.long q1), .second, .val (.long q2), .second, .val (.int p1), .val (.int p2), .val (.int p3), .val (.int p4), .val (.ref b1), .val (.int (own_bun p3)), .val (.int (1 : Int32)), .val (.int (1 : Int32)), .val (.int (0 : Int32)), .val (.long q2), .second, .val (.int (own_find (own_put (own_put (fun _ => (0 : Int64)) q1 q2 (own_out p1 (own_bun p3) (1 : Int32))) q1 q2 (own_out p2 (own_bun p3) (0 : Int32))) q1 q2)), .val (.int p2), .unset] [(.int (own_find (own_put (own_put (fun _ => (0 : Int64)) q1 q2 (own_out p1 (own_bun p3) (1 : Int32))) q1 q2 (own_out p2 (own_bun p3) (0 : Int32))) q1 q2)), (.ref b1)])) rfl (by rw [hml]; rfl) (Steps.refl _) (argsL := [(.int (own_find (own_put (own_put (fun _ => (0 : Int64)) q1 q2 (own_out p1 (own_bun p3) (1 : Int32))) q1 q2 (own_out p2 (own_bun p3) (0 : Int32))) q1 q2))]) (rest := []) (lenOf pd_7 rfl) rfl (by show 2 * 0 + _ ≤ _; exact Nat.le_of_eq rfl) (hb hby at_133) (fun _ _ => ⟨rfl, e44, (by decide : 2 + 0 ≤ _), (by decide : 3074 + 0 ≤ _)⟩)
        dsimp only [Pt.U, Pt.locs, Pt.cells, Pt.slots] at X45 l45 y45 z45 st45 hQ45
        subst l45 y45 z45
        obtain ⟨rfl, N45q, e45⟩ := hQ45
        have N45 := Fr.app N44 N45q
        obtain ⟨fs, hr, hrun, hended, hW, hsame⟩ := X45.leave (v := some (.int (1 : Int32))) (fun h => by rw [Bd.returns] at h; cases h)
        refine ⟨_, _, pre0 _ ?_, hrun, hended, _, _, rfl, ?_, ⟨_, rfl⟩, hW, hsame.mono (by decide) (by decide)⟩
        · refine k41 _ ?_
          show Steps p.tables e below (T2.setTop (mkF m 48 #[.val (.long q1), .second, .val (.long q2), .second, .val (.int p1), .val (.int p2), .val (.int p3), .val (.int p4), .val (.ref b1), .val (.int (own_bun p3)), .val (.int (1 : Int32)), .val (.int (1 : Int32)), .unset, .unset, .unset, .unset, .unset, .unset] [(.int (p4 &&& (4 : Int32)))])) _
          refine XS.ifYes X2.here hx rfl (pc0 := 48) (pc' := 55) rfl (hb hby at_48) rfl ((if0 _ _).trans (teq hc48).1) (by decide) (by decide) ?_
          show Steps p.tables e below (T2.setTop (mkF m 55 #[.val (.long q1), .second, .val (.long q2), .second, .val (.int p1), .val (.int p2), .val (.int p3), .val (.int p4), .val (.ref b1), .val (.int (own_bun p3)), .val (.int (1 : Int32)), .val (.int (1 : Int32)), .unset, .unset, .unset, .unset, .unset, .unset] [])) _
          refine XS.iconst X2.here hx rfl (hb hby at_55) ?_
          show Steps p.tables e below (T2.setTop (mkF m 56 #[.val (.long q1), .second, .val (.long q2), .second, .val (.int p1), .val (.int p2), .val (.int p3), .val (.int p4), .val (.ref b1), .val (.int (own_bun p3)), .val (.int (1 : Int32)), .val (.int (1 : Int32)), .unset, .unset, .unset, .unset, .unset, .unset] [(.int (0 : Int32))])) _
          refine XS.istore X2.here hx rfl (hb hby at_56) rfl (l' := #[.val (.long q1), .second, .val (.long q2), .second, .val (.int p1), .val (.int p2), .val (.int p3), .val (.int p4), .val (.ref b1), .val (.int (own_bun p3)), .val (.int (1 : Int32)), .val (.int (1 : Int32)), .val (.int (0 : Int32)), .unset, .unset, .unset, .unset, .unset]) rfl ?_
          show Steps p.tables e below (T2.setTop (mkF m 58 #[.val (.long q1), .second, .val (.long q2), .second, .val (.int p1), .val (.int p2), .val (.int p3), .val (.int p4), .val (.ref b1), .val (.int (own_bun p3)), .val (.int (1 : Int32)), .val (.int (1 : Int32)), .val (.int (0 : Int32)), .unset, .unset, .unset, .unset, .unset] [])) _
          refine XS.iload X2.here hx rfl (hb hby at_58) rfl ?_
          show Steps p.tables e below (T2.setTop (mkF m 60 #[.val (.long q1), .second, .val (.long q2), .second, .val (.int p1), .val (.int p2), .val (.int p3), .val (.int p4), .val (.ref b1), .val (.int (own_bun p3)), .val (.int (1 : Int32)), .val (.int (1 : Int32)), .val (.int (0 : Int32)), .unset, .unset, .unset, .unset, .unset] [(.int (1 : Int32))])) _
          refine XS.ifNo X2.here hx rfl (hb hby at_60) rfl ((if0 _ _).trans (feq (by decide : ¬ ((1 : Int32) = (0 : Int32)))).1) ?_
          show Steps p.tables e below (T2.setTop (mkF m 63 #[.val (.long q1), .second, .val (.long q2), .second, .val (.int p1), .val (.int p2), .val (.int p3), .val (.int p4), .val (.ref b1), .val (.int (own_bun p3)), .val (.int (1 : Int32)), .val (.int (1 : Int32)), .val (.int (0 : Int32)), .unset, .unset, .unset, .unset, .unset] [])) _
          refine XS.lloadN X2.here hx rfl (hb hby at_63) rfl ?_
          show Steps p.tables e below (T2.setTop (mkF m 64 #[.val (.long q1), .second, .val (.long q2), .second, .val (.int p1), .val (.int p2), .val (.int p3), .val (.int p4), .val (.ref b1), .val (.int (own_bun p3)), .val (.int (1 : Int32)), .val (.int (1 : Int32)), .val (.int (0 : Int32)), .unset, .unset, .unset, .unset, .unset] [(.long q2)])) _
          refine XS.goto X2.here hx rfl (pc0 := 64) (pc' := 70) rfl (hb hby at_64) (by decide) (by decide) ?_
          show Steps p.tables e below (T2.setTop (mkF m 70 #[.val (.long q1), .second, .val (.long q2), .second, .val (.int p1), .val (.int p2), .val (.int p3), .val (.int p4), .val (.ref b1), .val (.int (own_bun p3)), .val (.int (1 : Int32)), .val (.int (1 : Int32)), .val (.int (0 : Int32)), .unset, .unset, .unset, .unset, .unset] [(.long q2)])) _
          refine XS.lstore X2.here hx rfl (hb hby at_70) rfl (l' := #[.val (.long q1), .second, .val (.long q2), .second, .val (.int p1), .val (.int p2), .val (.int p3), .val (.int p4), .val (.ref b1), .val (.int (own_bun p3)), .val (.int (1 : Int32)), .val (.int (1 : Int32)), .val (.int (0 : Int32)), .val (.long q2), .second, .unset, .unset, .unset]) rfl ?_
          show Steps p.tables e below (T2.setTop (mkF m 72 #[.val (.long q1), .second, .val (.long q2), .second, .val (.int p1), .val (.int p2), .val (.int p3), .val (.int p4), .val (.ref b1), .val (.int (own_bun p3)), .val (.int (1 : Int32)), .val (.int (1 : Int32)), .val (.int (0 : Int32)), .val (.long q2), .second, .unset, .unset, .unset] [])) _
          refine XS.aload X2.here hx rfl (hb hby at_72) rfl rfl ?_
          show Steps p.tables e below (T2.setTop (mkF m 74 #[.val (.long q1), .second, .val (.long q2), .second, .val (.int p1), .val (.int p2), .val (.int p3), .val (.int p4), .val (.ref b1), .val (.int (own_bun p3)), .val (.int (1 : Int32)), .val (.int (1 : Int32)), .val (.int (0 : Int32)), .val (.long q2), .second, .unset, .unset, .unset] [(.ref b1)])) _
          refine XS.lloadN X2.here hx rfl (hb hby at_74) rfl ?_
          show Steps p.tables e below (T2.setTop (mkF m 75 #[.val (.long q1), .second, .val (.long q2), .second, .val (.int p1), .val (.int p2), .val (.int p3), .val (.int p4), .val (.ref b1), .val (.int (own_bun p3)), .val (.int (1 : Int32)), .val (.int (1 : Int32)), .val (.int (0 : Int32)), .val (.long q2), .second, .unset, .unset, .unset] [(.long q1), (.ref b1)])) _
          refine XS.lloadN X2.here hx rfl (hb hby at_75) rfl ?_
          show Steps p.tables e below (T2.setTop (mkF m 76 #[.val (.long q1), .second, .val (.long q2), .second, .val (.int p1), .val (.int p2), .val (.int p3), .val (.int p4), .val (.ref b1), .val (.int (own_bun p3)), .val (.int (1 : Int32)), .val (.int (1 : Int32)), .val (.int (0 : Int32)), .val (.long q2), .second, .unset, .unset, .unset] [(.long q2), (.long q1), (.ref b1)])) _
          refine XS.iload X2.here hx rfl (hb hby at_76) rfl ?_
          show Steps p.tables e below (T2.setTop (mkF m 78 #[.val (.long q1), .second, .val (.long q2), .second, .val (.int p1), .val (.int p2), .val (.int p3), .val (.int p4), .val (.ref b1), .val (.int (own_bun p3)), .val (.int (1 : Int32)), .val (.int (1 : Int32)), .val (.int (0 : Int32)), .val (.long q2), .second, .unset, .unset, .unset] [(.int p1), (.long q2), (.long q1), (.ref b1)])) _
          refine XS.iload X2.here hx rfl (hb hby at_78) rfl ?_
          show Steps p.tables e below (T2.setTop (mkF m 80 #[.val (.long q1), .second, .val (.long q2), .second, .val (.int p1), .val (.int p2), .val (.int p3), .val (.int p4), .val (.ref b1), .val (.int (own_bun p3)), .val (.int (1 : Int32)), .val (.int (1 : Int32)), .val (.int (0 : Int32)), .val (.long q2), .second, .unset, .unset, .unset] [(.int (own_bun p3)), (.int p1), (.long q2), (.long q1), (.ref b1)])) _
          refine XS.iload X2.here hx rfl (hb hby at_80) rfl ?_
          show Steps p.tables e below (T2.setTop (mkF m 82 #[.val (.long q1), .second, .val (.long q2), .second, .val (.int p1), .val (.int p2), .val (.int p3), .val (.int p4), .val (.ref b1), .val (.int (own_bun p3)), .val (.int (1 : Int32)), .val (.int (1 : Int32)), .val (.int (0 : Int32)), .val (.long q2), .second, .unset, .unset, .unset] [(.int (1 : Int32)), (.int (own_bun p3)), (.int p1), (.long q2), (.long q1), (.ref b1)])) _
          refine st42 _ ?_
          show Steps p.tables e below (T42.setTop (mkF m 85 #[.val (.long q1), .second, .val (.long q2), .second, .val (.int p1), .val (.int p2), .val (.int p3), .val (.int p4), .val (.ref b1), .val (.int (own_bun p3)), .val (.int (1 : Int32)), .val (.int (1 : Int32)), .val (.int (0 : Int32)), .val (.long q2), .second, .unset, .unset, .unset] [])) _
          refine XS.aload X42.here hx rfl (hb hby at_85) rfl rfl ?_
          show Steps p.tables e below (T42.setTop (mkF m 87 #[.val (.long q1), .second, .val (.long q2), .second, .val (.int p1), .val (.int p2), .val (.int p3), .val (.int p4), .val (.ref b1), .val (.int (own_bun p3)), .val (.int (1 : Int32)), .val (.int (1 : Int32)), .val (.int (0 : Int32)), .val (.long q2), .second, .unset, .unset, .unset] [(.ref b1)])) _
          refine XS.lloadN X42.here hx rfl (hb hby at_87) rfl ?_
          show Steps p.tables e below (T42.setTop (mkF m 88 #[.val (.long q1), .second, .val (.long q2), .second, .val (.int p1), .val (.int p2), .val (.int p3), .val (.int p4), .val (.ref b1), .val (.int (own_bun p3)), .val (.int (1 : Int32)), .val (.int (1 : Int32)), .val (.int (0 : Int32)), .val (.long q2), .second, .unset, .unset, .unset] [(.long q1), (.ref b1)])) _
          refine XS.lload X42.here hx rfl (hb hby at_88) rfl ?_
          show Steps p.tables e below (T42.setTop (mkF m 90 #[.val (.long q1), .second, .val (.long q2), .second, .val (.int p1), .val (.int p2), .val (.int p3), .val (.int p4), .val (.ref b1), .val (.int (own_bun p3)), .val (.int (1 : Int32)), .val (.int (1 : Int32)), .val (.int (0 : Int32)), .val (.long q2), .second, .unset, .unset, .unset] [(.long q2), (.long q1), (.ref b1)])) _
          refine XS.iload X42.here hx rfl (hb hby at_90) rfl ?_
          show Steps p.tables e below (T42.setTop (mkF m 92 #[.val (.long q1), .second, .val (.long q2), .second, .val (.int p1), .val (.int p2), .val (.int p3), .val (.int p4), .val (.ref b1), .val (.int (own_bun p3)), .val (.int (1 : Int32)), .val (.int (1 : Int32)), .val (.int (0 : Int32)), .val (.long q2), .second, .unset, .unset, .unset] [(.int p2), (.long q2), (.long q1), (.ref b1)])) _
          refine XS.iload X42.here hx rfl (hb hby at_92) rfl ?_
          show Steps p.tables e below (T42.setTop (mkF m 94 #[.val (.long q1), .second, .val (.long q2), .second, .val (.int p1), .val (.int p2), .val (.int p3), .val (.int p4), .val (.ref b1), .val (.int (own_bun p3)), .val (.int (1 : Int32)), .val (.int (1 : Int32)), .val (.int (0 : Int32)), .val (.long q2), .second, .unset, .unset, .unset] [(.int (own_bun p3)), (.int p2), (.long q2), (.long q1), (.ref b1)])) _
          refine XS.iload X42.here hx rfl (hb hby at_94) rfl ?_
          show Steps p.tables e below (T42.setTop (mkF m 96 #[.val (.long q1), .second, .val (.long q2), .second, .val (.int p1), .val (.int p2), .val (.int p3), .val (.int p4), .val (.ref b1), .val (.int (own_bun p3)), .val (.int (1 : Int32)), .val (.int (1 : Int32)), .val (.int (0 : Int32)), .val (.long q2), .second, .unset, .unset, .unset] [(.int (0 : Int32)), (.int (own_bun p3)), (.int p2), (.long q2), (.long q1), (.ref b1)])) _
          refine st43 _ ?_
          show Steps p.tables e below (T43.setTop (mkF m 99 #[.val (.long q1), .second, .val (.long q2), .second, .val (.int p1), .val (.int p2), .val (.int p3), .val (.int p4), .val (.ref b1), .val (.int (own_bun p3)), .val (.int (1 : Int32)), .val (.int (1 : Int32)), .val (.int (0 : Int32)), .val (.long q2), .second, .unset, .unset, .unset] [])) _
          refine XS.aload X43.here hx rfl (hb hby at_99) rfl rfl ?_
          show Steps p.tables e below (T43.setTop (mkF m 101 #[.val (.long q1), .second, .val (.long q2), .second, .val (.int p1), .val (.int p2), .val (.int p3), .val (.int p4), .val (.ref b1), .val (.int (own_bun p3)), .val (.int (1 : Int32)), .val (.int (1 : Int32)), .val (.int (0 : Int32)), .val (.long q2), .second, .unset, .unset, .unset] [(.ref b1)])) _
          refine XS.lloadN X43.here hx rfl (hb hby at_101) rfl ?_
          show Steps p.tables e below (T43.setTop (mkF m 102 #[.val (.long q1), .second, .val (.long q2), .second, .val (.int p1), .val (.int p2), .val (.int p3), .val (.int p4), .val (.ref b1), .val (.int (own_bun p3)), .val (.int (1 : Int32)), .val (.int (1 : Int32)), .val (.int (0 : Int32)), .val (.long q2), .second, .unset, .unset, .unset] [(.long q1), (.ref b1)])) _
          refine XS.lloadN X43.here hx rfl (hb hby at_102) rfl ?_
          show Steps p.tables e below (T43.setTop (mkF m 103 #[.val (.long q1), .second, .val (.long q2), .second, .val (.int p1), .val (.int p2), .val (.int p3), .val (.int p4), .val (.ref b1), .val (.int (own_bun p3)), .val (.int (1 : Int32)), .val (.int (1 : Int32)), .val (.int (0 : Int32)), .val (.long q2), .second, .unset, .unset, .unset] [(.long q2), (.long q1), (.ref b1)])) _
          refine st44.trans ?_
          show Steps p.tables e below (T44.setTop (mkF m 106 #[.val (.long q1), .second, .val (.long q2), .second, .val (.int p1), .val (.int p2), .val (.int p3), .val (.int p4), .val (.ref b1), .val (.int (own_bun p3)), .val (.int (1 : Int32)), .val (.int (1 : Int32)), .val (.int (0 : Int32)), .val (.long q2), .second, .unset, .unset, .unset] [(.int (own_find (own_put (own_put (fun _ => (0 : Int64)) q1 q2 (own_out p1 (own_bun p3) (1 : Int32))) q1 q2 (own_out p2 (own_bun p3) (0 : Int32))) q1 q2))])) _
          refine XS.istore X44.here hx rfl (hb hby at_106) rfl (l' := #[.val (.long q1), .second, .val (.long q2), .second, .val (.int p1), .val (.int p2), .val (.int p3), .val (.int p4), .val (.ref b1), .val (.int (own_bun p3)), .val (.int (1 : Int32)), .val (.int (1 : Int32)), .val (.int (0 : Int32)), .val (.long q2), .second, .val (.int (own_find (own_put (own_put (fun _ => (0 : Int64)) q1 q2 (own_out p1 (own_bun p3) (1 : Int32))) q1 q2 (own_out p2 (own_bun p3) (0 : Int32))) q1 q2)), .unset, .unset]) rfl ?_
          show Steps p.tables e below (T44.setTop (mkF m 108 #[.val (.long q1), .second, .val (.long q2), .second, .val (.int p1), .val (.int p2), .val (.int p3), .val (.int p4), .val (.ref b1), .val (.int (own_bun p3)), .val (.int (1 : Int32)), .val (.int (1 : Int32)), .val (.int (0 : Int32)), .val (.long q2), .second, .val (.int (own_find (own_put (own_put (fun _ => (0 : Int64)) q1 q2 (own_out p1 (own_bun p3) (1 : Int32))) q1 q2 (own_out p2 (own_bun p3) (0 : Int32))) q1 q2)), .unset, .unset] [])) _
          refine XS.iload X44.here hx rfl (hb hby at_108) rfl ?_
          show Steps p.tables e below (T44.setTop (mkF m 110 #[.val (.long q1), .second, .val (.long q2), .second, .val (.int p1), .val (.int p2), .val (.int p3), .val (.int p4), .val (.ref b1), .val (.int (own_bun p3)), .val (.int (1 : Int32)), .val (.int (1 : Int32)), .val (.int (0 : Int32)), .val (.long q2), .second, .val (.int (own_find (own_put (own_put (fun _ => (0 : Int64)) q1 q2 (own_out p1 (own_bun p3) (1 : Int32))) q1 q2 (own_out p2 (own_bun p3) (0 : Int32))) q1 q2)), .unset, .unset] [(.int (own_find (own_put (own_put (fun _ => (0 : Int64)) q1 q2 (own_out p1 (own_bun p3) (1 : Int32))) q1 q2 (own_out p2 (own_bun p3) (0 : Int32))) q1 q2))])) _
          refine XS.ifYes X44.here hx rfl (pc0 := 110) (pc' := 115) rfl (hb hby at_110) rfl ((if0 _ _).trans (flt (own_ge (own_sb _ _) (own_same_f2 (own_out_nz _ _ _) (own_out_nz _ _ _)))).2.1) (by decide) (by decide) ?_
          show Steps p.tables e below (T44.setTop (mkF m 115 #[.val (.long q1), .second, .val (.long q2), .second, .val (.int p1), .val (.int p2), .val (.int p3), .val (.int p4), .val (.ref b1), .val (.int (own_bun p3)), .val (.int (1 : Int32)), .val (.int (1 : Int32)), .val (.int (0 : Int32)), .val (.long q2), .second, .val (.int (own_find (own_put (own_put (fun _ => (0 : Int64)) q1 q2 (own_out p1 (own_bun p3) (1 : Int32))) q1 q2 (own_out p2 (own_bun p3) (0 : Int32))) q1 q2)), .unset, .unset] [])) _
          refine XS.iload X44.here hx rfl (hb hby at_115) rfl ?_
          show Steps p.tables e below (T44.setTop (mkF m 117 #[.val (.long q1), .second, .val (.long q2), .second, .val (.int p1), .val (.int p2), .val (.int p3), .val (.int p4), .val (.ref b1), .val (.int (own_bun p3)), .val (.int (1 : Int32)), .val (.int (1 : Int32)), .val (.int (0 : Int32)), .val (.long q2), .second, .val (.int (own_find (own_put (own_put (fun _ => (0 : Int64)) q1 q2 (own_out p1 (own_bun p3) (1 : Int32))) q1 q2 (own_out p2 (own_bun p3) (0 : Int32))) q1 q2)), .unset, .unset] [(.int (1 : Int32))])) _
          refine XS.ifNo X44.here hx rfl (hb hby at_117) rfl ((if0 _ _).trans (feq (by decide : ¬ ((1 : Int32) = (0 : Int32)))).1) ?_
          show Steps p.tables e below (T44.setTop (mkF m 120 #[.val (.long q1), .second, .val (.long q2), .second, .val (.int p1), .val (.int p2), .val (.int p3), .val (.int p4), .val (.ref b1), .val (.int (own_bun p3)), .val (.int (1 : Int32)), .val (.int (1 : Int32)), .val (.int (0 : Int32)), .val (.long q2), .second, .val (.int (own_find (own_put (own_put (fun _ => (0 : Int64)) q1 q2 (own_out p1 (own_bun p3) (1 : Int32))) q1 q2 (own_out p2 (own_bun p3) (0 : Int32))) q1 q2)), .unset, .unset] [])) _
          refine XS.iload X44.here hx rfl (hb hby at_120) rfl ?_
          show Steps p.tables e below (T44.setTop (mkF m 122 #[.val (.long q1), .second, .val (.long q2), .second, .val (.int p1), .val (.int p2), .val (.int p3), .val (.int p4), .val (.ref b1), .val (.int (own_bun p3)), .val (.int (1 : Int32)), .val (.int (1 : Int32)), .val (.int (0 : Int32)), .val (.long q2), .second, .val (.int (own_find (own_put (own_put (fun _ => (0 : Int64)) q1 q2 (own_out p1 (own_bun p3) (1 : Int32))) q1 q2 (own_out p2 (own_bun p3) (0 : Int32))) q1 q2)), .unset, .unset] [(.int p2)])) _
          refine XS.goto X44.here hx rfl (pc0 := 122) (pc' := 127) rfl (hb hby at_122) (by decide) (by decide) ?_
          show Steps p.tables e below (T44.setTop (mkF m 127 #[.val (.long q1), .second, .val (.long q2), .second, .val (.int p1), .val (.int p2), .val (.int p3), .val (.int p4), .val (.ref b1), .val (.int (own_bun p3)), .val (.int (1 : Int32)), .val (.int (1 : Int32)), .val (.int (0 : Int32)), .val (.long q2), .second, .val (.int (own_find (own_put (own_put (fun _ => (0 : Int64)) q1 q2 (own_out p1 (own_bun p3) (1 : Int32))) q1 q2 (own_out p2 (own_bun p3) (0 : Int32))) q1 q2)), .unset, .unset] [(.int p2)])) _
          refine XS.istore X44.here hx rfl (hb hby at_127) rfl (l' := #[.val (.long q1), .second, .val (.long q2), .second, .val (.int p1), .val (.int p2), .val (.int p3), .val (.int p4), .val (.ref b1), .val (.int (own_bun p3)), .val (.int (1 : Int32)), .val (.int (1 : Int32)), .val (.int (0 : Int32)), .val (.long q2), .second, .val (.int (own_find (own_put (own_put (fun _ => (0 : Int64)) q1 q2 (own_out p1 (own_bun p3) (1 : Int32))) q1 q2 (own_out p2 (own_bun p3) (0 : Int32))) q1 q2)), .val (.int p2), .unset]) rfl ?_
          show Steps p.tables e below (T44.setTop (mkF m 129 #[.val (.long q1), .second, .val (.long q2), .second, .val (.int p1), .val (.int p2), .val (.int p3), .val (.int p4), .val (.ref b1), .val (.int (own_bun p3)), .val (.int (1 : Int32)), .val (.int (1 : Int32)), .val (.int (0 : Int32)), .val (.long q2), .second, .val (.int (own_find (own_put (own_put (fun _ => (0 : Int64)) q1 q2 (own_out p1 (own_bun p3) (1 : Int32))) q1 q2 (own_out p2 (own_bun p3) (0 : Int32))) q1 q2)), .val (.int p2), .unset] [])) _
          refine XS.aload X44.here hx rfl (hb hby at_129) rfl rfl ?_
          show Steps p.tables e below (T44.setTop (mkF m 131 #[.val (.long q1), .second, .val (.long q2), .second, .val (.int p1), .val (.int p2), .val (.int p3), .val (.int p4), .val (.ref b1), .val (.int (own_bun p3)), .val (.int (1 : Int32)), .val (.int (1 : Int32)), .val (.int (0 : Int32)), .val (.long q2), .second, .val (.int (own_find (own_put (own_put (fun _ => (0 : Int64)) q1 q2 (own_out p1 (own_bun p3) (1 : Int32))) q1 q2 (own_out p2 (own_bun p3) (0 : Int32))) q1 q2)), .val (.int p2), .unset] [(.ref b1)])) _
          refine XS.iload X44.here hx rfl (hb hby at_131) rfl ?_
          show Steps p.tables e below (T44.setTop (mkF m 133 #[.val (.long q1), .second, .val (.long q2), .second, .val (.int p1), .val (.int p2), .val (.int p3), .val (.int p4), .val (.ref b1), .val (.int (own_bun p3)), .val (.int (1 : Int32)), .val (.int (1 : Int32)), .val (.int (0 : Int32)), .val (.long q2), .second, .val (.int (own_find (own_put (own_put (fun _ => (0 : Int64)) q1 q2 (own_out p1 (own_bun p3) (1 : Int32))) q1 q2 (own_out p2 (own_bun p3) (0 : Int32))) q1 q2)), .val (.int p2), .unset] [(.int (own_find (own_put (own_put (fun _ => (0 : Int64)) q1 q2 (own_out p1 (own_bun p3) (1 : Int32))) q1 q2 (own_out p2 (own_bun p3) (0 : Int32))) q1 q2)), (.ref b1)])) _
          refine st45.trans ?_
          show Steps p.tables e below (T45.setTop (mkF m 136 #[.val (.long q1), .second, .val (.long q2), .second, .val (.int p1), .val (.int p2), .val (.int p3), .val (.int p4), .val (.ref b1), .val (.int (own_bun p3)), .val (.int (1 : Int32)), .val (.int (1 : Int32)), .val (.int (0 : Int32)), .val (.long q2), .second, .val (.int (own_find (own_put (own_put (fun _ => (0 : Int64)) q1 q2 (own_out p1 (own_bun p3) (1 : Int32))) q1 q2 (own_out p2 (own_bun p3) (0 : Int32))) q1 q2)), .val (.int p2), .unset] [(.int (((own_put (own_put (fun _ => (0 : Int64)) q1 q2 (own_out p1 (own_bun p3) (1 : Int32))) q1 q2 (own_out p2 (own_bun p3) (0 : Int32))) ((own_find (own_put (own_put (fun _ => (0 : Int64)) q1 q2 (own_out p1 (own_bun p3) (1 : Int32))) q1 q2 (own_out p2 (own_bun p3) (0 : Int32))) q1 q2) + (2 : Int32))) >>> ((32 : Int32) &&& 0x3f).toInt64).toInt32)])) _
          refine XS.iload X45.here hx rfl (hb hby at_136) rfl ?_
          show Steps p.tables e below (T45.setTop (mkF m 138 #[.val (.long q1), .second, .val (.long q2), .second, .val (.int p1), .val (.int p2), .val (.int p3), .val (.int p4), .val (.ref b1), .val (.int (own_bun p3)), .val (.int (1 : Int32)), .val (.int (1 : Int32)), .val (.int (0 : Int32)), .val (.long q2), .second, .val (.int (own_find (own_put (own_put (fun _ => (0 : Int64)) q1 q2 (own_out p1 (own_bun p3) (1 : Int32))) q1 q2 (own_out p2 (own_bun p3) (0 : Int32))) q1 q2)), .val (.int p2), .unset] [(.int p2), (.int (((own_put (own_put (fun _ => (0 : Int64)) q1 q2 (own_out p1 (own_bun p3) (1 : Int32))) q1 q2 (own_out p2 (own_bun p3) (0 : Int32))) ((own_find (own_put (own_put (fun _ => (0 : Int64)) q1 q2 (own_out p1 (own_bun p3) (1 : Int32))) q1 q2 (own_out p2 (own_bun p3) (0 : Int32))) q1 q2) + (2 : Int32))) >>> ((32 : Int32) &&& 0x3f).toInt64).toInt32)])) _
          refine XS.icmpYes X45.here hx rfl (pc0 := 138) (pc' := 143) rfl (hb hby at_138) rfl (teq (own_valeq (own_same_f2 (own_out_nz _ _ _) (own_out_nz _ _ _)) (own_same_v (own_out_nz _ _ _)).2.2 (own_out_v _ _ _))).1 (by decide) (by decide) ?_
          show Steps p.tables e below (T45.setTop (mkF m 143 #[.val (.long q1), .second, .val (.long q2), .second, .val (.int p1), .val (.int p2), .val (.int p3), .val (.int p4), .val (.ref b1), .val (.int (own_bun p3)), .val (.int (1 : Int32)), .val (.int (1 : Int32)), .val (.int (0 : Int32)), .val (.long q2), .second, .val (.int (own_find (own_put (own_put (fun _ => (0 : Int64)) q1 q2 (own_out p1 (own_bun p3) (1 : Int32))) q1 q2 (own_out p2 (own_bun p3) (0 : Int32))) q1 q2)), .val (.int p2), .unset] [])) _
          refine XS.iload X45.here hx rfl (hb hby at_143) rfl ?_
          show Steps p.tables e below (T45.setTop (mkF m 145 #[.val (.long q1), .second, .val (.long q2), .second, .val (.int p1), .val (.int p2), .val (.int p3), .val (.int p4), .val (.ref b1), .val (.int (own_bun p3)), .val (.int (1 : Int32)), .val (.int (1 : Int32)), .val (.int (0 : Int32)), .val (.long q2), .second, .val (.int (own_find (own_put (own_put (fun _ => (0 : Int64)) q1 q2 (own_out p1 (own_bun p3) (1 : Int32))) q1 q2 (own_out p2 (own_bun p3) (0 : Int32))) q1 q2)), .val (.int p2), .unset] [(.int (1 : Int32))])) _
          refine XS.ifYes X45.here hx rfl (pc0 := 145) (pc' := 179) rfl (hb hby at_145) rfl ((if0 _ _).trans (feq (by decide : ¬ ((1 : Int32) = (0 : Int32)))).2) (by decide) (by decide) ?_
          show Steps p.tables e below (T45.setTop (mkF m 179 #[.val (.long q1), .second, .val (.long q2), .second, .val (.int p1), .val (.int p2), .val (.int p3), .val (.int p4), .val (.ref b1), .val (.int (own_bun p3)), .val (.int (1 : Int32)), .val (.int (1 : Int32)), .val (.int (0 : Int32)), .val (.long q2), .second, .val (.int (own_find (own_put (own_put (fun _ => (0 : Int64)) q1 q2 (own_out p1 (own_bun p3) (1 : Int32))) q1 q2 (own_out p2 (own_bun p3) (0 : Int32))) q1 q2)), .val (.int p2), .unset] [])) _
          refine XS.iconst X45.here hx rfl (hb hby at_179) ?_
          show Steps p.tables e below (T45.setTop (mkF m 180 #[.val (.long q1), .second, .val (.long q2), .second, .val (.int p1), .val (.int p2), .val (.int p3), .val (.int p4), .val (.ref b1), .val (.int (own_bun p3)), .val (.int (1 : Int32)), .val (.int (1 : Int32)), .val (.int (0 : Int32)), .val (.long q2), .second, .val (.int (own_find (own_put (own_put (fun _ => (0 : Int64)) q1 q2 (own_out p1 (own_bun p3) (1 : Int32))) q1 q2 (own_out p2 (own_bun p3) (0 : Int32))) q1 q2)), .val (.int p2), .unset] [(.int (1 : Int32))])) _
          exact retN X45 hx (t := .boolean) Bd.returns (by simp) (hb hby at_180) hr
        · show Q_rm_law Z q1 q2 p1 p2 p3 p4 h0 n0 _ T45.heap _
          rw [e45]
          exact ⟨rfl, N45, trivial⟩
      · obtain ⟨_, _, ⟨T46, L46, k46, n46⟩, -, X46, ⟨Lc46, hQ46, l46, y46, z46⟩, st46⟩ := Jvm.LawKit.callS X2 hx (y := (⟨"com/example/outcry/outcry/allocation/MemoValuePinLaw", "store", "(Lcom/example/outcry/outcry/allocation/Memo;JJIIZ)V"⟩ : MethodName)) hown (mvT hZ (hw _ (List.mem_of_getElem? (i := 13) rfl))) (mvT hZ (hw _ (List.mem_of_getElem? (i := 14) rfl))) (mvT hZ (hw _ (List.mem_of_getElem? (i := 15) rfl))) (mvT hZ (hw _ (List.mem_of_getElem? (i := 16) rfl))) (by decide) (backOf (W := 0) (rm_store l Z a0 hw [] b1 q1 q2 p1 (own_bun p3) (1 : Int32) tb (fun _ => (0 : Int64)) (0 : Int32) T2.heap n0 Z2 Ftb Vtb A1_2 g_b1 gtb ne_ob_tb x2c1 (own_ok_0 _ _) (fun _ => own_ok2_0 _ _) (by decide)) hZ (hw _ (List.mem_of_getElem? (i := 16) rfl)) (hw _ (List.mem_of_getElem? (i := 15) rfl)) (by decide) (by decide)) (g := (mkF m 82 #[.val (.long q1), .second, .val (.long q2), .second, .val (.int p1), .val (.int p2), .val (.int p3), .val (.int p4), .val (.ref b1), .val (.int (own_bun p3)), .val (.int (1 : Int32)), .val (.int (1 : Int32)), .val (.int (1 : Int32)), .val (.long q2), .second, .unset, .unset, .unset] [(.int (1 : Int32)), (.int (own_bun p3)), (.int p1), (.long q2), (.long q1), (.ref b1)])) rfl (by rw [hml]; rfl) (argsL := [(.ref b1), (.long q1), (.long q2), (.int p1), (.int (own_bun p3)), (.int (1 : Int32))]) (rest := []) (lenOf pd_6 rfl) rfl (by show 2 * 0 + _ ≤ _; exact Nat.le_of_eq rfl) (hb hby at_82) (fun _ _ => ⟨rfl, rfl, (by decide : 2 + 0 ≤ _), (by decide : 3074 + 0 ≤ _)⟩)
        dsimp only [Pt.U, Pt.locs, Pt.cells, Pt.slots] at X46 l46 y46 z46 st46 hQ46
        subst l46 y46 z46
        obtain ⟨rfl, N46q, x46c0, x46c1, x46c2, x46c3⟩ := hQ46
        have N46 := Fr.app N2 N46q
        have A1_46 : Exa Z T46.heap b1 "com/example/outcry/outcry/allocation/Memo" := A1_2.keep x46c0
        have Z46 : n0 ≤ T46.heap.size := Nat.le_trans Z2 x46c0.1
        obtain ⟨_, _, ⟨T47, L47, k47, n47⟩, -, X47, ⟨Lc47, hQ47, l47, y47, z47⟩, st47⟩ := Jvm.LawKit.callS X46 hx (y := (⟨"com/example/outcry/outcry/allocation/MemoValuePinLaw", "store", "(Lcom/example/outcry/outcry/allocation/Memo;JJIIZ)V"⟩ : MethodName)) hown (mvT hZ (hw _ (List.mem_of_getElem? (i := 13) rfl))) (mvT hZ (hw _ (List.mem_of_getElem? (i := 14) rfl))) (mvT hZ (hw _ (List.mem_of_getElem? (i := 15) rfl))) (mvT hZ (hw _ (List.mem_of_getElem? (i := 16) rfl))) (by decide) (backOf (W := 0) (rm_store l Z a0 hw [] b1 q1 q2 p2 (own_bun p3) (1 : Int32) tb (own_put (fun _ => (0 : Int64)) q1 q2 (own_out p1 (own_bun p3) (1 : Int32))) (own_szz (fun _ => (0 : Int64)) q1 q2 (0 : Int32)) T46.heap n0 Z46 x46c1 x46c3 A1_46 g_b1 gtb ne_ob_tb x46c2 own_same_ok (own_same_imp (own_out_nz _ _ _)) (own_hq1 _ _)) hZ (hw _ (List.mem_of_getElem? (i := 16) rfl)) (hw _ (List.mem_of_getElem? (i := 15) rfl)) (by decide) (by decide)) (g := (mkF m 96 #[.val (.long q1), .second, .val (.long q2), .second, .val (.int p1), .val (.int p2), .val (.int p3), .val (.int p4), .val (.ref b1), .val (.int (own_bun p3)), .val (.int (1 : Int32)), .val (.int (1 : Int32)), .val (.int (1 : Int32)), .val (.long q2), .second, .unset, .unset, .unset] [(.int (1 : Int32)), (.int (own_bun p3)), (.int p2), (.long q2), (.long q1), (.ref b1)])) rfl (by rw [hml]; rfl) (argsL := [(.ref b1), (.long q1), (.long q2), (.int p2), (.int (own_bun p3)), (.int (1 : Int32))]) (rest := []) (lenOf pd_6 rfl) rfl (by show 2 * 0 + _ ≤ _; exact Nat.le_of_eq rfl) (hb hby at_96) (fun _ _ => ⟨rfl, rfl, (by decide : 2 + 0 ≤ _), (by decide : 3074 + 0 ≤ _)⟩)
        dsimp only [Pt.U, Pt.locs, Pt.cells, Pt.slots] at X47 l47 y47 z47 st47 hQ47
        subst l47 y47 z47
        obtain ⟨rfl, N47q, x47c0, x47c1, x47c2, x47c3⟩ := hQ47
        have N47 := Fr.app N46 N47q
        have A1_47 : Exa Z T47.heap b1 "com/example/outcry/outcry/allocation/Memo" := A1_46.keep x47c0
        have Z47 : n0 ≤ T47.heap.size := Nat.le_trans Z46 x47c0.1
        obtain ⟨cq48, kq48, q48a, q48b, q48c⟩ := isOf hZ rfl A1_47
        obtain ⟨_, _, ⟨T48, L48, k48, n48⟩, -, X48, ⟨Lc48, hQ48, l48, y48, z48⟩, st48⟩ := X47.virtualBack hx (y := (⟨"com/example/outcry/outcry/allocation/Memo", "find", "(JJ)I"⟩ : MethodName)) (z := (⟨"com/example/outcry/outcry/allocation/Memo", "find", "(JJ)I"⟩ : MethodName)) hown (mvT hZ (hw _ (List.mem_of_getElem? (i := 42) rfl))) (mvT hZ (hw _ (List.mem_of_getElem? (i := 27) rfl))) (notFace_of_selects (args := #[]) (mvT hZ (hw _ (List.mem_of_getElem? (i := 29) rfl)))) (mvT hZ (hw _ (List.mem_of_getElem? (i := 29) rfl))) (mvT hZ (hw _ (List.mem_of_getElem? (i := 28) rfl))) (by decide) (backOf (W := 0) (rm_find l Z a0 hw [] b1 q1 q2 tb (own_put (own_put (fun _ => (0 : Int64)) q1 q2 (own_out p1 (own_bun p3) (1 : Int32))) q1 q2 (own_out p2 (own_bun p3) (1 : Int32))) T47.heap n0 Z47 x47c1 x47c3 (own_same_ok2 (own_out_nz _ _ _))) hZ (hw _ (List.mem_of_getElem? (i := 30) rfl)) (hw _ (List.mem_of_getElem? (i := 2) rfl)) (by decide) (by decide)) q48a q48c (g := (mkF m 103 #[.val (.long q1), .second, .val (.long q2), .second, .val (.int p1), .val (.int p2), .val (.int p3), .val (.int p4), .val (.ref b1), .val (.int (own_bun p3)), .val (.int (1 : Int32)), .val (.int (1 : Int32)), .val (.int (1 : Int32)), .val (.long q2), .second, .unset, .unset, .unset] [(.long q2), (.long q1), (.ref b1)])) rfl (by rw [hml]; rfl) (Steps.refl _) (argsL := [(.long q1), (.long q2)]) (rest := []) (lenOf pd_1 rfl) rfl (by show 2 * 0 + _ ≤ _; exact Nat.le_of_eq rfl) (hb hby at_103) (fun _ _ => ⟨rfl, rfl, (by decide : 2 + 0 ≤ _), (by decide : 3074 + 0 ≤ _)⟩)
        dsimp only [Pt.U, Pt.locs, Pt.cells, Pt.slots] at X48 l48 y48 z48 st48 hQ48
        subst l48 y48 z48
        obtain ⟨rfl, N48q, e48⟩ := hQ48
        have N48 := Fr.app N47 N48q
        obtain ⟨cq49, kq49, q49a, q49b, q49c⟩ := isOf hZ e48 A1_47
        obtain ⟨_, _, ⟨T49, L49, k49, n49⟩, -, X49, ⟨Lc49, hQ49, l49, y49, z49⟩, st49⟩ := X48.virtualBack hx (y := (⟨"com/example/outcry/outcry/allocation/Memo", "value", "(I)I"⟩ : MethodName)) (z := (⟨"com/example/outcry/outcry/allocation/Memo", "value", "(I)I"⟩ : MethodName)) hown (mvT hZ (hw _ (List.mem_of_getElem? (i := 43) rfl))) (mvT hZ (hw _ (List.mem_of_getElem? (i := 44) rfl))) (notFace_of_selects (args := #[]) (mvT hZ (hw _ (List.mem_of_getElem? (i := 46) rfl)))) (mvT hZ (hw _ (List.mem_of_getElem? (i := 46) rfl))) (mvT hZ (hw _ (List.mem_of_getElem? (i := 45) rfl))) (by decide) (backOf (W := 0) (rm_value l Z a0 hw [] b1 (own_find (own_put (own_put (fun _ => (0 : Int64)) q1 q2 (own_out p1 (own_bun p3) (1 : Int32))) q1 q2 (own_out p2 (own_bun p3) (1 : Int32))) q1 q2) tb (own_put (own_put (fun _ => (0 : Int64)) q1 q2 (own_out p1 (own_bun p3) (1 : Int32))) q1 q2 (own_out p2 (own_bun p3) (1 : Int32))) T47.heap n0 Z47 x47c1 x47c3 (own_bb (own_sb _ _) (own_same_f2 (own_out_nz _ _ _) (own_out_nz _ _ _)))) hZ (hw _ (List.mem_of_getElem? (i := 47) rfl)) (hw _ (List.mem_of_getElem? (i := 2) rfl)) (by decide) (by decide)) q49a q49c (g := (mkF m 133 #[.val (.long q1), .second, .val (.long q2), .second, .val (.int p1), .val (.int p2), .val (.int p3), .val (.int p4), .val (.ref b1), .val (.int (own_bun p3)), .val (.int (1 : Int32)), .val (.int (1 : Int32)), .val (.int (1 : Int32)), .val (.long q2), .second, .val (.int (own_find (own_put (own_put (fun _ => (0 : Int64)) q1 q2 (own_out p1 (own_bun p3) (1 : Int32))) q1 q2 (own_out p2 (own_bun p3) (1 : Int32))) q1 q2)), .val (.int p2), .unset] [(.int (own_find (own_put (own_put (fun _ => (0 : Int64)) q1 q2 (own_out p1 (own_bun p3) (1 : Int32))) q1 q2 (own_out p2 (own_bun p3) (1 : Int32))) q1 q2)), (.ref b1)])) rfl (by rw [hml]; rfl) (Steps.refl _) (argsL := [(.int (own_find (own_put (own_put (fun _ => (0 : Int64)) q1 q2 (own_out p1 (own_bun p3) (1 : Int32))) q1 q2 (own_out p2 (own_bun p3) (1 : Int32))) q1 q2))]) (rest := []) (lenOf pd_7 rfl) rfl (by show 2 * 0 + _ ≤ _; exact Nat.le_of_eq rfl) (hb hby at_133) (fun _ _ => ⟨rfl, e48, (by decide : 2 + 0 ≤ _), (by decide : 3074 + 0 ≤ _)⟩)
        dsimp only [Pt.U, Pt.locs, Pt.cells, Pt.slots] at X49 l49 y49 z49 st49 hQ49
        subst l49 y49 z49
        obtain ⟨rfl, N49q, e49⟩ := hQ49
        have N49 := Fr.app N48 N49q
        obtain ⟨fs, hr, hrun, hended, hW, hsame⟩ := X49.leave (v := some (.int (1 : Int32))) (fun h => by rw [Bd.returns] at h; cases h)
        refine ⟨_, _, pre0 _ ?_, hrun, hended, _, _, rfl, ?_, ⟨_, rfl⟩, hW, hsame.mono (by decide) (by decide)⟩
        · refine k41 _ ?_
          show Steps p.tables e below (T2.setTop (mkF m 48 #[.val (.long q1), .second, .val (.long q2), .second, .val (.int p1), .val (.int p2), .val (.int p3), .val (.int p4), .val (.ref b1), .val (.int (own_bun p3)), .val (.int (1 : Int32)), .val (.int (1 : Int32)), .unset, .unset, .unset, .unset, .unset, .unset] [(.int (p4 &&& (4 : Int32)))])) _
          refine XS.ifNo X2.here hx rfl (hb hby at_48) rfl ((if0 _ _).trans (feq hc48).1) ?_
          show Steps p.tables e below (T2.setTop (mkF m 51 #[.val (.long q1), .second, .val (.long q2), .second, .val (.int p1), .val (.int p2), .val (.int p3), .val (.int p4), .val (.ref b1), .val (.int (own_bun p3)), .val (.int (1 : Int32)), .val (.int (1 : Int32)), .unset, .unset, .unset, .unset, .unset, .unset] [])) _
          refine XS.iconst X2.here hx rfl (hb hby at_51) ?_
          show Steps p.tables e below (T2.setTop (mkF m 52 #[.val (.long q1), .second, .val (.long q2), .second, .val (.int p1), .val (.int p2), .val (.int p3), .val (.int p4), .val (.ref b1), .val (.int (own_bun p3)), .val (.int (1 : Int32)), .val (.int (1 : Int32)), .unset, .unset, .unset, .unset, .unset, .unset] [(.int (1 : Int32))])) _
          refine XS.goto X2.here hx rfl (pc0 := 52) (pc' := 56) rfl (hb hby at_52) (by decide) (by decide) ?_
          show Steps p.tables e below (T2.setTop (mkF m 56 #[.val (.long q1), .second, .val (.long q2), .second, .val (.int p1), .val (.int p2), .val (.int p3), .val (.int p4), .val (.ref b1), .val (.int (own_bun p3)), .val (.int (1 : Int32)), .val (.int (1 : Int32)), .unset, .unset, .unset, .unset, .unset, .unset] [(.int (1 : Int32))])) _
          refine XS.istore X2.here hx rfl (hb hby at_56) rfl (l' := #[.val (.long q1), .second, .val (.long q2), .second, .val (.int p1), .val (.int p2), .val (.int p3), .val (.int p4), .val (.ref b1), .val (.int (own_bun p3)), .val (.int (1 : Int32)), .val (.int (1 : Int32)), .val (.int (1 : Int32)), .unset, .unset, .unset, .unset, .unset]) rfl ?_
          show Steps p.tables e below (T2.setTop (mkF m 58 #[.val (.long q1), .second, .val (.long q2), .second, .val (.int p1), .val (.int p2), .val (.int p3), .val (.int p4), .val (.ref b1), .val (.int (own_bun p3)), .val (.int (1 : Int32)), .val (.int (1 : Int32)), .val (.int (1 : Int32)), .unset, .unset, .unset, .unset, .unset] [])) _
          refine XS.iload X2.here hx rfl (hb hby at_58) rfl ?_
          show Steps p.tables e below (T2.setTop (mkF m 60 #[.val (.long q1), .second, .val (.long q2), .second, .val (.int p1), .val (.int p2), .val (.int p3), .val (.int p4), .val (.ref b1), .val (.int (own_bun p3)), .val (.int (1 : Int32)), .val (.int (1 : Int32)), .val (.int (1 : Int32)), .unset, .unset, .unset, .unset, .unset] [(.int (1 : Int32))])) _
          refine XS.ifNo X2.here hx rfl (hb hby at_60) rfl ((if0 _ _).trans (feq (by decide : ¬ ((1 : Int32) = (0 : Int32)))).1) ?_
          show Steps p.tables e below (T2.setTop (mkF m 63 #[.val (.long q1), .second, .val (.long q2), .second, .val (.int p1), .val (.int p2), .val (.int p3), .val (.int p4), .val (.ref b1), .val (.int (own_bun p3)), .val (.int (1 : Int32)), .val (.int (1 : Int32)), .val (.int (1 : Int32)), .unset, .unset, .unset, .unset, .unset] [])) _
          refine XS.lloadN X2.here hx rfl (hb hby at_63) rfl ?_
          show Steps p.tables e below (T2.setTop (mkF m 64 #[.val (.long q1), .second, .val (.long q2), .second, .val (.int p1), .val (.int p2), .val (.int p3), .val (.int p4), .val (.ref b1), .val (.int (own_bun p3)), .val (.int (1 : Int32)), .val (.int (1 : Int32)), .val (.int (1 : Int32)), .unset, .unset, .unset, .unset, .unset] [(.long q2)])) _
          refine XS.goto X2.here hx rfl (pc0 := 64) (pc' := 70) rfl (hb hby at_64) (by decide) (by decide) ?_
          show Steps p.tables e below (T2.setTop (mkF m 70 #[.val (.long q1), .second, .val (.long q2), .second, .val (.int p1), .val (.int p2), .val (.int p3), .val (.int p4), .val (.ref b1), .val (.int (own_bun p3)), .val (.int (1 : Int32)), .val (.int (1 : Int32)), .val (.int (1 : Int32)), .unset, .unset, .unset, .unset, .unset] [(.long q2)])) _
          refine XS.lstore X2.here hx rfl (hb hby at_70) rfl (l' := #[.val (.long q1), .second, .val (.long q2), .second, .val (.int p1), .val (.int p2), .val (.int p3), .val (.int p4), .val (.ref b1), .val (.int (own_bun p3)), .val (.int (1 : Int32)), .val (.int (1 : Int32)), .val (.int (1 : Int32)), .val (.long q2), .second, .unset, .unset, .unset]) rfl ?_
          show Steps p.tables e below (T2.setTop (mkF m 72 #[.val (.long q1), .second, .val (.long q2), .second, .val (.int p1), .val (.int p2), .val (.int p3), .val (.int p4), .val (.ref b1), .val (.int (own_bun p3)), .val (.int (1 : Int32)), .val (.int (1 : Int32)), .val (.int (1 : Int32)), .val (.long q2), .second, .unset, .unset, .unset] [])) _
          refine XS.aload X2.here hx rfl (hb hby at_72) rfl rfl ?_
          show Steps p.tables e below (T2.setTop (mkF m 74 #[.val (.long q1), .second, .val (.long q2), .second, .val (.int p1), .val (.int p2), .val (.int p3), .val (.int p4), .val (.ref b1), .val (.int (own_bun p3)), .val (.int (1 : Int32)), .val (.int (1 : Int32)), .val (.int (1 : Int32)), .val (.long q2), .second, .unset, .unset, .unset] [(.ref b1)])) _
          refine XS.lloadN X2.here hx rfl (hb hby at_74) rfl ?_
          show Steps p.tables e below (T2.setTop (mkF m 75 #[.val (.long q1), .second, .val (.long q2), .second, .val (.int p1), .val (.int p2), .val (.int p3), .val (.int p4), .val (.ref b1), .val (.int (own_bun p3)), .val (.int (1 : Int32)), .val (.int (1 : Int32)), .val (.int (1 : Int32)), .val (.long q2), .second, .unset, .unset, .unset] [(.long q1), (.ref b1)])) _
          refine XS.lloadN X2.here hx rfl (hb hby at_75) rfl ?_
          show Steps p.tables e below (T2.setTop (mkF m 76 #[.val (.long q1), .second, .val (.long q2), .second, .val (.int p1), .val (.int p2), .val (.int p3), .val (.int p4), .val (.ref b1), .val (.int (own_bun p3)), .val (.int (1 : Int32)), .val (.int (1 : Int32)), .val (.int (1 : Int32)), .val (.long q2), .second, .unset, .unset, .unset] [(.long q2), (.long q1), (.ref b1)])) _
          refine XS.iload X2.here hx rfl (hb hby at_76) rfl ?_
          show Steps p.tables e below (T2.setTop (mkF m 78 #[.val (.long q1), .second, .val (.long q2), .second, .val (.int p1), .val (.int p2), .val (.int p3), .val (.int p4), .val (.ref b1), .val (.int (own_bun p3)), .val (.int (1 : Int32)), .val (.int (1 : Int32)), .val (.int (1 : Int32)), .val (.long q2), .second, .unset, .unset, .unset] [(.int p1), (.long q2), (.long q1), (.ref b1)])) _
          refine XS.iload X2.here hx rfl (hb hby at_78) rfl ?_
          show Steps p.tables e below (T2.setTop (mkF m 80 #[.val (.long q1), .second, .val (.long q2), .second, .val (.int p1), .val (.int p2), .val (.int p3), .val (.int p4), .val (.ref b1), .val (.int (own_bun p3)), .val (.int (1 : Int32)), .val (.int (1 : Int32)), .val (.int (1 : Int32)), .val (.long q2), .second, .unset, .unset, .unset] [(.int (own_bun p3)), (.int p1), (.long q2), (.long q1), (.ref b1)])) _
          refine XS.iload X2.here hx rfl (hb hby at_80) rfl ?_
          show Steps p.tables e below (T2.setTop (mkF m 82 #[.val (.long q1), .second, .val (.long q2), .second, .val (.int p1), .val (.int p2), .val (.int p3), .val (.int p4), .val (.ref b1), .val (.int (own_bun p3)), .val (.int (1 : Int32)), .val (.int (1 : Int32)), .val (.int (1 : Int32)), .val (.long q2), .second, .unset, .unset, .unset] [(.int (1 : Int32)), (.int (own_bun p3)), (.int p1), (.long q2), (.long q1), (.ref b1)])) _
          refine st46 _ ?_
          show Steps p.tables e below (T46.setTop (mkF m 85 #[.val (.long q1), .second, .val (.long q2), .second, .val (.int p1), .val (.int p2), .val (.int p3), .val (.int p4), .val (.ref b1), .val (.int (own_bun p3)), .val (.int (1 : Int32)), .val (.int (1 : Int32)), .val (.int (1 : Int32)), .val (.long q2), .second, .unset, .unset, .unset] [])) _
          refine XS.aload X46.here hx rfl (hb hby at_85) rfl rfl ?_
          show Steps p.tables e below (T46.setTop (mkF m 87 #[.val (.long q1), .second, .val (.long q2), .second, .val (.int p1), .val (.int p2), .val (.int p3), .val (.int p4), .val (.ref b1), .val (.int (own_bun p3)), .val (.int (1 : Int32)), .val (.int (1 : Int32)), .val (.int (1 : Int32)), .val (.long q2), .second, .unset, .unset, .unset] [(.ref b1)])) _
          refine XS.lloadN X46.here hx rfl (hb hby at_87) rfl ?_
          show Steps p.tables e below (T46.setTop (mkF m 88 #[.val (.long q1), .second, .val (.long q2), .second, .val (.int p1), .val (.int p2), .val (.int p3), .val (.int p4), .val (.ref b1), .val (.int (own_bun p3)), .val (.int (1 : Int32)), .val (.int (1 : Int32)), .val (.int (1 : Int32)), .val (.long q2), .second, .unset, .unset, .unset] [(.long q1), (.ref b1)])) _
          refine XS.lload X46.here hx rfl (hb hby at_88) rfl ?_
          show Steps p.tables e below (T46.setTop (mkF m 90 #[.val (.long q1), .second, .val (.long q2), .second, .val (.int p1), .val (.int p2), .val (.int p3), .val (.int p4), .val (.ref b1), .val (.int (own_bun p3)), .val (.int (1 : Int32)), .val (.int (1 : Int32)), .val (.int (1 : Int32)), .val (.long q2), .second, .unset, .unset, .unset] [(.long q2), (.long q1), (.ref b1)])) _
          refine XS.iload X46.here hx rfl (hb hby at_90) rfl ?_
          show Steps p.tables e below (T46.setTop (mkF m 92 #[.val (.long q1), .second, .val (.long q2), .second, .val (.int p1), .val (.int p2), .val (.int p3), .val (.int p4), .val (.ref b1), .val (.int (own_bun p3)), .val (.int (1 : Int32)), .val (.int (1 : Int32)), .val (.int (1 : Int32)), .val (.long q2), .second, .unset, .unset, .unset] [(.int p2), (.long q2), (.long q1), (.ref b1)])) _
          refine XS.iload X46.here hx rfl (hb hby at_92) rfl ?_
          show Steps p.tables e below (T46.setTop (mkF m 94 #[.val (.long q1), .second, .val (.long q2), .second, .val (.int p1), .val (.int p2), .val (.int p3), .val (.int p4), .val (.ref b1), .val (.int (own_bun p3)), .val (.int (1 : Int32)), .val (.int (1 : Int32)), .val (.int (1 : Int32)), .val (.long q2), .second, .unset, .unset, .unset] [(.int (own_bun p3)), (.int p2), (.long q2), (.long q1), (.ref b1)])) _
          refine XS.iload X46.here hx rfl (hb hby at_94) rfl ?_
          show Steps p.tables e below (T46.setTop (mkF m 96 #[.val (.long q1), .second, .val (.long q2), .second, .val (.int p1), .val (.int p2), .val (.int p3), .val (.int p4), .val (.ref b1), .val (.int (own_bun p3)), .val (.int (1 : Int32)), .val (.int (1 : Int32)), .val (.int (1 : Int32)), .val (.long q2), .second, .unset, .unset, .unset] [(.int (1 : Int32)), (.int (own_bun p3)), (.int p2), (.long q2), (.long q1), (.ref b1)])) _
          refine st47 _ ?_
          show Steps p.tables e below (T47.setTop (mkF m 99 #[.val (.long q1), .second, .val (.long q2), .second, .val (.int p1), .val (.int p2), .val (.int p3), .val (.int p4), .val (.ref b1), .val (.int (own_bun p3)), .val (.int (1 : Int32)), .val (.int (1 : Int32)), .val (.int (1 : Int32)), .val (.long q2), .second, .unset, .unset, .unset] [])) _
          refine XS.aload X47.here hx rfl (hb hby at_99) rfl rfl ?_
          show Steps p.tables e below (T47.setTop (mkF m 101 #[.val (.long q1), .second, .val (.long q2), .second, .val (.int p1), .val (.int p2), .val (.int p3), .val (.int p4), .val (.ref b1), .val (.int (own_bun p3)), .val (.int (1 : Int32)), .val (.int (1 : Int32)), .val (.int (1 : Int32)), .val (.long q2), .second, .unset, .unset, .unset] [(.ref b1)])) _
          refine XS.lloadN X47.here hx rfl (hb hby at_101) rfl ?_
          show Steps p.tables e below (T47.setTop (mkF m 102 #[.val (.long q1), .second, .val (.long q2), .second, .val (.int p1), .val (.int p2), .val (.int p3), .val (.int p4), .val (.ref b1), .val (.int (own_bun p3)), .val (.int (1 : Int32)), .val (.int (1 : Int32)), .val (.int (1 : Int32)), .val (.long q2), .second, .unset, .unset, .unset] [(.long q1), (.ref b1)])) _
          refine XS.lloadN X47.here hx rfl (hb hby at_102) rfl ?_
          show Steps p.tables e below (T47.setTop (mkF m 103 #[.val (.long q1), .second, .val (.long q2), .second, .val (.int p1), .val (.int p2), .val (.int p3), .val (.int p4), .val (.ref b1), .val (.int (own_bun p3)), .val (.int (1 : Int32)), .val (.int (1 : Int32)), .val (.int (1 : Int32)), .val (.long q2), .second, .unset, .unset, .unset] [(.long q2), (.long q1), (.ref b1)])) _
          refine st48.trans ?_
          show Steps p.tables e below (T48.setTop (mkF m 106 #[.val (.long q1), .second, .val (.long q2), .second, .val (.int p1), .val (.int p2), .val (.int p3), .val (.int p4), .val (.ref b1), .val (.int (own_bun p3)), .val (.int (1 : Int32)), .val (.int (1 : Int32)), .val (.int (1 : Int32)), .val (.long q2), .second, .unset, .unset, .unset] [(.int (own_find (own_put (own_put (fun _ => (0 : Int64)) q1 q2 (own_out p1 (own_bun p3) (1 : Int32))) q1 q2 (own_out p2 (own_bun p3) (1 : Int32))) q1 q2))])) _
          refine XS.istore X48.here hx rfl (hb hby at_106) rfl (l' := #[.val (.long q1), .second, .val (.long q2), .second, .val (.int p1), .val (.int p2), .val (.int p3), .val (.int p4), .val (.ref b1), .val (.int (own_bun p3)), .val (.int (1 : Int32)), .val (.int (1 : Int32)), .val (.int (1 : Int32)), .val (.long q2), .second, .val (.int (own_find (own_put (own_put (fun _ => (0 : Int64)) q1 q2 (own_out p1 (own_bun p3) (1 : Int32))) q1 q2 (own_out p2 (own_bun p3) (1 : Int32))) q1 q2)), .unset, .unset]) rfl ?_
          show Steps p.tables e below (T48.setTop (mkF m 108 #[.val (.long q1), .second, .val (.long q2), .second, .val (.int p1), .val (.int p2), .val (.int p3), .val (.int p4), .val (.ref b1), .val (.int (own_bun p3)), .val (.int (1 : Int32)), .val (.int (1 : Int32)), .val (.int (1 : Int32)), .val (.long q2), .second, .val (.int (own_find (own_put (own_put (fun _ => (0 : Int64)) q1 q2 (own_out p1 (own_bun p3) (1 : Int32))) q1 q2 (own_out p2 (own_bun p3) (1 : Int32))) q1 q2)), .unset, .unset] [])) _
          refine XS.iload X48.here hx rfl (hb hby at_108) rfl ?_
          show Steps p.tables e below (T48.setTop (mkF m 110 #[.val (.long q1), .second, .val (.long q2), .second, .val (.int p1), .val (.int p2), .val (.int p3), .val (.int p4), .val (.ref b1), .val (.int (own_bun p3)), .val (.int (1 : Int32)), .val (.int (1 : Int32)), .val (.int (1 : Int32)), .val (.long q2), .second, .val (.int (own_find (own_put (own_put (fun _ => (0 : Int64)) q1 q2 (own_out p1 (own_bun p3) (1 : Int32))) q1 q2 (own_out p2 (own_bun p3) (1 : Int32))) q1 q2)), .unset, .unset] [(.int (own_find (own_put (own_put (fun _ => (0 : Int64)) q1 q2 (own_out p1 (own_bun p3) (1 : Int32))) q1 q2 (own_out p2 (own_bun p3) (1 : Int32))) q1 q2))])) _
          refine XS.ifYes X48.here hx rfl (pc0 := 110) (pc' := 115) rfl (hb hby at_110) rfl ((if0 _ _).trans (flt (own_ge (own_sb _ _) (own_same_f2 (own_out_nz _ _ _) (own_out_nz _ _ _)))).2.1) (by decide) (by decide) ?_
          show Steps p.tables e below (T48.setTop (mkF m 115 #[.val (.long q1), .second, .val (.long q2), .second, .val (.int p1), .val (.int p2), .val (.int p3), .val (.int p4), .val (.ref b1), .val (.int (own_bun p3)), .val (.int (1 : Int32)), .val (.int (1 : Int32)), .val (.int (1 : Int32)), .val (.long q2), .second, .val (.int (own_find (own_put (own_put (fun _ => (0 : Int64)) q1 q2 (own_out p1 (own_bun p3) (1 : Int32))) q1 q2 (own_out p2 (own_bun p3) (1 : Int32))) q1 q2)), .unset, .unset] [])) _
          refine XS.iload X48.here hx rfl (hb hby at_115) rfl ?_
          show Steps p.tables e below (T48.setTop (mkF m 117 #[.val (.long q1), .second, .val (.long q2), .second, .val (.int p1), .val (.int p2), .val (.int p3), .val (.int p4), .val (.ref b1), .val (.int (own_bun p3)), .val (.int (1 : Int32)), .val (.int (1 : Int32)), .val (.int (1 : Int32)), .val (.long q2), .second, .val (.int (own_find (own_put (own_put (fun _ => (0 : Int64)) q1 q2 (own_out p1 (own_bun p3) (1 : Int32))) q1 q2 (own_out p2 (own_bun p3) (1 : Int32))) q1 q2)), .unset, .unset] [(.int (1 : Int32))])) _
          refine XS.ifNo X48.here hx rfl (hb hby at_117) rfl ((if0 _ _).trans (feq (by decide : ¬ ((1 : Int32) = (0 : Int32)))).1) ?_
          show Steps p.tables e below (T48.setTop (mkF m 120 #[.val (.long q1), .second, .val (.long q2), .second, .val (.int p1), .val (.int p2), .val (.int p3), .val (.int p4), .val (.ref b1), .val (.int (own_bun p3)), .val (.int (1 : Int32)), .val (.int (1 : Int32)), .val (.int (1 : Int32)), .val (.long q2), .second, .val (.int (own_find (own_put (own_put (fun _ => (0 : Int64)) q1 q2 (own_out p1 (own_bun p3) (1 : Int32))) q1 q2 (own_out p2 (own_bun p3) (1 : Int32))) q1 q2)), .unset, .unset] [])) _
          refine XS.iload X48.here hx rfl (hb hby at_120) rfl ?_
          show Steps p.tables e below (T48.setTop (mkF m 122 #[.val (.long q1), .second, .val (.long q2), .second, .val (.int p1), .val (.int p2), .val (.int p3), .val (.int p4), .val (.ref b1), .val (.int (own_bun p3)), .val (.int (1 : Int32)), .val (.int (1 : Int32)), .val (.int (1 : Int32)), .val (.long q2), .second, .val (.int (own_find (own_put (own_put (fun _ => (0 : Int64)) q1 q2 (own_out p1 (own_bun p3) (1 : Int32))) q1 q2 (own_out p2 (own_bun p3) (1 : Int32))) q1 q2)), .unset, .unset] [(.int p2)])) _
          refine XS.goto X48.here hx rfl (pc0 := 122) (pc' := 127) rfl (hb hby at_122) (by decide) (by decide) ?_
          show Steps p.tables e below (T48.setTop (mkF m 127 #[.val (.long q1), .second, .val (.long q2), .second, .val (.int p1), .val (.int p2), .val (.int p3), .val (.int p4), .val (.ref b1), .val (.int (own_bun p3)), .val (.int (1 : Int32)), .val (.int (1 : Int32)), .val (.int (1 : Int32)), .val (.long q2), .second, .val (.int (own_find (own_put (own_put (fun _ => (0 : Int64)) q1 q2 (own_out p1 (own_bun p3) (1 : Int32))) q1 q2 (own_out p2 (own_bun p3) (1 : Int32))) q1 q2)), .unset, .unset] [(.int p2)])) _
          refine XS.istore X48.here hx rfl (hb hby at_127) rfl (l' := #[.val (.long q1), .second, .val (.long q2), .second, .val (.int p1), .val (.int p2), .val (.int p3), .val (.int p4), .val (.ref b1), .val (.int (own_bun p3)), .val (.int (1 : Int32)), .val (.int (1 : Int32)), .val (.int (1 : Int32)), .val (.long q2), .second, .val (.int (own_find (own_put (own_put (fun _ => (0 : Int64)) q1 q2 (own_out p1 (own_bun p3) (1 : Int32))) q1 q2 (own_out p2 (own_bun p3) (1 : Int32))) q1 q2)), .val (.int p2), .unset]) rfl ?_
          show Steps p.tables e below (T48.setTop (mkF m 129 #[.val (.long q1), .second, .val (.long q2), .second, .val (.int p1), .val (.int p2), .val (.int p3), .val (.int p4), .val (.ref b1), .val (.int (own_bun p3)), .val (.int (1 : Int32)), .val (.int (1 : Int32)), .val (.int (1 : Int32)), .val (.long q2), .second, .val (.int (own_find (own_put (own_put (fun _ => (0 : Int64)) q1 q2 (own_out p1 (own_bun p3) (1 : Int32))) q1 q2 (own_out p2 (own_bun p3) (1 : Int32))) q1 q2)), .val (.int p2), .unset] [])) _
          refine XS.aload X48.here hx rfl (hb hby at_129) rfl rfl ?_
          show Steps p.tables e below (T48.setTop (mkF m 131 #[.val (.long q1), .second, .val (.long q2), .second, .val (.int p1), .val (.int p2), .val (.int p3), .val (.int p4), .val (.ref b1), .val (.int (own_bun p3)), .val (.int (1 : Int32)), .val (.int (1 : Int32)), .val (.int (1 : Int32)), .val (.long q2), .second, .val (.int (own_find (own_put (own_put (fun _ => (0 : Int64)) q1 q2 (own_out p1 (own_bun p3) (1 : Int32))) q1 q2 (own_out p2 (own_bun p3) (1 : Int32))) q1 q2)), .val (.int p2), .unset] [(.ref b1)])) _
          refine XS.iload X48.here hx rfl (hb hby at_131) rfl ?_
          show Steps p.tables e below (T48.setTop (mkF m 133 #[.val (.long q1), .second, .val (.long q2), .second, .val (.int p1), .val (.int p2), .val (.int p3), .val (.int p4), .val (.ref b1), .val (.int (own_bun p3)), .val (.int (1 : Int32)), .val (.int (1 : Int32)), .val (.int (1 : Int32)), .val (.long q2), .second, .val (.int (own_find (own_put (own_put (fun _ => (0 : Int64)) q1 q2 (own_out p1 (own_bun p3) (1 : Int32))) q1 q2 (own_out p2 (own_bun p3) (1 : Int32))) q1 q2)), .val (.int p2), .unset] [(.int (own_find (own_put (own_put (fun _ => (0 : Int64)) q1 q2 (own_out p1 (own_bun p3) (1 : Int32))) q1 q2 (own_out p2 (own_bun p3) (1 : Int32))) q1 q2)), (.ref b1)])) _
          refine st49.trans ?_
          show Steps p.tables e below (T49.setTop (mkF m 136 #[.val (.long q1), .second, .val (.long q2), .second, .val (.int p1), .val (.int p2), .val (.int p3), .val (.int p4), .val (.ref b1), .val (.int (own_bun p3)), .val (.int (1 : Int32)), .val (.int (1 : Int32)), .val (.int (1 : Int32)), .val (.long q2), .second, .val (.int (own_find (own_put (own_put (fun _ => (0 : Int64)) q1 q2 (own_out p1 (own_bun p3) (1 : Int32))) q1 q2 (own_out p2 (own_bun p3) (1 : Int32))) q1 q2)), .val (.int p2), .unset] [(.int (((own_put (own_put (fun _ => (0 : Int64)) q1 q2 (own_out p1 (own_bun p3) (1 : Int32))) q1 q2 (own_out p2 (own_bun p3) (1 : Int32))) ((own_find (own_put (own_put (fun _ => (0 : Int64)) q1 q2 (own_out p1 (own_bun p3) (1 : Int32))) q1 q2 (own_out p2 (own_bun p3) (1 : Int32))) q1 q2) + (2 : Int32))) >>> ((32 : Int32) &&& 0x3f).toInt64).toInt32)])) _
          refine XS.iload X49.here hx rfl (hb hby at_136) rfl ?_
          show Steps p.tables e below (T49.setTop (mkF m 138 #[.val (.long q1), .second, .val (.long q2), .second, .val (.int p1), .val (.int p2), .val (.int p3), .val (.int p4), .val (.ref b1), .val (.int (own_bun p3)), .val (.int (1 : Int32)), .val (.int (1 : Int32)), .val (.int (1 : Int32)), .val (.long q2), .second, .val (.int (own_find (own_put (own_put (fun _ => (0 : Int64)) q1 q2 (own_out p1 (own_bun p3) (1 : Int32))) q1 q2 (own_out p2 (own_bun p3) (1 : Int32))) q1 q2)), .val (.int p2), .unset] [(.int p2), (.int (((own_put (own_put (fun _ => (0 : Int64)) q1 q2 (own_out p1 (own_bun p3) (1 : Int32))) q1 q2 (own_out p2 (own_bun p3) (1 : Int32))) ((own_find (own_put (own_put (fun _ => (0 : Int64)) q1 q2 (own_out p1 (own_bun p3) (1 : Int32))) q1 q2 (own_out p2 (own_bun p3) (1 : Int32))) q1 q2) + (2 : Int32))) >>> ((32 : Int32) &&& 0x3f).toInt64).toInt32)])) _
          refine XS.icmpYes X49.here hx rfl (pc0 := 138) (pc' := 143) rfl (hb hby at_138) rfl (teq (own_valeq (own_same_f2 (own_out_nz _ _ _) (own_out_nz _ _ _)) (own_same_v (own_out_nz _ _ _)).2.2 (own_out_v _ _ _))).1 (by decide) (by decide) ?_
          show Steps p.tables e below (T49.setTop (mkF m 143 #[.val (.long q1), .second, .val (.long q2), .second, .val (.int p1), .val (.int p2), .val (.int p3), .val (.int p4), .val (.ref b1), .val (.int (own_bun p3)), .val (.int (1 : Int32)), .val (.int (1 : Int32)), .val (.int (1 : Int32)), .val (.long q2), .second, .val (.int (own_find (own_put (own_put (fun _ => (0 : Int64)) q1 q2 (own_out p1 (own_bun p3) (1 : Int32))) q1 q2 (own_out p2 (own_bun p3) (1 : Int32))) q1 q2)), .val (.int p2), .unset] [])) _
          refine XS.iload X49.here hx rfl (hb hby at_143) rfl ?_
          show Steps p.tables e below (T49.setTop (mkF m 145 #[.val (.long q1), .second, .val (.long q2), .second, .val (.int p1), .val (.int p2), .val (.int p3), .val (.int p4), .val (.ref b1), .val (.int (own_bun p3)), .val (.int (1 : Int32)), .val (.int (1 : Int32)), .val (.int (1 : Int32)), .val (.long q2), .second, .val (.int (own_find (own_put (own_put (fun _ => (0 : Int64)) q1 q2 (own_out p1 (own_bun p3) (1 : Int32))) q1 q2 (own_out p2 (own_bun p3) (1 : Int32))) q1 q2)), .val (.int p2), .unset] [(.int (1 : Int32))])) _
          refine XS.ifYes X49.here hx rfl (pc0 := 145) (pc' := 179) rfl (hb hby at_145) rfl ((if0 _ _).trans (feq (by decide : ¬ ((1 : Int32) = (0 : Int32)))).2) (by decide) (by decide) ?_
          show Steps p.tables e below (T49.setTop (mkF m 179 #[.val (.long q1), .second, .val (.long q2), .second, .val (.int p1), .val (.int p2), .val (.int p3), .val (.int p4), .val (.ref b1), .val (.int (own_bun p3)), .val (.int (1 : Int32)), .val (.int (1 : Int32)), .val (.int (1 : Int32)), .val (.long q2), .second, .val (.int (own_find (own_put (own_put (fun _ => (0 : Int64)) q1 q2 (own_out p1 (own_bun p3) (1 : Int32))) q1 q2 (own_out p2 (own_bun p3) (1 : Int32))) q1 q2)), .val (.int p2), .unset] [])) _
          refine XS.iconst X49.here hx rfl (hb hby at_179) ?_
          show Steps p.tables e below (T49.setTop (mkF m 180 #[.val (.long q1), .second, .val (.long q2), .second, .val (.int p1), .val (.int p2), .val (.int p3), .val (.int p4), .val (.ref b1), .val (.int (own_bun p3)), .val (.int (1 : Int32)), .val (.int (1 : Int32)), .val (.int (1 : Int32)), .val (.long q2), .second, .val (.int (own_find (own_put (own_put (fun _ => (0 : Int64)) q1 q2 (own_out p1 (own_bun p3) (1 : Int32))) q1 q2 (own_out p2 (own_bun p3) (1 : Int32))) q1 q2)), .val (.int p2), .unset] [(.int (1 : Int32))])) _
          exact retN X49 hx (t := .boolean) Bd.returns (by simp) (hb hby at_180) hr
        · show Q_rm_law Z q1 q2 p1 p2 p3 p4 h0 n0 _ T49.heap _
          rw [e49]
          exact ⟨rfl, N49, trivial⟩
set_option maxRecDepth 65536 in
set_option maxHeartbeats 40000000 in
theorem comes_1 {Post : Tables → Env → Array Value → State → Outcome → State → Prop} (hpost : ∀ tb e args s v u, (limb_1_1.after args s (.returned v) u = true ∧ limb_1_2.after args s (.returned v) u = true ∧ True) → FrameEnd s (.returned v) u (Jvm.fieldLocs frame_1_writes args s ++ Jvm.arrayLocs frame_1_arrays args s ++ Jvm.staticLocs frame_1_statics s) 16 6272 → Post tb e args s (.returned v) u) :
    ArmFor flags0 classFile x code maxLocals ret World_1 tables_1 room_1 Calls_1 rest_1 Pre_1 Post := by
  intro l hfl _ _ p e ha hc hk s m args below hf hA hF happ hP
  obtain ⟨hcalls, hrest, hpre⟩ := hP
  obtain ⟨-, -, -, hnamed, -, -, -, hat⟩ := (Spec.applies_iff hf).mp happ
  obtain ⟨hg, hn⟩ := and_e (Cond.before_iff.mp (show (Jvm.Cond.and given_1 narrow_1).before args s = true from hpre))
  obtain ⟨hcnt, hgv0⟩ := and_e hg
  obtain ⟨hg0, hgv1⟩ := and_e hgv0
  obtain ⟨hg1, hgv2⟩ := and_e hgv1
  obtain ⟨hg2, hgv3⟩ := and_e hgv2
  obtain ⟨hg3, hgv4⟩ := and_e hgv3
  obtain ⟨hg4, hgv5⟩ := and_e hgv4
  have hg5 := hgv5
  obtain ⟨w0, w1, w2, w3, w4, w5, rfl⟩ : ∃ w0 w1 w2 w3 w4 w5 : Value, args = #[w0, w1, w2, w3, w4, w5] := by
    have hs : args.size = 6 := by simpa [Cond.value, given_1] using hcnt
    obtain ⟨L⟩ := args
    match L, hs with
    | [w0, w1, w2, w3, w4, w5], _ => exact ⟨w0, w1, w2, w3, w4, w5, rfl⟩
  have hw := fun d (hd : d ∈ tables_1) => atoms_spec (ws := Jvm.Cond.code x code maxLocals ret :: tables_1) hat d (List.mem_cons_of_mem _ hd)
  have hfit : Fit s := fun {y c} hc i hi => by
    obtain ⟨ha, rfl⟩ := Array.getElem?_eq_some_iff.mp hc
    have q := List.all_eq_true.mp ((Array.all_eq_true_iff_forall_mem.mp hF) _ (Array.getElem_mem ha)) i (List.mem_range.mpr hi)
    simpa [Array.getElem?_eq_getElem hi] using q
  obtain ⟨i0, ei0⟩ := isL_v hg0
  obtain rfl : w0 = (.long i0) := Option.some.inj ei0
  obtain ⟨i1, ei1⟩ := isL_v hg1
  obtain rfl : w1 = (.long i1) := Option.some.inj ei1
  obtain ⟨i2, ei2⟩ := is_v hg2
  obtain rfl : w2 = (.int i2) := Option.some.inj ei2
  obtain ⟨i3, ei3⟩ := is_v hg3
  obtain rfl : w3 = (.int i3) := Option.some.inj ei3
  obtain ⟨i4, ei4⟩ := is_v hg4
  obtain rfl : w4 = (.int i4) := Option.some.inj ei4
  obtain ⟨i5, ei5⟩ := is_v hg5
  obtain rfl : w5 = (.int i5) := Option.some.inj ei5
  obtain ⟨n, o, h1, h2, h3, _, L, rfl, hQL, hq⟩ := rm_law l s _ hw tables_1 i0 i1 i2 i3 i4 i5  s.heap s.heap.size (Nat.le_refl _)  p e ha hc hk s m _ below hf ((Spec.applies_iff_loose hf).mp happ).1 ⟨rfl, State.Warmed39.refl s, rfl⟩ trivial
  obtain ⟨rfl, N, -⟩ := hQL
  refine ⟨n, _, h1, h2, h3, hpost _ _ _ _ _ _ ⟨Cond.after_iff.mpr rfl, Cond.after_iff.mpr (eq_i res_at (Term.int_eval (1)) rfl), trivial⟩ ⟨hq.1, hq.2.1, (hq.2.2.sift fun y hy => Or.inr (N y hy)).mono (by decide) (by decide)⟩⟩
theorem main_1_1 : Claimed_1_1 := comes_1 fun _ _ _ _ _ _ h hF => ⟨h.1, hF⟩
theorem main_1_2 : Claimed_1_2 := comes_1 fun _ _ _ _ _ _ h hF => ⟨h.2.1, hF⟩
end Jvm.Pilot.@@N@@
namespace Jvm.Pilot.@@N@@
open Jvm Jvm.ClassFile Sem Op Lib Jvm.Free Jvm.Stand Jvm.Pilot.@@N@@.Jvm.D
/-! MADE BY PROGRAM (witnessworld.py) out of the Statement's table words and the real class files: 11 classes; the members and pool entries that the words name. The judged class is class 1, her method 2. -/
namespace start1
open Jvm.ClassFile
def u (s : String) : CpInfo := .utf8 (stringToUtf16 s)
/-- a pool by its gaps: so many unusable entries, then the entry; so many at the end -/
def gap : Nat → List CpInfo → List CpInfo
  | 0, r => r
  | n + 1, r => .unusable :: gap n r
def poolList (es : List (Nat × CpInfo)) (last : Nat) : List CpInfo := es.foldr (fun e r => gap e.1 (e.2 :: r)) (gap last [])
def pool (es : List (Nat × CpInfo)) (last : Nat) : Array CpInfo := ⟨poolList es last⟩
def fileOf (pool : Array CpInfo) (this : Nat) (attrs : Array Attribute := #[]) (ms : Array MethodInfo := #[]) (fl : Nat := 33) (sup : Nat := 0) (ifs : Array Nat := #[]) (fds : Array FieldInfo := #[]) : ClassFile where
  minorVersion := 0
  majorVersion := 65
  constantPool := pool
  accessFlags := fl
  thisClass := this
  superClass := sup
  interfaces := ifs
  fields := fds
  methods := ms
  attributes := attrs
def plain (name : String) (sup : Option ClassId) : Class where
  name := name
  kind := .ordinary
  loader := none
  accessFlags := 33
  super := sup
  interfaces := #[]
  cf := none
  fields := #[]
  methods := #[]
  instanceTypes := #[]
  staticTypes := #[]
  resolved := #[]
  callSites := []
  init := .initialized
  statics := none
  mirror := none

def pool0 : Array CpInfo := pool [(5, u "<init>"), (0, u "()V"), (1, .class_ 10), (1, u "java/lang/Object")] 113

def k0c0 : Code := { maxStack := 0, maxLocals := 1, code := object_method_1_code, exceptionTable := #[], attributes := #[] }
def k0m0 : Method := { name := "<init>", desc := "()V", sig := { parameters := [], returnType := none }, accessFlags := 1, code := some k0c0 }
/-- java/lang/Object -/
def k0 : Class := { plain "java/lang/Object" none with
  accessFlags := 33
  interfaces := #[]
  cf := some (fileOf pool0 8 #[] #[{ accessFlags := 1, nameIndex := 5, descriptorIndex := 6, attributes := #[] }] 33 0 #[] #[])
  fields := #[]
  methods := #[k0m0]
  instanceTypes := #[]
  staticTypes := #[]
  resolved := Array.replicate 124 none
  statics := none }

def pool1 : Array CpInfo := pool [(2, .class_ 4), (0, .nameAndType 5 6), (0, u "java/lang/Object"), (0, u "<init>"), (0, u "()V"), (0, .methodref 8 9), (0, .class_ 10), (0, .nameAndType 11 12), (0, u "com/example/outcry/outcry/allocation/Memo"), (0, u "exactly"), (0, u "(JJII)V"), (0, .methodref 8 14), (0, .nameAndType 15 16), (0, u "atMost"), (0, u "(JJI)V"), (0, .methodref 8 3), (0, .integer 1073741823), (0, .methodref 20 21), (0, .class_ 22), (0, .nameAndType 23 24), (0, u "com/example/outcry/outcry/allocation/MemoValuePinLaw"), (0, u "store"), (0, u "(Lcom/example/outcry/outcry/allocation/Memo;JJIIZ)V"), (0, .methodref 8 26), (0, .nameAndType 27 28), (0, u "find"), (0, u "(JJ)I"), (0, .methodref 8 30), (0, .nameAndType 31 32), (0, u "value"), (0, u "(I)I"), (3, u "law"), (0, u "(JJIIII)Z")] 2

def k1m0 : Method := { name := "<init>", desc := "()V", sig := { parameters := [], returnType := none }, accessFlags := 1, code := none }
def k1c1 : Code := { maxStack := 7, maxLocals := 8, code := method_2_code, exceptionTable := #[], attributes := #[] }
def k1m1 : Method := { name := "store", desc := "(Lcom/example/outcry/outcry/allocation/Memo;JJIIZ)V", sig := { parameters := [(.object "com/example/outcry/outcry/allocation/Memo"), .long, .long, .int, .int, .boolean], returnType := none }, accessFlags := 10, code := some k1c1 }
def k1c2 : Code := { maxStack := 8, maxLocals := 18, code := code, exceptionTable := #[], attributes := #[] }
def k1m2 : Method := { name := "law", desc := "(JJIIII)Z", sig := { parameters := [.long, .long, .int, .int, .int, .int], returnType := some .boolean }, accessFlags := 9, code := some k1c2 }
/-- com/example/outcry/outcry/allocation/MemoValuePinLaw -/
def k1 : Class := { plain "com/example/outcry/outcry/allocation/MemoValuePinLaw" (some 0) with
  accessFlags := 49
  interfaces := #[]
  cf := some (fileOf pool1 20 #[] #[{ accessFlags := 1, nameIndex := 5, descriptorIndex := 6, attributes := #[] }, { accessFlags := 10, nameIndex := 23, descriptorIndex := 24, attributes := #[] }, { accessFlags := 9, nameIndex := 36, descriptorIndex := 37, attributes := #[] }] 49 2 #[] #[])
  fields := #[]
  methods := #[k1m0, k1m1, k1m2]
  instanceTypes := #[]
  staticTypes := #[]
  resolved := Array.replicate 40 none
  statics := none }

def pool2 : Array CpInfo := pool [(1, .methodref 2 3), (0, .class_ 4), (0, .nameAndType 5 6), (0, u "java/lang/Object"), (0, u "<init>"), (0, u "()V"), (0, .class_ 8), (0, u "com/example/outcry/outcry/allocation/Memo"), (0, .fieldref 7 10), (0, .nameAndType 11 12), (0, u "table"), (0, u "[J"), (0, .methodref 7 14), (0, .nameAndType 15 16), (0, u "slot"), (0, u "(JJI)I"), (5, u "(I)I"), (0, .methodref 7 24), (0, .nameAndType 25 26), (0, u "put"), (0, u "(JJJ)V"), (0, .methodref 7 28), (0, .nameAndType 29 30), (0, u "find"), (0, u "(JJ)I"), (0, .fieldref 7 32), (0, .nameAndType 33 34), (0, u "size"), (0, u "I"), (3, .methodref 7 39), (0, .nameAndType 40 30), (0, u "free"), (6, .long 11400714819323198485), (1, .long 13787848793156543929), (1, u "STRIDE"), (2, u "INITIAL_ENTRIES"), (4, u "value"), (2, u "exactly"), (0, u "(JJII)V"), (0, u "atMost"), (0, u "(JJI)V")] 3

def k2c0 : Code := { maxStack := 2, maxLocals := 1, code := prog_38_method_1_code, exceptionTable := #[], attributes := #[] }
def k2m0 : Method := { name := "<init>", desc := "()V", sig := { parameters := [], returnType := none }, accessFlags := 0, code := some k2c0 }
def k2c1 : Code := { maxStack := 5, maxLocals := 8, code := prog_38_method_2_code, exceptionTable := #[], attributes := #[] }
def k2m1 : Method := { name := "find", desc := "(JJ)I", sig := { parameters := [.long, .long], returnType := some .int }, accessFlags := 0, code := some k2c1 }
def k2c2 : Code := { maxStack := 3, maxLocals := 2, code := prog_38_method_3_code, exceptionTable := #[], attributes := #[] }
def k2m2 : Method := { name := "value", desc := "(I)I", sig := { parameters := [.int], returnType := some .int }, accessFlags := 0, code := some k2c2 }
def k2c3 : Code := { maxStack := 9, maxLocals := 7, code := prog_38_method_6_code, exceptionTable := #[], attributes := #[] }
def k2m3 : Method := { name := "exactly", desc := "(JJII)V", sig := { parameters := [.long, .long, .int, .int], returnType := none }, accessFlags := 0, code := some k2c3 }
def k2c4 : Code := { maxStack := 9, maxLocals := 6, code := prog_38_method_7_code, exceptionTable := #[], attributes := #[] }
def k2m4 : Method := { name := "atMost", desc := "(JJI)V", sig := { parameters := [.long, .long, .int], returnType := none }, accessFlags := 0, code := some k2c4 }
def k2c5 : Code := { maxStack := 5, maxLocals := 8, code := prog_38_method_8_code, exceptionTable := #[], attributes := #[] }
def k2m5 : Method := { name := "put", desc := "(JJJ)V", sig := { parameters := [.long, .long, .long], returnType := none }, accessFlags := 2, code := some k2c5 }
def k2c6 : Code := { maxStack := 5, maxLocals := 7, code := prog_38_method_10_code, exceptionTable := #[], attributes := #[] }
def k2m6 : Method := { name := "free", desc := "(JJ)I", sig := { parameters := [.long, .long], returnType := some .int }, accessFlags := 2, code := some k2c6 }
def k2c7 : Code := { maxStack := 5, maxLocals := 7, code := prog_38_method_11_code, exceptionTable := #[], attributes := #[] }
def k2m7 : Method := { name := "slot", desc := "(JJI)I", sig := { parameters := [.long, .long, .int], returnType := some .int }, accessFlags := 10, code := some k2c7 }
/-- com/example/outcry/outcry/allocation/Memo -/
def k2 : Class := { plain "com/example/outcry/outcry/allocation/Memo" (some 0) with
  accessFlags := 48
  interfaces := #[]
  cf := some (fileOf pool2 7 #[] #[{ accessFlags := 0, nameIndex := 5, descriptorIndex := 6, attributes := #[] }, { accessFlags := 0, nameIndex := 29, descriptorIndex := 30, attributes := #[] }, { accessFlags := 0, nameIndex := 59, descriptorIndex := 22, attributes := #[] }, { accessFlags := 0, nameIndex := 62, descriptorIndex := 63, attributes := #[] }, { accessFlags := 0, nameIndex := 64, descriptorIndex := 65, attributes := #[] }, { accessFlags := 2, nameIndex := 25, descriptorIndex := 26, attributes := #[] }, { accessFlags := 2, nameIndex := 40, descriptorIndex := 30, attributes := #[] }, { accessFlags := 10, nameIndex := 15, descriptorIndex := 16, attributes := #[] }] 48 2 #[] #[{ accessFlags := 26, nameIndex := 51, descriptorIndex := 34, attributes := #[] }, { accessFlags := 26, nameIndex := 54, descriptorIndex := 34, attributes := #[] }, { accessFlags := 2, nameIndex := 11, descriptorIndex := 12, attributes := #[] }, { accessFlags := 2, nameIndex := 33, descriptorIndex := 34, attributes := #[] }])
  fields := #[{ name := "STRIDE", type := .int, accessFlags := 26, slot := 0, constantValue := 0 }, { name := "INITIAL_ENTRIES", type := .int, accessFlags := 26, slot := 1, constantValue := 0 }, { name := "table", type := (.array .long), accessFlags := 2, slot := 0, constantValue := 0 }, { name := "size", type := .int, accessFlags := 2, slot := 1, constantValue := 0 }]
  methods := #[k2m0, k2m1, k2m2, k2m3, k2m4, k2m5, k2m6, k2m7]
  instanceTypes := #[(.array .long), .int]
  staticTypes := #[.int, .int]
  resolved := Array.replicate 69 none
  statics := none }

def pool3 : Array CpInfo := pool [(1, u "java/lang/Cloneable"), (0, .class_ 1), (0, u "java/lang/Object"), (0, .class_ 3)] 3

/-- java/lang/Cloneable -/
def k3 : Class := { plain "java/lang/Cloneable" (some 0) with
  accessFlags := 1537
  interfaces := #[]
  cf := some (fileOf pool3 2 #[] #[] 1537 4 #[] #[])
  fields := #[]
  methods := #[]
  instanceTypes := #[]
  staticTypes := #[]
  resolved := Array.replicate 8 none
  statics := none }

def pool4 : Array CpInfo := pool [(1, u "java/io/Serializable"), (0, .class_ 1), (0, u "java/lang/Object"), (0, .class_ 3)] 3

/-- java/io/Serializable -/
def k4 : Class := { plain "java/io/Serializable" (some 0) with
  accessFlags := 1537
  interfaces := #[]
  cf := some (fileOf pool4 2 #[] #[] 1537 4 #[] #[])
  fields := #[]
  methods := #[]
  instanceTypes := #[]
  staticTypes := #[]
  resolved := Array.replicate 8 none
  statics := none }

/-- the primitive byte -/
def k5 : Class := { plain "byte" none with kind := .primitive 'B', accessFlags := 0x411 }
/-- [B -/
def k6 : Class := { plain "[B" (some 0) with kind := .array 5 .byte, interfaces := #[3, 4], accessFlags := 1041 }

/-- the primitive int -/
def k7 : Class := { plain "int" none with kind := .primitive 'I', accessFlags := 0x411 }
/-- [I -/
def k8 : Class := { plain "[I" (some 0) with kind := .array 7 .int, interfaces := #[3, 4], accessFlags := 1041 }

/-- the primitive long -/
def k9 : Class := { plain "long" none with kind := .primitive 'J', accessFlags := 0x411 }
/-- [J -/
def k10 : Class := { plain "[J" (some 0) with kind := .array 9 .long, interfaces := #[3, 4], accessFlags := 1041 }

def heap : Heap := #[]
def classes : Array Class := #[k0, k1, k2, k3, k4, k5, k6, k7, k8, k9, k10]
def interned : List (Array UInt16 × Addr) := []
def slotsUsed : Nat := 0
def theMethod : MethodId := ⟨1, 2⟩
def args0 : Array Value := #[.long 5, .long 5, .int 5, .int 5, .int 5, .int 5]
def aboutOver (below : List Frame) : State where
  vm := { classes := classes, interned := interned.toArray }
  heap := heap
  slotsUsed := slotsUsed
  threads := #[{ frames := .invoking theMethod args0 :: below }]
def below0 : List Frame := [.native { method := ⟨0, 0⟩, args := #[] }]
def about1 : State := aboutOver below0
def p0 : Program := .bare "" "" ""
def e0 : Env := launch0.env 0 0 0
theorem w_frames : about1.frames = Frame.invoking theMethod args0 :: below0 := rfl
set_option maxRecDepth 65536 in
theorem w_args : argsFit about1.vm theMethod args0 = true := by decide +kernel
set_option maxRecDepth 65536 in
theorem w_heap : heapFits about1 = true := by decide +kernel
set_option maxRecDepth 65536 in
theorem w_runnable : about1.curStatus? = some .runnable := by decide +kernel
set_option maxRecDepth 65536 in
theorem w_alone : about1.alone = true := by decide +kernel
set_option maxRecDepth 65536 in
theorem w_named : about1.methodNamed? x = some theMethod := by decide +kernel
set_option maxRecDepth 65536 in
theorem w_hears : about1.hears theMethod below0 = true := by decide +kernel
set_option maxRecDepth 65536 in
theorem w_ripe : about1.ripe theMethod args0 below0 = true := by decide +kernel
theorem w_running : about1.status = .running := rfl
set_option maxRecDepth 65536 in
theorem w_room : about1.hasRoom e0.platform room_1 = true :=
  launch0.hasRoom_least _ room_1 (by decide +kernel) (by decide +kernel) (by decide +kernel) (by decide +kernel) (by decide +kernel) (by decide +kernel)
theorem allAtoms_all (ts : List Jvm.Cond) (a : Array Jvm.Value) (st : Jvm.State) : (allAtoms ts).before a st = ts.all (fun c => c.before a st) := by
  induction ts with
  | nil => rfl
  | cons c t ih =>
    show (Jvm.Cond.and c (allAtoms t)).before a st = _
    rw [Jvm.Cond.before_and, ih, List.all_cons]
def words1 : List Jvm.Cond := Jvm.Cond.code x code maxLocals ret :: tables_1
/-- a 'code' word, met by the world's own term for the bytes: nothing is compared byte by byte -/
theorem code_word {y : MethodName} {bytes : ByteArray} {mx : Nat} {rt : Option FieldType} {a : Array Value} {s : State} {m : MethodId} {meth : Method} {c : Code} (h1 : s.methodNamed? y = some m) (h2 : s.vm.method? m = some meth) (h3 : meth.code = some c) (h4 : c.code = bytes)
    (h5 : (c.maxLocals == mx && c.exceptionTable.isEmpty && decide (c.maxStack ≤ mostOperands) && decide (meth.sig.returnType = rt) && !meth.locks && decide (parseMethodDescriptor y.desc = some meth.sig)) = true) : (Jvm.Cond.code y bytes mx rt).before a s = true := by
  simp only [Bool.and_eq_true, beq_iff_eq, Bool.not_eq_true', decide_eq_true_eq] at h5
  obtain ⟨⟨⟨⟨⟨g1, g2⟩, g3⟩, g4⟩, g5⟩, g6⟩ := h5
  simp [Cond.before, Cond.holds, Cond.value, h1, h2, h3, h4, g1, g2, g3, g4, g5, g6]
def isCode : Jvm.Cond → Bool
  | .code _ _ _ _ => true
  | _ => false
theorem all_split {L : List Jvm.Cond} {P : Jvm.Cond → Bool} (h1 : L.all (fun c => isCode c || P c) = true) (h2 : ∀ c ∈ L.filter isCode, P c = true) : L.all P = true := by
  refine List.all_eq_true.mpr fun c hc => ?_
  have h := List.all_eq_true.mp h1 c hc
  rcases Bool.eq_false_or_eq_true (isCode c) with hi | hi
  · exact h2 c (List.mem_filter.mpr ⟨hc, hi⟩)
  · simpa [hi] using h
set_option maxRecDepth 65536 in
theorem w_c0 : (Jvm.Cond.code x code maxLocals ret).before args0 about1 = true := code_word (m := ⟨1, 2⟩) (meth := k1m2) (c := k1c2) (by decide +kernel) rfl rfl rfl (by decide +kernel)
set_option maxRecDepth 65536 in
theorem w_c1 : (Jvm.Cond.code ({ cls := "com/example/outcry/outcry/allocation/Memo", name := "<init>", desc := "()V" } : Jvm.MethodName) prog_38_method_1_code (1 : Nat) (Option.none : Option Jvm.ClassFile.FieldType)).before args0 about1 = true := code_word (m := ⟨2, 0⟩) (meth := k2m0) (c := k2c0) (by decide +kernel) rfl rfl rfl (by decide +kernel)
set_option maxRecDepth 65536 in
theorem w_c2 : (Jvm.Cond.code ({ cls := "java/lang/Object", name := "<init>", desc := "()V" } : Jvm.MethodName) object_method_1_code (1 : Nat) (Option.none : Option Jvm.ClassFile.FieldType)).before args0 about1 = true := code_word (m := ⟨0, 0⟩) (meth := k0m0) (c := k0c0) (by decide +kernel) rfl rfl rfl (by decide +kernel)
set_option maxRecDepth 65536 in
theorem w_c3 : (Jvm.Cond.code ({ cls := "com/example/outcry/outcry/allocation/MemoValuePinLaw", name := "store", desc := "(Lcom/example/outcry/outcry/allocation/Memo;JJIIZ)V" } : Jvm.MethodName) method_2_code (8 : Nat) (Option.none : Option Jvm.ClassFile.FieldType)).before args0 about1 = true := code_word (m := ⟨1, 1⟩) (meth := k1m1) (c := k1c1) (by decide +kernel) rfl rfl rfl (by decide +kernel)
set_option maxRecDepth 65536 in
theorem w_c4 : (Jvm.Cond.code ({ cls := "com/example/outcry/outcry/allocation/Memo", name := "atMost", desc := "(JJI)V" } : Jvm.MethodName) prog_38_method_7_code (6 : Nat) (Option.none : Option Jvm.ClassFile.FieldType)).before args0 about1 = true := code_word (m := ⟨2, 4⟩) (meth := k2m4) (c := k2c4) (by decide +kernel) rfl rfl rfl (by decide +kernel)
set_option maxRecDepth 65536 in
theorem w_c5 : (Jvm.Cond.code ({ cls := "com/example/outcry/outcry/allocation/Memo", name := "put", desc := "(JJJ)V" } : Jvm.MethodName) prog_38_method_8_code (8 : Nat) (Option.none : Option Jvm.ClassFile.FieldType)).before args0 about1 = true := code_word (m := ⟨2, 5⟩) (meth := k2m5) (c := k2c5) (by decide +kernel) rfl rfl rfl (by decide +kernel)
set_option maxRecDepth 65536 in
theorem w_c6 : (Jvm.Cond.code ({ cls := "com/example/outcry/outcry/allocation/Memo", name := "find", desc := "(JJ)I" } : Jvm.MethodName) prog_38_method_2_code (8 : Nat) (Option.some Jvm.ClassFile.FieldType.int)).before args0 about1 = true := code_word (m := ⟨2, 1⟩) (meth := k2m1) (c := k2c1) (by decide +kernel) rfl rfl rfl (by decide +kernel)
set_option maxRecDepth 65536 in
theorem w_c7 : (Jvm.Cond.code ({ cls := "com/example/outcry/outcry/allocation/Memo", name := "slot", desc := "(JJI)I" } : Jvm.MethodName) prog_38_method_11_code (7 : Nat) (Option.some Jvm.ClassFile.FieldType.int)).before args0 about1 = true := code_word (m := ⟨2, 7⟩) (meth := k2m7) (c := k2c7) (by decide +kernel) rfl rfl rfl (by decide +kernel)
set_option maxRecDepth 65536 in
theorem w_c8 : (Jvm.Cond.code ({ cls := "com/example/outcry/outcry/allocation/Memo", name := "free", desc := "(JJ)I" } : Jvm.MethodName) prog_38_method_10_code (7 : Nat) (Option.some Jvm.ClassFile.FieldType.int)).before args0 about1 = true := code_word (m := ⟨2, 6⟩) (meth := k2m6) (c := k2c6) (by decide +kernel) rfl rfl rfl (by decide +kernel)
set_option maxRecDepth 65536 in
theorem w_c9 : (Jvm.Cond.code ({ cls := "com/example/outcry/outcry/allocation/Memo", name := "value", desc := "(I)I" } : Jvm.MethodName) prog_38_method_3_code (2 : Nat) (Option.some Jvm.ClassFile.FieldType.int)).before args0 about1 = true := code_word (m := ⟨2, 2⟩) (meth := k2m2) (c := k2c2) (by decide +kernel) rfl rfl rfl (by decide +kernel)
set_option maxRecDepth 65536 in
theorem w_c10 : (Jvm.Cond.code ({ cls := "com/example/outcry/outcry/allocation/Memo", name := "exactly", desc := "(JJII)V" } : Jvm.MethodName) prog_38_method_6_code (7 : Nat) (Option.none : Option Jvm.ClassFile.FieldType)).before args0 about1 = true := code_word (m := ⟨2, 3⟩) (meth := k2m3) (c := k2c3) (by decide +kernel) rfl rfl rfl (by decide +kernel)
def codes1 : List Jvm.Cond := [Jvm.Cond.code x code maxLocals ret, Jvm.Cond.code ({ cls := "com/example/outcry/outcry/allocation/Memo", name := "<init>", desc := "()V" } : Jvm.MethodName) prog_38_method_1_code (1 : Nat) (Option.none : Option Jvm.ClassFile.FieldType), Jvm.Cond.code ({ cls := "java/lang/Object", name := "<init>", desc := "()V" } : Jvm.MethodName) object_method_1_code (1 : Nat) (Option.none : Option Jvm.ClassFile.FieldType), Jvm.Cond.code ({ cls := "com/example/outcry/outcry/allocation/MemoValuePinLaw", name := "store", desc := "(Lcom/example/outcry/outcry/allocation/Memo;JJIIZ)V" } : Jvm.MethodName) method_2_code (8 : Nat) (Option.none : Option Jvm.ClassFile.FieldType), Jvm.Cond.code ({ cls := "com/example/outcry/outcry/allocation/Memo", name := "atMost", desc := "(JJI)V" } : Jvm.MethodName) prog_38_method_7_code (6 : Nat) (Option.none : Option Jvm.ClassFile.FieldType), Jvm.Cond.code ({ cls := "com/example/outcry/outcry/allocation/Memo", name := "put", desc := "(JJJ)V" } : Jvm.MethodName) prog_38_method_8_code (8 : Nat) (Option.none : Option Jvm.ClassFile.FieldType), Jvm.Cond.code ({ cls := "com/example/outcry/outcry/allocation/Memo", name := "find", desc := "(JJ)I" } : Jvm.MethodName) prog_38_method_2_code (8 : Nat) (Option.some Jvm.ClassFile.FieldType.int), Jvm.Cond.code ({ cls := "com/example/outcry/outcry/allocation/Memo", name := "slot", desc := "(JJI)I" } : Jvm.MethodName) prog_38_method_11_code (7 : Nat) (Option.some Jvm.ClassFile.FieldType.int), Jvm.Cond.code ({ cls := "com/example/outcry/outcry/allocation/Memo", name := "free", desc := "(JJ)I" } : Jvm.MethodName) prog_38_method_10_code (7 : Nat) (Option.some Jvm.ClassFile.FieldType.int), Jvm.Cond.code ({ cls := "com/example/outcry/outcry/allocation/Memo", name := "value", desc := "(I)I" } : Jvm.MethodName) prog_38_method_3_code (2 : Nat) (Option.some Jvm.ClassFile.FieldType.int), Jvm.Cond.code ({ cls := "com/example/outcry/outcry/allocation/Memo", name := "exactly", desc := "(JJII)V" } : Jvm.MethodName) prog_38_method_6_code (7 : Nat) (Option.none : Option Jvm.ClassFile.FieldType)]
set_option maxRecDepth 65536 in
theorem codes_eq : words1.filter isCode = codes1 := rfl
theorem w_codes : ∀ c ∈ words1.filter isCode, c.before args0 about1 = true := by
  rw [codes_eq]
  intro c hc
  simp only [codes1, List.mem_cons, List.not_mem_nil, or_false] at hc
  rcases hc with rfl | rfl | rfl | rfl | rfl | rfl | rfl | rfl | rfl | rfl | rfl
  · exact w_c0
  · exact w_c1
  · exact w_c2
  · exact w_c3
  · exact w_c4
  · exact w_c5
  · exact w_c6
  · exact w_c7
  · exact w_c8
  · exact w_c9
  · exact w_c10
set_option maxRecDepth 65536 in
theorem w_t1 : (words1.take 24).all (fun c => isCode c || c.before args0 about1) = true := by decide +kernel
set_option maxRecDepth 65536 in
theorem w_t2 : ((words1.drop 24).take 24).all (fun c => isCode c || c.before args0 about1) = true := by decide +kernel
set_option maxRecDepth 65536 in
theorem w_t3 : ((words1.drop 24).drop 24).all (fun c => isCode c || c.before args0 about1) = true := by decide +kernel
theorem w_tables : (allAtoms (Jvm.Cond.code x code maxLocals ret :: tables_1)).before args0 about1 = true := by
  rw [allAtoms_all]
  show words1.all (fun c => c.before args0 about1) = true
  refine all_split ?_ w_codes
  rw [← List.take_append_drop 24 words1, List.all_append, w_t1, ← List.take_append_drop 24 (words1.drop 24), List.all_append, w_t2, w_t3]
  rfl
set_option maxRecDepth 65536 in
theorem w_case : (Jvm.Cond.and given_1 narrow_1).before args0 about1 = true := by decide +kernel
theorem w_applies : (headSpec (Jvm.Cond.code x code maxLocals ret :: tables_1) room_1).applies x e0.platform about1 = true :=
  (Spec.applies_iff w_frames).mpr ⟨w_running, w_runnable, w_alone, w_named, w_hears, w_ripe, w_room, w_tables⟩
theorem atStart : AtStart classFile x code maxLocals ret World_1 tables_1 room_1 Calls_1 rest_1 Pre_1 launch0 p0 e0 about1 theMethod args0 below0 :=
  ⟨lists_1, trivial, launch0.admits_env _ _ _, launch0.least_env, fairChoices_fair.cas, fairChoices_fair.clock, w_frames, w_args, w_heap, w_applies, trivial, trivial, w_case⟩
end start1
theorem witness_1 : WitnessClaimed_1 := ⟨start1.p0, start1.e0, start1.about1, start1.theMethod, start1.args0, start1.below0, start1.atStart⟩
end Jvm.Pilot.@@N@@
