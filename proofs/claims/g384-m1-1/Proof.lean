import JvmDerived
import JvmDerived.Pilot.@@N@@Statement
import JvmDerived.Pilot.@@N@@Code
set_option linter.unusedVariables false
set_option linter.unusedSimpArgs false
@@BLOCK:NumsL.lean.txt@@
namespace Jvm.RoadKit
open Sem ClassFile Op Lib Jvm.Stand Jvm.Free Jvm.LawKit
section New
variable {p : Program} {l : Launch} {e : Env} {R : Room} {s : State} {m : MethodId} {args : Array Value} {below : List Frame} {meth : Method} {c : Code} {T : State} {locs : List Loc} {cells slots : Nat}
theorem retI (X : Stand p l e R s m args below meth c T locs cells slots) (hx : p.tables.exec = Jvm.exec) {pc : Nat} {Ls : Array Slot} {z : Int32} {rest : List Value} (hret : meth.sig.returnType = some .int) (hd : decode c.code pc = .ok (.ireturn, 1)) {fs : List Frame}
    (hl : ∀ (f : JFrame) (acts : List Action), f.method = m → f.locked = none → f.entered = [] → (doReturn e (T.setTop f) acts (some (.int z))).1 = T.setFrames fs) : Steps p.tables e below (T.setTop (mkF m pc Ls (.int z :: rest))) (T.setFrames fs) := by
  have hm' : T.vm.method? m = some meth := X.method'
  have hn : narrow .int (.int z) = .int z := rfl
  show Steps p.tables e below (T.setTop { method := m, pc := pc, locals := Ls, stack := _ :: rest, locked := none }) _
  jvm_step X.here [X.here.top, hx, hd, hm', hret, hn]
  first | (intro acts; rw [hl _ acts rfl rfl rfl]) | rw [hl _ _ rfl rfl rfl]
  exact Steps.refl _
end New
end Jvm.RoadKit

namespace Jvm.Pilot.@@N@@
open Jvm Jvm.ClassFile Sem Op Lib Jvm.Free Jvm.Stand Jvm.LawKit Jvm.RoadKit Bundle Jvm.Pilot.@@N@@.Jvm.D
def own_Tab (Z : State) (h : Heap) (a : Addr) (ty : FieldType) (z : Int32) (tab : Int32 → Value) : Prop := ∃ c : Cell, Arr Z h a c ty ∧ c.slots.size = z.toNatClampNeg ∧ ¬ z < 0 ∧ ∀ j : Int32, ¬ j < 0 → j < z → c.slots[j.toNatClampNeg]? = some (tab j)
theorem own_Tab.lt {Z : State} {h : Heap} {a : Addr} {ty : FieldType} {z : Int32} {tab : Int32 → Value} (F : own_Tab Z h a ty z tab) : a < h.size := by obtain ⟨c, A, -⟩ := F; exact A.lt
theorem own_Tab.ext {Z : State} {h h' : Heap} {a : Addr} {ty : FieldType} {z : Int32} {tab : Int32 → Value} (F : own_Tab Z h a ty z tab) (E : Ext h h') : own_Tab Z h' a ty z tab := by obtain ⟨c, A, r⟩ := F; exact ⟨c, A.ext E, r⟩
theorem own_Tab.other {Z : State} {h h' : Heap} {a b : Addr} {ty : FieldType} {z : Int32} {tab : Int32 → Value} {sl : Nat} {v : Value} (F : own_Tab Z h b ty z tab) (W : Wr h h' a sl v) (q : b ≠ a) : own_Tab Z h' b ty z tab := by obtain ⟨c, A, r⟩ := F; exact ⟨c, A.other W q, r⟩
theorem own_Tab.keep {Z : State} {h h' : Heap} {a : Addr} {ty : FieldType} {z : Int32} {tab : Int32 → Value} {ws : List Addr} (F : own_Tab Z h a ty z tab) (K : Keep h h' ws) (q : a ∉ ws) : own_Tab Z h' a ty z tab := by obtain ⟨c, A, r⟩ := F; exact ⟨c, ⟨K.2.1 a c A.1 q, A.2⟩, r⟩
theorem own_Tab.new {Z : State} {h : Heap} {a : Addr} {ty : FieldType} {z : Int32} {k : ClassId} (A : Arr Z h a (newA k ty z) ty) (q : ¬ z < 0) : own_Tab Z h a ty z (fun _ => defaultValue ty) :=
  ⟨_, A, sz_new _ _ _, q, fun j h1 h2 => get_new fun x => by
    rcases x with x | x
    · exact h1 x
    · have := inb_of (c := newA k ty z) (sz_new _ _ _) ⟨h1, h2⟩
      exact this (Or.inr (by rw [sz_new]; exact x))⟩
theorem own_Tab.set {Z : State} {h h' : Heap} {a : Addr} {ty : FieldType} {z j : Int32} {tab : Int32 → Value} {c : Cell} {v : Value} (A : Arr Z h a c ty) (S : c.slots.size = z.toNatClampNeg) (q3 : ¬ z < 0) (H : ∀ i : Int32, ¬ i < 0 → i < z → c.slots[i.toNatClampNeg]? = some (tab i)) (hj : ¬ (j < 0 ∨ c.slots.size ≤ j.toNatClampNeg)) (W : Wr h h' a j.toNatClampNeg v) :
    own_Tab Z h' a ty z (fun i => if i = j then v else tab i) := by
  refine ⟨_, A.same W, by rw [sz_set]; exact S, q3, fun i h1 h2 => ?_⟩
  show _ = some (if i = j then v else tab i)
  by_cases e : i = j
  · rw [if_pos e]; exact get_hit hj e
  · rw [if_neg e, get_miss (fun x => hj (Or.inl x)) h1 e]; exact H i h1 h2
theorem own_Tab.cong {Z : State} {h : Heap} {a : Addr} {ty : FieldType} {z : Int32} {tab tab' : Int32 → Value} (F : own_Tab Z h a ty z tab) (q : ∀ j : Int32, ¬ j < 0 → j < z → tab j = tab' j) : own_Tab Z h a ty z tab' := by
  obtain ⟨c, A, S, n, H⟩ := F; exact ⟨c, A, S, n, fun j h1 h2 => by rw [← q j h1 h2]; exact H j h1 h2⟩
def own_byte (v : Int64) (n : Int32) : Int32 := ((v.toUInt64 >>> (n &&& 0x3f).toInt64.toUInt64).toInt64).toInt32.toInt8.toInt32
theorem own_b8 (x : Int32) : x.toInt8.toInt32.toInt8.toInt32 = x.toInt8.toInt32 := by simp
theorem own_byte8 (v : Int64) (n : Int32) : (own_byte v n).toInt8.toInt32 = own_byte v n := own_b8 _
def own_putF (tab : Int32 → Int32) (at' : Int32) (v : Int64) (w : Int32) : Int32 → Int32 := fun i => if i = at' + 7 ∧ 7 < w then own_byte v (8 * (w - 1 - 7)) else if i = at' + 6 ∧ 6 < w then own_byte v (8 * (w - 1 - 6)) else if i = at' + 5 ∧ 5 < w then own_byte v (8 * (w - 1 - 5)) else if i = at' + 4 ∧ 4 < w then own_byte v (8 * (w - 1 - 4)) else if i = at' + 3 ∧ 3 < w then own_byte v (8 * (w - 1 - 3)) else if i = at' + 2 ∧ 2 < w then own_byte v (8 * (w - 1 - 2)) else if i = at' + 1 ∧ 1 < w then own_byte v (8 * (w - 1 - 1)) else if i = at' + 0 ∧ 0 < w then own_byte v (8 * (w - 1 - 0)) else tab i
def own_acc (tab : Int32 → Int32) (r : Int64) (at' k w : Int32) : Int64 := if k < w then (r <<< ((8 : Int32) &&& 0x3f).toInt64) ||| ((tab (at' + k)) &&& (255 : Int32)).toInt64 else r
def own_unt (tab : Int32 → Int32) (j at' w f : Int32) : Int32 := if j < at' then (if tab j = f then 1 else 0) else if j < at' + w then 1 else (if tab j = f then 1 else 0)
theorem own_add {a b : Int32} (h : 0 ≤ a.toInt ∧ a.toInt ≤ 12) (k : 0 ≤ b.toInt ∧ b.toInt ≤ 12) : (a + b).toInt = a.toInt + b.toInt := by
  rw [Int32.toInt_add]; exact Int.bmod_eq_of_le (by omega) (by omega)
theorem own_in {j : Int32} (h : 0 ≤ j.toInt ∧ j.toInt ≤ 11) : ¬ j < 0 ∧ j < (12 : Int32) := by
  have e1 : (0 : Int32).toInt = 0 := rfl
  have e2 : (12 : Int32).toInt = 12 := rfl
  rw [Int32.lt_iff_toInt_lt, Int32.lt_iff_toInt_lt, e1, e2]; omega
theorem own_bd {a b w : Int32} (h : 0 ≤ a.toInt ∧ a.toInt + w.toInt ≤ 12) (k : 0 ≤ b.toInt ∧ b.toInt < w.toInt) : ¬ (a + b) < 0 ∧ (a + b) < (12 : Int32) := own_in (by rw [own_add (by omega) (by omega)]; omega)
theorem d1_0 : decode prog_1_method_2_code 0 = .ok (.iconst 0, 1) := by decide +kernel
theorem d1_1 : decode prog_1_method_2_code 1 = .ok (.istore 5, 2) := by decide +kernel
theorem d1_3 : decode prog_1_method_2_code 3 = .ok (.iload 5, 2) := by decide +kernel
theorem d1_5 : decode prog_1_method_2_code 5 = .ok (.iload 4, 2) := by decide +kernel
theorem d1_7 : decode prog_1_method_2_code 7 = .ok (.if_icmp .ge 29, 3) := by decide +kernel
theorem d1_36 : decode prog_1_method_2_code 36 = .ok (.iload_n 1, 1) := by decide +kernel
theorem d1_37 : decode prog_1_method_2_code 37 = .ok (.iload 4, 2) := by decide +kernel
theorem d1_39 : decode prog_1_method_2_code 39 = .ok (.iadd, 1) := by decide +kernel
theorem d1_40 : decode prog_1_method_2_code 40 = .ok (.ireturn, 1) := by decide +kernel
theorem pn_0 : plainName "com/example/fyfo/fyfo/BigEndian" = true := by first | (simp [plainName, overriddenIn]; done) | decide +kernel
theorem ef_1 (m : MethodId) (x0 : Addr) (x1 : Int32) (x2 : Int64) (x3 : Int32) : entryFrame m #[(.ref x0), (.int x1), (.long x2), (.int x3)] 6 = mkF m 0 #[.val (.ref x0), .val (.int x1), .val (.long x2), .second, .val (.int x3), .unset] [] := by first | (simp [entryFrame, mkF, argsToLocals, Value.category]; done) | rfl
def Q_rm_put (Z : State) (a0x : Addr) (p1 : Int32) (q1 : Int64) (p2 : Int32) (tab : Int32 → Int32) (h0 : Heap) (n0 : Nat) (v : Option Value) (h : Heap) (L : List Loc) : Prop := v = some (.int (p1 + p2)) ∧ Fr n0 L ∧ Keep h0 h [a0x] ∧ own_Tab Z h a0x .byte (12 : Int32) (fun j => .int ((own_putF tab p1 q1 p2) j))
set_option maxRecDepth 65536 in
set_option maxHeartbeats 40000000 in
theorem rm_put0 (l : Launch) (Z : State) (a0 : Array Value) (hw : ∀ d ∈ tables_1, d.before a0 Z = true) (ws : List Jvm.Cond) (a0x : Addr) (p1 : Int32) (q1 : Int64) (p2 : Int32) (tab : Int32 → Int32) (h0 : Heap) (n0 : Nat) (Z0 : n0 ≤ h0.size) (V0x : own_Tab Z h0 a0x .byte (12 : Int32) (fun j => .int (tab j))) (g0x : n0 ≤ a0x) (hat : 0 ≤ p1.toInt ∧ p1.toInt + ((0 : Int32)).toInt ≤ 12) (hk : p2 = (0 : Int32)) :
    MetFree l (⟨"com/example/fyfo/fyfo/BigEndian", "put", "([BIJI)I"⟩ : MethodName) (head1 (Jvm.Cond.code (⟨"com/example/fyfo/fyfo/BigEndian", "put", "([BIJI)I"⟩ : MethodName) prog_1_method_2_code 6 (some .int) :: ws) ({ frames := 0, cells := 0, slots := 0, locals := 0 } : Room)) (fun a U => a = #[(.ref a0x), (.int p1), (.long q1), (.int p2)] ∧ Z.Warmed39 U.vm ∧ U.heap = h0) (fun _ _ _ _ _ => True) (fun _ U o U' => ∃ v L, o = .returned v ∧ Q_rm_put Z a0x p1 q1 p2 tab h0 n0 v U'.heap L ∧ FrameEnd U o U' L ({ frames := 0, cells := 0, slots := 0, locals := 0 } : Room).cells ({ frames := 0, cells := 0, slots := 0, locals := 0 } : Room).slots) := by
  refine MetFree.of_bodySF (plainFor_of_name pn_0) hisR ?_
  intro p e s m args below meth c s₁ Bd hml0 hP hK
  obtain ⟨rfl, hZ, hh⟩ := hP
  have hx := Bd.exec
  have hby := Bd.bytes
  have hml : c.maxLocals = 6 := hml0
  have hown : s.vm.findClass "com/example/fyfo/fyfo/BigEndian" = some m.cls := findClass_of_methodNamed Bd.named
  have hnm := (name_of_methodNamed Bd.named Bd.method).1
  have X0 : Stand p l e ({ frames := 0, cells := 0, slots := 0, locals := 0 } : Room) s m #[(.ref a0x), (.int p1), (.long q1), (.int p2)] below meth c s₁ [] 0 0 := Stand.of_body Bd
  have e0 : s₁.heap = h0 := by rw [← hh, Bd.state]; rfl
  have N0 := Fr.nil n0
  have K0 : Keep h0 h0 [a0x] := Keep.refl h0 [a0x]
  have pre0 : ∀ t, Steps p.tables e below (s₁.setTop (mkF m 0 #[.val (.ref a0x), .val (.int p1), .val (.long q1), .second, .val (.int p2), .unset] [])) t → Steps p.tables e below (s₁.setTop (entryFrame m #[(.ref a0x), (.int p1), (.long q1), (.int p2)] 6)) t := fun t k => castTop (ef_1 m a0x p1 q1 p2) k
  obtain ⟨fs, hr, hrun, hended, hW, hsame⟩ := X0.leave (v := some (.int (p1 + (0 : Int32)))) (fun h => by rw [Bd.returns] at h; cases h)
  refine ⟨_, _, pre0 _ ?_, hrun, hended, _, _, rfl, ?_, ⟨_, rfl⟩, hW, hsame.mono (by decide) (by decide)⟩
  · show Steps p.tables e below (s₁.setTop (mkF m 0 #[.val (.ref a0x), .val (.int p1), .val (.long q1), .second, .val (.int p2), .unset] [])) _
    rw [hk]
    show Steps p.tables e below (s₁.setTop (mkF m 0 #[.val (.ref a0x), .val (.int p1), .val (.long q1), .second, .val (.int (0 : Int32)), .unset] [])) _
    refine XS.iconst X0.here hx rfl (hb hby d1_0) ?_
    show Steps p.tables e below (s₁.setTop (mkF m 1 #[.val (.ref a0x), .val (.int p1), .val (.long q1), .second, .val (.int (0 : Int32)), .unset] [(.int (0 : Int32))])) _
    refine XS.istore X0.here hx rfl (hb hby d1_1) rfl (l' := #[.val (.ref a0x), .val (.int p1), .val (.long q1), .second, .val (.int (0 : Int32)), .val (.int (0 : Int32))]) rfl ?_
    show Steps p.tables e below (s₁.setTop (mkF m 3 #[.val (.ref a0x), .val (.int p1), .val (.long q1), .second, .val (.int (0 : Int32)), .val (.int (0 : Int32))] [])) _
    refine XS.iload X0.here hx rfl (hb hby d1_3) rfl ?_
    show Steps p.tables e below (s₁.setTop (mkF m 5 #[.val (.ref a0x), .val (.int p1), .val (.long q1), .second, .val (.int (0 : Int32)), .val (.int (0 : Int32))] [(.int (0 : Int32))])) _
    refine XS.iload X0.here hx rfl (hb hby d1_5) rfl ?_
    show Steps p.tables e below (s₁.setTop (mkF m 7 #[.val (.ref a0x), .val (.int p1), .val (.long q1), .second, .val (.int (0 : Int32)), .val (.int (0 : Int32))] [(.int (0 : Int32)), (.int (0 : Int32))])) _
    refine XS.icmpYes X0.here hx rfl (pc0 := 7) (pc' := 36) rfl (hb hby d1_7) rfl (flt (by decide : ¬ ((0 : Int32) < (0 : Int32)))).2.1 (by decide) (by decide) ?_
    show Steps p.tables e below (s₁.setTop (mkF m 36 #[.val (.ref a0x), .val (.int p1), .val (.long q1), .second, .val (.int (0 : Int32)), .val (.int (0 : Int32))] [])) _
    refine XS.iloadN X0.here hx rfl (hb hby d1_36) rfl ?_
    show Steps p.tables e below (s₁.setTop (mkF m 37 #[.val (.ref a0x), .val (.int p1), .val (.long q1), .second, .val (.int (0 : Int32)), .val (.int (0 : Int32))] [(.int p1)])) _
    refine XS.iload X0.here hx rfl (hb hby d1_37) rfl ?_
    show Steps p.tables e below (s₁.setTop (mkF m 39 #[.val (.ref a0x), .val (.int p1), .val (.long q1), .second, .val (.int (0 : Int32)), .val (.int (0 : Int32))] [(.int (0 : Int32)), (.int p1)])) _
    refine XS.iadd X0.here hx rfl (hb hby d1_39) rfl ?_
    show Steps p.tables e below (s₁.setTop (mkF m 40 #[.val (.ref a0x), .val (.int p1), .val (.long q1), .second, .val (.int (0 : Int32)), .val (.int (0 : Int32))] [(.int (p1 + (0 : Int32)))])) _
    exact retI X0 hx Bd.returns (hb hby d1_40) hr
  · show Q_rm_put Z a0x p1 q1 p2 tab h0 n0 _ s₁.heap _
    rw [e0]
    exact ⟨(by rw [hk]), N0, K0, (by rw [hk]; exact (own_Tab.cong V0x (fun j _ _ => by simp [own_putF, own_b8, own_byte, (by decide : ¬ (0 : Int32) < 0), (by decide : ¬ (1 : Int32) < 0), (by decide : ¬ (2 : Int32) < 0), (by decide : ¬ (3 : Int32) < 0), (by decide : ¬ (4 : Int32) < 0), (by decide : ¬ (5 : Int32) < 0), (by decide : ¬ (6 : Int32) < 0), (by decide : ¬ (7 : Int32) < 0)])))⟩
theorem d1_10 : decode prog_1_method_2_code 10 = .ok (.aload_n 0, 1) := by decide +kernel
theorem d1_11 : decode prog_1_method_2_code 11 = .ok (.iload_n 1, 1) := by decide +kernel
theorem d1_12 : decode prog_1_method_2_code 12 = .ok (.iload 5, 2) := by decide +kernel
theorem d1_14 : decode prog_1_method_2_code 14 = .ok (.iadd, 1) := by decide +kernel
theorem d1_15 : decode prog_1_method_2_code 15 = .ok (.lload_n 2, 1) := by decide +kernel
theorem d1_16 : decode prog_1_method_2_code 16 = .ok (.bipush 8, 2) := by decide +kernel
theorem d1_18 : decode prog_1_method_2_code 18 = .ok (.iload 4, 2) := by decide +kernel
theorem d1_20 : decode prog_1_method_2_code 20 = .ok (.iconst 1, 1) := by decide +kernel
theorem d1_21 : decode prog_1_method_2_code 21 = .ok (.isub, 1) := by decide +kernel
theorem d1_22 : decode prog_1_method_2_code 22 = .ok (.iload 5, 2) := by decide +kernel
theorem d1_24 : decode prog_1_method_2_code 24 = .ok (.isub, 1) := by decide +kernel
theorem d1_25 : decode prog_1_method_2_code 25 = .ok (.imul, 1) := by decide +kernel
theorem d1_26 : decode prog_1_method_2_code 26 = .ok (.lushr, 1) := by decide +kernel
theorem d1_27 : decode prog_1_method_2_code 27 = .ok (.l2i, 1) := by decide +kernel
theorem d1_28 : decode prog_1_method_2_code 28 = .ok (.i2b, 1) := by decide +kernel
theorem d1_29 : decode prog_1_method_2_code 29 = .ok (.bastore, 1) := by decide +kernel
theorem d1_30 : decode prog_1_method_2_code 30 = .ok (.iinc 5 1, 3) := by decide +kernel
theorem d1_33 : decode prog_1_method_2_code 33 = .ok (.goto (-30), 3) := by decide +kernel
set_option maxRecDepth 65536 in
set_option maxHeartbeats 40000000 in
theorem rm_put1 (l : Launch) (Z : State) (a0 : Array Value) (hw : ∀ d ∈ tables_1, d.before a0 Z = true) (ws : List Jvm.Cond) (a0x : Addr) (p1 : Int32) (q1 : Int64) (p2 : Int32) (tab : Int32 → Int32) (h0 : Heap) (n0 : Nat) (Z0 : n0 ≤ h0.size) (V0x : own_Tab Z h0 a0x .byte (12 : Int32) (fun j => .int (tab j))) (g0x : n0 ≤ a0x) (hat : 0 ≤ p1.toInt ∧ p1.toInt + ((1 : Int32)).toInt ≤ 12) (hk : p2 = (1 : Int32)) :
    MetFree l (⟨"com/example/fyfo/fyfo/BigEndian", "put", "([BIJI)I"⟩ : MethodName) (head1 (Jvm.Cond.code (⟨"com/example/fyfo/fyfo/BigEndian", "put", "([BIJI)I"⟩ : MethodName) prog_1_method_2_code 6 (some .int) :: ws) ({ frames := 0, cells := 0, slots := 0, locals := 0 } : Room)) (fun a U => a = #[(.ref a0x), (.int p1), (.long q1), (.int p2)] ∧ Z.Warmed39 U.vm ∧ U.heap = h0) (fun _ _ _ _ _ => True) (fun _ U o U' => ∃ v L, o = .returned v ∧ Q_rm_put Z a0x p1 q1 p2 tab h0 n0 v U'.heap L ∧ FrameEnd U o U' L ({ frames := 0, cells := 0, slots := 0, locals := 0 } : Room).cells ({ frames := 0, cells := 0, slots := 0, locals := 0 } : Room).slots) := by
  refine MetFree.of_bodySF (plainFor_of_name pn_0) hisR ?_
  intro p e s m args below meth c s₁ Bd hml0 hP hK
  obtain ⟨rfl, hZ, hh⟩ := hP
  have hx := Bd.exec
  have hby := Bd.bytes
  have hml : c.maxLocals = 6 := hml0
  have hown : s.vm.findClass "com/example/fyfo/fyfo/BigEndian" = some m.cls := findClass_of_methodNamed Bd.named
  have hnm := (name_of_methodNamed Bd.named Bd.method).1
  have X0 : Stand p l e ({ frames := 0, cells := 0, slots := 0, locals := 0 } : Room) s m #[(.ref a0x), (.int p1), (.long q1), (.int p2)] below meth c s₁ [] 0 0 := Stand.of_body Bd
  have e0 : s₁.heap = h0 := by rw [← hh, Bd.state]; rfl
  have N0 := Fr.nil n0
  have K0 : Keep h0 h0 [a0x] := Keep.refl h0 [a0x]
  have pre0 : ∀ t, Steps p.tables e below (s₁.setTop (mkF m 0 #[.val (.ref a0x), .val (.int p1), .val (.long q1), .second, .val (.int p2), .unset] [])) t → Steps p.tables e below (s₁.setTop (entryFrame m #[(.ref a0x), (.int p1), (.long q1), (.int p2)] 6)) t := fun t k => castTop (ef_1 m a0x p1 q1 p2) k
  obtain ⟨cl1, Ar1, S1, N1', H1⟩ := (id V0x)
  have hin1 : ¬ ((p1 + (0 : Int32)) < 0 ∨ cl1.slots.size ≤ ((p1 + (0 : Int32))).toNatClampNeg) := inb_of S1 (own_bd (w := (1 : Int32)) hat ⟨by decide, by decide⟩)
  obtain ⟨T2, h2, X2, e2, W2, st2⟩ := stB X0 hx hZ e0 Ar1 (j := (p1 + (0 : Int32))) hin1 (g := (mkF m 29 #[.val (.ref a0x), .val (.int p1), .val (.long q1), .second, .val (.int (1 : Int32)), .val (.int (0 : Int32))] [(.int ((q1.toUInt64 >>> ((0 : Int32) &&& 0x3f).toInt64.toUInt64).toInt64).toInt32.toInt8.toInt32), (.int (p1 + (0 : Int32))), (.ref a0x)])) rfl rfl (hb hby d1_29)
  have V2 : own_Tab Z h2 a0x .byte (12 : Int32) (fun j => .int ((fun i => if i = (p1 + (0 : Int32)) then ((q1.toUInt64 >>> ((0 : Int32) &&& 0x3f).toInt64.toUInt64).toInt64).toInt32.toInt8.toInt32.toInt8.toInt32 else tab i) j)) := (own_Tab.set Ar1 S1 N1' H1 hin1 W2).cong (fun j _ _ => by dsimp only; split <;> rfl)
  have N2 := Fr.snoc X2 N0 g0x
  have Z2 : n0 ≤ h2.size := Nat.le_trans Z0 (Keep.of_wr W2).1
  have K2 : Keep h0 h2 [a0x] := K0.wr W2 (Or.inl (List.mem_of_getElem? (i := 0) rfl))
  obtain ⟨fs, hr, hrun, hended, hW, hsame⟩ := X2.leave (v := some (.int (p1 + (1 : Int32)))) (fun h => by rw [Bd.returns] at h; cases h)
  refine ⟨_, _, pre0 _ ?_, hrun, hended, _, _, rfl, ?_, ⟨_, rfl⟩, hW, hsame.mono (by decide) (by decide)⟩
  · show Steps p.tables e below (s₁.setTop (mkF m 0 #[.val (.ref a0x), .val (.int p1), .val (.long q1), .second, .val (.int p2), .unset] [])) _
    rw [hk]
    show Steps p.tables e below (s₁.setTop (mkF m 0 #[.val (.ref a0x), .val (.int p1), .val (.long q1), .second, .val (.int (1 : Int32)), .unset] [])) _
    refine XS.iconst X0.here hx rfl (hb hby d1_0) ?_
    show Steps p.tables e below (s₁.setTop (mkF m 1 #[.val (.ref a0x), .val (.int p1), .val (.long q1), .second, .val (.int (1 : Int32)), .unset] [(.int (0 : Int32))])) _
    refine XS.istore X0.here hx rfl (hb hby d1_1) rfl (l' := #[.val (.ref a0x), .val (.int p1), .val (.long q1), .second, .val (.int (1 : Int32)), .val (.int (0 : Int32))]) rfl ?_
    show Steps p.tables e below (s₁.setTop (mkF m 3 #[.val (.ref a0x), .val (.int p1), .val (.long q1), .second, .val (.int (1 : Int32)), .val (.int (0 : Int32))] [])) _
    refine XS.iload X0.here hx rfl (hb hby d1_3) rfl ?_
    show Steps p.tables e below (s₁.setTop (mkF m 5 #[.val (.ref a0x), .val (.int p1), .val (.long q1), .second, .val (.int (1 : Int32)), .val (.int (0 : Int32))] [(.int (0 : Int32))])) _
    refine XS.iload X0.here hx rfl (hb hby d1_5) rfl ?_
    show Steps p.tables e below (s₁.setTop (mkF m 7 #[.val (.ref a0x), .val (.int p1), .val (.long q1), .second, .val (.int (1 : Int32)), .val (.int (0 : Int32))] [(.int (1 : Int32)), (.int (0 : Int32))])) _
    refine XS.icmpNo X0.here hx rfl (hb hby d1_7) rfl (tlt (by decide : (0 : Int32) < (1 : Int32))).2.1 ?_
    show Steps p.tables e below (s₁.setTop (mkF m 10 #[.val (.ref a0x), .val (.int p1), .val (.long q1), .second, .val (.int (1 : Int32)), .val (.int (0 : Int32))] [])) _
    refine XS.aloadN X0.here hx rfl (hb hby d1_10) rfl rfl ?_
    show Steps p.tables e below (s₁.setTop (mkF m 11 #[.val (.ref a0x), .val (.int p1), .val (.long q1), .second, .val (.int (1 : Int32)), .val (.int (0 : Int32))] [(.ref a0x)])) _
    refine XS.iloadN X0.here hx rfl (hb hby d1_11) rfl ?_
    show Steps p.tables e below (s₁.setTop (mkF m 12 #[.val (.ref a0x), .val (.int p1), .val (.long q1), .second, .val (.int (1 : Int32)), .val (.int (0 : Int32))] [(.int p1), (.ref a0x)])) _
    refine XS.iload X0.here hx rfl (hb hby d1_12) rfl ?_
    show Steps p.tables e below (s₁.setTop (mkF m 14 #[.val (.ref a0x), .val (.int p1), .val (.long q1), .second, .val (.int (1 : Int32)), .val (.int (0 : Int32))] [(.int (0 : Int32)), (.int p1), (.ref a0x)])) _
    refine XS.iadd X0.here hx rfl (hb hby d1_14) rfl ?_
    show Steps p.tables e below (s₁.setTop (mkF m 15 #[.val (.ref a0x), .val (.int p1), .val (.long q1), .second, .val (.int (1 : Int32)), .val (.int (0 : Int32))] [(.int (p1 + (0 : Int32))), (.ref a0x)])) _
    refine XS.lloadN X0.here hx rfl (hb hby d1_15) rfl ?_
    show Steps p.tables e below (s₁.setTop (mkF m 16 #[.val (.ref a0x), .val (.int p1), .val (.long q1), .second, .val (.int (1 : Int32)), .val (.int (0 : Int32))] [(.long q1), (.int (p1 + (0 : Int32))), (.ref a0x)])) _
    refine XS.bipush X0.here hx rfl (hb hby d1_16) ?_
    show Steps p.tables e below (s₁.setTop (mkF m 18 #[.val (.ref a0x), .val (.int p1), .val (.long q1), .second, .val (.int (1 : Int32)), .val (.int (0 : Int32))] [(.int (8 : Int32)), (.long q1), (.int (p1 + (0 : Int32))), (.ref a0x)])) _
    refine XS.iload X0.here hx rfl (hb hby d1_18) rfl ?_
    show Steps p.tables e below (s₁.setTop (mkF m 20 #[.val (.ref a0x), .val (.int p1), .val (.long q1), .second, .val (.int (1 : Int32)), .val (.int (0 : Int32))] [(.int (1 : Int32)), (.int (8 : Int32)), (.long q1), (.int (p1 + (0 : Int32))), (.ref a0x)])) _
    refine XS.iconst X0.here hx rfl (hb hby d1_20) ?_
    show Steps p.tables e below (s₁.setTop (mkF m 21 #[.val (.ref a0x), .val (.int p1), .val (.long q1), .second, .val (.int (1 : Int32)), .val (.int (0 : Int32))] [(.int (1 : Int32)), (.int (1 : Int32)), (.int (8 : Int32)), (.long q1), (.int (p1 + (0 : Int32))), (.ref a0x)])) _
    refine XS.isub X0.here hx rfl (hb hby d1_21) rfl ?_
    show Steps p.tables e below (s₁.setTop (mkF m 22 #[.val (.ref a0x), .val (.int p1), .val (.long q1), .second, .val (.int (1 : Int32)), .val (.int (0 : Int32))] [(.int (0 : Int32)), (.int (8 : Int32)), (.long q1), (.int (p1 + (0 : Int32))), (.ref a0x)])) _
    refine XS.iload X0.here hx rfl (hb hby d1_22) rfl ?_
    show Steps p.tables e below (s₁.setTop (mkF m 24 #[.val (.ref a0x), .val (.int p1), .val (.long q1), .second, .val (.int (1 : Int32)), .val (.int (0 : Int32))] [(.int (0 : Int32)), (.int (0 : Int32)), (.int (8 : Int32)), (.long q1), (.int (p1 + (0 : Int32))), (.ref a0x)])) _
    refine XS.isub X0.here hx rfl (hb hby d1_24) rfl ?_
    show Steps p.tables e below (s₁.setTop (mkF m 25 #[.val (.ref a0x), .val (.int p1), .val (.long q1), .second, .val (.int (1 : Int32)), .val (.int (0 : Int32))] [(.int (0 : Int32)), (.int (8 : Int32)), (.long q1), (.int (p1 + (0 : Int32))), (.ref a0x)])) _
    refine XS.imul X0.here hx rfl (hb hby d1_25) rfl ?_
    show Steps p.tables e below (s₁.setTop (mkF m 26 #[.val (.ref a0x), .val (.int p1), .val (.long q1), .second, .val (.int (1 : Int32)), .val (.int (0 : Int32))] [(.int (0 : Int32)), (.long q1), (.int (p1 + (0 : Int32))), (.ref a0x)])) _
    refine XS.lushr X0.here hx rfl (hb hby d1_26) rfl ?_
    show Steps p.tables e below (s₁.setTop (mkF m 27 #[.val (.ref a0x), .val (.int p1), .val (.long q1), .second, .val (.int (1 : Int32)), .val (.int (0 : Int32))] [(.long ((q1.toUInt64 >>> ((0 : Int32) &&& 0x3f).toInt64.toUInt64).toInt64)), (.int (p1 + (0 : Int32))), (.ref a0x)])) _
    refine XS.l2i X0.here hx rfl (hb hby d1_27) rfl ?_
    show Steps p.tables e below (s₁.setTop (mkF m 28 #[.val (.ref a0x), .val (.int p1), .val (.long q1), .second, .val (.int (1 : Int32)), .val (.int (0 : Int32))] [(.int ((q1.toUInt64 >>> ((0 : Int32) &&& 0x3f).toInt64.toUInt64).toInt64).toInt32), (.int (p1 + (0 : Int32))), (.ref a0x)])) _
    refine XS.i2b X0.here hx rfl (hb hby d1_28) rfl ?_
    show Steps p.tables e below (s₁.setTop (mkF m 29 #[.val (.ref a0x), .val (.int p1), .val (.long q1), .second, .val (.int (1 : Int32)), .val (.int (0 : Int32))] [(.int ((q1.toUInt64 >>> ((0 : Int32) &&& 0x3f).toInt64.toUInt64).toInt64).toInt32.toInt8.toInt32), (.int (p1 + (0 : Int32))), (.ref a0x)])) _
    refine st2 _ ?_
    show Steps p.tables e below (T2.setTop (mkF m 30 #[.val (.ref a0x), .val (.int p1), .val (.long q1), .second, .val (.int (1 : Int32)), .val (.int (0 : Int32))] [])) _
    refine XS.iinc X2.here hx rfl (hb hby d1_30) rfl (l' := #[.val (.ref a0x), .val (.int p1), .val (.long q1), .second, .val (.int (1 : Int32)), .val (.int (1 : Int32))]) rfl ?_
    show Steps p.tables e below (T2.setTop (mkF m 33 #[.val (.ref a0x), .val (.int p1), .val (.long q1), .second, .val (.int (1 : Int32)), .val (.int (1 : Int32))] [])) _
    refine XS.goto X2.here hx rfl (pc0 := 33) (pc' := 3) rfl (hb hby d1_33) (by decide) (by decide) ?_
    show Steps p.tables e below (T2.setTop (mkF m 3 #[.val (.ref a0x), .val (.int p1), .val (.long q1), .second, .val (.int (1 : Int32)), .val (.int (1 : Int32))] [])) _
    refine XS.iload X2.here hx rfl (hb hby d1_3) rfl ?_
    show Steps p.tables e below (T2.setTop (mkF m 5 #[.val (.ref a0x), .val (.int p1), .val (.long q1), .second, .val (.int (1 : Int32)), .val (.int (1 : Int32))] [(.int (1 : Int32))])) _
    refine XS.iload X2.here hx rfl (hb hby d1_5) rfl ?_
    show Steps p.tables e below (T2.setTop (mkF m 7 #[.val (.ref a0x), .val (.int p1), .val (.long q1), .second, .val (.int (1 : Int32)), .val (.int (1 : Int32))] [(.int (1 : Int32)), (.int (1 : Int32))])) _
    refine XS.icmpYes X2.here hx rfl (pc0 := 7) (pc' := 36) rfl (hb hby d1_7) rfl (flt (by decide : ¬ ((1 : Int32) < (1 : Int32)))).2.1 (by decide) (by decide) ?_
    show Steps p.tables e below (T2.setTop (mkF m 36 #[.val (.ref a0x), .val (.int p1), .val (.long q1), .second, .val (.int (1 : Int32)), .val (.int (1 : Int32))] [])) _
    refine XS.iloadN X2.here hx rfl (hb hby d1_36) rfl ?_
    show Steps p.tables e below (T2.setTop (mkF m 37 #[.val (.ref a0x), .val (.int p1), .val (.long q1), .second, .val (.int (1 : Int32)), .val (.int (1 : Int32))] [(.int p1)])) _
    refine XS.iload X2.here hx rfl (hb hby d1_37) rfl ?_
    show Steps p.tables e below (T2.setTop (mkF m 39 #[.val (.ref a0x), .val (.int p1), .val (.long q1), .second, .val (.int (1 : Int32)), .val (.int (1 : Int32))] [(.int (1 : Int32)), (.int p1)])) _
    refine XS.iadd X2.here hx rfl (hb hby d1_39) rfl ?_
    show Steps p.tables e below (T2.setTop (mkF m 40 #[.val (.ref a0x), .val (.int p1), .val (.long q1), .second, .val (.int (1 : Int32)), .val (.int (1 : Int32))] [(.int (p1 + (1 : Int32)))])) _
    exact retI X2 hx Bd.returns (hb hby d1_40) hr
  · show Q_rm_put Z a0x p1 q1 p2 tab h0 n0 _ T2.heap _
    rw [e2]
    exact ⟨(by rw [hk]), N2, K2, (by rw [hk]; exact (own_Tab.cong V2 (fun j _ _ => by simp [own_putF, own_b8, own_byte, (by decide : (0 : Int32) < 1), (by decide : ¬ (1 : Int32) < 1), (by decide : ¬ (2 : Int32) < 1), (by decide : ¬ (3 : Int32) < 1), (by decide : ¬ (4 : Int32) < 1), (by decide : ¬ (5 : Int32) < 1), (by decide : ¬ (6 : Int32) < 1), (by decide : ¬ (7 : Int32) < 1)])))⟩
set_option maxRecDepth 65536 in
set_option maxHeartbeats 40000000 in
theorem rm_put2 (l : Launch) (Z : State) (a0 : Array Value) (hw : ∀ d ∈ tables_1, d.before a0 Z = true) (ws : List Jvm.Cond) (a0x : Addr) (p1 : Int32) (q1 : Int64) (p2 : Int32) (tab : Int32 → Int32) (h0 : Heap) (n0 : Nat) (Z0 : n0 ≤ h0.size) (V0x : own_Tab Z h0 a0x .byte (12 : Int32) (fun j => .int (tab j))) (g0x : n0 ≤ a0x) (hat : 0 ≤ p1.toInt ∧ p1.toInt + ((2 : Int32)).toInt ≤ 12) (hk : p2 = (2 : Int32)) :
    MetFree l (⟨"com/example/fyfo/fyfo/BigEndian", "put", "([BIJI)I"⟩ : MethodName) (head1 (Jvm.Cond.code (⟨"com/example/fyfo/fyfo/BigEndian", "put", "([BIJI)I"⟩ : MethodName) prog_1_method_2_code 6 (some .int) :: ws) ({ frames := 0, cells := 0, slots := 0, locals := 0 } : Room)) (fun a U => a = #[(.ref a0x), (.int p1), (.long q1), (.int p2)] ∧ Z.Warmed39 U.vm ∧ U.heap = h0) (fun _ _ _ _ _ => True) (fun _ U o U' => ∃ v L, o = .returned v ∧ Q_rm_put Z a0x p1 q1 p2 tab h0 n0 v U'.heap L ∧ FrameEnd U o U' L ({ frames := 0, cells := 0, slots := 0, locals := 0 } : Room).cells ({ frames := 0, cells := 0, slots := 0, locals := 0 } : Room).slots) := by
  refine MetFree.of_bodySF (plainFor_of_name pn_0) hisR ?_
  intro p e s m args below meth c s₁ Bd hml0 hP hK
  obtain ⟨rfl, hZ, hh⟩ := hP
  have hx := Bd.exec
  have hby := Bd.bytes
  have hml : c.maxLocals = 6 := hml0
  have hown : s.vm.findClass "com/example/fyfo/fyfo/BigEndian" = some m.cls := findClass_of_methodNamed Bd.named
  have hnm := (name_of_methodNamed Bd.named Bd.method).1
  have X0 : Stand p l e ({ frames := 0, cells := 0, slots := 0, locals := 0 } : Room) s m #[(.ref a0x), (.int p1), (.long q1), (.int p2)] below meth c s₁ [] 0 0 := Stand.of_body Bd
  have e0 : s₁.heap = h0 := by rw [← hh, Bd.state]; rfl
  have N0 := Fr.nil n0
  have K0 : Keep h0 h0 [a0x] := Keep.refl h0 [a0x]
  have pre0 : ∀ t, Steps p.tables e below (s₁.setTop (mkF m 0 #[.val (.ref a0x), .val (.int p1), .val (.long q1), .second, .val (.int p2), .unset] [])) t → Steps p.tables e below (s₁.setTop (entryFrame m #[(.ref a0x), (.int p1), (.long q1), (.int p2)] 6)) t := fun t k => castTop (ef_1 m a0x p1 q1 p2) k
  obtain ⟨cl1, Ar1, S1, N1', H1⟩ := (id V0x)
  have hin1 : ¬ ((p1 + (0 : Int32)) < 0 ∨ cl1.slots.size ≤ ((p1 + (0 : Int32))).toNatClampNeg) := inb_of S1 (own_bd (w := (2 : Int32)) hat ⟨by decide, by decide⟩)
  obtain ⟨T2, h2, X2, e2, W2, st2⟩ := stB X0 hx hZ e0 Ar1 (j := (p1 + (0 : Int32))) hin1 (g := (mkF m 29 #[.val (.ref a0x), .val (.int p1), .val (.long q1), .second, .val (.int (2 : Int32)), .val (.int (0 : Int32))] [(.int ((q1.toUInt64 >>> ((8 : Int32) &&& 0x3f).toInt64.toUInt64).toInt64).toInt32.toInt8.toInt32), (.int (p1 + (0 : Int32))), (.ref a0x)])) rfl rfl (hb hby d1_29)
  have V2 : own_Tab Z h2 a0x .byte (12 : Int32) (fun j => .int ((fun i => if i = (p1 + (0 : Int32)) then ((q1.toUInt64 >>> ((8 : Int32) &&& 0x3f).toInt64.toUInt64).toInt64).toInt32.toInt8.toInt32.toInt8.toInt32 else tab i) j)) := (own_Tab.set Ar1 S1 N1' H1 hin1 W2).cong (fun j _ _ => by dsimp only; split <;> rfl)
  have N2 := Fr.snoc X2 N0 g0x
  have Z2 : n0 ≤ h2.size := Nat.le_trans Z0 (Keep.of_wr W2).1
  have K2 : Keep h0 h2 [a0x] := K0.wr W2 (Or.inl (List.mem_of_getElem? (i := 0) rfl))
  obtain ⟨cl3, Ar3, S3, N3', H3⟩ := (id V2)
  have hin3 : ¬ ((p1 + (1 : Int32)) < 0 ∨ cl3.slots.size ≤ ((p1 + (1 : Int32))).toNatClampNeg) := inb_of S3 (own_bd (w := (2 : Int32)) hat ⟨by decide, by decide⟩)
  obtain ⟨T4, h4, X4, e4, W4, st4⟩ := stB X2 hx hZ e2 Ar3 (j := (p1 + (1 : Int32))) hin3 (g := (mkF m 29 #[.val (.ref a0x), .val (.int p1), .val (.long q1), .second, .val (.int (2 : Int32)), .val (.int (1 : Int32))] [(.int ((q1.toUInt64 >>> ((0 : Int32) &&& 0x3f).toInt64.toUInt64).toInt64).toInt32.toInt8.toInt32), (.int (p1 + (1 : Int32))), (.ref a0x)])) rfl rfl (hb hby d1_29)
  have V4 : own_Tab Z h4 a0x .byte (12 : Int32) (fun j => .int ((fun i => if i = (p1 + (1 : Int32)) then ((q1.toUInt64 >>> ((0 : Int32) &&& 0x3f).toInt64.toUInt64).toInt64).toInt32.toInt8.toInt32.toInt8.toInt32 else (fun i => if i = (p1 + (0 : Int32)) then ((q1.toUInt64 >>> ((8 : Int32) &&& 0x3f).toInt64.toUInt64).toInt64).toInt32.toInt8.toInt32.toInt8.toInt32 else tab i) i) j)) := (own_Tab.set Ar3 S3 N3' H3 hin3 W4).cong (fun j _ _ => by dsimp only; split <;> rfl)
  have N4 := Fr.snoc X4 N2 g0x
  have Z4 : n0 ≤ h4.size := Nat.le_trans Z2 (Keep.of_wr W4).1
  have K4 : Keep h0 h4 [a0x] := K2.wr W4 (Or.inl (List.mem_of_getElem? (i := 0) rfl))
  obtain ⟨fs, hr, hrun, hended, hW, hsame⟩ := X4.leave (v := some (.int (p1 + (2 : Int32)))) (fun h => by rw [Bd.returns] at h; cases h)
  refine ⟨_, _, pre0 _ ?_, hrun, hended, _, _, rfl, ?_, ⟨_, rfl⟩, hW, hsame.mono (by decide) (by decide)⟩
  · show Steps p.tables e below (s₁.setTop (mkF m 0 #[.val (.ref a0x), .val (.int p1), .val (.long q1), .second, .val (.int p2), .unset] [])) _
    rw [hk]
    show Steps p.tables e below (s₁.setTop (mkF m 0 #[.val (.ref a0x), .val (.int p1), .val (.long q1), .second, .val (.int (2 : Int32)), .unset] [])) _
    refine XS.iconst X0.here hx rfl (hb hby d1_0) ?_
    show Steps p.tables e below (s₁.setTop (mkF m 1 #[.val (.ref a0x), .val (.int p1), .val (.long q1), .second, .val (.int (2 : Int32)), .unset] [(.int (0 : Int32))])) _
    refine XS.istore X0.here hx rfl (hb hby d1_1) rfl (l' := #[.val (.ref a0x), .val (.int p1), .val (.long q1), .second, .val (.int (2 : Int32)), .val (.int (0 : Int32))]) rfl ?_
    show Steps p.tables e below (s₁.setTop (mkF m 3 #[.val (.ref a0x), .val (.int p1), .val (.long q1), .second, .val (.int (2 : Int32)), .val (.int (0 : Int32))] [])) _
    refine XS.iload X0.here hx rfl (hb hby d1_3) rfl ?_
    show Steps p.tables e below (s₁.setTop (mkF m 5 #[.val (.ref a0x), .val (.int p1), .val (.long q1), .second, .val (.int (2 : Int32)), .val (.int (0 : Int32))] [(.int (0 : Int32))])) _
    refine XS.iload X0.here hx rfl (hb hby d1_5) rfl ?_
    show Steps p.tables e below (s₁.setTop (mkF m 7 #[.val (.ref a0x), .val (.int p1), .val (.long q1), .second, .val (.int (2 : Int32)), .val (.int (0 : Int32))] [(.int (2 : Int32)), (.int (0 : Int32))])) _
    refine XS.icmpNo X0.here hx rfl (hb hby d1_7) rfl (tlt (by decide : (0 : Int32) < (2 : Int32))).2.1 ?_
    show Steps p.tables e below (s₁.setTop (mkF m 10 #[.val (.ref a0x), .val (.int p1), .val (.long q1), .second, .val (.int (2 : Int32)), .val (.int (0 : Int32))] [])) _
    refine XS.aloadN X0.here hx rfl (hb hby d1_10) rfl rfl ?_
    show Steps p.tables e below (s₁.setTop (mkF m 11 #[.val (.ref a0x), .val (.int p1), .val (.long q1), .second, .val (.int (2 : Int32)), .val (.int (0 : Int32))] [(.ref a0x)])) _
    refine XS.iloadN X0.here hx rfl (hb hby d1_11) rfl ?_
    show Steps p.tables e below (s₁.setTop (mkF m 12 #[.val (.ref a0x), .val (.int p1), .val (.long q1), .second, .val (.int (2 : Int32)), .val (.int (0 : Int32))] [(.int p1), (.ref a0x)])) _
    refine XS.iload X0.here hx rfl (hb hby d1_12) rfl ?_
    show Steps p.tables e below (s₁.setTop (mkF m 14 #[.val (.ref a0x), .val (.int p1), .val (.long q1), .second, .val (.int (2 : Int32)), .val (.int (0 : Int32))] [(.int (0 : Int32)), (.int p1), (.ref a0x)])) _
    refine XS.iadd X0.here hx rfl (hb hby d1_14) rfl ?_
    show Steps p.tables e below (s₁.setTop (mkF m 15 #[.val (.ref a0x), .val (.int p1), .val (.long q1), .second, .val (.int (2 : Int32)), .val (.int (0 : Int32))] [(.int (p1 + (0 : Int32))), (.ref a0x)])) _
    refine XS.lloadN X0.here hx rfl (hb hby d1_15) rfl ?_
    show Steps p.tables e below (s₁.setTop (mkF m 16 #[.val (.ref a0x), .val (.int p1), .val (.long q1), .second, .val (.int (2 : Int32)), .val (.int (0 : Int32))] [(.long q1), (.int (p1 + (0 : Int32))), (.ref a0x)])) _
    refine XS.bipush X0.here hx rfl (hb hby d1_16) ?_
    show Steps p.tables e below (s₁.setTop (mkF m 18 #[.val (.ref a0x), .val (.int p1), .val (.long q1), .second, .val (.int (2 : Int32)), .val (.int (0 : Int32))] [(.int (8 : Int32)), (.long q1), (.int (p1 + (0 : Int32))), (.ref a0x)])) _
    refine XS.iload X0.here hx rfl (hb hby d1_18) rfl ?_
    show Steps p.tables e below (s₁.setTop (mkF m 20 #[.val (.ref a0x), .val (.int p1), .val (.long q1), .second, .val (.int (2 : Int32)), .val (.int (0 : Int32))] [(.int (2 : Int32)), (.int (8 : Int32)), (.long q1), (.int (p1 + (0 : Int32))), (.ref a0x)])) _
    refine XS.iconst X0.here hx rfl (hb hby d1_20) ?_
    show Steps p.tables e below (s₁.setTop (mkF m 21 #[.val (.ref a0x), .val (.int p1), .val (.long q1), .second, .val (.int (2 : Int32)), .val (.int (0 : Int32))] [(.int (1 : Int32)), (.int (2 : Int32)), (.int (8 : Int32)), (.long q1), (.int (p1 + (0 : Int32))), (.ref a0x)])) _
    refine XS.isub X0.here hx rfl (hb hby d1_21) rfl ?_
    show Steps p.tables e below (s₁.setTop (mkF m 22 #[.val (.ref a0x), .val (.int p1), .val (.long q1), .second, .val (.int (2 : Int32)), .val (.int (0 : Int32))] [(.int (1 : Int32)), (.int (8 : Int32)), (.long q1), (.int (p1 + (0 : Int32))), (.ref a0x)])) _
    refine XS.iload X0.here hx rfl (hb hby d1_22) rfl ?_
    show Steps p.tables e below (s₁.setTop (mkF m 24 #[.val (.ref a0x), .val (.int p1), .val (.long q1), .second, .val (.int (2 : Int32)), .val (.int (0 : Int32))] [(.int (0 : Int32)), (.int (1 : Int32)), (.int (8 : Int32)), (.long q1), (.int (p1 + (0 : Int32))), (.ref a0x)])) _
    refine XS.isub X0.here hx rfl (hb hby d1_24) rfl ?_
    show Steps p.tables e below (s₁.setTop (mkF m 25 #[.val (.ref a0x), .val (.int p1), .val (.long q1), .second, .val (.int (2 : Int32)), .val (.int (0 : Int32))] [(.int (1 : Int32)), (.int (8 : Int32)), (.long q1), (.int (p1 + (0 : Int32))), (.ref a0x)])) _
    refine XS.imul X0.here hx rfl (hb hby d1_25) rfl ?_
    show Steps p.tables e below (s₁.setTop (mkF m 26 #[.val (.ref a0x), .val (.int p1), .val (.long q1), .second, .val (.int (2 : Int32)), .val (.int (0 : Int32))] [(.int (8 : Int32)), (.long q1), (.int (p1 + (0 : Int32))), (.ref a0x)])) _
    refine XS.lushr X0.here hx rfl (hb hby d1_26) rfl ?_
    show Steps p.tables e below (s₁.setTop (mkF m 27 #[.val (.ref a0x), .val (.int p1), .val (.long q1), .second, .val (.int (2 : Int32)), .val (.int (0 : Int32))] [(.long ((q1.toUInt64 >>> ((8 : Int32) &&& 0x3f).toInt64.toUInt64).toInt64)), (.int (p1 + (0 : Int32))), (.ref a0x)])) _
    refine XS.l2i X0.here hx rfl (hb hby d1_27) rfl ?_
    show Steps p.tables e below (s₁.setTop (mkF m 28 #[.val (.ref a0x), .val (.int p1), .val (.long q1), .second, .val (.int (2 : Int32)), .val (.int (0 : Int32))] [(.int ((q1.toUInt64 >>> ((8 : Int32) &&& 0x3f).toInt64.toUInt64).toInt64).toInt32), (.int (p1 + (0 : Int32))), (.ref a0x)])) _
    refine XS.i2b X0.here hx rfl (hb hby d1_28) rfl ?_
    show Steps p.tables e below (s₁.setTop (mkF m 29 #[.val (.ref a0x), .val (.int p1), .val (.long q1), .second, .val (.int (2 : Int32)), .val (.int (0 : Int32))] [(.int ((q1.toUInt64 >>> ((8 : Int32) &&& 0x3f).toInt64.toUInt64).toInt64).toInt32.toInt8.toInt32), (.int (p1 + (0 : Int32))), (.ref a0x)])) _
    refine st2 _ ?_
    show Steps p.tables e below (T2.setTop (mkF m 30 #[.val (.ref a0x), .val (.int p1), .val (.long q1), .second, .val (.int (2 : Int32)), .val (.int (0 : Int32))] [])) _
    refine XS.iinc X2.here hx rfl (hb hby d1_30) rfl (l' := #[.val (.ref a0x), .val (.int p1), .val (.long q1), .second, .val (.int (2 : Int32)), .val (.int (1 : Int32))]) rfl ?_
    show Steps p.tables e below (T2.setTop (mkF m 33 #[.val (.ref a0x), .val (.int p1), .val (.long q1), .second, .val (.int (2 : Int32)), .val (.int (1 : Int32))] [])) _
    refine XS.goto X2.here hx rfl (pc0 := 33) (pc' := 3) rfl (hb hby d1_33) (by decide) (by decide) ?_
    show Steps p.tables e below (T2.setTop (mkF m 3 #[.val (.ref a0x), .val (.int p1), .val (.long q1), .second, .val (.int (2 : Int32)), .val (.int (1 : Int32))] [])) _
    refine XS.iload X2.here hx rfl (hb hby d1_3) rfl ?_
    show Steps p.tables e below (T2.setTop (mkF m 5 #[.val (.ref a0x), .val (.int p1), .val (.long q1), .second, .val (.int (2 : Int32)), .val (.int (1 : Int32))] [(.int (1 : Int32))])) _
    refine XS.iload X2.here hx rfl (hb hby d1_5) rfl ?_
    show Steps p.tables e below (T2.setTop (mkF m 7 #[.val (.ref a0x), .val (.int p1), .val (.long q1), .second, .val (.int (2 : Int32)), .val (.int (1 : Int32))] [(.int (2 : Int32)), (.int (1 : Int32))])) _
    refine XS.icmpNo X2.here hx rfl (hb hby d1_7) rfl (tlt (by decide : (1 : Int32) < (2 : Int32))).2.1 ?_
    show Steps p.tables e below (T2.setTop (mkF m 10 #[.val (.ref a0x), .val (.int p1), .val (.long q1), .second, .val (.int (2 : Int32)), .val (.int (1 : Int32))] [])) _
    refine XS.aloadN X2.here hx rfl (hb hby d1_10) rfl rfl ?_
    show Steps p.tables e below (T2.setTop (mkF m 11 #[.val (.ref a0x), .val (.int p1), .val (.long q1), .second, .val (.int (2 : Int32)), .val (.int (1 : Int32))] [(.ref a0x)])) _
    refine XS.iloadN X2.here hx rfl (hb hby d1_11) rfl ?_
    show Steps p.tables e below (T2.setTop (mkF m 12 #[.val (.ref a0x), .val (.int p1), .val (.long q1), .second, .val (.int (2 : Int32)), .val (.int (1 : Int32))] [(.int p1), (.ref a0x)])) _
    refine XS.iload X2.here hx rfl (hb hby d1_12) rfl ?_
    show Steps p.tables e below (T2.setTop (mkF m 14 #[.val (.ref a0x), .val (.int p1), .val (.long q1), .second, .val (.int (2 : Int32)), .val (.int (1 : Int32))] [(.int (1 : Int32)), (.int p1), (.ref a0x)])) _
    refine XS.iadd X2.here hx rfl (hb hby d1_14) rfl ?_
    show Steps p.tables e below (T2.setTop (mkF m 15 #[.val (.ref a0x), .val (.int p1), .val (.long q1), .second, .val (.int (2 : Int32)), .val (.int (1 : Int32))] [(.int (p1 + (1 : Int32))), (.ref a0x)])) _
    refine XS.lloadN X2.here hx rfl (hb hby d1_15) rfl ?_
    show Steps p.tables e below (T2.setTop (mkF m 16 #[.val (.ref a0x), .val (.int p1), .val (.long q1), .second, .val (.int (2 : Int32)), .val (.int (1 : Int32))] [(.long q1), (.int (p1 + (1 : Int32))), (.ref a0x)])) _
    refine XS.bipush X2.here hx rfl (hb hby d1_16) ?_
    show Steps p.tables e below (T2.setTop (mkF m 18 #[.val (.ref a0x), .val (.int p1), .val (.long q1), .second, .val (.int (2 : Int32)), .val (.int (1 : Int32))] [(.int (8 : Int32)), (.long q1), (.int (p1 + (1 : Int32))), (.ref a0x)])) _
    refine XS.iload X2.here hx rfl (hb hby d1_18) rfl ?_
    show Steps p.tables e below (T2.setTop (mkF m 20 #[.val (.ref a0x), .val (.int p1), .val (.long q1), .second, .val (.int (2 : Int32)), .val (.int (1 : Int32))] [(.int (2 : Int32)), (.int (8 : Int32)), (.long q1), (.int (p1 + (1 : Int32))), (.ref a0x)])) _
    refine XS.iconst X2.here hx rfl (hb hby d1_20) ?_
    show Steps p.tables e below (T2.setTop (mkF m 21 #[.val (.ref a0x), .val (.int p1), .val (.long q1), .second, .val (.int (2 : Int32)), .val (.int (1 : Int32))] [(.int (1 : Int32)), (.int (2 : Int32)), (.int (8 : Int32)), (.long q1), (.int (p1 + (1 : Int32))), (.ref a0x)])) _
    refine XS.isub X2.here hx rfl (hb hby d1_21) rfl ?_
    show Steps p.tables e below (T2.setTop (mkF m 22 #[.val (.ref a0x), .val (.int p1), .val (.long q1), .second, .val (.int (2 : Int32)), .val (.int (1 : Int32))] [(.int (1 : Int32)), (.int (8 : Int32)), (.long q1), (.int (p1 + (1 : Int32))), (.ref a0x)])) _
    refine XS.iload X2.here hx rfl (hb hby d1_22) rfl ?_
    show Steps p.tables e below (T2.setTop (mkF m 24 #[.val (.ref a0x), .val (.int p1), .val (.long q1), .second, .val (.int (2 : Int32)), .val (.int (1 : Int32))] [(.int (1 : Int32)), (.int (1 : Int32)), (.int (8 : Int32)), (.long q1), (.int (p1 + (1 : Int32))), (.ref a0x)])) _
    refine XS.isub X2.here hx rfl (hb hby d1_24) rfl ?_
    show Steps p.tables e below (T2.setTop (mkF m 25 #[.val (.ref a0x), .val (.int p1), .val (.long q1), .second, .val (.int (2 : Int32)), .val (.int (1 : Int32))] [(.int (0 : Int32)), (.int (8 : Int32)), (.long q1), (.int (p1 + (1 : Int32))), (.ref a0x)])) _
    refine XS.imul X2.here hx rfl (hb hby d1_25) rfl ?_
    show Steps p.tables e below (T2.setTop (mkF m 26 #[.val (.ref a0x), .val (.int p1), .val (.long q1), .second, .val (.int (2 : Int32)), .val (.int (1 : Int32))] [(.int (0 : Int32)), (.long q1), (.int (p1 + (1 : Int32))), (.ref a0x)])) _
    refine XS.lushr X2.here hx rfl (hb hby d1_26) rfl ?_
    show Steps p.tables e below (T2.setTop (mkF m 27 #[.val (.ref a0x), .val (.int p1), .val (.long q1), .second, .val (.int (2 : Int32)), .val (.int (1 : Int32))] [(.long ((q1.toUInt64 >>> ((0 : Int32) &&& 0x3f).toInt64.toUInt64).toInt64)), (.int (p1 + (1 : Int32))), (.ref a0x)])) _
    refine XS.l2i X2.here hx rfl (hb hby d1_27) rfl ?_
    show Steps p.tables e below (T2.setTop (mkF m 28 #[.val (.ref a0x), .val (.int p1), .val (.long q1), .second, .val (.int (2 : Int32)), .val (.int (1 : Int32))] [(.int ((q1.toUInt64 >>> ((0 : Int32) &&& 0x3f).toInt64.toUInt64).toInt64).toInt32), (.int (p1 + (1 : Int32))), (.ref a0x)])) _
    refine XS.i2b X2.here hx rfl (hb hby d1_28) rfl ?_
    show Steps p.tables e below (T2.setTop (mkF m 29 #[.val (.ref a0x), .val (.int p1), .val (.long q1), .second, .val (.int (2 : Int32)), .val (.int (1 : Int32))] [(.int ((q1.toUInt64 >>> ((0 : Int32) &&& 0x3f).toInt64.toUInt64).toInt64).toInt32.toInt8.toInt32), (.int (p1 + (1 : Int32))), (.ref a0x)])) _
    refine st4 _ ?_
    show Steps p.tables e below (T4.setTop (mkF m 30 #[.val (.ref a0x), .val (.int p1), .val (.long q1), .second, .val (.int (2 : Int32)), .val (.int (1 : Int32))] [])) _
    refine XS.iinc X4.here hx rfl (hb hby d1_30) rfl (l' := #[.val (.ref a0x), .val (.int p1), .val (.long q1), .second, .val (.int (2 : Int32)), .val (.int (2 : Int32))]) rfl ?_
    show Steps p.tables e below (T4.setTop (mkF m 33 #[.val (.ref a0x), .val (.int p1), .val (.long q1), .second, .val (.int (2 : Int32)), .val (.int (2 : Int32))] [])) _
    refine XS.goto X4.here hx rfl (pc0 := 33) (pc' := 3) rfl (hb hby d1_33) (by decide) (by decide) ?_
    show Steps p.tables e below (T4.setTop (mkF m 3 #[.val (.ref a0x), .val (.int p1), .val (.long q1), .second, .val (.int (2 : Int32)), .val (.int (2 : Int32))] [])) _
    refine XS.iload X4.here hx rfl (hb hby d1_3) rfl ?_
    show Steps p.tables e below (T4.setTop (mkF m 5 #[.val (.ref a0x), .val (.int p1), .val (.long q1), .second, .val (.int (2 : Int32)), .val (.int (2 : Int32))] [(.int (2 : Int32))])) _
    refine XS.iload X4.here hx rfl (hb hby d1_5) rfl ?_
    show Steps p.tables e below (T4.setTop (mkF m 7 #[.val (.ref a0x), .val (.int p1), .val (.long q1), .second, .val (.int (2 : Int32)), .val (.int (2 : Int32))] [(.int (2 : Int32)), (.int (2 : Int32))])) _
    refine XS.icmpYes X4.here hx rfl (pc0 := 7) (pc' := 36) rfl (hb hby d1_7) rfl (flt (by decide : ¬ ((2 : Int32) < (2 : Int32)))).2.1 (by decide) (by decide) ?_
    show Steps p.tables e below (T4.setTop (mkF m 36 #[.val (.ref a0x), .val (.int p1), .val (.long q1), .second, .val (.int (2 : Int32)), .val (.int (2 : Int32))] [])) _
    refine XS.iloadN X4.here hx rfl (hb hby d1_36) rfl ?_
    show Steps p.tables e below (T4.setTop (mkF m 37 #[.val (.ref a0x), .val (.int p1), .val (.long q1), .second, .val (.int (2 : Int32)), .val (.int (2 : Int32))] [(.int p1)])) _
    refine XS.iload X4.here hx rfl (hb hby d1_37) rfl ?_
    show Steps p.tables e below (T4.setTop (mkF m 39 #[.val (.ref a0x), .val (.int p1), .val (.long q1), .second, .val (.int (2 : Int32)), .val (.int (2 : Int32))] [(.int (2 : Int32)), (.int p1)])) _
    refine XS.iadd X4.here hx rfl (hb hby d1_39) rfl ?_
    show Steps p.tables e below (T4.setTop (mkF m 40 #[.val (.ref a0x), .val (.int p1), .val (.long q1), .second, .val (.int (2 : Int32)), .val (.int (2 : Int32))] [(.int (p1 + (2 : Int32)))])) _
    exact retI X4 hx Bd.returns (hb hby d1_40) hr
  · show Q_rm_put Z a0x p1 q1 p2 tab h0 n0 _ T4.heap _
    rw [e4]
    exact ⟨(by rw [hk]), N4, K4, (by rw [hk]; exact (own_Tab.cong V4 (fun j _ _ => by simp [own_putF, own_b8, own_byte, (by decide : (0 : Int32) < 2), (by decide : (1 : Int32) < 2), (by decide : ¬ (2 : Int32) < 2), (by decide : ¬ (3 : Int32) < 2), (by decide : ¬ (4 : Int32) < 2), (by decide : ¬ (5 : Int32) < 2), (by decide : ¬ (6 : Int32) < 2), (by decide : ¬ (7 : Int32) < 2)])))⟩
set_option maxRecDepth 65536 in
set_option maxHeartbeats 40000000 in
theorem rm_put3 (l : Launch) (Z : State) (a0 : Array Value) (hw : ∀ d ∈ tables_1, d.before a0 Z = true) (ws : List Jvm.Cond) (a0x : Addr) (p1 : Int32) (q1 : Int64) (p2 : Int32) (tab : Int32 → Int32) (h0 : Heap) (n0 : Nat) (Z0 : n0 ≤ h0.size) (V0x : own_Tab Z h0 a0x .byte (12 : Int32) (fun j => .int (tab j))) (g0x : n0 ≤ a0x) (hat : 0 ≤ p1.toInt ∧ p1.toInt + ((3 : Int32)).toInt ≤ 12) (hk : p2 = (3 : Int32)) :
    MetFree l (⟨"com/example/fyfo/fyfo/BigEndian", "put", "([BIJI)I"⟩ : MethodName) (head1 (Jvm.Cond.code (⟨"com/example/fyfo/fyfo/BigEndian", "put", "([BIJI)I"⟩ : MethodName) prog_1_method_2_code 6 (some .int) :: ws) ({ frames := 0, cells := 0, slots := 0, locals := 0 } : Room)) (fun a U => a = #[(.ref a0x), (.int p1), (.long q1), (.int p2)] ∧ Z.Warmed39 U.vm ∧ U.heap = h0) (fun _ _ _ _ _ => True) (fun _ U o U' => ∃ v L, o = .returned v ∧ Q_rm_put Z a0x p1 q1 p2 tab h0 n0 v U'.heap L ∧ FrameEnd U o U' L ({ frames := 0, cells := 0, slots := 0, locals := 0 } : Room).cells ({ frames := 0, cells := 0, slots := 0, locals := 0 } : Room).slots) := by
  refine MetFree.of_bodySF (plainFor_of_name pn_0) hisR ?_
  intro p e s m args below meth c s₁ Bd hml0 hP hK
  obtain ⟨rfl, hZ, hh⟩ := hP
  have hx := Bd.exec
  have hby := Bd.bytes
  have hml : c.maxLocals = 6 := hml0
  have hown : s.vm.findClass "com/example/fyfo/fyfo/BigEndian" = some m.cls := findClass_of_methodNamed Bd.named
  have hnm := (name_of_methodNamed Bd.named Bd.method).1
  have X0 : Stand p l e ({ frames := 0, cells := 0, slots := 0, locals := 0 } : Room) s m #[(.ref a0x), (.int p1), (.long q1), (.int p2)] below meth c s₁ [] 0 0 := Stand.of_body Bd
  have e0 : s₁.heap = h0 := by rw [← hh, Bd.state]; rfl
  have N0 := Fr.nil n0
  have K0 : Keep h0 h0 [a0x] := Keep.refl h0 [a0x]
  have pre0 : ∀ t, Steps p.tables e below (s₁.setTop (mkF m 0 #[.val (.ref a0x), .val (.int p1), .val (.long q1), .second, .val (.int p2), .unset] [])) t → Steps p.tables e below (s₁.setTop (entryFrame m #[(.ref a0x), (.int p1), (.long q1), (.int p2)] 6)) t := fun t k => castTop (ef_1 m a0x p1 q1 p2) k
  obtain ⟨cl1, Ar1, S1, N1', H1⟩ := (id V0x)
  have hin1 : ¬ ((p1 + (0 : Int32)) < 0 ∨ cl1.slots.size ≤ ((p1 + (0 : Int32))).toNatClampNeg) := inb_of S1 (own_bd (w := (3 : Int32)) hat ⟨by decide, by decide⟩)
  obtain ⟨T2, h2, X2, e2, W2, st2⟩ := stB X0 hx hZ e0 Ar1 (j := (p1 + (0 : Int32))) hin1 (g := (mkF m 29 #[.val (.ref a0x), .val (.int p1), .val (.long q1), .second, .val (.int (3 : Int32)), .val (.int (0 : Int32))] [(.int ((q1.toUInt64 >>> ((16 : Int32) &&& 0x3f).toInt64.toUInt64).toInt64).toInt32.toInt8.toInt32), (.int (p1 + (0 : Int32))), (.ref a0x)])) rfl rfl (hb hby d1_29)
  have V2 : own_Tab Z h2 a0x .byte (12 : Int32) (fun j => .int ((fun i => if i = (p1 + (0 : Int32)) then ((q1.toUInt64 >>> ((16 : Int32) &&& 0x3f).toInt64.toUInt64).toInt64).toInt32.toInt8.toInt32.toInt8.toInt32 else tab i) j)) := (own_Tab.set Ar1 S1 N1' H1 hin1 W2).cong (fun j _ _ => by dsimp only; split <;> rfl)
  have N2 := Fr.snoc X2 N0 g0x
  have Z2 : n0 ≤ h2.size := Nat.le_trans Z0 (Keep.of_wr W2).1
  have K2 : Keep h0 h2 [a0x] := K0.wr W2 (Or.inl (List.mem_of_getElem? (i := 0) rfl))
  obtain ⟨cl3, Ar3, S3, N3', H3⟩ := (id V2)
  have hin3 : ¬ ((p1 + (1 : Int32)) < 0 ∨ cl3.slots.size ≤ ((p1 + (1 : Int32))).toNatClampNeg) := inb_of S3 (own_bd (w := (3 : Int32)) hat ⟨by decide, by decide⟩)
  obtain ⟨T4, h4, X4, e4, W4, st4⟩ := stB X2 hx hZ e2 Ar3 (j := (p1 + (1 : Int32))) hin3 (g := (mkF m 29 #[.val (.ref a0x), .val (.int p1), .val (.long q1), .second, .val (.int (3 : Int32)), .val (.int (1 : Int32))] [(.int ((q1.toUInt64 >>> ((8 : Int32) &&& 0x3f).toInt64.toUInt64).toInt64).toInt32.toInt8.toInt32), (.int (p1 + (1 : Int32))), (.ref a0x)])) rfl rfl (hb hby d1_29)
  have V4 : own_Tab Z h4 a0x .byte (12 : Int32) (fun j => .int ((fun i => if i = (p1 + (1 : Int32)) then ((q1.toUInt64 >>> ((8 : Int32) &&& 0x3f).toInt64.toUInt64).toInt64).toInt32.toInt8.toInt32.toInt8.toInt32 else (fun i => if i = (p1 + (0 : Int32)) then ((q1.toUInt64 >>> ((16 : Int32) &&& 0x3f).toInt64.toUInt64).toInt64).toInt32.toInt8.toInt32.toInt8.toInt32 else tab i) i) j)) := (own_Tab.set Ar3 S3 N3' H3 hin3 W4).cong (fun j _ _ => by dsimp only; split <;> rfl)
  have N4 := Fr.snoc X4 N2 g0x
  have Z4 : n0 ≤ h4.size := Nat.le_trans Z2 (Keep.of_wr W4).1
  have K4 : Keep h0 h4 [a0x] := K2.wr W4 (Or.inl (List.mem_of_getElem? (i := 0) rfl))
  obtain ⟨cl5, Ar5, S5, N5', H5⟩ := (id V4)
  have hin5 : ¬ ((p1 + (2 : Int32)) < 0 ∨ cl5.slots.size ≤ ((p1 + (2 : Int32))).toNatClampNeg) := inb_of S5 (own_bd (w := (3 : Int32)) hat ⟨by decide, by decide⟩)
  obtain ⟨T6, h6, X6, e6, W6, st6⟩ := stB X4 hx hZ e4 Ar5 (j := (p1 + (2 : Int32))) hin5 (g := (mkF m 29 #[.val (.ref a0x), .val (.int p1), .val (.long q1), .second, .val (.int (3 : Int32)), .val (.int (2 : Int32))] [(.int ((q1.toUInt64 >>> ((0 : Int32) &&& 0x3f).toInt64.toUInt64).toInt64).toInt32.toInt8.toInt32), (.int (p1 + (2 : Int32))), (.ref a0x)])) rfl rfl (hb hby d1_29)
  have V6 : own_Tab Z h6 a0x .byte (12 : Int32) (fun j => .int ((fun i => if i = (p1 + (2 : Int32)) then ((q1.toUInt64 >>> ((0 : Int32) &&& 0x3f).toInt64.toUInt64).toInt64).toInt32.toInt8.toInt32.toInt8.toInt32 else (fun i => if i = (p1 + (1 : Int32)) then ((q1.toUInt64 >>> ((8 : Int32) &&& 0x3f).toInt64.toUInt64).toInt64).toInt32.toInt8.toInt32.toInt8.toInt32 else (fun i => if i = (p1 + (0 : Int32)) then ((q1.toUInt64 >>> ((16 : Int32) &&& 0x3f).toInt64.toUInt64).toInt64).toInt32.toInt8.toInt32.toInt8.toInt32 else tab i) i) i) j)) := (own_Tab.set Ar5 S5 N5' H5 hin5 W6).cong (fun j _ _ => by dsimp only; split <;> rfl)
  have N6 := Fr.snoc X6 N4 g0x
  have Z6 : n0 ≤ h6.size := Nat.le_trans Z4 (Keep.of_wr W6).1
  have K6 : Keep h0 h6 [a0x] := K4.wr W6 (Or.inl (List.mem_of_getElem? (i := 0) rfl))
  obtain ⟨fs, hr, hrun, hended, hW, hsame⟩ := X6.leave (v := some (.int (p1 + (3 : Int32)))) (fun h => by rw [Bd.returns] at h; cases h)
  refine ⟨_, _, pre0 _ ?_, hrun, hended, _, _, rfl, ?_, ⟨_, rfl⟩, hW, hsame.mono (by decide) (by decide)⟩
  · show Steps p.tables e below (s₁.setTop (mkF m 0 #[.val (.ref a0x), .val (.int p1), .val (.long q1), .second, .val (.int p2), .unset] [])) _
    rw [hk]
    show Steps p.tables e below (s₁.setTop (mkF m 0 #[.val (.ref a0x), .val (.int p1), .val (.long q1), .second, .val (.int (3 : Int32)), .unset] [])) _
    refine XS.iconst X0.here hx rfl (hb hby d1_0) ?_
    show Steps p.tables e below (s₁.setTop (mkF m 1 #[.val (.ref a0x), .val (.int p1), .val (.long q1), .second, .val (.int (3 : Int32)), .unset] [(.int (0 : Int32))])) _
    refine XS.istore X0.here hx rfl (hb hby d1_1) rfl (l' := #[.val (.ref a0x), .val (.int p1), .val (.long q1), .second, .val (.int (3 : Int32)), .val (.int (0 : Int32))]) rfl ?_
    show Steps p.tables e below (s₁.setTop (mkF m 3 #[.val (.ref a0x), .val (.int p1), .val (.long q1), .second, .val (.int (3 : Int32)), .val (.int (0 : Int32))] [])) _
    refine XS.iload X0.here hx rfl (hb hby d1_3) rfl ?_
    show Steps p.tables e below (s₁.setTop (mkF m 5 #[.val (.ref a0x), .val (.int p1), .val (.long q1), .second, .val (.int (3 : Int32)), .val (.int (0 : Int32))] [(.int (0 : Int32))])) _
    refine XS.iload X0.here hx rfl (hb hby d1_5) rfl ?_
    show Steps p.tables e below (s₁.setTop (mkF m 7 #[.val (.ref a0x), .val (.int p1), .val (.long q1), .second, .val (.int (3 : Int32)), .val (.int (0 : Int32))] [(.int (3 : Int32)), (.int (0 : Int32))])) _
    refine XS.icmpNo X0.here hx rfl (hb hby d1_7) rfl (tlt (by decide : (0 : Int32) < (3 : Int32))).2.1 ?_
    show Steps p.tables e below (s₁.setTop (mkF m 10 #[.val (.ref a0x), .val (.int p1), .val (.long q1), .second, .val (.int (3 : Int32)), .val (.int (0 : Int32))] [])) _
    refine XS.aloadN X0.here hx rfl (hb hby d1_10) rfl rfl ?_
    show Steps p.tables e below (s₁.setTop (mkF m 11 #[.val (.ref a0x), .val (.int p1), .val (.long q1), .second, .val (.int (3 : Int32)), .val (.int (0 : Int32))] [(.ref a0x)])) _
    refine XS.iloadN X0.here hx rfl (hb hby d1_11) rfl ?_
    show Steps p.tables e below (s₁.setTop (mkF m 12 #[.val (.ref a0x), .val (.int p1), .val (.long q1), .second, .val (.int (3 : Int32)), .val (.int (0 : Int32))] [(.int p1), (.ref a0x)])) _
    refine XS.iload X0.here hx rfl (hb hby d1_12) rfl ?_
    show Steps p.tables e below (s₁.setTop (mkF m 14 #[.val (.ref a0x), .val (.int p1), .val (.long q1), .second, .val (.int (3 : Int32)), .val (.int (0 : Int32))] [(.int (0 : Int32)), (.int p1), (.ref a0x)])) _
    refine XS.iadd X0.here hx rfl (hb hby d1_14) rfl ?_
    show Steps p.tables e below (s₁.setTop (mkF m 15 #[.val (.ref a0x), .val (.int p1), .val (.long q1), .second, .val (.int (3 : Int32)), .val (.int (0 : Int32))] [(.int (p1 + (0 : Int32))), (.ref a0x)])) _
    refine XS.lloadN X0.here hx rfl (hb hby d1_15) rfl ?_
    show Steps p.tables e below (s₁.setTop (mkF m 16 #[.val (.ref a0x), .val (.int p1), .val (.long q1), .second, .val (.int (3 : Int32)), .val (.int (0 : Int32))] [(.long q1), (.int (p1 + (0 : Int32))), (.ref a0x)])) _
    refine XS.bipush X0.here hx rfl (hb hby d1_16) ?_
    show Steps p.tables e below (s₁.setTop (mkF m 18 #[.val (.ref a0x), .val (.int p1), .val (.long q1), .second, .val (.int (3 : Int32)), .val (.int (0 : Int32))] [(.int (8 : Int32)), (.long q1), (.int (p1 + (0 : Int32))), (.ref a0x)])) _
    refine XS.iload X0.here hx rfl (hb hby d1_18) rfl ?_
    show Steps p.tables e below (s₁.setTop (mkF m 20 #[.val (.ref a0x), .val (.int p1), .val (.long q1), .second, .val (.int (3 : Int32)), .val (.int (0 : Int32))] [(.int (3 : Int32)), (.int (8 : Int32)), (.long q1), (.int (p1 + (0 : Int32))), (.ref a0x)])) _
    refine XS.iconst X0.here hx rfl (hb hby d1_20) ?_
    show Steps p.tables e below (s₁.setTop (mkF m 21 #[.val (.ref a0x), .val (.int p1), .val (.long q1), .second, .val (.int (3 : Int32)), .val (.int (0 : Int32))] [(.int (1 : Int32)), (.int (3 : Int32)), (.int (8 : Int32)), (.long q1), (.int (p1 + (0 : Int32))), (.ref a0x)])) _
    refine XS.isub X0.here hx rfl (hb hby d1_21) rfl ?_
    show Steps p.tables e below (s₁.setTop (mkF m 22 #[.val (.ref a0x), .val (.int p1), .val (.long q1), .second, .val (.int (3 : Int32)), .val (.int (0 : Int32))] [(.int (2 : Int32)), (.int (8 : Int32)), (.long q1), (.int (p1 + (0 : Int32))), (.ref a0x)])) _
    refine XS.iload X0.here hx rfl (hb hby d1_22) rfl ?_
    show Steps p.tables e below (s₁.setTop (mkF m 24 #[.val (.ref a0x), .val (.int p1), .val (.long q1), .second, .val (.int (3 : Int32)), .val (.int (0 : Int32))] [(.int (0 : Int32)), (.int (2 : Int32)), (.int (8 : Int32)), (.long q1), (.int (p1 + (0 : Int32))), (.ref a0x)])) _
    refine XS.isub X0.here hx rfl (hb hby d1_24) rfl ?_
    show Steps p.tables e below (s₁.setTop (mkF m 25 #[.val (.ref a0x), .val (.int p1), .val (.long q1), .second, .val (.int (3 : Int32)), .val (.int (0 : Int32))] [(.int (2 : Int32)), (.int (8 : Int32)), (.long q1), (.int (p1 + (0 : Int32))), (.ref a0x)])) _
    refine XS.imul X0.here hx rfl (hb hby d1_25) rfl ?_
    show Steps p.tables e below (s₁.setTop (mkF m 26 #[.val (.ref a0x), .val (.int p1), .val (.long q1), .second, .val (.int (3 : Int32)), .val (.int (0 : Int32))] [(.int (16 : Int32)), (.long q1), (.int (p1 + (0 : Int32))), (.ref a0x)])) _
    refine XS.lushr X0.here hx rfl (hb hby d1_26) rfl ?_
    show Steps p.tables e below (s₁.setTop (mkF m 27 #[.val (.ref a0x), .val (.int p1), .val (.long q1), .second, .val (.int (3 : Int32)), .val (.int (0 : Int32))] [(.long ((q1.toUInt64 >>> ((16 : Int32) &&& 0x3f).toInt64.toUInt64).toInt64)), (.int (p1 + (0 : Int32))), (.ref a0x)])) _
    refine XS.l2i X0.here hx rfl (hb hby d1_27) rfl ?_
    show Steps p.tables e below (s₁.setTop (mkF m 28 #[.val (.ref a0x), .val (.int p1), .val (.long q1), .second, .val (.int (3 : Int32)), .val (.int (0 : Int32))] [(.int ((q1.toUInt64 >>> ((16 : Int32) &&& 0x3f).toInt64.toUInt64).toInt64).toInt32), (.int (p1 + (0 : Int32))), (.ref a0x)])) _
    refine XS.i2b X0.here hx rfl (hb hby d1_28) rfl ?_
    show Steps p.tables e below (s₁.setTop (mkF m 29 #[.val (.ref a0x), .val (.int p1), .val (.long q1), .second, .val (.int (3 : Int32)), .val (.int (0 : Int32))] [(.int ((q1.toUInt64 >>> ((16 : Int32) &&& 0x3f).toInt64.toUInt64).toInt64).toInt32.toInt8.toInt32), (.int (p1 + (0 : Int32))), (.ref a0x)])) _
    refine st2 _ ?_
    show Steps p.tables e below (T2.setTop (mkF m 30 #[.val (.ref a0x), .val (.int p1), .val (.long q1), .second, .val (.int (3 : Int32)), .val (.int (0 : Int32))] [])) _
    refine XS.iinc X2.here hx rfl (hb hby d1_30) rfl (l' := #[.val (.ref a0x), .val (.int p1), .val (.long q1), .second, .val (.int (3 : Int32)), .val (.int (1 : Int32))]) rfl ?_
    show Steps p.tables e below (T2.setTop (mkF m 33 #[.val (.ref a0x), .val (.int p1), .val (.long q1), .second, .val (.int (3 : Int32)), .val (.int (1 : Int32))] [])) _
    refine XS.goto X2.here hx rfl (pc0 := 33) (pc' := 3) rfl (hb hby d1_33) (by decide) (by decide) ?_
    show Steps p.tables e below (T2.setTop (mkF m 3 #[.val (.ref a0x), .val (.int p1), .val (.long q1), .second, .val (.int (3 : Int32)), .val (.int (1 : Int32))] [])) _
    refine XS.iload X2.here hx rfl (hb hby d1_3) rfl ?_
    show Steps p.tables e below (T2.setTop (mkF m 5 #[.val (.ref a0x), .val (.int p1), .val (.long q1), .second, .val (.int (3 : Int32)), .val (.int (1 : Int32))] [(.int (1 : Int32))])) _
    refine XS.iload X2.here hx rfl (hb hby d1_5) rfl ?_
    show Steps p.tables e below (T2.setTop (mkF m 7 #[.val (.ref a0x), .val (.int p1), .val (.long q1), .second, .val (.int (3 : Int32)), .val (.int (1 : Int32))] [(.int (3 : Int32)), (.int (1 : Int32))])) _
    refine XS.icmpNo X2.here hx rfl (hb hby d1_7) rfl (tlt (by decide : (1 : Int32) < (3 : Int32))).2.1 ?_
    show Steps p.tables e below (T2.setTop (mkF m 10 #[.val (.ref a0x), .val (.int p1), .val (.long q1), .second, .val (.int (3 : Int32)), .val (.int (1 : Int32))] [])) _
    refine XS.aloadN X2.here hx rfl (hb hby d1_10) rfl rfl ?_
    show Steps p.tables e below (T2.setTop (mkF m 11 #[.val (.ref a0x), .val (.int p1), .val (.long q1), .second, .val (.int (3 : Int32)), .val (.int (1 : Int32))] [(.ref a0x)])) _
    refine XS.iloadN X2.here hx rfl (hb hby d1_11) rfl ?_
    show Steps p.tables e below (T2.setTop (mkF m 12 #[.val (.ref a0x), .val (.int p1), .val (.long q1), .second, .val (.int (3 : Int32)), .val (.int (1 : Int32))] [(.int p1), (.ref a0x)])) _
    refine XS.iload X2.here hx rfl (hb hby d1_12) rfl ?_
    show Steps p.tables e below (T2.setTop (mkF m 14 #[.val (.ref a0x), .val (.int p1), .val (.long q1), .second, .val (.int (3 : Int32)), .val (.int (1 : Int32))] [(.int (1 : Int32)), (.int p1), (.ref a0x)])) _
    refine XS.iadd X2.here hx rfl (hb hby d1_14) rfl ?_
    show Steps p.tables e below (T2.setTop (mkF m 15 #[.val (.ref a0x), .val (.int p1), .val (.long q1), .second, .val (.int (3 : Int32)), .val (.int (1 : Int32))] [(.int (p1 + (1 : Int32))), (.ref a0x)])) _
    refine XS.lloadN X2.here hx rfl (hb hby d1_15) rfl ?_
    show Steps p.tables e below (T2.setTop (mkF m 16 #[.val (.ref a0x), .val (.int p1), .val (.long q1), .second, .val (.int (3 : Int32)), .val (.int (1 : Int32))] [(.long q1), (.int (p1 + (1 : Int32))), (.ref a0x)])) _
    refine XS.bipush X2.here hx rfl (hb hby d1_16) ?_
    show Steps p.tables e below (T2.setTop (mkF m 18 #[.val (.ref a0x), .val (.int p1), .val (.long q1), .second, .val (.int (3 : Int32)), .val (.int (1 : Int32))] [(.int (8 : Int32)), (.long q1), (.int (p1 + (1 : Int32))), (.ref a0x)])) _
    refine XS.iload X2.here hx rfl (hb hby d1_18) rfl ?_
    show Steps p.tables e below (T2.setTop (mkF m 20 #[.val (.ref a0x), .val (.int p1), .val (.long q1), .second, .val (.int (3 : Int32)), .val (.int (1 : Int32))] [(.int (3 : Int32)), (.int (8 : Int32)), (.long q1), (.int (p1 + (1 : Int32))), (.ref a0x)])) _
    refine XS.iconst X2.here hx rfl (hb hby d1_20) ?_
    show Steps p.tables e below (T2.setTop (mkF m 21 #[.val (.ref a0x), .val (.int p1), .val (.long q1), .second, .val (.int (3 : Int32)), .val (.int (1 : Int32))] [(.int (1 : Int32)), (.int (3 : Int32)), (.int (8 : Int32)), (.long q1), (.int (p1 + (1 : Int32))), (.ref a0x)])) _
    refine XS.isub X2.here hx rfl (hb hby d1_21) rfl ?_
    show Steps p.tables e below (T2.setTop (mkF m 22 #[.val (.ref a0x), .val (.int p1), .val (.long q1), .second, .val (.int (3 : Int32)), .val (.int (1 : Int32))] [(.int (2 : Int32)), (.int (8 : Int32)), (.long q1), (.int (p1 + (1 : Int32))), (.ref a0x)])) _
    refine XS.iload X2.here hx rfl (hb hby d1_22) rfl ?_
    show Steps p.tables e below (T2.setTop (mkF m 24 #[.val (.ref a0x), .val (.int p1), .val (.long q1), .second, .val (.int (3 : Int32)), .val (.int (1 : Int32))] [(.int (1 : Int32)), (.int (2 : Int32)), (.int (8 : Int32)), (.long q1), (.int (p1 + (1 : Int32))), (.ref a0x)])) _
    refine XS.isub X2.here hx rfl (hb hby d1_24) rfl ?_
    show Steps p.tables e below (T2.setTop (mkF m 25 #[.val (.ref a0x), .val (.int p1), .val (.long q1), .second, .val (.int (3 : Int32)), .val (.int (1 : Int32))] [(.int (1 : Int32)), (.int (8 : Int32)), (.long q1), (.int (p1 + (1 : Int32))), (.ref a0x)])) _
    refine XS.imul X2.here hx rfl (hb hby d1_25) rfl ?_
    show Steps p.tables e below (T2.setTop (mkF m 26 #[.val (.ref a0x), .val (.int p1), .val (.long q1), .second, .val (.int (3 : Int32)), .val (.int (1 : Int32))] [(.int (8 : Int32)), (.long q1), (.int (p1 + (1 : Int32))), (.ref a0x)])) _
    refine XS.lushr X2.here hx rfl (hb hby d1_26) rfl ?_
    show Steps p.tables e below (T2.setTop (mkF m 27 #[.val (.ref a0x), .val (.int p1), .val (.long q1), .second, .val (.int (3 : Int32)), .val (.int (1 : Int32))] [(.long ((q1.toUInt64 >>> ((8 : Int32) &&& 0x3f).toInt64.toUInt64).toInt64)), (.int (p1 + (1 : Int32))), (.ref a0x)])) _
    refine XS.l2i X2.here hx rfl (hb hby d1_27) rfl ?_
    show Steps p.tables e below (T2.setTop (mkF m 28 #[.val (.ref a0x), .val (.int p1), .val (.long q1), .second, .val (.int (3 : Int32)), .val (.int (1 : Int32))] [(.int ((q1.toUInt64 >>> ((8 : Int32) &&& 0x3f).toInt64.toUInt64).toInt64).toInt32), (.int (p1 + (1 : Int32))), (.ref a0x)])) _
    refine XS.i2b X2.here hx rfl (hb hby d1_28) rfl ?_
    show Steps p.tables e below (T2.setTop (mkF m 29 #[.val (.ref a0x), .val (.int p1), .val (.long q1), .second, .val (.int (3 : Int32)), .val (.int (1 : Int32))] [(.int ((q1.toUInt64 >>> ((8 : Int32) &&& 0x3f).toInt64.toUInt64).toInt64).toInt32.toInt8.toInt32), (.int (p1 + (1 : Int32))), (.ref a0x)])) _
    refine st4 _ ?_
    show Steps p.tables e below (T4.setTop (mkF m 30 #[.val (.ref a0x), .val (.int p1), .val (.long q1), .second, .val (.int (3 : Int32)), .val (.int (1 : Int32))] [])) _
    refine XS.iinc X4.here hx rfl (hb hby d1_30) rfl (l' := #[.val (.ref a0x), .val (.int p1), .val (.long q1), .second, .val (.int (3 : Int32)), .val (.int (2 : Int32))]) rfl ?_
    show Steps p.tables e below (T4.setTop (mkF m 33 #[.val (.ref a0x), .val (.int p1), .val (.long q1), .second, .val (.int (3 : Int32)), .val (.int (2 : Int32))] [])) _
    refine XS.goto X4.here hx rfl (pc0 := 33) (pc' := 3) rfl (hb hby d1_33) (by decide) (by decide) ?_
    show Steps p.tables e below (T4.setTop (mkF m 3 #[.val (.ref a0x), .val (.int p1), .val (.long q1), .second, .val (.int (3 : Int32)), .val (.int (2 : Int32))] [])) _
    refine XS.iload X4.here hx rfl (hb hby d1_3) rfl ?_
    show Steps p.tables e below (T4.setTop (mkF m 5 #[.val (.ref a0x), .val (.int p1), .val (.long q1), .second, .val (.int (3 : Int32)), .val (.int (2 : Int32))] [(.int (2 : Int32))])) _
    refine XS.iload X4.here hx rfl (hb hby d1_5) rfl ?_
    show Steps p.tables e below (T4.setTop (mkF m 7 #[.val (.ref a0x), .val (.int p1), .val (.long q1), .second, .val (.int (3 : Int32)), .val (.int (2 : Int32))] [(.int (3 : Int32)), (.int (2 : Int32))])) _
    refine XS.icmpNo X4.here hx rfl (hb hby d1_7) rfl (tlt (by decide : (2 : Int32) < (3 : Int32))).2.1 ?_
    show Steps p.tables e below (T4.setTop (mkF m 10 #[.val (.ref a0x), .val (.int p1), .val (.long q1), .second, .val (.int (3 : Int32)), .val (.int (2 : Int32))] [])) _
    refine XS.aloadN X4.here hx rfl (hb hby d1_10) rfl rfl ?_
    show Steps p.tables e below (T4.setTop (mkF m 11 #[.val (.ref a0x), .val (.int p1), .val (.long q1), .second, .val (.int (3 : Int32)), .val (.int (2 : Int32))] [(.ref a0x)])) _
    refine XS.iloadN X4.here hx rfl (hb hby d1_11) rfl ?_
    show Steps p.tables e below (T4.setTop (mkF m 12 #[.val (.ref a0x), .val (.int p1), .val (.long q1), .second, .val (.int (3 : Int32)), .val (.int (2 : Int32))] [(.int p1), (.ref a0x)])) _
    refine XS.iload X4.here hx rfl (hb hby d1_12) rfl ?_
    show Steps p.tables e below (T4.setTop (mkF m 14 #[.val (.ref a0x), .val (.int p1), .val (.long q1), .second, .val (.int (3 : Int32)), .val (.int (2 : Int32))] [(.int (2 : Int32)), (.int p1), (.ref a0x)])) _
    refine XS.iadd X4.here hx rfl (hb hby d1_14) rfl ?_
    show Steps p.tables e below (T4.setTop (mkF m 15 #[.val (.ref a0x), .val (.int p1), .val (.long q1), .second, .val (.int (3 : Int32)), .val (.int (2 : Int32))] [(.int (p1 + (2 : Int32))), (.ref a0x)])) _
    refine XS.lloadN X4.here hx rfl (hb hby d1_15) rfl ?_
    show Steps p.tables e below (T4.setTop (mkF m 16 #[.val (.ref a0x), .val (.int p1), .val (.long q1), .second, .val (.int (3 : Int32)), .val (.int (2 : Int32))] [(.long q1), (.int (p1 + (2 : Int32))), (.ref a0x)])) _
    refine XS.bipush X4.here hx rfl (hb hby d1_16) ?_
    show Steps p.tables e below (T4.setTop (mkF m 18 #[.val (.ref a0x), .val (.int p1), .val (.long q1), .second, .val (.int (3 : Int32)), .val (.int (2 : Int32))] [(.int (8 : Int32)), (.long q1), (.int (p1 + (2 : Int32))), (.ref a0x)])) _
    refine XS.iload X4.here hx rfl (hb hby d1_18) rfl ?_
    show Steps p.tables e below (T4.setTop (mkF m 20 #[.val (.ref a0x), .val (.int p1), .val (.long q1), .second, .val (.int (3 : Int32)), .val (.int (2 : Int32))] [(.int (3 : Int32)), (.int (8 : Int32)), (.long q1), (.int (p1 + (2 : Int32))), (.ref a0x)])) _
    refine XS.iconst X4.here hx rfl (hb hby d1_20) ?_
    show Steps p.tables e below (T4.setTop (mkF m 21 #[.val (.ref a0x), .val (.int p1), .val (.long q1), .second, .val (.int (3 : Int32)), .val (.int (2 : Int32))] [(.int (1 : Int32)), (.int (3 : Int32)), (.int (8 : Int32)), (.long q1), (.int (p1 + (2 : Int32))), (.ref a0x)])) _
    refine XS.isub X4.here hx rfl (hb hby d1_21) rfl ?_
    show Steps p.tables e below (T4.setTop (mkF m 22 #[.val (.ref a0x), .val (.int p1), .val (.long q1), .second, .val (.int (3 : Int32)), .val (.int (2 : Int32))] [(.int (2 : Int32)), (.int (8 : Int32)), (.long q1), (.int (p1 + (2 : Int32))), (.ref a0x)])) _
    refine XS.iload X4.here hx rfl (hb hby d1_22) rfl ?_
    show Steps p.tables e below (T4.setTop (mkF m 24 #[.val (.ref a0x), .val (.int p1), .val (.long q1), .second, .val (.int (3 : Int32)), .val (.int (2 : Int32))] [(.int (2 : Int32)), (.int (2 : Int32)), (.int (8 : Int32)), (.long q1), (.int (p1 + (2 : Int32))), (.ref a0x)])) _
    refine XS.isub X4.here hx rfl (hb hby d1_24) rfl ?_
    show Steps p.tables e below (T4.setTop (mkF m 25 #[.val (.ref a0x), .val (.int p1), .val (.long q1), .second, .val (.int (3 : Int32)), .val (.int (2 : Int32))] [(.int (0 : Int32)), (.int (8 : Int32)), (.long q1), (.int (p1 + (2 : Int32))), (.ref a0x)])) _
    refine XS.imul X4.here hx rfl (hb hby d1_25) rfl ?_
    show Steps p.tables e below (T4.setTop (mkF m 26 #[.val (.ref a0x), .val (.int p1), .val (.long q1), .second, .val (.int (3 : Int32)), .val (.int (2 : Int32))] [(.int (0 : Int32)), (.long q1), (.int (p1 + (2 : Int32))), (.ref a0x)])) _
    refine XS.lushr X4.here hx rfl (hb hby d1_26) rfl ?_
    show Steps p.tables e below (T4.setTop (mkF m 27 #[.val (.ref a0x), .val (.int p1), .val (.long q1), .second, .val (.int (3 : Int32)), .val (.int (2 : Int32))] [(.long ((q1.toUInt64 >>> ((0 : Int32) &&& 0x3f).toInt64.toUInt64).toInt64)), (.int (p1 + (2 : Int32))), (.ref a0x)])) _
    refine XS.l2i X4.here hx rfl (hb hby d1_27) rfl ?_
    show Steps p.tables e below (T4.setTop (mkF m 28 #[.val (.ref a0x), .val (.int p1), .val (.long q1), .second, .val (.int (3 : Int32)), .val (.int (2 : Int32))] [(.int ((q1.toUInt64 >>> ((0 : Int32) &&& 0x3f).toInt64.toUInt64).toInt64).toInt32), (.int (p1 + (2 : Int32))), (.ref a0x)])) _
    refine XS.i2b X4.here hx rfl (hb hby d1_28) rfl ?_
    show Steps p.tables e below (T4.setTop (mkF m 29 #[.val (.ref a0x), .val (.int p1), .val (.long q1), .second, .val (.int (3 : Int32)), .val (.int (2 : Int32))] [(.int ((q1.toUInt64 >>> ((0 : Int32) &&& 0x3f).toInt64.toUInt64).toInt64).toInt32.toInt8.toInt32), (.int (p1 + (2 : Int32))), (.ref a0x)])) _
    refine st6 _ ?_
    show Steps p.tables e below (T6.setTop (mkF m 30 #[.val (.ref a0x), .val (.int p1), .val (.long q1), .second, .val (.int (3 : Int32)), .val (.int (2 : Int32))] [])) _
    refine XS.iinc X6.here hx rfl (hb hby d1_30) rfl (l' := #[.val (.ref a0x), .val (.int p1), .val (.long q1), .second, .val (.int (3 : Int32)), .val (.int (3 : Int32))]) rfl ?_
    show Steps p.tables e below (T6.setTop (mkF m 33 #[.val (.ref a0x), .val (.int p1), .val (.long q1), .second, .val (.int (3 : Int32)), .val (.int (3 : Int32))] [])) _
    refine XS.goto X6.here hx rfl (pc0 := 33) (pc' := 3) rfl (hb hby d1_33) (by decide) (by decide) ?_
    show Steps p.tables e below (T6.setTop (mkF m 3 #[.val (.ref a0x), .val (.int p1), .val (.long q1), .second, .val (.int (3 : Int32)), .val (.int (3 : Int32))] [])) _
    refine XS.iload X6.here hx rfl (hb hby d1_3) rfl ?_
    show Steps p.tables e below (T6.setTop (mkF m 5 #[.val (.ref a0x), .val (.int p1), .val (.long q1), .second, .val (.int (3 : Int32)), .val (.int (3 : Int32))] [(.int (3 : Int32))])) _
    refine XS.iload X6.here hx rfl (hb hby d1_5) rfl ?_
    show Steps p.tables e below (T6.setTop (mkF m 7 #[.val (.ref a0x), .val (.int p1), .val (.long q1), .second, .val (.int (3 : Int32)), .val (.int (3 : Int32))] [(.int (3 : Int32)), (.int (3 : Int32))])) _
    refine XS.icmpYes X6.here hx rfl (pc0 := 7) (pc' := 36) rfl (hb hby d1_7) rfl (flt (by decide : ¬ ((3 : Int32) < (3 : Int32)))).2.1 (by decide) (by decide) ?_
    show Steps p.tables e below (T6.setTop (mkF m 36 #[.val (.ref a0x), .val (.int p1), .val (.long q1), .second, .val (.int (3 : Int32)), .val (.int (3 : Int32))] [])) _
    refine XS.iloadN X6.here hx rfl (hb hby d1_36) rfl ?_
    show Steps p.tables e below (T6.setTop (mkF m 37 #[.val (.ref a0x), .val (.int p1), .val (.long q1), .second, .val (.int (3 : Int32)), .val (.int (3 : Int32))] [(.int p1)])) _
    refine XS.iload X6.here hx rfl (hb hby d1_37) rfl ?_
    show Steps p.tables e below (T6.setTop (mkF m 39 #[.val (.ref a0x), .val (.int p1), .val (.long q1), .second, .val (.int (3 : Int32)), .val (.int (3 : Int32))] [(.int (3 : Int32)), (.int p1)])) _
    refine XS.iadd X6.here hx rfl (hb hby d1_39) rfl ?_
    show Steps p.tables e below (T6.setTop (mkF m 40 #[.val (.ref a0x), .val (.int p1), .val (.long q1), .second, .val (.int (3 : Int32)), .val (.int (3 : Int32))] [(.int (p1 + (3 : Int32)))])) _
    exact retI X6 hx Bd.returns (hb hby d1_40) hr
  · show Q_rm_put Z a0x p1 q1 p2 tab h0 n0 _ T6.heap _
    rw [e6]
    exact ⟨(by rw [hk]), N6, K6, (by rw [hk]; exact (own_Tab.cong V6 (fun j _ _ => by simp [own_putF, own_b8, own_byte, (by decide : (0 : Int32) < 3), (by decide : (1 : Int32) < 3), (by decide : (2 : Int32) < 3), (by decide : ¬ (3 : Int32) < 3), (by decide : ¬ (4 : Int32) < 3), (by decide : ¬ (5 : Int32) < 3), (by decide : ¬ (6 : Int32) < 3), (by decide : ¬ (7 : Int32) < 3)])))⟩
set_option maxRecDepth 65536 in
set_option maxHeartbeats 40000000 in
theorem rm_put4 (l : Launch) (Z : State) (a0 : Array Value) (hw : ∀ d ∈ tables_1, d.before a0 Z = true) (ws : List Jvm.Cond) (a0x : Addr) (p1 : Int32) (q1 : Int64) (p2 : Int32) (tab : Int32 → Int32) (h0 : Heap) (n0 : Nat) (Z0 : n0 ≤ h0.size) (V0x : own_Tab Z h0 a0x .byte (12 : Int32) (fun j => .int (tab j))) (g0x : n0 ≤ a0x) (hat : 0 ≤ p1.toInt ∧ p1.toInt + ((4 : Int32)).toInt ≤ 12) (hk : p2 = (4 : Int32)) :
    MetFree l (⟨"com/example/fyfo/fyfo/BigEndian", "put", "([BIJI)I"⟩ : MethodName) (head1 (Jvm.Cond.code (⟨"com/example/fyfo/fyfo/BigEndian", "put", "([BIJI)I"⟩ : MethodName) prog_1_method_2_code 6 (some .int) :: ws) ({ frames := 0, cells := 0, slots := 0, locals := 0 } : Room)) (fun a U => a = #[(.ref a0x), (.int p1), (.long q1), (.int p2)] ∧ Z.Warmed39 U.vm ∧ U.heap = h0) (fun _ _ _ _ _ => True) (fun _ U o U' => ∃ v L, o = .returned v ∧ Q_rm_put Z a0x p1 q1 p2 tab h0 n0 v U'.heap L ∧ FrameEnd U o U' L ({ frames := 0, cells := 0, slots := 0, locals := 0 } : Room).cells ({ frames := 0, cells := 0, slots := 0, locals := 0 } : Room).slots) := by
  refine MetFree.of_bodySF (plainFor_of_name pn_0) hisR ?_
  intro p e s m args below meth c s₁ Bd hml0 hP hK
  obtain ⟨rfl, hZ, hh⟩ := hP
  have hx := Bd.exec
  have hby := Bd.bytes
  have hml : c.maxLocals = 6 := hml0
  have hown : s.vm.findClass "com/example/fyfo/fyfo/BigEndian" = some m.cls := findClass_of_methodNamed Bd.named
  have hnm := (name_of_methodNamed Bd.named Bd.method).1
  have X0 : Stand p l e ({ frames := 0, cells := 0, slots := 0, locals := 0 } : Room) s m #[(.ref a0x), (.int p1), (.long q1), (.int p2)] below meth c s₁ [] 0 0 := Stand.of_body Bd
  have e0 : s₁.heap = h0 := by rw [← hh, Bd.state]; rfl
  have N0 := Fr.nil n0
  have K0 : Keep h0 h0 [a0x] := Keep.refl h0 [a0x]
  have pre0 : ∀ t, Steps p.tables e below (s₁.setTop (mkF m 0 #[.val (.ref a0x), .val (.int p1), .val (.long q1), .second, .val (.int p2), .unset] [])) t → Steps p.tables e below (s₁.setTop (entryFrame m #[(.ref a0x), (.int p1), (.long q1), (.int p2)] 6)) t := fun t k => castTop (ef_1 m a0x p1 q1 p2) k
  obtain ⟨cl1, Ar1, S1, N1', H1⟩ := (id V0x)
  have hin1 : ¬ ((p1 + (0 : Int32)) < 0 ∨ cl1.slots.size ≤ ((p1 + (0 : Int32))).toNatClampNeg) := inb_of S1 (own_bd (w := (4 : Int32)) hat ⟨by decide, by decide⟩)
  obtain ⟨T2, h2, X2, e2, W2, st2⟩ := stB X0 hx hZ e0 Ar1 (j := (p1 + (0 : Int32))) hin1 (g := (mkF m 29 #[.val (.ref a0x), .val (.int p1), .val (.long q1), .second, .val (.int (4 : Int32)), .val (.int (0 : Int32))] [(.int ((q1.toUInt64 >>> ((24 : Int32) &&& 0x3f).toInt64.toUInt64).toInt64).toInt32.toInt8.toInt32), (.int (p1 + (0 : Int32))), (.ref a0x)])) rfl rfl (hb hby d1_29)
  have V2 : own_Tab Z h2 a0x .byte (12 : Int32) (fun j => .int ((fun i => if i = (p1 + (0 : Int32)) then ((q1.toUInt64 >>> ((24 : Int32) &&& 0x3f).toInt64.toUInt64).toInt64).toInt32.toInt8.toInt32.toInt8.toInt32 else tab i) j)) := (own_Tab.set Ar1 S1 N1' H1 hin1 W2).cong (fun j _ _ => by dsimp only; split <;> rfl)
  have N2 := Fr.snoc X2 N0 g0x
  have Z2 : n0 ≤ h2.size := Nat.le_trans Z0 (Keep.of_wr W2).1
  have K2 : Keep h0 h2 [a0x] := K0.wr W2 (Or.inl (List.mem_of_getElem? (i := 0) rfl))
  obtain ⟨cl3, Ar3, S3, N3', H3⟩ := (id V2)
  have hin3 : ¬ ((p1 + (1 : Int32)) < 0 ∨ cl3.slots.size ≤ ((p1 + (1 : Int32))).toNatClampNeg) := inb_of S3 (own_bd (w := (4 : Int32)) hat ⟨by decide, by decide⟩)
  obtain ⟨T4, h4, X4, e4, W4, st4⟩ := stB X2 hx hZ e2 Ar3 (j := (p1 + (1 : Int32))) hin3 (g := (mkF m 29 #[.val (.ref a0x), .val (.int p1), .val (.long q1), .second, .val (.int (4 : Int32)), .val (.int (1 : Int32))] [(.int ((q1.toUInt64 >>> ((16 : Int32) &&& 0x3f).toInt64.toUInt64).toInt64).toInt32.toInt8.toInt32), (.int (p1 + (1 : Int32))), (.ref a0x)])) rfl rfl (hb hby d1_29)
  have V4 : own_Tab Z h4 a0x .byte (12 : Int32) (fun j => .int ((fun i => if i = (p1 + (1 : Int32)) then ((q1.toUInt64 >>> ((16 : Int32) &&& 0x3f).toInt64.toUInt64).toInt64).toInt32.toInt8.toInt32.toInt8.toInt32 else (fun i => if i = (p1 + (0 : Int32)) then ((q1.toUInt64 >>> ((24 : Int32) &&& 0x3f).toInt64.toUInt64).toInt64).toInt32.toInt8.toInt32.toInt8.toInt32 else tab i) i) j)) := (own_Tab.set Ar3 S3 N3' H3 hin3 W4).cong (fun j _ _ => by dsimp only; split <;> rfl)
  have N4 := Fr.snoc X4 N2 g0x
  have Z4 : n0 ≤ h4.size := Nat.le_trans Z2 (Keep.of_wr W4).1
  have K4 : Keep h0 h4 [a0x] := K2.wr W4 (Or.inl (List.mem_of_getElem? (i := 0) rfl))
  obtain ⟨cl5, Ar5, S5, N5', H5⟩ := (id V4)
  have hin5 : ¬ ((p1 + (2 : Int32)) < 0 ∨ cl5.slots.size ≤ ((p1 + (2 : Int32))).toNatClampNeg) := inb_of S5 (own_bd (w := (4 : Int32)) hat ⟨by decide, by decide⟩)
  obtain ⟨T6, h6, X6, e6, W6, st6⟩ := stB X4 hx hZ e4 Ar5 (j := (p1 + (2 : Int32))) hin5 (g := (mkF m 29 #[.val (.ref a0x), .val (.int p1), .val (.long q1), .second, .val (.int (4 : Int32)), .val (.int (2 : Int32))] [(.int ((q1.toUInt64 >>> ((8 : Int32) &&& 0x3f).toInt64.toUInt64).toInt64).toInt32.toInt8.toInt32), (.int (p1 + (2 : Int32))), (.ref a0x)])) rfl rfl (hb hby d1_29)
  have V6 : own_Tab Z h6 a0x .byte (12 : Int32) (fun j => .int ((fun i => if i = (p1 + (2 : Int32)) then ((q1.toUInt64 >>> ((8 : Int32) &&& 0x3f).toInt64.toUInt64).toInt64).toInt32.toInt8.toInt32.toInt8.toInt32 else (fun i => if i = (p1 + (1 : Int32)) then ((q1.toUInt64 >>> ((16 : Int32) &&& 0x3f).toInt64.toUInt64).toInt64).toInt32.toInt8.toInt32.toInt8.toInt32 else (fun i => if i = (p1 + (0 : Int32)) then ((q1.toUInt64 >>> ((24 : Int32) &&& 0x3f).toInt64.toUInt64).toInt64).toInt32.toInt8.toInt32.toInt8.toInt32 else tab i) i) i) j)) := (own_Tab.set Ar5 S5 N5' H5 hin5 W6).cong (fun j _ _ => by dsimp only; split <;> rfl)
  have N6 := Fr.snoc X6 N4 g0x
  have Z6 : n0 ≤ h6.size := Nat.le_trans Z4 (Keep.of_wr W6).1
  have K6 : Keep h0 h6 [a0x] := K4.wr W6 (Or.inl (List.mem_of_getElem? (i := 0) rfl))
  obtain ⟨cl7, Ar7, S7, N7', H7⟩ := (id V6)
  have hin7 : ¬ ((p1 + (3 : Int32)) < 0 ∨ cl7.slots.size ≤ ((p1 + (3 : Int32))).toNatClampNeg) := inb_of S7 (own_bd (w := (4 : Int32)) hat ⟨by decide, by decide⟩)
  obtain ⟨T8, h8, X8, e8, W8, st8⟩ := stB X6 hx hZ e6 Ar7 (j := (p1 + (3 : Int32))) hin7 (g := (mkF m 29 #[.val (.ref a0x), .val (.int p1), .val (.long q1), .second, .val (.int (4 : Int32)), .val (.int (3 : Int32))] [(.int ((q1.toUInt64 >>> ((0 : Int32) &&& 0x3f).toInt64.toUInt64).toInt64).toInt32.toInt8.toInt32), (.int (p1 + (3 : Int32))), (.ref a0x)])) rfl rfl (hb hby d1_29)
  have V8 : own_Tab Z h8 a0x .byte (12 : Int32) (fun j => .int ((fun i => if i = (p1 + (3 : Int32)) then ((q1.toUInt64 >>> ((0 : Int32) &&& 0x3f).toInt64.toUInt64).toInt64).toInt32.toInt8.toInt32.toInt8.toInt32 else (fun i => if i = (p1 + (2 : Int32)) then ((q1.toUInt64 >>> ((8 : Int32) &&& 0x3f).toInt64.toUInt64).toInt64).toInt32.toInt8.toInt32.toInt8.toInt32 else (fun i => if i = (p1 + (1 : Int32)) then ((q1.toUInt64 >>> ((16 : Int32) &&& 0x3f).toInt64.toUInt64).toInt64).toInt32.toInt8.toInt32.toInt8.toInt32 else (fun i => if i = (p1 + (0 : Int32)) then ((q1.toUInt64 >>> ((24 : Int32) &&& 0x3f).toInt64.toUInt64).toInt64).toInt32.toInt8.toInt32.toInt8.toInt32 else tab i) i) i) i) j)) := (own_Tab.set Ar7 S7 N7' H7 hin7 W8).cong (fun j _ _ => by dsimp only; split <;> rfl)
  have N8 := Fr.snoc X8 N6 g0x
  have Z8 : n0 ≤ h8.size := Nat.le_trans Z6 (Keep.of_wr W8).1
  have K8 : Keep h0 h8 [a0x] := K6.wr W8 (Or.inl (List.mem_of_getElem? (i := 0) rfl))
  obtain ⟨fs, hr, hrun, hended, hW, hsame⟩ := X8.leave (v := some (.int (p1 + (4 : Int32)))) (fun h => by rw [Bd.returns] at h; cases h)
  refine ⟨_, _, pre0 _ ?_, hrun, hended, _, _, rfl, ?_, ⟨_, rfl⟩, hW, hsame.mono (by decide) (by decide)⟩
  · show Steps p.tables e below (s₁.setTop (mkF m 0 #[.val (.ref a0x), .val (.int p1), .val (.long q1), .second, .val (.int p2), .unset] [])) _
    rw [hk]
    show Steps p.tables e below (s₁.setTop (mkF m 0 #[.val (.ref a0x), .val (.int p1), .val (.long q1), .second, .val (.int (4 : Int32)), .unset] [])) _
    refine XS.iconst X0.here hx rfl (hb hby d1_0) ?_
    show Steps p.tables e below (s₁.setTop (mkF m 1 #[.val (.ref a0x), .val (.int p1), .val (.long q1), .second, .val (.int (4 : Int32)), .unset] [(.int (0 : Int32))])) _
    refine XS.istore X0.here hx rfl (hb hby d1_1) rfl (l' := #[.val (.ref a0x), .val (.int p1), .val (.long q1), .second, .val (.int (4 : Int32)), .val (.int (0 : Int32))]) rfl ?_
    show Steps p.tables e below (s₁.setTop (mkF m 3 #[.val (.ref a0x), .val (.int p1), .val (.long q1), .second, .val (.int (4 : Int32)), .val (.int (0 : Int32))] [])) _
    refine XS.iload X0.here hx rfl (hb hby d1_3) rfl ?_
    show Steps p.tables e below (s₁.setTop (mkF m 5 #[.val (.ref a0x), .val (.int p1), .val (.long q1), .second, .val (.int (4 : Int32)), .val (.int (0 : Int32))] [(.int (0 : Int32))])) _
    refine XS.iload X0.here hx rfl (hb hby d1_5) rfl ?_
    show Steps p.tables e below (s₁.setTop (mkF m 7 #[.val (.ref a0x), .val (.int p1), .val (.long q1), .second, .val (.int (4 : Int32)), .val (.int (0 : Int32))] [(.int (4 : Int32)), (.int (0 : Int32))])) _
    refine XS.icmpNo X0.here hx rfl (hb hby d1_7) rfl (tlt (by decide : (0 : Int32) < (4 : Int32))).2.1 ?_
    show Steps p.tables e below (s₁.setTop (mkF m 10 #[.val (.ref a0x), .val (.int p1), .val (.long q1), .second, .val (.int (4 : Int32)), .val (.int (0 : Int32))] [])) _
    refine XS.aloadN X0.here hx rfl (hb hby d1_10) rfl rfl ?_
    show Steps p.tables e below (s₁.setTop (mkF m 11 #[.val (.ref a0x), .val (.int p1), .val (.long q1), .second, .val (.int (4 : Int32)), .val (.int (0 : Int32))] [(.ref a0x)])) _
    refine XS.iloadN X0.here hx rfl (hb hby d1_11) rfl ?_
    show Steps p.tables e below (s₁.setTop (mkF m 12 #[.val (.ref a0x), .val (.int p1), .val (.long q1), .second, .val (.int (4 : Int32)), .val (.int (0 : Int32))] [(.int p1), (.ref a0x)])) _
    refine XS.iload X0.here hx rfl (hb hby d1_12) rfl ?_
    show Steps p.tables e below (s₁.setTop (mkF m 14 #[.val (.ref a0x), .val (.int p1), .val (.long q1), .second, .val (.int (4 : Int32)), .val (.int (0 : Int32))] [(.int (0 : Int32)), (.int p1), (.ref a0x)])) _
    refine XS.iadd X0.here hx rfl (hb hby d1_14) rfl ?_
    show Steps p.tables e below (s₁.setTop (mkF m 15 #[.val (.ref a0x), .val (.int p1), .val (.long q1), .second, .val (.int (4 : Int32)), .val (.int (0 : Int32))] [(.int (p1 + (0 : Int32))), (.ref a0x)])) _
    refine XS.lloadN X0.here hx rfl (hb hby d1_15) rfl ?_
    show Steps p.tables e below (s₁.setTop (mkF m 16 #[.val (.ref a0x), .val (.int p1), .val (.long q1), .second, .val (.int (4 : Int32)), .val (.int (0 : Int32))] [(.long q1), (.int (p1 + (0 : Int32))), (.ref a0x)])) _
    refine XS.bipush X0.here hx rfl (hb hby d1_16) ?_
    show Steps p.tables e below (s₁.setTop (mkF m 18 #[.val (.ref a0x), .val (.int p1), .val (.long q1), .second, .val (.int (4 : Int32)), .val (.int (0 : Int32))] [(.int (8 : Int32)), (.long q1), (.int (p1 + (0 : Int32))), (.ref a0x)])) _
    refine XS.iload X0.here hx rfl (hb hby d1_18) rfl ?_
    show Steps p.tables e below (s₁.setTop (mkF m 20 #[.val (.ref a0x), .val (.int p1), .val (.long q1), .second, .val (.int (4 : Int32)), .val (.int (0 : Int32))] [(.int (4 : Int32)), (.int (8 : Int32)), (.long q1), (.int (p1 + (0 : Int32))), (.ref a0x)])) _
    refine XS.iconst X0.here hx rfl (hb hby d1_20) ?_
    show Steps p.tables e below (s₁.setTop (mkF m 21 #[.val (.ref a0x), .val (.int p1), .val (.long q1), .second, .val (.int (4 : Int32)), .val (.int (0 : Int32))] [(.int (1 : Int32)), (.int (4 : Int32)), (.int (8 : Int32)), (.long q1), (.int (p1 + (0 : Int32))), (.ref a0x)])) _
    refine XS.isub X0.here hx rfl (hb hby d1_21) rfl ?_
    show Steps p.tables e below (s₁.setTop (mkF m 22 #[.val (.ref a0x), .val (.int p1), .val (.long q1), .second, .val (.int (4 : Int32)), .val (.int (0 : Int32))] [(.int (3 : Int32)), (.int (8 : Int32)), (.long q1), (.int (p1 + (0 : Int32))), (.ref a0x)])) _
    refine XS.iload X0.here hx rfl (hb hby d1_22) rfl ?_
    show Steps p.tables e below (s₁.setTop (mkF m 24 #[.val (.ref a0x), .val (.int p1), .val (.long q1), .second, .val (.int (4 : Int32)), .val (.int (0 : Int32))] [(.int (0 : Int32)), (.int (3 : Int32)), (.int (8 : Int32)), (.long q1), (.int (p1 + (0 : Int32))), (.ref a0x)])) _
    refine XS.isub X0.here hx rfl (hb hby d1_24) rfl ?_
    show Steps p.tables e below (s₁.setTop (mkF m 25 #[.val (.ref a0x), .val (.int p1), .val (.long q1), .second, .val (.int (4 : Int32)), .val (.int (0 : Int32))] [(.int (3 : Int32)), (.int (8 : Int32)), (.long q1), (.int (p1 + (0 : Int32))), (.ref a0x)])) _
    refine XS.imul X0.here hx rfl (hb hby d1_25) rfl ?_
    show Steps p.tables e below (s₁.setTop (mkF m 26 #[.val (.ref a0x), .val (.int p1), .val (.long q1), .second, .val (.int (4 : Int32)), .val (.int (0 : Int32))] [(.int (24 : Int32)), (.long q1), (.int (p1 + (0 : Int32))), (.ref a0x)])) _
    refine XS.lushr X0.here hx rfl (hb hby d1_26) rfl ?_
    show Steps p.tables e below (s₁.setTop (mkF m 27 #[.val (.ref a0x), .val (.int p1), .val (.long q1), .second, .val (.int (4 : Int32)), .val (.int (0 : Int32))] [(.long ((q1.toUInt64 >>> ((24 : Int32) &&& 0x3f).toInt64.toUInt64).toInt64)), (.int (p1 + (0 : Int32))), (.ref a0x)])) _
    refine XS.l2i X0.here hx rfl (hb hby d1_27) rfl ?_
    show Steps p.tables e below (s₁.setTop (mkF m 28 #[.val (.ref a0x), .val (.int p1), .val (.long q1), .second, .val (.int (4 : Int32)), .val (.int (0 : Int32))] [(.int ((q1.toUInt64 >>> ((24 : Int32) &&& 0x3f).toInt64.toUInt64).toInt64).toInt32), (.int (p1 + (0 : Int32))), (.ref a0x)])) _
    refine XS.i2b X0.here hx rfl (hb hby d1_28) rfl ?_
    show Steps p.tables e below (s₁.setTop (mkF m 29 #[.val (.ref a0x), .val (.int p1), .val (.long q1), .second, .val (.int (4 : Int32)), .val (.int (0 : Int32))] [(.int ((q1.toUInt64 >>> ((24 : Int32) &&& 0x3f).toInt64.toUInt64).toInt64).toInt32.toInt8.toInt32), (.int (p1 + (0 : Int32))), (.ref a0x)])) _
    refine st2 _ ?_
    show Steps p.tables e below (T2.setTop (mkF m 30 #[.val (.ref a0x), .val (.int p1), .val (.long q1), .second, .val (.int (4 : Int32)), .val (.int (0 : Int32))] [])) _
    refine XS.iinc X2.here hx rfl (hb hby d1_30) rfl (l' := #[.val (.ref a0x), .val (.int p1), .val (.long q1), .second, .val (.int (4 : Int32)), .val (.int (1 : Int32))]) rfl ?_
    show Steps p.tables e below (T2.setTop (mkF m 33 #[.val (.ref a0x), .val (.int p1), .val (.long q1), .second, .val (.int (4 : Int32)), .val (.int (1 : Int32))] [])) _
    refine XS.goto X2.here hx rfl (pc0 := 33) (pc' := 3) rfl (hb hby d1_33) (by decide) (by decide) ?_
    show Steps p.tables e below (T2.setTop (mkF m 3 #[.val (.ref a0x), .val (.int p1), .val (.long q1), .second, .val (.int (4 : Int32)), .val (.int (1 : Int32))] [])) _
    refine XS.iload X2.here hx rfl (hb hby d1_3) rfl ?_
    show Steps p.tables e below (T2.setTop (mkF m 5 #[.val (.ref a0x), .val (.int p1), .val (.long q1), .second, .val (.int (4 : Int32)), .val (.int (1 : Int32))] [(.int (1 : Int32))])) _
    refine XS.iload X2.here hx rfl (hb hby d1_5) rfl ?_
    show Steps p.tables e below (T2.setTop (mkF m 7 #[.val (.ref a0x), .val (.int p1), .val (.long q1), .second, .val (.int (4 : Int32)), .val (.int (1 : Int32))] [(.int (4 : Int32)), (.int (1 : Int32))])) _
    refine XS.icmpNo X2.here hx rfl (hb hby d1_7) rfl (tlt (by decide : (1 : Int32) < (4 : Int32))).2.1 ?_
    show Steps p.tables e below (T2.setTop (mkF m 10 #[.val (.ref a0x), .val (.int p1), .val (.long q1), .second, .val (.int (4 : Int32)), .val (.int (1 : Int32))] [])) _
    refine XS.aloadN X2.here hx rfl (hb hby d1_10) rfl rfl ?_
    show Steps p.tables e below (T2.setTop (mkF m 11 #[.val (.ref a0x), .val (.int p1), .val (.long q1), .second, .val (.int (4 : Int32)), .val (.int (1 : Int32))] [(.ref a0x)])) _
    refine XS.iloadN X2.here hx rfl (hb hby d1_11) rfl ?_
    show Steps p.tables e below (T2.setTop (mkF m 12 #[.val (.ref a0x), .val (.int p1), .val (.long q1), .second, .val (.int (4 : Int32)), .val (.int (1 : Int32))] [(.int p1), (.ref a0x)])) _
    refine XS.iload X2.here hx rfl (hb hby d1_12) rfl ?_
    show Steps p.tables e below (T2.setTop (mkF m 14 #[.val (.ref a0x), .val (.int p1), .val (.long q1), .second, .val (.int (4 : Int32)), .val (.int (1 : Int32))] [(.int (1 : Int32)), (.int p1), (.ref a0x)])) _
    refine XS.iadd X2.here hx rfl (hb hby d1_14) rfl ?_
    show Steps p.tables e below (T2.setTop (mkF m 15 #[.val (.ref a0x), .val (.int p1), .val (.long q1), .second, .val (.int (4 : Int32)), .val (.int (1 : Int32))] [(.int (p1 + (1 : Int32))), (.ref a0x)])) _
    refine XS.lloadN X2.here hx rfl (hb hby d1_15) rfl ?_
    show Steps p.tables e below (T2.setTop (mkF m 16 #[.val (.ref a0x), .val (.int p1), .val (.long q1), .second, .val (.int (4 : Int32)), .val (.int (1 : Int32))] [(.long q1), (.int (p1 + (1 : Int32))), (.ref a0x)])) _
    refine XS.bipush X2.here hx rfl (hb hby d1_16) ?_
    show Steps p.tables e below (T2.setTop (mkF m 18 #[.val (.ref a0x), .val (.int p1), .val (.long q1), .second, .val (.int (4 : Int32)), .val (.int (1 : Int32))] [(.int (8 : Int32)), (.long q1), (.int (p1 + (1 : Int32))), (.ref a0x)])) _
    refine XS.iload X2.here hx rfl (hb hby d1_18) rfl ?_
    show Steps p.tables e below (T2.setTop (mkF m 20 #[.val (.ref a0x), .val (.int p1), .val (.long q1), .second, .val (.int (4 : Int32)), .val (.int (1 : Int32))] [(.int (4 : Int32)), (.int (8 : Int32)), (.long q1), (.int (p1 + (1 : Int32))), (.ref a0x)])) _
    refine XS.iconst X2.here hx rfl (hb hby d1_20) ?_
    show Steps p.tables e below (T2.setTop (mkF m 21 #[.val (.ref a0x), .val (.int p1), .val (.long q1), .second, .val (.int (4 : Int32)), .val (.int (1 : Int32))] [(.int (1 : Int32)), (.int (4 : Int32)), (.int (8 : Int32)), (.long q1), (.int (p1 + (1 : Int32))), (.ref a0x)])) _
    refine XS.isub X2.here hx rfl (hb hby d1_21) rfl ?_
    show Steps p.tables e below (T2.setTop (mkF m 22 #[.val (.ref a0x), .val (.int p1), .val (.long q1), .second, .val (.int (4 : Int32)), .val (.int (1 : Int32))] [(.int (3 : Int32)), (.int (8 : Int32)), (.long q1), (.int (p1 + (1 : Int32))), (.ref a0x)])) _
    refine XS.iload X2.here hx rfl (hb hby d1_22) rfl ?_
    show Steps p.tables e below (T2.setTop (mkF m 24 #[.val (.ref a0x), .val (.int p1), .val (.long q1), .second, .val (.int (4 : Int32)), .val (.int (1 : Int32))] [(.int (1 : Int32)), (.int (3 : Int32)), (.int (8 : Int32)), (.long q1), (.int (p1 + (1 : Int32))), (.ref a0x)])) _
    refine XS.isub X2.here hx rfl (hb hby d1_24) rfl ?_
    show Steps p.tables e below (T2.setTop (mkF m 25 #[.val (.ref a0x), .val (.int p1), .val (.long q1), .second, .val (.int (4 : Int32)), .val (.int (1 : Int32))] [(.int (2 : Int32)), (.int (8 : Int32)), (.long q1), (.int (p1 + (1 : Int32))), (.ref a0x)])) _
    refine XS.imul X2.here hx rfl (hb hby d1_25) rfl ?_
    show Steps p.tables e below (T2.setTop (mkF m 26 #[.val (.ref a0x), .val (.int p1), .val (.long q1), .second, .val (.int (4 : Int32)), .val (.int (1 : Int32))] [(.int (16 : Int32)), (.long q1), (.int (p1 + (1 : Int32))), (.ref a0x)])) _
    refine XS.lushr X2.here hx rfl (hb hby d1_26) rfl ?_
    show Steps p.tables e below (T2.setTop (mkF m 27 #[.val (.ref a0x), .val (.int p1), .val (.long q1), .second, .val (.int (4 : Int32)), .val (.int (1 : Int32))] [(.long ((q1.toUInt64 >>> ((16 : Int32) &&& 0x3f).toInt64.toUInt64).toInt64)), (.int (p1 + (1 : Int32))), (.ref a0x)])) _
    refine XS.l2i X2.here hx rfl (hb hby d1_27) rfl ?_
    show Steps p.tables e below (T2.setTop (mkF m 28 #[.val (.ref a0x), .val (.int p1), .val (.long q1), .second, .val (.int (4 : Int32)), .val (.int (1 : Int32))] [(.int ((q1.toUInt64 >>> ((16 : Int32) &&& 0x3f).toInt64.toUInt64).toInt64).toInt32), (.int (p1 + (1 : Int32))), (.ref a0x)])) _
    refine XS.i2b X2.here hx rfl (hb hby d1_28) rfl ?_
    show Steps p.tables e below (T2.setTop (mkF m 29 #[.val (.ref a0x), .val (.int p1), .val (.long q1), .second, .val (.int (4 : Int32)), .val (.int (1 : Int32))] [(.int ((q1.toUInt64 >>> ((16 : Int32) &&& 0x3f).toInt64.toUInt64).toInt64).toInt32.toInt8.toInt32), (.int (p1 + (1 : Int32))), (.ref a0x)])) _
    refine st4 _ ?_
    show Steps p.tables e below (T4.setTop (mkF m 30 #[.val (.ref a0x), .val (.int p1), .val (.long q1), .second, .val (.int (4 : Int32)), .val (.int (1 : Int32))] [])) _
    refine XS.iinc X4.here hx rfl (hb hby d1_30) rfl (l' := #[.val (.ref a0x), .val (.int p1), .val (.long q1), .second, .val (.int (4 : Int32)), .val (.int (2 : Int32))]) rfl ?_
    show Steps p.tables e below (T4.setTop (mkF m 33 #[.val (.ref a0x), .val (.int p1), .val (.long q1), .second, .val (.int (4 : Int32)), .val (.int (2 : Int32))] [])) _
    refine XS.goto X4.here hx rfl (pc0 := 33) (pc' := 3) rfl (hb hby d1_33) (by decide) (by decide) ?_
    show Steps p.tables e below (T4.setTop (mkF m 3 #[.val (.ref a0x), .val (.int p1), .val (.long q1), .second, .val (.int (4 : Int32)), .val (.int (2 : Int32))] [])) _
    refine XS.iload X4.here hx rfl (hb hby d1_3) rfl ?_
    show Steps p.tables e below (T4.setTop (mkF m 5 #[.val (.ref a0x), .val (.int p1), .val (.long q1), .second, .val (.int (4 : Int32)), .val (.int (2 : Int32))] [(.int (2 : Int32))])) _
    refine XS.iload X4.here hx rfl (hb hby d1_5) rfl ?_
    show Steps p.tables e below (T4.setTop (mkF m 7 #[.val (.ref a0x), .val (.int p1), .val (.long q1), .second, .val (.int (4 : Int32)), .val (.int (2 : Int32))] [(.int (4 : Int32)), (.int (2 : Int32))])) _
    refine XS.icmpNo X4.here hx rfl (hb hby d1_7) rfl (tlt (by decide : (2 : Int32) < (4 : Int32))).2.1 ?_
    show Steps p.tables e below (T4.setTop (mkF m 10 #[.val (.ref a0x), .val (.int p1), .val (.long q1), .second, .val (.int (4 : Int32)), .val (.int (2 : Int32))] [])) _
    refine XS.aloadN X4.here hx rfl (hb hby d1_10) rfl rfl ?_
    show Steps p.tables e below (T4.setTop (mkF m 11 #[.val (.ref a0x), .val (.int p1), .val (.long q1), .second, .val (.int (4 : Int32)), .val (.int (2 : Int32))] [(.ref a0x)])) _
    refine XS.iloadN X4.here hx rfl (hb hby d1_11) rfl ?_
    show Steps p.tables e below (T4.setTop (mkF m 12 #[.val (.ref a0x), .val (.int p1), .val (.long q1), .second, .val (.int (4 : Int32)), .val (.int (2 : Int32))] [(.int p1), (.ref a0x)])) _
    refine XS.iload X4.here hx rfl (hb hby d1_12) rfl ?_
    show Steps p.tables e below (T4.setTop (mkF m 14 #[.val (.ref a0x), .val (.int p1), .val (.long q1), .second, .val (.int (4 : Int32)), .val (.int (2 : Int32))] [(.int (2 : Int32)), (.int p1), (.ref a0x)])) _
    refine XS.iadd X4.here hx rfl (hb hby d1_14) rfl ?_
    show Steps p.tables e below (T4.setTop (mkF m 15 #[.val (.ref a0x), .val (.int p1), .val (.long q1), .second, .val (.int (4 : Int32)), .val (.int (2 : Int32))] [(.int (p1 + (2 : Int32))), (.ref a0x)])) _
    refine XS.lloadN X4.here hx rfl (hb hby d1_15) rfl ?_
    show Steps p.tables e below (T4.setTop (mkF m 16 #[.val (.ref a0x), .val (.int p1), .val (.long q1), .second, .val (.int (4 : Int32)), .val (.int (2 : Int32))] [(.long q1), (.int (p1 + (2 : Int32))), (.ref a0x)])) _
    refine XS.bipush X4.here hx rfl (hb hby d1_16) ?_
    show Steps p.tables e below (T4.setTop (mkF m 18 #[.val (.ref a0x), .val (.int p1), .val (.long q1), .second, .val (.int (4 : Int32)), .val (.int (2 : Int32))] [(.int (8 : Int32)), (.long q1), (.int (p1 + (2 : Int32))), (.ref a0x)])) _
    refine XS.iload X4.here hx rfl (hb hby d1_18) rfl ?_
    show Steps p.tables e below (T4.setTop (mkF m 20 #[.val (.ref a0x), .val (.int p1), .val (.long q1), .second, .val (.int (4 : Int32)), .val (.int (2 : Int32))] [(.int (4 : Int32)), (.int (8 : Int32)), (.long q1), (.int (p1 + (2 : Int32))), (.ref a0x)])) _
    refine XS.iconst X4.here hx rfl (hb hby d1_20) ?_
    show Steps p.tables e below (T4.setTop (mkF m 21 #[.val (.ref a0x), .val (.int p1), .val (.long q1), .second, .val (.int (4 : Int32)), .val (.int (2 : Int32))] [(.int (1 : Int32)), (.int (4 : Int32)), (.int (8 : Int32)), (.long q1), (.int (p1 + (2 : Int32))), (.ref a0x)])) _
    refine XS.isub X4.here hx rfl (hb hby d1_21) rfl ?_
    show Steps p.tables e below (T4.setTop (mkF m 22 #[.val (.ref a0x), .val (.int p1), .val (.long q1), .second, .val (.int (4 : Int32)), .val (.int (2 : Int32))] [(.int (3 : Int32)), (.int (8 : Int32)), (.long q1), (.int (p1 + (2 : Int32))), (.ref a0x)])) _
    refine XS.iload X4.here hx rfl (hb hby d1_22) rfl ?_
    show Steps p.tables e below (T4.setTop (mkF m 24 #[.val (.ref a0x), .val (.int p1), .val (.long q1), .second, .val (.int (4 : Int32)), .val (.int (2 : Int32))] [(.int (2 : Int32)), (.int (3 : Int32)), (.int (8 : Int32)), (.long q1), (.int (p1 + (2 : Int32))), (.ref a0x)])) _
    refine XS.isub X4.here hx rfl (hb hby d1_24) rfl ?_
    show Steps p.tables e below (T4.setTop (mkF m 25 #[.val (.ref a0x), .val (.int p1), .val (.long q1), .second, .val (.int (4 : Int32)), .val (.int (2 : Int32))] [(.int (1 : Int32)), (.int (8 : Int32)), (.long q1), (.int (p1 + (2 : Int32))), (.ref a0x)])) _
    refine XS.imul X4.here hx rfl (hb hby d1_25) rfl ?_
    show Steps p.tables e below (T4.setTop (mkF m 26 #[.val (.ref a0x), .val (.int p1), .val (.long q1), .second, .val (.int (4 : Int32)), .val (.int (2 : Int32))] [(.int (8 : Int32)), (.long q1), (.int (p1 + (2 : Int32))), (.ref a0x)])) _
    refine XS.lushr X4.here hx rfl (hb hby d1_26) rfl ?_
    show Steps p.tables e below (T4.setTop (mkF m 27 #[.val (.ref a0x), .val (.int p1), .val (.long q1), .second, .val (.int (4 : Int32)), .val (.int (2 : Int32))] [(.long ((q1.toUInt64 >>> ((8 : Int32) &&& 0x3f).toInt64.toUInt64).toInt64)), (.int (p1 + (2 : Int32))), (.ref a0x)])) _
    refine XS.l2i X4.here hx rfl (hb hby d1_27) rfl ?_
    show Steps p.tables e below (T4.setTop (mkF m 28 #[.val (.ref a0x), .val (.int p1), .val (.long q1), .second, .val (.int (4 : Int32)), .val (.int (2 : Int32))] [(.int ((q1.toUInt64 >>> ((8 : Int32) &&& 0x3f).toInt64.toUInt64).toInt64).toInt32), (.int (p1 + (2 : Int32))), (.ref a0x)])) _
    refine XS.i2b X4.here hx rfl (hb hby d1_28) rfl ?_
    show Steps p.tables e below (T4.setTop (mkF m 29 #[.val (.ref a0x), .val (.int p1), .val (.long q1), .second, .val (.int (4 : Int32)), .val (.int (2 : Int32))] [(.int ((q1.toUInt64 >>> ((8 : Int32) &&& 0x3f).toInt64.toUInt64).toInt64).toInt32.toInt8.toInt32), (.int (p1 + (2 : Int32))), (.ref a0x)])) _
    refine st6 _ ?_
    show Steps p.tables e below (T6.setTop (mkF m 30 #[.val (.ref a0x), .val (.int p1), .val (.long q1), .second, .val (.int (4 : Int32)), .val (.int (2 : Int32))] [])) _
    refine XS.iinc X6.here hx rfl (hb hby d1_30) rfl (l' := #[.val (.ref a0x), .val (.int p1), .val (.long q1), .second, .val (.int (4 : Int32)), .val (.int (3 : Int32))]) rfl ?_
    show Steps p.tables e below (T6.setTop (mkF m 33 #[.val (.ref a0x), .val (.int p1), .val (.long q1), .second, .val (.int (4 : Int32)), .val (.int (3 : Int32))] [])) _
    refine XS.goto X6.here hx rfl (pc0 := 33) (pc' := 3) rfl (hb hby d1_33) (by decide) (by decide) ?_
    show Steps p.tables e below (T6.setTop (mkF m 3 #[.val (.ref a0x), .val (.int p1), .val (.long q1), .second, .val (.int (4 : Int32)), .val (.int (3 : Int32))] [])) _
    refine XS.iload X6.here hx rfl (hb hby d1_3) rfl ?_
    show Steps p.tables e below (T6.setTop (mkF m 5 #[.val (.ref a0x), .val (.int p1), .val (.long q1), .second, .val (.int (4 : Int32)), .val (.int (3 : Int32))] [(.int (3 : Int32))])) _
    refine XS.iload X6.here hx rfl (hb hby d1_5) rfl ?_
    show Steps p.tables e below (T6.setTop (mkF m 7 #[.val (.ref a0x), .val (.int p1), .val (.long q1), .second, .val (.int (4 : Int32)), .val (.int (3 : Int32))] [(.int (4 : Int32)), (.int (3 : Int32))])) _
    refine XS.icmpNo X6.here hx rfl (hb hby d1_7) rfl (tlt (by decide : (3 : Int32) < (4 : Int32))).2.1 ?_
    show Steps p.tables e below (T6.setTop (mkF m 10 #[.val (.ref a0x), .val (.int p1), .val (.long q1), .second, .val (.int (4 : Int32)), .val (.int (3 : Int32))] [])) _
    refine XS.aloadN X6.here hx rfl (hb hby d1_10) rfl rfl ?_
    show Steps p.tables e below (T6.setTop (mkF m 11 #[.val (.ref a0x), .val (.int p1), .val (.long q1), .second, .val (.int (4 : Int32)), .val (.int (3 : Int32))] [(.ref a0x)])) _
    refine XS.iloadN X6.here hx rfl (hb hby d1_11) rfl ?_
    show Steps p.tables e below (T6.setTop (mkF m 12 #[.val (.ref a0x), .val (.int p1), .val (.long q1), .second, .val (.int (4 : Int32)), .val (.int (3 : Int32))] [(.int p1), (.ref a0x)])) _
    refine XS.iload X6.here hx rfl (hb hby d1_12) rfl ?_
    show Steps p.tables e below (T6.setTop (mkF m 14 #[.val (.ref a0x), .val (.int p1), .val (.long q1), .second, .val (.int (4 : Int32)), .val (.int (3 : Int32))] [(.int (3 : Int32)), (.int p1), (.ref a0x)])) _
    refine XS.iadd X6.here hx rfl (hb hby d1_14) rfl ?_
    show Steps p.tables e below (T6.setTop (mkF m 15 #[.val (.ref a0x), .val (.int p1), .val (.long q1), .second, .val (.int (4 : Int32)), .val (.int (3 : Int32))] [(.int (p1 + (3 : Int32))), (.ref a0x)])) _
    refine XS.lloadN X6.here hx rfl (hb hby d1_15) rfl ?_
    show Steps p.tables e below (T6.setTop (mkF m 16 #[.val (.ref a0x), .val (.int p1), .val (.long q1), .second, .val (.int (4 : Int32)), .val (.int (3 : Int32))] [(.long q1), (.int (p1 + (3 : Int32))), (.ref a0x)])) _
    refine XS.bipush X6.here hx rfl (hb hby d1_16) ?_
    show Steps p.tables e below (T6.setTop (mkF m 18 #[.val (.ref a0x), .val (.int p1), .val (.long q1), .second, .val (.int (4 : Int32)), .val (.int (3 : Int32))] [(.int (8 : Int32)), (.long q1), (.int (p1 + (3 : Int32))), (.ref a0x)])) _
    refine XS.iload X6.here hx rfl (hb hby d1_18) rfl ?_
    show Steps p.tables e below (T6.setTop (mkF m 20 #[.val (.ref a0x), .val (.int p1), .val (.long q1), .second, .val (.int (4 : Int32)), .val (.int (3 : Int32))] [(.int (4 : Int32)), (.int (8 : Int32)), (.long q1), (.int (p1 + (3 : Int32))), (.ref a0x)])) _
    refine XS.iconst X6.here hx rfl (hb hby d1_20) ?_
    show Steps p.tables e below (T6.setTop (mkF m 21 #[.val (.ref a0x), .val (.int p1), .val (.long q1), .second, .val (.int (4 : Int32)), .val (.int (3 : Int32))] [(.int (1 : Int32)), (.int (4 : Int32)), (.int (8 : Int32)), (.long q1), (.int (p1 + (3 : Int32))), (.ref a0x)])) _
    refine XS.isub X6.here hx rfl (hb hby d1_21) rfl ?_
    show Steps p.tables e below (T6.setTop (mkF m 22 #[.val (.ref a0x), .val (.int p1), .val (.long q1), .second, .val (.int (4 : Int32)), .val (.int (3 : Int32))] [(.int (3 : Int32)), (.int (8 : Int32)), (.long q1), (.int (p1 + (3 : Int32))), (.ref a0x)])) _
    refine XS.iload X6.here hx rfl (hb hby d1_22) rfl ?_
    show Steps p.tables e below (T6.setTop (mkF m 24 #[.val (.ref a0x), .val (.int p1), .val (.long q1), .second, .val (.int (4 : Int32)), .val (.int (3 : Int32))] [(.int (3 : Int32)), (.int (3 : Int32)), (.int (8 : Int32)), (.long q1), (.int (p1 + (3 : Int32))), (.ref a0x)])) _
    refine XS.isub X6.here hx rfl (hb hby d1_24) rfl ?_
    show Steps p.tables e below (T6.setTop (mkF m 25 #[.val (.ref a0x), .val (.int p1), .val (.long q1), .second, .val (.int (4 : Int32)), .val (.int (3 : Int32))] [(.int (0 : Int32)), (.int (8 : Int32)), (.long q1), (.int (p1 + (3 : Int32))), (.ref a0x)])) _
    refine XS.imul X6.here hx rfl (hb hby d1_25) rfl ?_
    show Steps p.tables e below (T6.setTop (mkF m 26 #[.val (.ref a0x), .val (.int p1), .val (.long q1), .second, .val (.int (4 : Int32)), .val (.int (3 : Int32))] [(.int (0 : Int32)), (.long q1), (.int (p1 + (3 : Int32))), (.ref a0x)])) _
    refine XS.lushr X6.here hx rfl (hb hby d1_26) rfl ?_
    show Steps p.tables e below (T6.setTop (mkF m 27 #[.val (.ref a0x), .val (.int p1), .val (.long q1), .second, .val (.int (4 : Int32)), .val (.int (3 : Int32))] [(.long ((q1.toUInt64 >>> ((0 : Int32) &&& 0x3f).toInt64.toUInt64).toInt64)), (.int (p1 + (3 : Int32))), (.ref a0x)])) _
    refine XS.l2i X6.here hx rfl (hb hby d1_27) rfl ?_
    show Steps p.tables e below (T6.setTop (mkF m 28 #[.val (.ref a0x), .val (.int p1), .val (.long q1), .second, .val (.int (4 : Int32)), .val (.int (3 : Int32))] [(.int ((q1.toUInt64 >>> ((0 : Int32) &&& 0x3f).toInt64.toUInt64).toInt64).toInt32), (.int (p1 + (3 : Int32))), (.ref a0x)])) _
    refine XS.i2b X6.here hx rfl (hb hby d1_28) rfl ?_
    show Steps p.tables e below (T6.setTop (mkF m 29 #[.val (.ref a0x), .val (.int p1), .val (.long q1), .second, .val (.int (4 : Int32)), .val (.int (3 : Int32))] [(.int ((q1.toUInt64 >>> ((0 : Int32) &&& 0x3f).toInt64.toUInt64).toInt64).toInt32.toInt8.toInt32), (.int (p1 + (3 : Int32))), (.ref a0x)])) _
    refine st8 _ ?_
    show Steps p.tables e below (T8.setTop (mkF m 30 #[.val (.ref a0x), .val (.int p1), .val (.long q1), .second, .val (.int (4 : Int32)), .val (.int (3 : Int32))] [])) _
    refine XS.iinc X8.here hx rfl (hb hby d1_30) rfl (l' := #[.val (.ref a0x), .val (.int p1), .val (.long q1), .second, .val (.int (4 : Int32)), .val (.int (4 : Int32))]) rfl ?_
    show Steps p.tables e below (T8.setTop (mkF m 33 #[.val (.ref a0x), .val (.int p1), .val (.long q1), .second, .val (.int (4 : Int32)), .val (.int (4 : Int32))] [])) _
    refine XS.goto X8.here hx rfl (pc0 := 33) (pc' := 3) rfl (hb hby d1_33) (by decide) (by decide) ?_
    show Steps p.tables e below (T8.setTop (mkF m 3 #[.val (.ref a0x), .val (.int p1), .val (.long q1), .second, .val (.int (4 : Int32)), .val (.int (4 : Int32))] [])) _
    refine XS.iload X8.here hx rfl (hb hby d1_3) rfl ?_
    show Steps p.tables e below (T8.setTop (mkF m 5 #[.val (.ref a0x), .val (.int p1), .val (.long q1), .second, .val (.int (4 : Int32)), .val (.int (4 : Int32))] [(.int (4 : Int32))])) _
    refine XS.iload X8.here hx rfl (hb hby d1_5) rfl ?_
    show Steps p.tables e below (T8.setTop (mkF m 7 #[.val (.ref a0x), .val (.int p1), .val (.long q1), .second, .val (.int (4 : Int32)), .val (.int (4 : Int32))] [(.int (4 : Int32)), (.int (4 : Int32))])) _
    refine XS.icmpYes X8.here hx rfl (pc0 := 7) (pc' := 36) rfl (hb hby d1_7) rfl (flt (by decide : ¬ ((4 : Int32) < (4 : Int32)))).2.1 (by decide) (by decide) ?_
    show Steps p.tables e below (T8.setTop (mkF m 36 #[.val (.ref a0x), .val (.int p1), .val (.long q1), .second, .val (.int (4 : Int32)), .val (.int (4 : Int32))] [])) _
    refine XS.iloadN X8.here hx rfl (hb hby d1_36) rfl ?_
    show Steps p.tables e below (T8.setTop (mkF m 37 #[.val (.ref a0x), .val (.int p1), .val (.long q1), .second, .val (.int (4 : Int32)), .val (.int (4 : Int32))] [(.int p1)])) _
    refine XS.iload X8.here hx rfl (hb hby d1_37) rfl ?_
    show Steps p.tables e below (T8.setTop (mkF m 39 #[.val (.ref a0x), .val (.int p1), .val (.long q1), .second, .val (.int (4 : Int32)), .val (.int (4 : Int32))] [(.int (4 : Int32)), (.int p1)])) _
    refine XS.iadd X8.here hx rfl (hb hby d1_39) rfl ?_
    show Steps p.tables e below (T8.setTop (mkF m 40 #[.val (.ref a0x), .val (.int p1), .val (.long q1), .second, .val (.int (4 : Int32)), .val (.int (4 : Int32))] [(.int (p1 + (4 : Int32)))])) _
    exact retI X8 hx Bd.returns (hb hby d1_40) hr
  · show Q_rm_put Z a0x p1 q1 p2 tab h0 n0 _ T8.heap _
    rw [e8]
    exact ⟨(by rw [hk]), N8, K8, (by rw [hk]; exact (own_Tab.cong V8 (fun j _ _ => by simp [own_putF, own_b8, own_byte, (by decide : (0 : Int32) < 4), (by decide : (1 : Int32) < 4), (by decide : (2 : Int32) < 4), (by decide : (3 : Int32) < 4), (by decide : ¬ (4 : Int32) < 4), (by decide : ¬ (5 : Int32) < 4), (by decide : ¬ (6 : Int32) < 4), (by decide : ¬ (7 : Int32) < 4)])))⟩
set_option maxRecDepth 65536 in
set_option maxHeartbeats 40000000 in
theorem rm_put5 (l : Launch) (Z : State) (a0 : Array Value) (hw : ∀ d ∈ tables_1, d.before a0 Z = true) (ws : List Jvm.Cond) (a0x : Addr) (p1 : Int32) (q1 : Int64) (p2 : Int32) (tab : Int32 → Int32) (h0 : Heap) (n0 : Nat) (Z0 : n0 ≤ h0.size) (V0x : own_Tab Z h0 a0x .byte (12 : Int32) (fun j => .int (tab j))) (g0x : n0 ≤ a0x) (hat : 0 ≤ p1.toInt ∧ p1.toInt + ((5 : Int32)).toInt ≤ 12) (hk : p2 = (5 : Int32)) :
    MetFree l (⟨"com/example/fyfo/fyfo/BigEndian", "put", "([BIJI)I"⟩ : MethodName) (head1 (Jvm.Cond.code (⟨"com/example/fyfo/fyfo/BigEndian", "put", "([BIJI)I"⟩ : MethodName) prog_1_method_2_code 6 (some .int) :: ws) ({ frames := 0, cells := 0, slots := 0, locals := 0 } : Room)) (fun a U => a = #[(.ref a0x), (.int p1), (.long q1), (.int p2)] ∧ Z.Warmed39 U.vm ∧ U.heap = h0) (fun _ _ _ _ _ => True) (fun _ U o U' => ∃ v L, o = .returned v ∧ Q_rm_put Z a0x p1 q1 p2 tab h0 n0 v U'.heap L ∧ FrameEnd U o U' L ({ frames := 0, cells := 0, slots := 0, locals := 0 } : Room).cells ({ frames := 0, cells := 0, slots := 0, locals := 0 } : Room).slots) := by
  refine MetFree.of_bodySF (plainFor_of_name pn_0) hisR ?_
  intro p e s m args below meth c s₁ Bd hml0 hP hK
  obtain ⟨rfl, hZ, hh⟩ := hP
  have hx := Bd.exec
  have hby := Bd.bytes
  have hml : c.maxLocals = 6 := hml0
  have hown : s.vm.findClass "com/example/fyfo/fyfo/BigEndian" = some m.cls := findClass_of_methodNamed Bd.named
  have hnm := (name_of_methodNamed Bd.named Bd.method).1
  have X0 : Stand p l e ({ frames := 0, cells := 0, slots := 0, locals := 0 } : Room) s m #[(.ref a0x), (.int p1), (.long q1), (.int p2)] below meth c s₁ [] 0 0 := Stand.of_body Bd
  have e0 : s₁.heap = h0 := by rw [← hh, Bd.state]; rfl
  have N0 := Fr.nil n0
  have K0 : Keep h0 h0 [a0x] := Keep.refl h0 [a0x]
  have pre0 : ∀ t, Steps p.tables e below (s₁.setTop (mkF m 0 #[.val (.ref a0x), .val (.int p1), .val (.long q1), .second, .val (.int p2), .unset] [])) t → Steps p.tables e below (s₁.setTop (entryFrame m #[(.ref a0x), (.int p1), (.long q1), (.int p2)] 6)) t := fun t k => castTop (ef_1 m a0x p1 q1 p2) k
  obtain ⟨cl1, Ar1, S1, N1', H1⟩ := (id V0x)
  have hin1 : ¬ ((p1 + (0 : Int32)) < 0 ∨ cl1.slots.size ≤ ((p1 + (0 : Int32))).toNatClampNeg) := inb_of S1 (own_bd (w := (5 : Int32)) hat ⟨by decide, by decide⟩)
  obtain ⟨T2, h2, X2, e2, W2, st2⟩ := stB X0 hx hZ e0 Ar1 (j := (p1 + (0 : Int32))) hin1 (g := (mkF m 29 #[.val (.ref a0x), .val (.int p1), .val (.long q1), .second, .val (.int (5 : Int32)), .val (.int (0 : Int32))] [(.int ((q1.toUInt64 >>> ((32 : Int32) &&& 0x3f).toInt64.toUInt64).toInt64).toInt32.toInt8.toInt32), (.int (p1 + (0 : Int32))), (.ref a0x)])) rfl rfl (hb hby d1_29)
  have V2 : own_Tab Z h2 a0x .byte (12 : Int32) (fun j => .int ((fun i => if i = (p1 + (0 : Int32)) then ((q1.toUInt64 >>> ((32 : Int32) &&& 0x3f).toInt64.toUInt64).toInt64).toInt32.toInt8.toInt32.toInt8.toInt32 else tab i) j)) := (own_Tab.set Ar1 S1 N1' H1 hin1 W2).cong (fun j _ _ => by dsimp only; split <;> rfl)
  have N2 := Fr.snoc X2 N0 g0x
  have Z2 : n0 ≤ h2.size := Nat.le_trans Z0 (Keep.of_wr W2).1
  have K2 : Keep h0 h2 [a0x] := K0.wr W2 (Or.inl (List.mem_of_getElem? (i := 0) rfl))
  obtain ⟨cl3, Ar3, S3, N3', H3⟩ := (id V2)
  have hin3 : ¬ ((p1 + (1 : Int32)) < 0 ∨ cl3.slots.size ≤ ((p1 + (1 : Int32))).toNatClampNeg) := inb_of S3 (own_bd (w := (5 : Int32)) hat ⟨by decide, by decide⟩)
  obtain ⟨T4, h4, X4, e4, W4, st4⟩ := stB X2 hx hZ e2 Ar3 (j := (p1 + (1 : Int32))) hin3 (g := (mkF m 29 #[.val (.ref a0x), .val (.int p1), .val (.long q1), .second, .val (.int (5 : Int32)), .val (.int (1 : Int32))] [(.int ((q1.toUInt64 >>> ((24 : Int32) &&& 0x3f).toInt64.toUInt64).toInt64).toInt32.toInt8.toInt32), (.int (p1 + (1 : Int32))), (.ref a0x)])) rfl rfl (hb hby d1_29)
  have V4 : own_Tab Z h4 a0x .byte (12 : Int32) (fun j => .int ((fun i => if i = (p1 + (1 : Int32)) then ((q1.toUInt64 >>> ((24 : Int32) &&& 0x3f).toInt64.toUInt64).toInt64).toInt32.toInt8.toInt32.toInt8.toInt32 else (fun i => if i = (p1 + (0 : Int32)) then ((q1.toUInt64 >>> ((32 : Int32) &&& 0x3f).toInt64.toUInt64).toInt64).toInt32.toInt8.toInt32.toInt8.toInt32 else tab i) i) j)) := (own_Tab.set Ar3 S3 N3' H3 hin3 W4).cong (fun j _ _ => by dsimp only; split <;> rfl)
  have N4 := Fr.snoc X4 N2 g0x
  have Z4 : n0 ≤ h4.size := Nat.le_trans Z2 (Keep.of_wr W4).1
  have K4 : Keep h0 h4 [a0x] := K2.wr W4 (Or.inl (List.mem_of_getElem? (i := 0) rfl))
  obtain ⟨cl5, Ar5, S5, N5', H5⟩ := (id V4)
  have hin5 : ¬ ((p1 + (2 : Int32)) < 0 ∨ cl5.slots.size ≤ ((p1 + (2 : Int32))).toNatClampNeg) := inb_of S5 (own_bd (w := (5 : Int32)) hat ⟨by decide, by decide⟩)
  obtain ⟨T6, h6, X6, e6, W6, st6⟩ := stB X4 hx hZ e4 Ar5 (j := (p1 + (2 : Int32))) hin5 (g := (mkF m 29 #[.val (.ref a0x), .val (.int p1), .val (.long q1), .second, .val (.int (5 : Int32)), .val (.int (2 : Int32))] [(.int ((q1.toUInt64 >>> ((16 : Int32) &&& 0x3f).toInt64.toUInt64).toInt64).toInt32.toInt8.toInt32), (.int (p1 + (2 : Int32))), (.ref a0x)])) rfl rfl (hb hby d1_29)
  have V6 : own_Tab Z h6 a0x .byte (12 : Int32) (fun j => .int ((fun i => if i = (p1 + (2 : Int32)) then ((q1.toUInt64 >>> ((16 : Int32) &&& 0x3f).toInt64.toUInt64).toInt64).toInt32.toInt8.toInt32.toInt8.toInt32 else (fun i => if i = (p1 + (1 : Int32)) then ((q1.toUInt64 >>> ((24 : Int32) &&& 0x3f).toInt64.toUInt64).toInt64).toInt32.toInt8.toInt32.toInt8.toInt32 else (fun i => if i = (p1 + (0 : Int32)) then ((q1.toUInt64 >>> ((32 : Int32) &&& 0x3f).toInt64.toUInt64).toInt64).toInt32.toInt8.toInt32.toInt8.toInt32 else tab i) i) i) j)) := (own_Tab.set Ar5 S5 N5' H5 hin5 W6).cong (fun j _ _ => by dsimp only; split <;> rfl)
  have N6 := Fr.snoc X6 N4 g0x
  have Z6 : n0 ≤ h6.size := Nat.le_trans Z4 (Keep.of_wr W6).1
  have K6 : Keep h0 h6 [a0x] := K4.wr W6 (Or.inl (List.mem_of_getElem? (i := 0) rfl))
  obtain ⟨cl7, Ar7, S7, N7', H7⟩ := (id V6)
  have hin7 : ¬ ((p1 + (3 : Int32)) < 0 ∨ cl7.slots.size ≤ ((p1 + (3 : Int32))).toNatClampNeg) := inb_of S7 (own_bd (w := (5 : Int32)) hat ⟨by decide, by decide⟩)
  obtain ⟨T8, h8, X8, e8, W8, st8⟩ := stB X6 hx hZ e6 Ar7 (j := (p1 + (3 : Int32))) hin7 (g := (mkF m 29 #[.val (.ref a0x), .val (.int p1), .val (.long q1), .second, .val (.int (5 : Int32)), .val (.int (3 : Int32))] [(.int ((q1.toUInt64 >>> ((8 : Int32) &&& 0x3f).toInt64.toUInt64).toInt64).toInt32.toInt8.toInt32), (.int (p1 + (3 : Int32))), (.ref a0x)])) rfl rfl (hb hby d1_29)
  have V8 : own_Tab Z h8 a0x .byte (12 : Int32) (fun j => .int ((fun i => if i = (p1 + (3 : Int32)) then ((q1.toUInt64 >>> ((8 : Int32) &&& 0x3f).toInt64.toUInt64).toInt64).toInt32.toInt8.toInt32.toInt8.toInt32 else (fun i => if i = (p1 + (2 : Int32)) then ((q1.toUInt64 >>> ((16 : Int32) &&& 0x3f).toInt64.toUInt64).toInt64).toInt32.toInt8.toInt32.toInt8.toInt32 else (fun i => if i = (p1 + (1 : Int32)) then ((q1.toUInt64 >>> ((24 : Int32) &&& 0x3f).toInt64.toUInt64).toInt64).toInt32.toInt8.toInt32.toInt8.toInt32 else (fun i => if i = (p1 + (0 : Int32)) then ((q1.toUInt64 >>> ((32 : Int32) &&& 0x3f).toInt64.toUInt64).toInt64).toInt32.toInt8.toInt32.toInt8.toInt32 else tab i) i) i) i) j)) := (own_Tab.set Ar7 S7 N7' H7 hin7 W8).cong (fun j _ _ => by dsimp only; split <;> rfl)
  have N8 := Fr.snoc X8 N6 g0x
  have Z8 : n0 ≤ h8.size := Nat.le_trans Z6 (Keep.of_wr W8).1
  have K8 : Keep h0 h8 [a0x] := K6.wr W8 (Or.inl (List.mem_of_getElem? (i := 0) rfl))
  obtain ⟨cl9, Ar9, S9, N9', H9⟩ := (id V8)
  have hin9 : ¬ ((p1 + (4 : Int32)) < 0 ∨ cl9.slots.size ≤ ((p1 + (4 : Int32))).toNatClampNeg) := inb_of S9 (own_bd (w := (5 : Int32)) hat ⟨by decide, by decide⟩)
  obtain ⟨T10, h10, X10, e10, W10, st10⟩ := stB X8 hx hZ e8 Ar9 (j := (p1 + (4 : Int32))) hin9 (g := (mkF m 29 #[.val (.ref a0x), .val (.int p1), .val (.long q1), .second, .val (.int (5 : Int32)), .val (.int (4 : Int32))] [(.int ((q1.toUInt64 >>> ((0 : Int32) &&& 0x3f).toInt64.toUInt64).toInt64).toInt32.toInt8.toInt32), (.int (p1 + (4 : Int32))), (.ref a0x)])) rfl rfl (hb hby d1_29)
  have V10 : own_Tab Z h10 a0x .byte (12 : Int32) (fun j => .int ((fun i => if i = (p1 + (4 : Int32)) then ((q1.toUInt64 >>> ((0 : Int32) &&& 0x3f).toInt64.toUInt64).toInt64).toInt32.toInt8.toInt32.toInt8.toInt32 else (fun i => if i = (p1 + (3 : Int32)) then ((q1.toUInt64 >>> ((8 : Int32) &&& 0x3f).toInt64.toUInt64).toInt64).toInt32.toInt8.toInt32.toInt8.toInt32 else (fun i => if i = (p1 + (2 : Int32)) then ((q1.toUInt64 >>> ((16 : Int32) &&& 0x3f).toInt64.toUInt64).toInt64).toInt32.toInt8.toInt32.toInt8.toInt32 else (fun i => if i = (p1 + (1 : Int32)) then ((q1.toUInt64 >>> ((24 : Int32) &&& 0x3f).toInt64.toUInt64).toInt64).toInt32.toInt8.toInt32.toInt8.toInt32 else (fun i => if i = (p1 + (0 : Int32)) then ((q1.toUInt64 >>> ((32 : Int32) &&& 0x3f).toInt64.toUInt64).toInt64).toInt32.toInt8.toInt32.toInt8.toInt32 else tab i) i) i) i) i) j)) := (own_Tab.set Ar9 S9 N9' H9 hin9 W10).cong (fun j _ _ => by dsimp only; split <;> rfl)
  have N10 := Fr.snoc X10 N8 g0x
  have Z10 : n0 ≤ h10.size := Nat.le_trans Z8 (Keep.of_wr W10).1
  have K10 : Keep h0 h10 [a0x] := K8.wr W10 (Or.inl (List.mem_of_getElem? (i := 0) rfl))
  obtain ⟨fs, hr, hrun, hended, hW, hsame⟩ := X10.leave (v := some (.int (p1 + (5 : Int32)))) (fun h => by rw [Bd.returns] at h; cases h)
  refine ⟨_, _, pre0 _ ?_, hrun, hended, _, _, rfl, ?_, ⟨_, rfl⟩, hW, hsame.mono (by decide) (by decide)⟩
  · show Steps p.tables e below (s₁.setTop (mkF m 0 #[.val (.ref a0x), .val (.int p1), .val (.long q1), .second, .val (.int p2), .unset] [])) _
    rw [hk]
    show Steps p.tables e below (s₁.setTop (mkF m 0 #[.val (.ref a0x), .val (.int p1), .val (.long q1), .second, .val (.int (5 : Int32)), .unset] [])) _
    refine XS.iconst X0.here hx rfl (hb hby d1_0) ?_
    show Steps p.tables e below (s₁.setTop (mkF m 1 #[.val (.ref a0x), .val (.int p1), .val (.long q1), .second, .val (.int (5 : Int32)), .unset] [(.int (0 : Int32))])) _
    refine XS.istore X0.here hx rfl (hb hby d1_1) rfl (l' := #[.val (.ref a0x), .val (.int p1), .val (.long q1), .second, .val (.int (5 : Int32)), .val (.int (0 : Int32))]) rfl ?_
    show Steps p.tables e below (s₁.setTop (mkF m 3 #[.val (.ref a0x), .val (.int p1), .val (.long q1), .second, .val (.int (5 : Int32)), .val (.int (0 : Int32))] [])) _
    refine XS.iload X0.here hx rfl (hb hby d1_3) rfl ?_
    show Steps p.tables e below (s₁.setTop (mkF m 5 #[.val (.ref a0x), .val (.int p1), .val (.long q1), .second, .val (.int (5 : Int32)), .val (.int (0 : Int32))] [(.int (0 : Int32))])) _
    refine XS.iload X0.here hx rfl (hb hby d1_5) rfl ?_
    show Steps p.tables e below (s₁.setTop (mkF m 7 #[.val (.ref a0x), .val (.int p1), .val (.long q1), .second, .val (.int (5 : Int32)), .val (.int (0 : Int32))] [(.int (5 : Int32)), (.int (0 : Int32))])) _
    refine XS.icmpNo X0.here hx rfl (hb hby d1_7) rfl (tlt (by decide : (0 : Int32) < (5 : Int32))).2.1 ?_
    show Steps p.tables e below (s₁.setTop (mkF m 10 #[.val (.ref a0x), .val (.int p1), .val (.long q1), .second, .val (.int (5 : Int32)), .val (.int (0 : Int32))] [])) _
    refine XS.aloadN X0.here hx rfl (hb hby d1_10) rfl rfl ?_
    show Steps p.tables e below (s₁.setTop (mkF m 11 #[.val (.ref a0x), .val (.int p1), .val (.long q1), .second, .val (.int (5 : Int32)), .val (.int (0 : Int32))] [(.ref a0x)])) _
    refine XS.iloadN X0.here hx rfl (hb hby d1_11) rfl ?_
    show Steps p.tables e below (s₁.setTop (mkF m 12 #[.val (.ref a0x), .val (.int p1), .val (.long q1), .second, .val (.int (5 : Int32)), .val (.int (0 : Int32))] [(.int p1), (.ref a0x)])) _
    refine XS.iload X0.here hx rfl (hb hby d1_12) rfl ?_
    show Steps p.tables e below (s₁.setTop (mkF m 14 #[.val (.ref a0x), .val (.int p1), .val (.long q1), .second, .val (.int (5 : Int32)), .val (.int (0 : Int32))] [(.int (0 : Int32)), (.int p1), (.ref a0x)])) _
    refine XS.iadd X0.here hx rfl (hb hby d1_14) rfl ?_
    show Steps p.tables e below (s₁.setTop (mkF m 15 #[.val (.ref a0x), .val (.int p1), .val (.long q1), .second, .val (.int (5 : Int32)), .val (.int (0 : Int32))] [(.int (p1 + (0 : Int32))), (.ref a0x)])) _
    refine XS.lloadN X0.here hx rfl (hb hby d1_15) rfl ?_
    show Steps p.tables e below (s₁.setTop (mkF m 16 #[.val (.ref a0x), .val (.int p1), .val (.long q1), .second, .val (.int (5 : Int32)), .val (.int (0 : Int32))] [(.long q1), (.int (p1 + (0 : Int32))), (.ref a0x)])) _
    refine XS.bipush X0.here hx rfl (hb hby d1_16) ?_
    show Steps p.tables e below (s₁.setTop (mkF m 18 #[.val (.ref a0x), .val (.int p1), .val (.long q1), .second, .val (.int (5 : Int32)), .val (.int (0 : Int32))] [(.int (8 : Int32)), (.long q1), (.int (p1 + (0 : Int32))), (.ref a0x)])) _
    refine XS.iload X0.here hx rfl (hb hby d1_18) rfl ?_
    show Steps p.tables e below (s₁.setTop (mkF m 20 #[.val (.ref a0x), .val (.int p1), .val (.long q1), .second, .val (.int (5 : Int32)), .val (.int (0 : Int32))] [(.int (5 : Int32)), (.int (8 : Int32)), (.long q1), (.int (p1 + (0 : Int32))), (.ref a0x)])) _
    refine XS.iconst X0.here hx rfl (hb hby d1_20) ?_
    show Steps p.tables e below (s₁.setTop (mkF m 21 #[.val (.ref a0x), .val (.int p1), .val (.long q1), .second, .val (.int (5 : Int32)), .val (.int (0 : Int32))] [(.int (1 : Int32)), (.int (5 : Int32)), (.int (8 : Int32)), (.long q1), (.int (p1 + (0 : Int32))), (.ref a0x)])) _
    refine XS.isub X0.here hx rfl (hb hby d1_21) rfl ?_
    show Steps p.tables e below (s₁.setTop (mkF m 22 #[.val (.ref a0x), .val (.int p1), .val (.long q1), .second, .val (.int (5 : Int32)), .val (.int (0 : Int32))] [(.int (4 : Int32)), (.int (8 : Int32)), (.long q1), (.int (p1 + (0 : Int32))), (.ref a0x)])) _
    refine XS.iload X0.here hx rfl (hb hby d1_22) rfl ?_
    show Steps p.tables e below (s₁.setTop (mkF m 24 #[.val (.ref a0x), .val (.int p1), .val (.long q1), .second, .val (.int (5 : Int32)), .val (.int (0 : Int32))] [(.int (0 : Int32)), (.int (4 : Int32)), (.int (8 : Int32)), (.long q1), (.int (p1 + (0 : Int32))), (.ref a0x)])) _
    refine XS.isub X0.here hx rfl (hb hby d1_24) rfl ?_
    show Steps p.tables e below (s₁.setTop (mkF m 25 #[.val (.ref a0x), .val (.int p1), .val (.long q1), .second, .val (.int (5 : Int32)), .val (.int (0 : Int32))] [(.int (4 : Int32)), (.int (8 : Int32)), (.long q1), (.int (p1 + (0 : Int32))), (.ref a0x)])) _
    refine XS.imul X0.here hx rfl (hb hby d1_25) rfl ?_
    show Steps p.tables e below (s₁.setTop (mkF m 26 #[.val (.ref a0x), .val (.int p1), .val (.long q1), .second, .val (.int (5 : Int32)), .val (.int (0 : Int32))] [(.int (32 : Int32)), (.long q1), (.int (p1 + (0 : Int32))), (.ref a0x)])) _
    refine XS.lushr X0.here hx rfl (hb hby d1_26) rfl ?_
    show Steps p.tables e below (s₁.setTop (mkF m 27 #[.val (.ref a0x), .val (.int p1), .val (.long q1), .second, .val (.int (5 : Int32)), .val (.int (0 : Int32))] [(.long ((q1.toUInt64 >>> ((32 : Int32) &&& 0x3f).toInt64.toUInt64).toInt64)), (.int (p1 + (0 : Int32))), (.ref a0x)])) _
    refine XS.l2i X0.here hx rfl (hb hby d1_27) rfl ?_
    show Steps p.tables e below (s₁.setTop (mkF m 28 #[.val (.ref a0x), .val (.int p1), .val (.long q1), .second, .val (.int (5 : Int32)), .val (.int (0 : Int32))] [(.int ((q1.toUInt64 >>> ((32 : Int32) &&& 0x3f).toInt64.toUInt64).toInt64).toInt32), (.int (p1 + (0 : Int32))), (.ref a0x)])) _
    refine XS.i2b X0.here hx rfl (hb hby d1_28) rfl ?_
    show Steps p.tables e below (s₁.setTop (mkF m 29 #[.val (.ref a0x), .val (.int p1), .val (.long q1), .second, .val (.int (5 : Int32)), .val (.int (0 : Int32))] [(.int ((q1.toUInt64 >>> ((32 : Int32) &&& 0x3f).toInt64.toUInt64).toInt64).toInt32.toInt8.toInt32), (.int (p1 + (0 : Int32))), (.ref a0x)])) _
    refine st2 _ ?_
    show Steps p.tables e below (T2.setTop (mkF m 30 #[.val (.ref a0x), .val (.int p1), .val (.long q1), .second, .val (.int (5 : Int32)), .val (.int (0 : Int32))] [])) _
    refine XS.iinc X2.here hx rfl (hb hby d1_30) rfl (l' := #[.val (.ref a0x), .val (.int p1), .val (.long q1), .second, .val (.int (5 : Int32)), .val (.int (1 : Int32))]) rfl ?_
    show Steps p.tables e below (T2.setTop (mkF m 33 #[.val (.ref a0x), .val (.int p1), .val (.long q1), .second, .val (.int (5 : Int32)), .val (.int (1 : Int32))] [])) _
    refine XS.goto X2.here hx rfl (pc0 := 33) (pc' := 3) rfl (hb hby d1_33) (by decide) (by decide) ?_
    show Steps p.tables e below (T2.setTop (mkF m 3 #[.val (.ref a0x), .val (.int p1), .val (.long q1), .second, .val (.int (5 : Int32)), .val (.int (1 : Int32))] [])) _
    refine XS.iload X2.here hx rfl (hb hby d1_3) rfl ?_
    show Steps p.tables e below (T2.setTop (mkF m 5 #[.val (.ref a0x), .val (.int p1), .val (.long q1), .second, .val (.int (5 : Int32)), .val (.int (1 : Int32))] [(.int (1 : Int32))])) _
    refine XS.iload X2.here hx rfl (hb hby d1_5) rfl ?_
    show Steps p.tables e below (T2.setTop (mkF m 7 #[.val (.ref a0x), .val (.int p1), .val (.long q1), .second, .val (.int (5 : Int32)), .val (.int (1 : Int32))] [(.int (5 : Int32)), (.int (1 : Int32))])) _
    refine XS.icmpNo X2.here hx rfl (hb hby d1_7) rfl (tlt (by decide : (1 : Int32) < (5 : Int32))).2.1 ?_
    show Steps p.tables e below (T2.setTop (mkF m 10 #[.val (.ref a0x), .val (.int p1), .val (.long q1), .second, .val (.int (5 : Int32)), .val (.int (1 : Int32))] [])) _
    refine XS.aloadN X2.here hx rfl (hb hby d1_10) rfl rfl ?_
    show Steps p.tables e below (T2.setTop (mkF m 11 #[.val (.ref a0x), .val (.int p1), .val (.long q1), .second, .val (.int (5 : Int32)), .val (.int (1 : Int32))] [(.ref a0x)])) _
    refine XS.iloadN X2.here hx rfl (hb hby d1_11) rfl ?_
    show Steps p.tables e below (T2.setTop (mkF m 12 #[.val (.ref a0x), .val (.int p1), .val (.long q1), .second, .val (.int (5 : Int32)), .val (.int (1 : Int32))] [(.int p1), (.ref a0x)])) _
    refine XS.iload X2.here hx rfl (hb hby d1_12) rfl ?_
    show Steps p.tables e below (T2.setTop (mkF m 14 #[.val (.ref a0x), .val (.int p1), .val (.long q1), .second, .val (.int (5 : Int32)), .val (.int (1 : Int32))] [(.int (1 : Int32)), (.int p1), (.ref a0x)])) _
    refine XS.iadd X2.here hx rfl (hb hby d1_14) rfl ?_
    show Steps p.tables e below (T2.setTop (mkF m 15 #[.val (.ref a0x), .val (.int p1), .val (.long q1), .second, .val (.int (5 : Int32)), .val (.int (1 : Int32))] [(.int (p1 + (1 : Int32))), (.ref a0x)])) _
    refine XS.lloadN X2.here hx rfl (hb hby d1_15) rfl ?_
    show Steps p.tables e below (T2.setTop (mkF m 16 #[.val (.ref a0x), .val (.int p1), .val (.long q1), .second, .val (.int (5 : Int32)), .val (.int (1 : Int32))] [(.long q1), (.int (p1 + (1 : Int32))), (.ref a0x)])) _
    refine XS.bipush X2.here hx rfl (hb hby d1_16) ?_
    show Steps p.tables e below (T2.setTop (mkF m 18 #[.val (.ref a0x), .val (.int p1), .val (.long q1), .second, .val (.int (5 : Int32)), .val (.int (1 : Int32))] [(.int (8 : Int32)), (.long q1), (.int (p1 + (1 : Int32))), (.ref a0x)])) _
    refine XS.iload X2.here hx rfl (hb hby d1_18) rfl ?_
    show Steps p.tables e below (T2.setTop (mkF m 20 #[.val (.ref a0x), .val (.int p1), .val (.long q1), .second, .val (.int (5 : Int32)), .val (.int (1 : Int32))] [(.int (5 : Int32)), (.int (8 : Int32)), (.long q1), (.int (p1 + (1 : Int32))), (.ref a0x)])) _
    refine XS.iconst X2.here hx rfl (hb hby d1_20) ?_
    show Steps p.tables e below (T2.setTop (mkF m 21 #[.val (.ref a0x), .val (.int p1), .val (.long q1), .second, .val (.int (5 : Int32)), .val (.int (1 : Int32))] [(.int (1 : Int32)), (.int (5 : Int32)), (.int (8 : Int32)), (.long q1), (.int (p1 + (1 : Int32))), (.ref a0x)])) _
    refine XS.isub X2.here hx rfl (hb hby d1_21) rfl ?_
    show Steps p.tables e below (T2.setTop (mkF m 22 #[.val (.ref a0x), .val (.int p1), .val (.long q1), .second, .val (.int (5 : Int32)), .val (.int (1 : Int32))] [(.int (4 : Int32)), (.int (8 : Int32)), (.long q1), (.int (p1 + (1 : Int32))), (.ref a0x)])) _
    refine XS.iload X2.here hx rfl (hb hby d1_22) rfl ?_
    show Steps p.tables e below (T2.setTop (mkF m 24 #[.val (.ref a0x), .val (.int p1), .val (.long q1), .second, .val (.int (5 : Int32)), .val (.int (1 : Int32))] [(.int (1 : Int32)), (.int (4 : Int32)), (.int (8 : Int32)), (.long q1), (.int (p1 + (1 : Int32))), (.ref a0x)])) _
    refine XS.isub X2.here hx rfl (hb hby d1_24) rfl ?_
    show Steps p.tables e below (T2.setTop (mkF m 25 #[.val (.ref a0x), .val (.int p1), .val (.long q1), .second, .val (.int (5 : Int32)), .val (.int (1 : Int32))] [(.int (3 : Int32)), (.int (8 : Int32)), (.long q1), (.int (p1 + (1 : Int32))), (.ref a0x)])) _
    refine XS.imul X2.here hx rfl (hb hby d1_25) rfl ?_
    show Steps p.tables e below (T2.setTop (mkF m 26 #[.val (.ref a0x), .val (.int p1), .val (.long q1), .second, .val (.int (5 : Int32)), .val (.int (1 : Int32))] [(.int (24 : Int32)), (.long q1), (.int (p1 + (1 : Int32))), (.ref a0x)])) _
    refine XS.lushr X2.here hx rfl (hb hby d1_26) rfl ?_
    show Steps p.tables e below (T2.setTop (mkF m 27 #[.val (.ref a0x), .val (.int p1), .val (.long q1), .second, .val (.int (5 : Int32)), .val (.int (1 : Int32))] [(.long ((q1.toUInt64 >>> ((24 : Int32) &&& 0x3f).toInt64.toUInt64).toInt64)), (.int (p1 + (1 : Int32))), (.ref a0x)])) _
    refine XS.l2i X2.here hx rfl (hb hby d1_27) rfl ?_
    show Steps p.tables e below (T2.setTop (mkF m 28 #[.val (.ref a0x), .val (.int p1), .val (.long q1), .second, .val (.int (5 : Int32)), .val (.int (1 : Int32))] [(.int ((q1.toUInt64 >>> ((24 : Int32) &&& 0x3f).toInt64.toUInt64).toInt64).toInt32), (.int (p1 + (1 : Int32))), (.ref a0x)])) _
    refine XS.i2b X2.here hx rfl (hb hby d1_28) rfl ?_
    show Steps p.tables e below (T2.setTop (mkF m 29 #[.val (.ref a0x), .val (.int p1), .val (.long q1), .second, .val (.int (5 : Int32)), .val (.int (1 : Int32))] [(.int ((q1.toUInt64 >>> ((24 : Int32) &&& 0x3f).toInt64.toUInt64).toInt64).toInt32.toInt8.toInt32), (.int (p1 + (1 : Int32))), (.ref a0x)])) _
    refine st4 _ ?_
    show Steps p.tables e below (T4.setTop (mkF m 30 #[.val (.ref a0x), .val (.int p1), .val (.long q1), .second, .val (.int (5 : Int32)), .val (.int (1 : Int32))] [])) _
    refine XS.iinc X4.here hx rfl (hb hby d1_30) rfl (l' := #[.val (.ref a0x), .val (.int p1), .val (.long q1), .second, .val (.int (5 : Int32)), .val (.int (2 : Int32))]) rfl ?_
    show Steps p.tables e below (T4.setTop (mkF m 33 #[.val (.ref a0x), .val (.int p1), .val (.long q1), .second, .val (.int (5 : Int32)), .val (.int (2 : Int32))] [])) _
    refine XS.goto X4.here hx rfl (pc0 := 33) (pc' := 3) rfl (hb hby d1_33) (by decide) (by decide) ?_
    show Steps p.tables e below (T4.setTop (mkF m 3 #[.val (.ref a0x), .val (.int p1), .val (.long q1), .second, .val (.int (5 : Int32)), .val (.int (2 : Int32))] [])) _
    refine XS.iload X4.here hx rfl (hb hby d1_3) rfl ?_
    show Steps p.tables e below (T4.setTop (mkF m 5 #[.val (.ref a0x), .val (.int p1), .val (.long q1), .second, .val (.int (5 : Int32)), .val (.int (2 : Int32))] [(.int (2 : Int32))])) _
    refine XS.iload X4.here hx rfl (hb hby d1_5) rfl ?_
    show Steps p.tables e below (T4.setTop (mkF m 7 #[.val (.ref a0x), .val (.int p1), .val (.long q1), .second, .val (.int (5 : Int32)), .val (.int (2 : Int32))] [(.int (5 : Int32)), (.int (2 : Int32))])) _
    refine XS.icmpNo X4.here hx rfl (hb hby d1_7) rfl (tlt (by decide : (2 : Int32) < (5 : Int32))).2.1 ?_
    show Steps p.tables e below (T4.setTop (mkF m 10 #[.val (.ref a0x), .val (.int p1), .val (.long q1), .second, .val (.int (5 : Int32)), .val (.int (2 : Int32))] [])) _
    refine XS.aloadN X4.here hx rfl (hb hby d1_10) rfl rfl ?_
    show Steps p.tables e below (T4.setTop (mkF m 11 #[.val (.ref a0x), .val (.int p1), .val (.long q1), .second, .val (.int (5 : Int32)), .val (.int (2 : Int32))] [(.ref a0x)])) _
    refine XS.iloadN X4.here hx rfl (hb hby d1_11) rfl ?_
    show Steps p.tables e below (T4.setTop (mkF m 12 #[.val (.ref a0x), .val (.int p1), .val (.long q1), .second, .val (.int (5 : Int32)), .val (.int (2 : Int32))] [(.int p1), (.ref a0x)])) _
    refine XS.iload X4.here hx rfl (hb hby d1_12) rfl ?_
    show Steps p.tables e below (T4.setTop (mkF m 14 #[.val (.ref a0x), .val (.int p1), .val (.long q1), .second, .val (.int (5 : Int32)), .val (.int (2 : Int32))] [(.int (2 : Int32)), (.int p1), (.ref a0x)])) _
    refine XS.iadd X4.here hx rfl (hb hby d1_14) rfl ?_
    show Steps p.tables e below (T4.setTop (mkF m 15 #[.val (.ref a0x), .val (.int p1), .val (.long q1), .second, .val (.int (5 : Int32)), .val (.int (2 : Int32))] [(.int (p1 + (2 : Int32))), (.ref a0x)])) _
    refine XS.lloadN X4.here hx rfl (hb hby d1_15) rfl ?_
    show Steps p.tables e below (T4.setTop (mkF m 16 #[.val (.ref a0x), .val (.int p1), .val (.long q1), .second, .val (.int (5 : Int32)), .val (.int (2 : Int32))] [(.long q1), (.int (p1 + (2 : Int32))), (.ref a0x)])) _
    refine XS.bipush X4.here hx rfl (hb hby d1_16) ?_
    show Steps p.tables e below (T4.setTop (mkF m 18 #[.val (.ref a0x), .val (.int p1), .val (.long q1), .second, .val (.int (5 : Int32)), .val (.int (2 : Int32))] [(.int (8 : Int32)), (.long q1), (.int (p1 + (2 : Int32))), (.ref a0x)])) _
    refine XS.iload X4.here hx rfl (hb hby d1_18) rfl ?_
    show Steps p.tables e below (T4.setTop (mkF m 20 #[.val (.ref a0x), .val (.int p1), .val (.long q1), .second, .val (.int (5 : Int32)), .val (.int (2 : Int32))] [(.int (5 : Int32)), (.int (8 : Int32)), (.long q1), (.int (p1 + (2 : Int32))), (.ref a0x)])) _
    refine XS.iconst X4.here hx rfl (hb hby d1_20) ?_
    show Steps p.tables e below (T4.setTop (mkF m 21 #[.val (.ref a0x), .val (.int p1), .val (.long q1), .second, .val (.int (5 : Int32)), .val (.int (2 : Int32))] [(.int (1 : Int32)), (.int (5 : Int32)), (.int (8 : Int32)), (.long q1), (.int (p1 + (2 : Int32))), (.ref a0x)])) _
    refine XS.isub X4.here hx rfl (hb hby d1_21) rfl ?_
    show Steps p.tables e below (T4.setTop (mkF m 22 #[.val (.ref a0x), .val (.int p1), .val (.long q1), .second, .val (.int (5 : Int32)), .val (.int (2 : Int32))] [(.int (4 : Int32)), (.int (8 : Int32)), (.long q1), (.int (p1 + (2 : Int32))), (.ref a0x)])) _
    refine XS.iload X4.here hx rfl (hb hby d1_22) rfl ?_
    show Steps p.tables e below (T4.setTop (mkF m 24 #[.val (.ref a0x), .val (.int p1), .val (.long q1), .second, .val (.int (5 : Int32)), .val (.int (2 : Int32))] [(.int (2 : Int32)), (.int (4 : Int32)), (.int (8 : Int32)), (.long q1), (.int (p1 + (2 : Int32))), (.ref a0x)])) _
    refine XS.isub X4.here hx rfl (hb hby d1_24) rfl ?_
    show Steps p.tables e below (T4.setTop (mkF m 25 #[.val (.ref a0x), .val (.int p1), .val (.long q1), .second, .val (.int (5 : Int32)), .val (.int (2 : Int32))] [(.int (2 : Int32)), (.int (8 : Int32)), (.long q1), (.int (p1 + (2 : Int32))), (.ref a0x)])) _
    refine XS.imul X4.here hx rfl (hb hby d1_25) rfl ?_
    show Steps p.tables e below (T4.setTop (mkF m 26 #[.val (.ref a0x), .val (.int p1), .val (.long q1), .second, .val (.int (5 : Int32)), .val (.int (2 : Int32))] [(.int (16 : Int32)), (.long q1), (.int (p1 + (2 : Int32))), (.ref a0x)])) _
    refine XS.lushr X4.here hx rfl (hb hby d1_26) rfl ?_
    show Steps p.tables e below (T4.setTop (mkF m 27 #[.val (.ref a0x), .val (.int p1), .val (.long q1), .second, .val (.int (5 : Int32)), .val (.int (2 : Int32))] [(.long ((q1.toUInt64 >>> ((16 : Int32) &&& 0x3f).toInt64.toUInt64).toInt64)), (.int (p1 + (2 : Int32))), (.ref a0x)])) _
    refine XS.l2i X4.here hx rfl (hb hby d1_27) rfl ?_
    show Steps p.tables e below (T4.setTop (mkF m 28 #[.val (.ref a0x), .val (.int p1), .val (.long q1), .second, .val (.int (5 : Int32)), .val (.int (2 : Int32))] [(.int ((q1.toUInt64 >>> ((16 : Int32) &&& 0x3f).toInt64.toUInt64).toInt64).toInt32), (.int (p1 + (2 : Int32))), (.ref a0x)])) _
    refine XS.i2b X4.here hx rfl (hb hby d1_28) rfl ?_
    show Steps p.tables e below (T4.setTop (mkF m 29 #[.val (.ref a0x), .val (.int p1), .val (.long q1), .second, .val (.int (5 : Int32)), .val (.int (2 : Int32))] [(.int ((q1.toUInt64 >>> ((16 : Int32) &&& 0x3f).toInt64.toUInt64).toInt64).toInt32.toInt8.toInt32), (.int (p1 + (2 : Int32))), (.ref a0x)])) _
    refine st6 _ ?_
    show Steps p.tables e below (T6.setTop (mkF m 30 #[.val (.ref a0x), .val (.int p1), .val (.long q1), .second, .val (.int (5 : Int32)), .val (.int (2 : Int32))] [])) _
    refine XS.iinc X6.here hx rfl (hb hby d1_30) rfl (l' := #[.val (.ref a0x), .val (.int p1), .val (.long q1), .second, .val (.int (5 : Int32)), .val (.int (3 : Int32))]) rfl ?_
    show Steps p.tables e below (T6.setTop (mkF m 33 #[.val (.ref a0x), .val (.int p1), .val (.long q1), .second, .val (.int (5 : Int32)), .val (.int (3 : Int32))] [])) _
    refine XS.goto X6.here hx rfl (pc0 := 33) (pc' := 3) rfl (hb hby d1_33) (by decide) (by decide) ?_
    show Steps p.tables e below (T6.setTop (mkF m 3 #[.val (.ref a0x), .val (.int p1), .val (.long q1), .second, .val (.int (5 : Int32)), .val (.int (3 : Int32))] [])) _
    refine XS.iload X6.here hx rfl (hb hby d1_3) rfl ?_
    show Steps p.tables e below (T6.setTop (mkF m 5 #[.val (.ref a0x), .val (.int p1), .val (.long q1), .second, .val (.int (5 : Int32)), .val (.int (3 : Int32))] [(.int (3 : Int32))])) _
    refine XS.iload X6.here hx rfl (hb hby d1_5) rfl ?_
    show Steps p.tables e below (T6.setTop (mkF m 7 #[.val (.ref a0x), .val (.int p1), .val (.long q1), .second, .val (.int (5 : Int32)), .val (.int (3 : Int32))] [(.int (5 : Int32)), (.int (3 : Int32))])) _
    refine XS.icmpNo X6.here hx rfl (hb hby d1_7) rfl (tlt (by decide : (3 : Int32) < (5 : Int32))).2.1 ?_
    show Steps p.tables e below (T6.setTop (mkF m 10 #[.val (.ref a0x), .val (.int p1), .val (.long q1), .second, .val (.int (5 : Int32)), .val (.int (3 : Int32))] [])) _
    refine XS.aloadN X6.here hx rfl (hb hby d1_10) rfl rfl ?_
    show Steps p.tables e below (T6.setTop (mkF m 11 #[.val (.ref a0x), .val (.int p1), .val (.long q1), .second, .val (.int (5 : Int32)), .val (.int (3 : Int32))] [(.ref a0x)])) _
    refine XS.iloadN X6.here hx rfl (hb hby d1_11) rfl ?_
    show Steps p.tables e below (T6.setTop (mkF m 12 #[.val (.ref a0x), .val (.int p1), .val (.long q1), .second, .val (.int (5 : Int32)), .val (.int (3 : Int32))] [(.int p1), (.ref a0x)])) _
    refine XS.iload X6.here hx rfl (hb hby d1_12) rfl ?_
    show Steps p.tables e below (T6.setTop (mkF m 14 #[.val (.ref a0x), .val (.int p1), .val (.long q1), .second, .val (.int (5 : Int32)), .val (.int (3 : Int32))] [(.int (3 : Int32)), (.int p1), (.ref a0x)])) _
    refine XS.iadd X6.here hx rfl (hb hby d1_14) rfl ?_
    show Steps p.tables e below (T6.setTop (mkF m 15 #[.val (.ref a0x), .val (.int p1), .val (.long q1), .second, .val (.int (5 : Int32)), .val (.int (3 : Int32))] [(.int (p1 + (3 : Int32))), (.ref a0x)])) _
    refine XS.lloadN X6.here hx rfl (hb hby d1_15) rfl ?_
    show Steps p.tables e below (T6.setTop (mkF m 16 #[.val (.ref a0x), .val (.int p1), .val (.long q1), .second, .val (.int (5 : Int32)), .val (.int (3 : Int32))] [(.long q1), (.int (p1 + (3 : Int32))), (.ref a0x)])) _
    refine XS.bipush X6.here hx rfl (hb hby d1_16) ?_
    show Steps p.tables e below (T6.setTop (mkF m 18 #[.val (.ref a0x), .val (.int p1), .val (.long q1), .second, .val (.int (5 : Int32)), .val (.int (3 : Int32))] [(.int (8 : Int32)), (.long q1), (.int (p1 + (3 : Int32))), (.ref a0x)])) _
    refine XS.iload X6.here hx rfl (hb hby d1_18) rfl ?_
    show Steps p.tables e below (T6.setTop (mkF m 20 #[.val (.ref a0x), .val (.int p1), .val (.long q1), .second, .val (.int (5 : Int32)), .val (.int (3 : Int32))] [(.int (5 : Int32)), (.int (8 : Int32)), (.long q1), (.int (p1 + (3 : Int32))), (.ref a0x)])) _
    refine XS.iconst X6.here hx rfl (hb hby d1_20) ?_
    show Steps p.tables e below (T6.setTop (mkF m 21 #[.val (.ref a0x), .val (.int p1), .val (.long q1), .second, .val (.int (5 : Int32)), .val (.int (3 : Int32))] [(.int (1 : Int32)), (.int (5 : Int32)), (.int (8 : Int32)), (.long q1), (.int (p1 + (3 : Int32))), (.ref a0x)])) _
    refine XS.isub X6.here hx rfl (hb hby d1_21) rfl ?_
    show Steps p.tables e below (T6.setTop (mkF m 22 #[.val (.ref a0x), .val (.int p1), .val (.long q1), .second, .val (.int (5 : Int32)), .val (.int (3 : Int32))] [(.int (4 : Int32)), (.int (8 : Int32)), (.long q1), (.int (p1 + (3 : Int32))), (.ref a0x)])) _
    refine XS.iload X6.here hx rfl (hb hby d1_22) rfl ?_
    show Steps p.tables e below (T6.setTop (mkF m 24 #[.val (.ref a0x), .val (.int p1), .val (.long q1), .second, .val (.int (5 : Int32)), .val (.int (3 : Int32))] [(.int (3 : Int32)), (.int (4 : Int32)), (.int (8 : Int32)), (.long q1), (.int (p1 + (3 : Int32))), (.ref a0x)])) _
    refine XS.isub X6.here hx rfl (hb hby d1_24) rfl ?_
    show Steps p.tables e below (T6.setTop (mkF m 25 #[.val (.ref a0x), .val (.int p1), .val (.long q1), .second, .val (.int (5 : Int32)), .val (.int (3 : Int32))] [(.int (1 : Int32)), (.int (8 : Int32)), (.long q1), (.int (p1 + (3 : Int32))), (.ref a0x)])) _
    refine XS.imul X6.here hx rfl (hb hby d1_25) rfl ?_
    show Steps p.tables e below (T6.setTop (mkF m 26 #[.val (.ref a0x), .val (.int p1), .val (.long q1), .second, .val (.int (5 : Int32)), .val (.int (3 : Int32))] [(.int (8 : Int32)), (.long q1), (.int (p1 + (3 : Int32))), (.ref a0x)])) _
    refine XS.lushr X6.here hx rfl (hb hby d1_26) rfl ?_
    show Steps p.tables e below (T6.setTop (mkF m 27 #[.val (.ref a0x), .val (.int p1), .val (.long q1), .second, .val (.int (5 : Int32)), .val (.int (3 : Int32))] [(.long ((q1.toUInt64 >>> ((8 : Int32) &&& 0x3f).toInt64.toUInt64).toInt64)), (.int (p1 + (3 : Int32))), (.ref a0x)])) _
    refine XS.l2i X6.here hx rfl (hb hby d1_27) rfl ?_
    show Steps p.tables e below (T6.setTop (mkF m 28 #[.val (.ref a0x), .val (.int p1), .val (.long q1), .second, .val (.int (5 : Int32)), .val (.int (3 : Int32))] [(.int ((q1.toUInt64 >>> ((8 : Int32) &&& 0x3f).toInt64.toUInt64).toInt64).toInt32), (.int (p1 + (3 : Int32))), (.ref a0x)])) _
    refine XS.i2b X6.here hx rfl (hb hby d1_28) rfl ?_
    show Steps p.tables e below (T6.setTop (mkF m 29 #[.val (.ref a0x), .val (.int p1), .val (.long q1), .second, .val (.int (5 : Int32)), .val (.int (3 : Int32))] [(.int ((q1.toUInt64 >>> ((8 : Int32) &&& 0x3f).toInt64.toUInt64).toInt64).toInt32.toInt8.toInt32), (.int (p1 + (3 : Int32))), (.ref a0x)])) _
    refine st8 _ ?_
    show Steps p.tables e below (T8.setTop (mkF m 30 #[.val (.ref a0x), .val (.int p1), .val (.long q1), .second, .val (.int (5 : Int32)), .val (.int (3 : Int32))] [])) _
    refine XS.iinc X8.here hx rfl (hb hby d1_30) rfl (l' := #[.val (.ref a0x), .val (.int p1), .val (.long q1), .second, .val (.int (5 : Int32)), .val (.int (4 : Int32))]) rfl ?_
    show Steps p.tables e below (T8.setTop (mkF m 33 #[.val (.ref a0x), .val (.int p1), .val (.long q1), .second, .val (.int (5 : Int32)), .val (.int (4 : Int32))] [])) _
    refine XS.goto X8.here hx rfl (pc0 := 33) (pc' := 3) rfl (hb hby d1_33) (by decide) (by decide) ?_
    show Steps p.tables e below (T8.setTop (mkF m 3 #[.val (.ref a0x), .val (.int p1), .val (.long q1), .second, .val (.int (5 : Int32)), .val (.int (4 : Int32))] [])) _
    refine XS.iload X8.here hx rfl (hb hby d1_3) rfl ?_
    show Steps p.tables e below (T8.setTop (mkF m 5 #[.val (.ref a0x), .val (.int p1), .val (.long q1), .second, .val (.int (5 : Int32)), .val (.int (4 : Int32))] [(.int (4 : Int32))])) _
    refine XS.iload X8.here hx rfl (hb hby d1_5) rfl ?_
    show Steps p.tables e below (T8.setTop (mkF m 7 #[.val (.ref a0x), .val (.int p1), .val (.long q1), .second, .val (.int (5 : Int32)), .val (.int (4 : Int32))] [(.int (5 : Int32)), (.int (4 : Int32))])) _
    refine XS.icmpNo X8.here hx rfl (hb hby d1_7) rfl (tlt (by decide : (4 : Int32) < (5 : Int32))).2.1 ?_
    show Steps p.tables e below (T8.setTop (mkF m 10 #[.val (.ref a0x), .val (.int p1), .val (.long q1), .second, .val (.int (5 : Int32)), .val (.int (4 : Int32))] [])) _
    refine XS.aloadN X8.here hx rfl (hb hby d1_10) rfl rfl ?_
    show Steps p.tables e below (T8.setTop (mkF m 11 #[.val (.ref a0x), .val (.int p1), .val (.long q1), .second, .val (.int (5 : Int32)), .val (.int (4 : Int32))] [(.ref a0x)])) _
    refine XS.iloadN X8.here hx rfl (hb hby d1_11) rfl ?_
    show Steps p.tables e below (T8.setTop (mkF m 12 #[.val (.ref a0x), .val (.int p1), .val (.long q1), .second, .val (.int (5 : Int32)), .val (.int (4 : Int32))] [(.int p1), (.ref a0x)])) _
    refine XS.iload X8.here hx rfl (hb hby d1_12) rfl ?_
    show Steps p.tables e below (T8.setTop (mkF m 14 #[.val (.ref a0x), .val (.int p1), .val (.long q1), .second, .val (.int (5 : Int32)), .val (.int (4 : Int32))] [(.int (4 : Int32)), (.int p1), (.ref a0x)])) _
    refine XS.iadd X8.here hx rfl (hb hby d1_14) rfl ?_
    show Steps p.tables e below (T8.setTop (mkF m 15 #[.val (.ref a0x), .val (.int p1), .val (.long q1), .second, .val (.int (5 : Int32)), .val (.int (4 : Int32))] [(.int (p1 + (4 : Int32))), (.ref a0x)])) _
    refine XS.lloadN X8.here hx rfl (hb hby d1_15) rfl ?_
    show Steps p.tables e below (T8.setTop (mkF m 16 #[.val (.ref a0x), .val (.int p1), .val (.long q1), .second, .val (.int (5 : Int32)), .val (.int (4 : Int32))] [(.long q1), (.int (p1 + (4 : Int32))), (.ref a0x)])) _
    refine XS.bipush X8.here hx rfl (hb hby d1_16) ?_
    show Steps p.tables e below (T8.setTop (mkF m 18 #[.val (.ref a0x), .val (.int p1), .val (.long q1), .second, .val (.int (5 : Int32)), .val (.int (4 : Int32))] [(.int (8 : Int32)), (.long q1), (.int (p1 + (4 : Int32))), (.ref a0x)])) _
    refine XS.iload X8.here hx rfl (hb hby d1_18) rfl ?_
    show Steps p.tables e below (T8.setTop (mkF m 20 #[.val (.ref a0x), .val (.int p1), .val (.long q1), .second, .val (.int (5 : Int32)), .val (.int (4 : Int32))] [(.int (5 : Int32)), (.int (8 : Int32)), (.long q1), (.int (p1 + (4 : Int32))), (.ref a0x)])) _
    refine XS.iconst X8.here hx rfl (hb hby d1_20) ?_
    show Steps p.tables e below (T8.setTop (mkF m 21 #[.val (.ref a0x), .val (.int p1), .val (.long q1), .second, .val (.int (5 : Int32)), .val (.int (4 : Int32))] [(.int (1 : Int32)), (.int (5 : Int32)), (.int (8 : Int32)), (.long q1), (.int (p1 + (4 : Int32))), (.ref a0x)])) _
    refine XS.isub X8.here hx rfl (hb hby d1_21) rfl ?_
    show Steps p.tables e below (T8.setTop (mkF m 22 #[.val (.ref a0x), .val (.int p1), .val (.long q1), .second, .val (.int (5 : Int32)), .val (.int (4 : Int32))] [(.int (4 : Int32)), (.int (8 : Int32)), (.long q1), (.int (p1 + (4 : Int32))), (.ref a0x)])) _
    refine XS.iload X8.here hx rfl (hb hby d1_22) rfl ?_
    show Steps p.tables e below (T8.setTop (mkF m 24 #[.val (.ref a0x), .val (.int p1), .val (.long q1), .second, .val (.int (5 : Int32)), .val (.int (4 : Int32))] [(.int (4 : Int32)), (.int (4 : Int32)), (.int (8 : Int32)), (.long q1), (.int (p1 + (4 : Int32))), (.ref a0x)])) _
    refine XS.isub X8.here hx rfl (hb hby d1_24) rfl ?_
    show Steps p.tables e below (T8.setTop (mkF m 25 #[.val (.ref a0x), .val (.int p1), .val (.long q1), .second, .val (.int (5 : Int32)), .val (.int (4 : Int32))] [(.int (0 : Int32)), (.int (8 : Int32)), (.long q1), (.int (p1 + (4 : Int32))), (.ref a0x)])) _
    refine XS.imul X8.here hx rfl (hb hby d1_25) rfl ?_
    show Steps p.tables e below (T8.setTop (mkF m 26 #[.val (.ref a0x), .val (.int p1), .val (.long q1), .second, .val (.int (5 : Int32)), .val (.int (4 : Int32))] [(.int (0 : Int32)), (.long q1), (.int (p1 + (4 : Int32))), (.ref a0x)])) _
    refine XS.lushr X8.here hx rfl (hb hby d1_26) rfl ?_
    show Steps p.tables e below (T8.setTop (mkF m 27 #[.val (.ref a0x), .val (.int p1), .val (.long q1), .second, .val (.int (5 : Int32)), .val (.int (4 : Int32))] [(.long ((q1.toUInt64 >>> ((0 : Int32) &&& 0x3f).toInt64.toUInt64).toInt64)), (.int (p1 + (4 : Int32))), (.ref a0x)])) _
    refine XS.l2i X8.here hx rfl (hb hby d1_27) rfl ?_
    show Steps p.tables e below (T8.setTop (mkF m 28 #[.val (.ref a0x), .val (.int p1), .val (.long q1), .second, .val (.int (5 : Int32)), .val (.int (4 : Int32))] [(.int ((q1.toUInt64 >>> ((0 : Int32) &&& 0x3f).toInt64.toUInt64).toInt64).toInt32), (.int (p1 + (4 : Int32))), (.ref a0x)])) _
    refine XS.i2b X8.here hx rfl (hb hby d1_28) rfl ?_
    show Steps p.tables e below (T8.setTop (mkF m 29 #[.val (.ref a0x), .val (.int p1), .val (.long q1), .second, .val (.int (5 : Int32)), .val (.int (4 : Int32))] [(.int ((q1.toUInt64 >>> ((0 : Int32) &&& 0x3f).toInt64.toUInt64).toInt64).toInt32.toInt8.toInt32), (.int (p1 + (4 : Int32))), (.ref a0x)])) _
    refine st10 _ ?_
    show Steps p.tables e below (T10.setTop (mkF m 30 #[.val (.ref a0x), .val (.int p1), .val (.long q1), .second, .val (.int (5 : Int32)), .val (.int (4 : Int32))] [])) _
    refine XS.iinc X10.here hx rfl (hb hby d1_30) rfl (l' := #[.val (.ref a0x), .val (.int p1), .val (.long q1), .second, .val (.int (5 : Int32)), .val (.int (5 : Int32))]) rfl ?_
    show Steps p.tables e below (T10.setTop (mkF m 33 #[.val (.ref a0x), .val (.int p1), .val (.long q1), .second, .val (.int (5 : Int32)), .val (.int (5 : Int32))] [])) _
    refine XS.goto X10.here hx rfl (pc0 := 33) (pc' := 3) rfl (hb hby d1_33) (by decide) (by decide) ?_
    show Steps p.tables e below (T10.setTop (mkF m 3 #[.val (.ref a0x), .val (.int p1), .val (.long q1), .second, .val (.int (5 : Int32)), .val (.int (5 : Int32))] [])) _
    refine XS.iload X10.here hx rfl (hb hby d1_3) rfl ?_
    show Steps p.tables e below (T10.setTop (mkF m 5 #[.val (.ref a0x), .val (.int p1), .val (.long q1), .second, .val (.int (5 : Int32)), .val (.int (5 : Int32))] [(.int (5 : Int32))])) _
    refine XS.iload X10.here hx rfl (hb hby d1_5) rfl ?_
    show Steps p.tables e below (T10.setTop (mkF m 7 #[.val (.ref a0x), .val (.int p1), .val (.long q1), .second, .val (.int (5 : Int32)), .val (.int (5 : Int32))] [(.int (5 : Int32)), (.int (5 : Int32))])) _
    refine XS.icmpYes X10.here hx rfl (pc0 := 7) (pc' := 36) rfl (hb hby d1_7) rfl (flt (by decide : ¬ ((5 : Int32) < (5 : Int32)))).2.1 (by decide) (by decide) ?_
    show Steps p.tables e below (T10.setTop (mkF m 36 #[.val (.ref a0x), .val (.int p1), .val (.long q1), .second, .val (.int (5 : Int32)), .val (.int (5 : Int32))] [])) _
    refine XS.iloadN X10.here hx rfl (hb hby d1_36) rfl ?_
    show Steps p.tables e below (T10.setTop (mkF m 37 #[.val (.ref a0x), .val (.int p1), .val (.long q1), .second, .val (.int (5 : Int32)), .val (.int (5 : Int32))] [(.int p1)])) _
    refine XS.iload X10.here hx rfl (hb hby d1_37) rfl ?_
    show Steps p.tables e below (T10.setTop (mkF m 39 #[.val (.ref a0x), .val (.int p1), .val (.long q1), .second, .val (.int (5 : Int32)), .val (.int (5 : Int32))] [(.int (5 : Int32)), (.int p1)])) _
    refine XS.iadd X10.here hx rfl (hb hby d1_39) rfl ?_
    show Steps p.tables e below (T10.setTop (mkF m 40 #[.val (.ref a0x), .val (.int p1), .val (.long q1), .second, .val (.int (5 : Int32)), .val (.int (5 : Int32))] [(.int (p1 + (5 : Int32)))])) _
    exact retI X10 hx Bd.returns (hb hby d1_40) hr
  · show Q_rm_put Z a0x p1 q1 p2 tab h0 n0 _ T10.heap _
    rw [e10]
    exact ⟨(by rw [hk]), N10, K10, (by rw [hk]; exact (own_Tab.cong V10 (fun j _ _ => by simp [own_putF, own_b8, own_byte, (by decide : (0 : Int32) < 5), (by decide : (1 : Int32) < 5), (by decide : (2 : Int32) < 5), (by decide : (3 : Int32) < 5), (by decide : (4 : Int32) < 5), (by decide : ¬ (5 : Int32) < 5), (by decide : ¬ (6 : Int32) < 5), (by decide : ¬ (7 : Int32) < 5)])))⟩
set_option maxRecDepth 65536 in
set_option maxHeartbeats 40000000 in
theorem rm_put6 (l : Launch) (Z : State) (a0 : Array Value) (hw : ∀ d ∈ tables_1, d.before a0 Z = true) (ws : List Jvm.Cond) (a0x : Addr) (p1 : Int32) (q1 : Int64) (p2 : Int32) (tab : Int32 → Int32) (h0 : Heap) (n0 : Nat) (Z0 : n0 ≤ h0.size) (V0x : own_Tab Z h0 a0x .byte (12 : Int32) (fun j => .int (tab j))) (g0x : n0 ≤ a0x) (hat : 0 ≤ p1.toInt ∧ p1.toInt + ((6 : Int32)).toInt ≤ 12) (hk : p2 = (6 : Int32)) :
    MetFree l (⟨"com/example/fyfo/fyfo/BigEndian", "put", "([BIJI)I"⟩ : MethodName) (head1 (Jvm.Cond.code (⟨"com/example/fyfo/fyfo/BigEndian", "put", "([BIJI)I"⟩ : MethodName) prog_1_method_2_code 6 (some .int) :: ws) ({ frames := 0, cells := 0, slots := 0, locals := 0 } : Room)) (fun a U => a = #[(.ref a0x), (.int p1), (.long q1), (.int p2)] ∧ Z.Warmed39 U.vm ∧ U.heap = h0) (fun _ _ _ _ _ => True) (fun _ U o U' => ∃ v L, o = .returned v ∧ Q_rm_put Z a0x p1 q1 p2 tab h0 n0 v U'.heap L ∧ FrameEnd U o U' L ({ frames := 0, cells := 0, slots := 0, locals := 0 } : Room).cells ({ frames := 0, cells := 0, slots := 0, locals := 0 } : Room).slots) := by
  refine MetFree.of_bodySF (plainFor_of_name pn_0) hisR ?_
  intro p e s m args below meth c s₁ Bd hml0 hP hK
  obtain ⟨rfl, hZ, hh⟩ := hP
  have hx := Bd.exec
  have hby := Bd.bytes
  have hml : c.maxLocals = 6 := hml0
  have hown : s.vm.findClass "com/example/fyfo/fyfo/BigEndian" = some m.cls := findClass_of_methodNamed Bd.named
  have hnm := (name_of_methodNamed Bd.named Bd.method).1
  have X0 : Stand p l e ({ frames := 0, cells := 0, slots := 0, locals := 0 } : Room) s m #[(.ref a0x), (.int p1), (.long q1), (.int p2)] below meth c s₁ [] 0 0 := Stand.of_body Bd
  have e0 : s₁.heap = h0 := by rw [← hh, Bd.state]; rfl
  have N0 := Fr.nil n0
  have K0 : Keep h0 h0 [a0x] := Keep.refl h0 [a0x]
  have pre0 : ∀ t, Steps p.tables e below (s₁.setTop (mkF m 0 #[.val (.ref a0x), .val (.int p1), .val (.long q1), .second, .val (.int p2), .unset] [])) t → Steps p.tables e below (s₁.setTop (entryFrame m #[(.ref a0x), (.int p1), (.long q1), (.int p2)] 6)) t := fun t k => castTop (ef_1 m a0x p1 q1 p2) k
  obtain ⟨cl1, Ar1, S1, N1', H1⟩ := (id V0x)
  have hin1 : ¬ ((p1 + (0 : Int32)) < 0 ∨ cl1.slots.size ≤ ((p1 + (0 : Int32))).toNatClampNeg) := inb_of S1 (own_bd (w := (6 : Int32)) hat ⟨by decide, by decide⟩)
  obtain ⟨T2, h2, X2, e2, W2, st2⟩ := stB X0 hx hZ e0 Ar1 (j := (p1 + (0 : Int32))) hin1 (g := (mkF m 29 #[.val (.ref a0x), .val (.int p1), .val (.long q1), .second, .val (.int (6 : Int32)), .val (.int (0 : Int32))] [(.int ((q1.toUInt64 >>> ((40 : Int32) &&& 0x3f).toInt64.toUInt64).toInt64).toInt32.toInt8.toInt32), (.int (p1 + (0 : Int32))), (.ref a0x)])) rfl rfl (hb hby d1_29)
  have V2 : own_Tab Z h2 a0x .byte (12 : Int32) (fun j => .int ((fun i => if i = (p1 + (0 : Int32)) then ((q1.toUInt64 >>> ((40 : Int32) &&& 0x3f).toInt64.toUInt64).toInt64).toInt32.toInt8.toInt32.toInt8.toInt32 else tab i) j)) := (own_Tab.set Ar1 S1 N1' H1 hin1 W2).cong (fun j _ _ => by dsimp only; split <;> rfl)
  have N2 := Fr.snoc X2 N0 g0x
  have Z2 : n0 ≤ h2.size := Nat.le_trans Z0 (Keep.of_wr W2).1
  have K2 : Keep h0 h2 [a0x] := K0.wr W2 (Or.inl (List.mem_of_getElem? (i := 0) rfl))
  obtain ⟨cl3, Ar3, S3, N3', H3⟩ := (id V2)
  have hin3 : ¬ ((p1 + (1 : Int32)) < 0 ∨ cl3.slots.size ≤ ((p1 + (1 : Int32))).toNatClampNeg) := inb_of S3 (own_bd (w := (6 : Int32)) hat ⟨by decide, by decide⟩)
  obtain ⟨T4, h4, X4, e4, W4, st4⟩ := stB X2 hx hZ e2 Ar3 (j := (p1 + (1 : Int32))) hin3 (g := (mkF m 29 #[.val (.ref a0x), .val (.int p1), .val (.long q1), .second, .val (.int (6 : Int32)), .val (.int (1 : Int32))] [(.int ((q1.toUInt64 >>> ((32 : Int32) &&& 0x3f).toInt64.toUInt64).toInt64).toInt32.toInt8.toInt32), (.int (p1 + (1 : Int32))), (.ref a0x)])) rfl rfl (hb hby d1_29)
  have V4 : own_Tab Z h4 a0x .byte (12 : Int32) (fun j => .int ((fun i => if i = (p1 + (1 : Int32)) then ((q1.toUInt64 >>> ((32 : Int32) &&& 0x3f).toInt64.toUInt64).toInt64).toInt32.toInt8.toInt32.toInt8.toInt32 else (fun i => if i = (p1 + (0 : Int32)) then ((q1.toUInt64 >>> ((40 : Int32) &&& 0x3f).toInt64.toUInt64).toInt64).toInt32.toInt8.toInt32.toInt8.toInt32 else tab i) i) j)) := (own_Tab.set Ar3 S3 N3' H3 hin3 W4).cong (fun j _ _ => by dsimp only; split <;> rfl)
  have N4 := Fr.snoc X4 N2 g0x
  have Z4 : n0 ≤ h4.size := Nat.le_trans Z2 (Keep.of_wr W4).1
  have K4 : Keep h0 h4 [a0x] := K2.wr W4 (Or.inl (List.mem_of_getElem? (i := 0) rfl))
  obtain ⟨cl5, Ar5, S5, N5', H5⟩ := (id V4)
  have hin5 : ¬ ((p1 + (2 : Int32)) < 0 ∨ cl5.slots.size ≤ ((p1 + (2 : Int32))).toNatClampNeg) := inb_of S5 (own_bd (w := (6 : Int32)) hat ⟨by decide, by decide⟩)
  obtain ⟨T6, h6, X6, e6, W6, st6⟩ := stB X4 hx hZ e4 Ar5 (j := (p1 + (2 : Int32))) hin5 (g := (mkF m 29 #[.val (.ref a0x), .val (.int p1), .val (.long q1), .second, .val (.int (6 : Int32)), .val (.int (2 : Int32))] [(.int ((q1.toUInt64 >>> ((24 : Int32) &&& 0x3f).toInt64.toUInt64).toInt64).toInt32.toInt8.toInt32), (.int (p1 + (2 : Int32))), (.ref a0x)])) rfl rfl (hb hby d1_29)
  have V6 : own_Tab Z h6 a0x .byte (12 : Int32) (fun j => .int ((fun i => if i = (p1 + (2 : Int32)) then ((q1.toUInt64 >>> ((24 : Int32) &&& 0x3f).toInt64.toUInt64).toInt64).toInt32.toInt8.toInt32.toInt8.toInt32 else (fun i => if i = (p1 + (1 : Int32)) then ((q1.toUInt64 >>> ((32 : Int32) &&& 0x3f).toInt64.toUInt64).toInt64).toInt32.toInt8.toInt32.toInt8.toInt32 else (fun i => if i = (p1 + (0 : Int32)) then ((q1.toUInt64 >>> ((40 : Int32) &&& 0x3f).toInt64.toUInt64).toInt64).toInt32.toInt8.toInt32.toInt8.toInt32 else tab i) i) i) j)) := (own_Tab.set Ar5 S5 N5' H5 hin5 W6).cong (fun j _ _ => by dsimp only; split <;> rfl)
  have N6 := Fr.snoc X6 N4 g0x
  have Z6 : n0 ≤ h6.size := Nat.le_trans Z4 (Keep.of_wr W6).1
  have K6 : Keep h0 h6 [a0x] := K4.wr W6 (Or.inl (List.mem_of_getElem? (i := 0) rfl))
  obtain ⟨cl7, Ar7, S7, N7', H7⟩ := (id V6)
  have hin7 : ¬ ((p1 + (3 : Int32)) < 0 ∨ cl7.slots.size ≤ ((p1 + (3 : Int32))).toNatClampNeg) := inb_of S7 (own_bd (w := (6 : Int32)) hat ⟨by decide, by decide⟩)
  obtain ⟨T8, h8, X8, e8, W8, st8⟩ := stB X6 hx hZ e6 Ar7 (j := (p1 + (3 : Int32))) hin7 (g := (mkF m 29 #[.val (.ref a0x), .val (.int p1), .val (.long q1), .second, .val (.int (6 : Int32)), .val (.int (3 : Int32))] [(.int ((q1.toUInt64 >>> ((16 : Int32) &&& 0x3f).toInt64.toUInt64).toInt64).toInt32.toInt8.toInt32), (.int (p1 + (3 : Int32))), (.ref a0x)])) rfl rfl (hb hby d1_29)
  have V8 : own_Tab Z h8 a0x .byte (12 : Int32) (fun j => .int ((fun i => if i = (p1 + (3 : Int32)) then ((q1.toUInt64 >>> ((16 : Int32) &&& 0x3f).toInt64.toUInt64).toInt64).toInt32.toInt8.toInt32.toInt8.toInt32 else (fun i => if i = (p1 + (2 : Int32)) then ((q1.toUInt64 >>> ((24 : Int32) &&& 0x3f).toInt64.toUInt64).toInt64).toInt32.toInt8.toInt32.toInt8.toInt32 else (fun i => if i = (p1 + (1 : Int32)) then ((q1.toUInt64 >>> ((32 : Int32) &&& 0x3f).toInt64.toUInt64).toInt64).toInt32.toInt8.toInt32.toInt8.toInt32 else (fun i => if i = (p1 + (0 : Int32)) then ((q1.toUInt64 >>> ((40 : Int32) &&& 0x3f).toInt64.toUInt64).toInt64).toInt32.toInt8.toInt32.toInt8.toInt32 else tab i) i) i) i) j)) := (own_Tab.set Ar7 S7 N7' H7 hin7 W8).cong (fun j _ _ => by dsimp only; split <;> rfl)
  have N8 := Fr.snoc X8 N6 g0x
  have Z8 : n0 ≤ h8.size := Nat.le_trans Z6 (Keep.of_wr W8).1
  have K8 : Keep h0 h8 [a0x] := K6.wr W8 (Or.inl (List.mem_of_getElem? (i := 0) rfl))
  obtain ⟨cl9, Ar9, S9, N9', H9⟩ := (id V8)
  have hin9 : ¬ ((p1 + (4 : Int32)) < 0 ∨ cl9.slots.size ≤ ((p1 + (4 : Int32))).toNatClampNeg) := inb_of S9 (own_bd (w := (6 : Int32)) hat ⟨by decide, by decide⟩)
  obtain ⟨T10, h10, X10, e10, W10, st10⟩ := stB X8 hx hZ e8 Ar9 (j := (p1 + (4 : Int32))) hin9 (g := (mkF m 29 #[.val (.ref a0x), .val (.int p1), .val (.long q1), .second, .val (.int (6 : Int32)), .val (.int (4 : Int32))] [(.int ((q1.toUInt64 >>> ((8 : Int32) &&& 0x3f).toInt64.toUInt64).toInt64).toInt32.toInt8.toInt32), (.int (p1 + (4 : Int32))), (.ref a0x)])) rfl rfl (hb hby d1_29)
  have V10 : own_Tab Z h10 a0x .byte (12 : Int32) (fun j => .int ((fun i => if i = (p1 + (4 : Int32)) then ((q1.toUInt64 >>> ((8 : Int32) &&& 0x3f).toInt64.toUInt64).toInt64).toInt32.toInt8.toInt32.toInt8.toInt32 else (fun i => if i = (p1 + (3 : Int32)) then ((q1.toUInt64 >>> ((16 : Int32) &&& 0x3f).toInt64.toUInt64).toInt64).toInt32.toInt8.toInt32.toInt8.toInt32 else (fun i => if i = (p1 + (2 : Int32)) then ((q1.toUInt64 >>> ((24 : Int32) &&& 0x3f).toInt64.toUInt64).toInt64).toInt32.toInt8.toInt32.toInt8.toInt32 else (fun i => if i = (p1 + (1 : Int32)) then ((q1.toUInt64 >>> ((32 : Int32) &&& 0x3f).toInt64.toUInt64).toInt64).toInt32.toInt8.toInt32.toInt8.toInt32 else (fun i => if i = (p1 + (0 : Int32)) then ((q1.toUInt64 >>> ((40 : Int32) &&& 0x3f).toInt64.toUInt64).toInt64).toInt32.toInt8.toInt32.toInt8.toInt32 else tab i) i) i) i) i) j)) := (own_Tab.set Ar9 S9 N9' H9 hin9 W10).cong (fun j _ _ => by dsimp only; split <;> rfl)
  have N10 := Fr.snoc X10 N8 g0x
  have Z10 : n0 ≤ h10.size := Nat.le_trans Z8 (Keep.of_wr W10).1
  have K10 : Keep h0 h10 [a0x] := K8.wr W10 (Or.inl (List.mem_of_getElem? (i := 0) rfl))
  obtain ⟨cl11, Ar11, S11, N11', H11⟩ := (id V10)
  have hin11 : ¬ ((p1 + (5 : Int32)) < 0 ∨ cl11.slots.size ≤ ((p1 + (5 : Int32))).toNatClampNeg) := inb_of S11 (own_bd (w := (6 : Int32)) hat ⟨by decide, by decide⟩)
  obtain ⟨T12, h12, X12, e12, W12, st12⟩ := stB X10 hx hZ e10 Ar11 (j := (p1 + (5 : Int32))) hin11 (g := (mkF m 29 #[.val (.ref a0x), .val (.int p1), .val (.long q1), .second, .val (.int (6 : Int32)), .val (.int (5 : Int32))] [(.int ((q1.toUInt64 >>> ((0 : Int32) &&& 0x3f).toInt64.toUInt64).toInt64).toInt32.toInt8.toInt32), (.int (p1 + (5 : Int32))), (.ref a0x)])) rfl rfl (hb hby d1_29)
  have V12 : own_Tab Z h12 a0x .byte (12 : Int32) (fun j => .int ((fun i => if i = (p1 + (5 : Int32)) then ((q1.toUInt64 >>> ((0 : Int32) &&& 0x3f).toInt64.toUInt64).toInt64).toInt32.toInt8.toInt32.toInt8.toInt32 else (fun i => if i = (p1 + (4 : Int32)) then ((q1.toUInt64 >>> ((8 : Int32) &&& 0x3f).toInt64.toUInt64).toInt64).toInt32.toInt8.toInt32.toInt8.toInt32 else (fun i => if i = (p1 + (3 : Int32)) then ((q1.toUInt64 >>> ((16 : Int32) &&& 0x3f).toInt64.toUInt64).toInt64).toInt32.toInt8.toInt32.toInt8.toInt32 else (fun i => if i = (p1 + (2 : Int32)) then ((q1.toUInt64 >>> ((24 : Int32) &&& 0x3f).toInt64.toUInt64).toInt64).toInt32.toInt8.toInt32.toInt8.toInt32 else (fun i => if i = (p1 + (1 : Int32)) then ((q1.toUInt64 >>> ((32 : Int32) &&& 0x3f).toInt64.toUInt64).toInt64).toInt32.toInt8.toInt32.toInt8.toInt32 else (fun i => if i = (p1 + (0 : Int32)) then ((q1.toUInt64 >>> ((40 : Int32) &&& 0x3f).toInt64.toUInt64).toInt64).toInt32.toInt8.toInt32.toInt8.toInt32 else tab i) i) i) i) i) i) j)) := (own_Tab.set Ar11 S11 N11' H11 hin11 W12).cong (fun j _ _ => by dsimp only; split <;> rfl)
  have N12 := Fr.snoc X12 N10 g0x
  have Z12 : n0 ≤ h12.size := Nat.le_trans Z10 (Keep.of_wr W12).1
  have K12 : Keep h0 h12 [a0x] := K10.wr W12 (Or.inl (List.mem_of_getElem? (i := 0) rfl))
  obtain ⟨fs, hr, hrun, hended, hW, hsame⟩ := X12.leave (v := some (.int (p1 + (6 : Int32)))) (fun h => by rw [Bd.returns] at h; cases h)
  refine ⟨_, _, pre0 _ ?_, hrun, hended, _, _, rfl, ?_, ⟨_, rfl⟩, hW, hsame.mono (by decide) (by decide)⟩
  · show Steps p.tables e below (s₁.setTop (mkF m 0 #[.val (.ref a0x), .val (.int p1), .val (.long q1), .second, .val (.int p2), .unset] [])) _
    rw [hk]
    show Steps p.tables e below (s₁.setTop (mkF m 0 #[.val (.ref a0x), .val (.int p1), .val (.long q1), .second, .val (.int (6 : Int32)), .unset] [])) _
    refine XS.iconst X0.here hx rfl (hb hby d1_0) ?_
    show Steps p.tables e below (s₁.setTop (mkF m 1 #[.val (.ref a0x), .val (.int p1), .val (.long q1), .second, .val (.int (6 : Int32)), .unset] [(.int (0 : Int32))])) _
    refine XS.istore X0.here hx rfl (hb hby d1_1) rfl (l' := #[.val (.ref a0x), .val (.int p1), .val (.long q1), .second, .val (.int (6 : Int32)), .val (.int (0 : Int32))]) rfl ?_
    show Steps p.tables e below (s₁.setTop (mkF m 3 #[.val (.ref a0x), .val (.int p1), .val (.long q1), .second, .val (.int (6 : Int32)), .val (.int (0 : Int32))] [])) _
    refine XS.iload X0.here hx rfl (hb hby d1_3) rfl ?_
    show Steps p.tables e below (s₁.setTop (mkF m 5 #[.val (.ref a0x), .val (.int p1), .val (.long q1), .second, .val (.int (6 : Int32)), .val (.int (0 : Int32))] [(.int (0 : Int32))])) _
    refine XS.iload X0.here hx rfl (hb hby d1_5) rfl ?_
    show Steps p.tables e below (s₁.setTop (mkF m 7 #[.val (.ref a0x), .val (.int p1), .val (.long q1), .second, .val (.int (6 : Int32)), .val (.int (0 : Int32))] [(.int (6 : Int32)), (.int (0 : Int32))])) _
    refine XS.icmpNo X0.here hx rfl (hb hby d1_7) rfl (tlt (by decide : (0 : Int32) < (6 : Int32))).2.1 ?_
    show Steps p.tables e below (s₁.setTop (mkF m 10 #[.val (.ref a0x), .val (.int p1), .val (.long q1), .second, .val (.int (6 : Int32)), .val (.int (0 : Int32))] [])) _
    refine XS.aloadN X0.here hx rfl (hb hby d1_10) rfl rfl ?_
    show Steps p.tables e below (s₁.setTop (mkF m 11 #[.val (.ref a0x), .val (.int p1), .val (.long q1), .second, .val (.int (6 : Int32)), .val (.int (0 : Int32))] [(.ref a0x)])) _
    refine XS.iloadN X0.here hx rfl (hb hby d1_11) rfl ?_
    show Steps p.tables e below (s₁.setTop (mkF m 12 #[.val (.ref a0x), .val (.int p1), .val (.long q1), .second, .val (.int (6 : Int32)), .val (.int (0 : Int32))] [(.int p1), (.ref a0x)])) _
    refine XS.iload X0.here hx rfl (hb hby d1_12) rfl ?_
    show Steps p.tables e below (s₁.setTop (mkF m 14 #[.val (.ref a0x), .val (.int p1), .val (.long q1), .second, .val (.int (6 : Int32)), .val (.int (0 : Int32))] [(.int (0 : Int32)), (.int p1), (.ref a0x)])) _
    refine XS.iadd X0.here hx rfl (hb hby d1_14) rfl ?_
    show Steps p.tables e below (s₁.setTop (mkF m 15 #[.val (.ref a0x), .val (.int p1), .val (.long q1), .second, .val (.int (6 : Int32)), .val (.int (0 : Int32))] [(.int (p1 + (0 : Int32))), (.ref a0x)])) _
    refine XS.lloadN X0.here hx rfl (hb hby d1_15) rfl ?_
    show Steps p.tables e below (s₁.setTop (mkF m 16 #[.val (.ref a0x), .val (.int p1), .val (.long q1), .second, .val (.int (6 : Int32)), .val (.int (0 : Int32))] [(.long q1), (.int (p1 + (0 : Int32))), (.ref a0x)])) _
    refine XS.bipush X0.here hx rfl (hb hby d1_16) ?_
    show Steps p.tables e below (s₁.setTop (mkF m 18 #[.val (.ref a0x), .val (.int p1), .val (.long q1), .second, .val (.int (6 : Int32)), .val (.int (0 : Int32))] [(.int (8 : Int32)), (.long q1), (.int (p1 + (0 : Int32))), (.ref a0x)])) _
    refine XS.iload X0.here hx rfl (hb hby d1_18) rfl ?_
    show Steps p.tables e below (s₁.setTop (mkF m 20 #[.val (.ref a0x), .val (.int p1), .val (.long q1), .second, .val (.int (6 : Int32)), .val (.int (0 : Int32))] [(.int (6 : Int32)), (.int (8 : Int32)), (.long q1), (.int (p1 + (0 : Int32))), (.ref a0x)])) _
    refine XS.iconst X0.here hx rfl (hb hby d1_20) ?_
    show Steps p.tables e below (s₁.setTop (mkF m 21 #[.val (.ref a0x), .val (.int p1), .val (.long q1), .second, .val (.int (6 : Int32)), .val (.int (0 : Int32))] [(.int (1 : Int32)), (.int (6 : Int32)), (.int (8 : Int32)), (.long q1), (.int (p1 + (0 : Int32))), (.ref a0x)])) _
    refine XS.isub X0.here hx rfl (hb hby d1_21) rfl ?_
    show Steps p.tables e below (s₁.setTop (mkF m 22 #[.val (.ref a0x), .val (.int p1), .val (.long q1), .second, .val (.int (6 : Int32)), .val (.int (0 : Int32))] [(.int (5 : Int32)), (.int (8 : Int32)), (.long q1), (.int (p1 + (0 : Int32))), (.ref a0x)])) _
    refine XS.iload X0.here hx rfl (hb hby d1_22) rfl ?_
    show Steps p.tables e below (s₁.setTop (mkF m 24 #[.val (.ref a0x), .val (.int p1), .val (.long q1), .second, .val (.int (6 : Int32)), .val (.int (0 : Int32))] [(.int (0 : Int32)), (.int (5 : Int32)), (.int (8 : Int32)), (.long q1), (.int (p1 + (0 : Int32))), (.ref a0x)])) _
    refine XS.isub X0.here hx rfl (hb hby d1_24) rfl ?_
    show Steps p.tables e below (s₁.setTop (mkF m 25 #[.val (.ref a0x), .val (.int p1), .val (.long q1), .second, .val (.int (6 : Int32)), .val (.int (0 : Int32))] [(.int (5 : Int32)), (.int (8 : Int32)), (.long q1), (.int (p1 + (0 : Int32))), (.ref a0x)])) _
    refine XS.imul X0.here hx rfl (hb hby d1_25) rfl ?_
    show Steps p.tables e below (s₁.setTop (mkF m 26 #[.val (.ref a0x), .val (.int p1), .val (.long q1), .second, .val (.int (6 : Int32)), .val (.int (0 : Int32))] [(.int (40 : Int32)), (.long q1), (.int (p1 + (0 : Int32))), (.ref a0x)])) _
    refine XS.lushr X0.here hx rfl (hb hby d1_26) rfl ?_
    show Steps p.tables e below (s₁.setTop (mkF m 27 #[.val (.ref a0x), .val (.int p1), .val (.long q1), .second, .val (.int (6 : Int32)), .val (.int (0 : Int32))] [(.long ((q1.toUInt64 >>> ((40 : Int32) &&& 0x3f).toInt64.toUInt64).toInt64)), (.int (p1 + (0 : Int32))), (.ref a0x)])) _
    refine XS.l2i X0.here hx rfl (hb hby d1_27) rfl ?_
    show Steps p.tables e below (s₁.setTop (mkF m 28 #[.val (.ref a0x), .val (.int p1), .val (.long q1), .second, .val (.int (6 : Int32)), .val (.int (0 : Int32))] [(.int ((q1.toUInt64 >>> ((40 : Int32) &&& 0x3f).toInt64.toUInt64).toInt64).toInt32), (.int (p1 + (0 : Int32))), (.ref a0x)])) _
    refine XS.i2b X0.here hx rfl (hb hby d1_28) rfl ?_
    show Steps p.tables e below (s₁.setTop (mkF m 29 #[.val (.ref a0x), .val (.int p1), .val (.long q1), .second, .val (.int (6 : Int32)), .val (.int (0 : Int32))] [(.int ((q1.toUInt64 >>> ((40 : Int32) &&& 0x3f).toInt64.toUInt64).toInt64).toInt32.toInt8.toInt32), (.int (p1 + (0 : Int32))), (.ref a0x)])) _
    refine st2 _ ?_
    show Steps p.tables e below (T2.setTop (mkF m 30 #[.val (.ref a0x), .val (.int p1), .val (.long q1), .second, .val (.int (6 : Int32)), .val (.int (0 : Int32))] [])) _
    refine XS.iinc X2.here hx rfl (hb hby d1_30) rfl (l' := #[.val (.ref a0x), .val (.int p1), .val (.long q1), .second, .val (.int (6 : Int32)), .val (.int (1 : Int32))]) rfl ?_
    show Steps p.tables e below (T2.setTop (mkF m 33 #[.val (.ref a0x), .val (.int p1), .val (.long q1), .second, .val (.int (6 : Int32)), .val (.int (1 : Int32))] [])) _
    refine XS.goto X2.here hx rfl (pc0 := 33) (pc' := 3) rfl (hb hby d1_33) (by decide) (by decide) ?_
    show Steps p.tables e below (T2.setTop (mkF m 3 #[.val (.ref a0x), .val (.int p1), .val (.long q1), .second, .val (.int (6 : Int32)), .val (.int (1 : Int32))] [])) _
    refine XS.iload X2.here hx rfl (hb hby d1_3) rfl ?_
    show Steps p.tables e below (T2.setTop (mkF m 5 #[.val (.ref a0x), .val (.int p1), .val (.long q1), .second, .val (.int (6 : Int32)), .val (.int (1 : Int32))] [(.int (1 : Int32))])) _
    refine XS.iload X2.here hx rfl (hb hby d1_5) rfl ?_
    show Steps p.tables e below (T2.setTop (mkF m 7 #[.val (.ref a0x), .val (.int p1), .val (.long q1), .second, .val (.int (6 : Int32)), .val (.int (1 : Int32))] [(.int (6 : Int32)), (.int (1 : Int32))])) _
    refine XS.icmpNo X2.here hx rfl (hb hby d1_7) rfl (tlt (by decide : (1 : Int32) < (6 : Int32))).2.1 ?_
    show Steps p.tables e below (T2.setTop (mkF m 10 #[.val (.ref a0x), .val (.int p1), .val (.long q1), .second, .val (.int (6 : Int32)), .val (.int (1 : Int32))] [])) _
    refine XS.aloadN X2.here hx rfl (hb hby d1_10) rfl rfl ?_
    show Steps p.tables e below (T2.setTop (mkF m 11 #[.val (.ref a0x), .val (.int p1), .val (.long q1), .second, .val (.int (6 : Int32)), .val (.int (1 : Int32))] [(.ref a0x)])) _
    refine XS.iloadN X2.here hx rfl (hb hby d1_11) rfl ?_
    show Steps p.tables e below (T2.setTop (mkF m 12 #[.val (.ref a0x), .val (.int p1), .val (.long q1), .second, .val (.int (6 : Int32)), .val (.int (1 : Int32))] [(.int p1), (.ref a0x)])) _
    refine XS.iload X2.here hx rfl (hb hby d1_12) rfl ?_
    show Steps p.tables e below (T2.setTop (mkF m 14 #[.val (.ref a0x), .val (.int p1), .val (.long q1), .second, .val (.int (6 : Int32)), .val (.int (1 : Int32))] [(.int (1 : Int32)), (.int p1), (.ref a0x)])) _
    refine XS.iadd X2.here hx rfl (hb hby d1_14) rfl ?_
    show Steps p.tables e below (T2.setTop (mkF m 15 #[.val (.ref a0x), .val (.int p1), .val (.long q1), .second, .val (.int (6 : Int32)), .val (.int (1 : Int32))] [(.int (p1 + (1 : Int32))), (.ref a0x)])) _
    refine XS.lloadN X2.here hx rfl (hb hby d1_15) rfl ?_
    show Steps p.tables e below (T2.setTop (mkF m 16 #[.val (.ref a0x), .val (.int p1), .val (.long q1), .second, .val (.int (6 : Int32)), .val (.int (1 : Int32))] [(.long q1), (.int (p1 + (1 : Int32))), (.ref a0x)])) _
    refine XS.bipush X2.here hx rfl (hb hby d1_16) ?_
    show Steps p.tables e below (T2.setTop (mkF m 18 #[.val (.ref a0x), .val (.int p1), .val (.long q1), .second, .val (.int (6 : Int32)), .val (.int (1 : Int32))] [(.int (8 : Int32)), (.long q1), (.int (p1 + (1 : Int32))), (.ref a0x)])) _
    refine XS.iload X2.here hx rfl (hb hby d1_18) rfl ?_
    show Steps p.tables e below (T2.setTop (mkF m 20 #[.val (.ref a0x), .val (.int p1), .val (.long q1), .second, .val (.int (6 : Int32)), .val (.int (1 : Int32))] [(.int (6 : Int32)), (.int (8 : Int32)), (.long q1), (.int (p1 + (1 : Int32))), (.ref a0x)])) _
    refine XS.iconst X2.here hx rfl (hb hby d1_20) ?_
    show Steps p.tables e below (T2.setTop (mkF m 21 #[.val (.ref a0x), .val (.int p1), .val (.long q1), .second, .val (.int (6 : Int32)), .val (.int (1 : Int32))] [(.int (1 : Int32)), (.int (6 : Int32)), (.int (8 : Int32)), (.long q1), (.int (p1 + (1 : Int32))), (.ref a0x)])) _
    refine XS.isub X2.here hx rfl (hb hby d1_21) rfl ?_
    show Steps p.tables e below (T2.setTop (mkF m 22 #[.val (.ref a0x), .val (.int p1), .val (.long q1), .second, .val (.int (6 : Int32)), .val (.int (1 : Int32))] [(.int (5 : Int32)), (.int (8 : Int32)), (.long q1), (.int (p1 + (1 : Int32))), (.ref a0x)])) _
    refine XS.iload X2.here hx rfl (hb hby d1_22) rfl ?_
    show Steps p.tables e below (T2.setTop (mkF m 24 #[.val (.ref a0x), .val (.int p1), .val (.long q1), .second, .val (.int (6 : Int32)), .val (.int (1 : Int32))] [(.int (1 : Int32)), (.int (5 : Int32)), (.int (8 : Int32)), (.long q1), (.int (p1 + (1 : Int32))), (.ref a0x)])) _
    refine XS.isub X2.here hx rfl (hb hby d1_24) rfl ?_
    show Steps p.tables e below (T2.setTop (mkF m 25 #[.val (.ref a0x), .val (.int p1), .val (.long q1), .second, .val (.int (6 : Int32)), .val (.int (1 : Int32))] [(.int (4 : Int32)), (.int (8 : Int32)), (.long q1), (.int (p1 + (1 : Int32))), (.ref a0x)])) _
    refine XS.imul X2.here hx rfl (hb hby d1_25) rfl ?_
    show Steps p.tables e below (T2.setTop (mkF m 26 #[.val (.ref a0x), .val (.int p1), .val (.long q1), .second, .val (.int (6 : Int32)), .val (.int (1 : Int32))] [(.int (32 : Int32)), (.long q1), (.int (p1 + (1 : Int32))), (.ref a0x)])) _
    refine XS.lushr X2.here hx rfl (hb hby d1_26) rfl ?_
    show Steps p.tables e below (T2.setTop (mkF m 27 #[.val (.ref a0x), .val (.int p1), .val (.long q1), .second, .val (.int (6 : Int32)), .val (.int (1 : Int32))] [(.long ((q1.toUInt64 >>> ((32 : Int32) &&& 0x3f).toInt64.toUInt64).toInt64)), (.int (p1 + (1 : Int32))), (.ref a0x)])) _
    refine XS.l2i X2.here hx rfl (hb hby d1_27) rfl ?_
    show Steps p.tables e below (T2.setTop (mkF m 28 #[.val (.ref a0x), .val (.int p1), .val (.long q1), .second, .val (.int (6 : Int32)), .val (.int (1 : Int32))] [(.int ((q1.toUInt64 >>> ((32 : Int32) &&& 0x3f).toInt64.toUInt64).toInt64).toInt32), (.int (p1 + (1 : Int32))), (.ref a0x)])) _
    refine XS.i2b X2.here hx rfl (hb hby d1_28) rfl ?_
    show Steps p.tables e below (T2.setTop (mkF m 29 #[.val (.ref a0x), .val (.int p1), .val (.long q1), .second, .val (.int (6 : Int32)), .val (.int (1 : Int32))] [(.int ((q1.toUInt64 >>> ((32 : Int32) &&& 0x3f).toInt64.toUInt64).toInt64).toInt32.toInt8.toInt32), (.int (p1 + (1 : Int32))), (.ref a0x)])) _
    refine st4 _ ?_
    show Steps p.tables e below (T4.setTop (mkF m 30 #[.val (.ref a0x), .val (.int p1), .val (.long q1), .second, .val (.int (6 : Int32)), .val (.int (1 : Int32))] [])) _
    refine XS.iinc X4.here hx rfl (hb hby d1_30) rfl (l' := #[.val (.ref a0x), .val (.int p1), .val (.long q1), .second, .val (.int (6 : Int32)), .val (.int (2 : Int32))]) rfl ?_
    show Steps p.tables e below (T4.setTop (mkF m 33 #[.val (.ref a0x), .val (.int p1), .val (.long q1), .second, .val (.int (6 : Int32)), .val (.int (2 : Int32))] [])) _
    refine XS.goto X4.here hx rfl (pc0 := 33) (pc' := 3) rfl (hb hby d1_33) (by decide) (by decide) ?_
    show Steps p.tables e below (T4.setTop (mkF m 3 #[.val (.ref a0x), .val (.int p1), .val (.long q1), .second, .val (.int (6 : Int32)), .val (.int (2 : Int32))] [])) _
    refine XS.iload X4.here hx rfl (hb hby d1_3) rfl ?_
    show Steps p.tables e below (T4.setTop (mkF m 5 #[.val (.ref a0x), .val (.int p1), .val (.long q1), .second, .val (.int (6 : Int32)), .val (.int (2 : Int32))] [(.int (2 : Int32))])) _
    refine XS.iload X4.here hx rfl (hb hby d1_5) rfl ?_
    show Steps p.tables e below (T4.setTop (mkF m 7 #[.val (.ref a0x), .val (.int p1), .val (.long q1), .second, .val (.int (6 : Int32)), .val (.int (2 : Int32))] [(.int (6 : Int32)), (.int (2 : Int32))])) _
    refine XS.icmpNo X4.here hx rfl (hb hby d1_7) rfl (tlt (by decide : (2 : Int32) < (6 : Int32))).2.1 ?_
    show Steps p.tables e below (T4.setTop (mkF m 10 #[.val (.ref a0x), .val (.int p1), .val (.long q1), .second, .val (.int (6 : Int32)), .val (.int (2 : Int32))] [])) _
    refine XS.aloadN X4.here hx rfl (hb hby d1_10) rfl rfl ?_
    show Steps p.tables e below (T4.setTop (mkF m 11 #[.val (.ref a0x), .val (.int p1), .val (.long q1), .second, .val (.int (6 : Int32)), .val (.int (2 : Int32))] [(.ref a0x)])) _
    refine XS.iloadN X4.here hx rfl (hb hby d1_11) rfl ?_
    show Steps p.tables e below (T4.setTop (mkF m 12 #[.val (.ref a0x), .val (.int p1), .val (.long q1), .second, .val (.int (6 : Int32)), .val (.int (2 : Int32))] [(.int p1), (.ref a0x)])) _
    refine XS.iload X4.here hx rfl (hb hby d1_12) rfl ?_
    show Steps p.tables e below (T4.setTop (mkF m 14 #[.val (.ref a0x), .val (.int p1), .val (.long q1), .second, .val (.int (6 : Int32)), .val (.int (2 : Int32))] [(.int (2 : Int32)), (.int p1), (.ref a0x)])) _
    refine XS.iadd X4.here hx rfl (hb hby d1_14) rfl ?_
    show Steps p.tables e below (T4.setTop (mkF m 15 #[.val (.ref a0x), .val (.int p1), .val (.long q1), .second, .val (.int (6 : Int32)), .val (.int (2 : Int32))] [(.int (p1 + (2 : Int32))), (.ref a0x)])) _
    refine XS.lloadN X4.here hx rfl (hb hby d1_15) rfl ?_
    show Steps p.tables e below (T4.setTop (mkF m 16 #[.val (.ref a0x), .val (.int p1), .val (.long q1), .second, .val (.int (6 : Int32)), .val (.int (2 : Int32))] [(.long q1), (.int (p1 + (2 : Int32))), (.ref a0x)])) _
    refine XS.bipush X4.here hx rfl (hb hby d1_16) ?_
    show Steps p.tables e below (T4.setTop (mkF m 18 #[.val (.ref a0x), .val (.int p1), .val (.long q1), .second, .val (.int (6 : Int32)), .val (.int (2 : Int32))] [(.int (8 : Int32)), (.long q1), (.int (p1 + (2 : Int32))), (.ref a0x)])) _
    refine XS.iload X4.here hx rfl (hb hby d1_18) rfl ?_
    show Steps p.tables e below (T4.setTop (mkF m 20 #[.val (.ref a0x), .val (.int p1), .val (.long q1), .second, .val (.int (6 : Int32)), .val (.int (2 : Int32))] [(.int (6 : Int32)), (.int (8 : Int32)), (.long q1), (.int (p1 + (2 : Int32))), (.ref a0x)])) _
    refine XS.iconst X4.here hx rfl (hb hby d1_20) ?_
    show Steps p.tables e below (T4.setTop (mkF m 21 #[.val (.ref a0x), .val (.int p1), .val (.long q1), .second, .val (.int (6 : Int32)), .val (.int (2 : Int32))] [(.int (1 : Int32)), (.int (6 : Int32)), (.int (8 : Int32)), (.long q1), (.int (p1 + (2 : Int32))), (.ref a0x)])) _
    refine XS.isub X4.here hx rfl (hb hby d1_21) rfl ?_
    show Steps p.tables e below (T4.setTop (mkF m 22 #[.val (.ref a0x), .val (.int p1), .val (.long q1), .second, .val (.int (6 : Int32)), .val (.int (2 : Int32))] [(.int (5 : Int32)), (.int (8 : Int32)), (.long q1), (.int (p1 + (2 : Int32))), (.ref a0x)])) _
    refine XS.iload X4.here hx rfl (hb hby d1_22) rfl ?_
    show Steps p.tables e below (T4.setTop (mkF m 24 #[.val (.ref a0x), .val (.int p1), .val (.long q1), .second, .val (.int (6 : Int32)), .val (.int (2 : Int32))] [(.int (2 : Int32)), (.int (5 : Int32)), (.int (8 : Int32)), (.long q1), (.int (p1 + (2 : Int32))), (.ref a0x)])) _
    refine XS.isub X4.here hx rfl (hb hby d1_24) rfl ?_
    show Steps p.tables e below (T4.setTop (mkF m 25 #[.val (.ref a0x), .val (.int p1), .val (.long q1), .second, .val (.int (6 : Int32)), .val (.int (2 : Int32))] [(.int (3 : Int32)), (.int (8 : Int32)), (.long q1), (.int (p1 + (2 : Int32))), (.ref a0x)])) _
    refine XS.imul X4.here hx rfl (hb hby d1_25) rfl ?_
    show Steps p.tables e below (T4.setTop (mkF m 26 #[.val (.ref a0x), .val (.int p1), .val (.long q1), .second, .val (.int (6 : Int32)), .val (.int (2 : Int32))] [(.int (24 : Int32)), (.long q1), (.int (p1 + (2 : Int32))), (.ref a0x)])) _
    refine XS.lushr X4.here hx rfl (hb hby d1_26) rfl ?_
    show Steps p.tables e below (T4.setTop (mkF m 27 #[.val (.ref a0x), .val (.int p1), .val (.long q1), .second, .val (.int (6 : Int32)), .val (.int (2 : Int32))] [(.long ((q1.toUInt64 >>> ((24 : Int32) &&& 0x3f).toInt64.toUInt64).toInt64)), (.int (p1 + (2 : Int32))), (.ref a0x)])) _
    refine XS.l2i X4.here hx rfl (hb hby d1_27) rfl ?_
    show Steps p.tables e below (T4.setTop (mkF m 28 #[.val (.ref a0x), .val (.int p1), .val (.long q1), .second, .val (.int (6 : Int32)), .val (.int (2 : Int32))] [(.int ((q1.toUInt64 >>> ((24 : Int32) &&& 0x3f).toInt64.toUInt64).toInt64).toInt32), (.int (p1 + (2 : Int32))), (.ref a0x)])) _
    refine XS.i2b X4.here hx rfl (hb hby d1_28) rfl ?_
    show Steps p.tables e below (T4.setTop (mkF m 29 #[.val (.ref a0x), .val (.int p1), .val (.long q1), .second, .val (.int (6 : Int32)), .val (.int (2 : Int32))] [(.int ((q1.toUInt64 >>> ((24 : Int32) &&& 0x3f).toInt64.toUInt64).toInt64).toInt32.toInt8.toInt32), (.int (p1 + (2 : Int32))), (.ref a0x)])) _
    refine st6 _ ?_
    show Steps p.tables e below (T6.setTop (mkF m 30 #[.val (.ref a0x), .val (.int p1), .val (.long q1), .second, .val (.int (6 : Int32)), .val (.int (2 : Int32))] [])) _
    refine XS.iinc X6.here hx rfl (hb hby d1_30) rfl (l' := #[.val (.ref a0x), .val (.int p1), .val (.long q1), .second, .val (.int (6 : Int32)), .val (.int (3 : Int32))]) rfl ?_
    show Steps p.tables e below (T6.setTop (mkF m 33 #[.val (.ref a0x), .val (.int p1), .val (.long q1), .second, .val (.int (6 : Int32)), .val (.int (3 : Int32))] [])) _
    refine XS.goto X6.here hx rfl (pc0 := 33) (pc' := 3) rfl (hb hby d1_33) (by decide) (by decide) ?_
    show Steps p.tables e below (T6.setTop (mkF m 3 #[.val (.ref a0x), .val (.int p1), .val (.long q1), .second, .val (.int (6 : Int32)), .val (.int (3 : Int32))] [])) _
    refine XS.iload X6.here hx rfl (hb hby d1_3) rfl ?_
    show Steps p.tables e below (T6.setTop (mkF m 5 #[.val (.ref a0x), .val (.int p1), .val (.long q1), .second, .val (.int (6 : Int32)), .val (.int (3 : Int32))] [(.int (3 : Int32))])) _
    refine XS.iload X6.here hx rfl (hb hby d1_5) rfl ?_
    show Steps p.tables e below (T6.setTop (mkF m 7 #[.val (.ref a0x), .val (.int p1), .val (.long q1), .second, .val (.int (6 : Int32)), .val (.int (3 : Int32))] [(.int (6 : Int32)), (.int (3 : Int32))])) _
    refine XS.icmpNo X6.here hx rfl (hb hby d1_7) rfl (tlt (by decide : (3 : Int32) < (6 : Int32))).2.1 ?_
    show Steps p.tables e below (T6.setTop (mkF m 10 #[.val (.ref a0x), .val (.int p1), .val (.long q1), .second, .val (.int (6 : Int32)), .val (.int (3 : Int32))] [])) _
    refine XS.aloadN X6.here hx rfl (hb hby d1_10) rfl rfl ?_
    show Steps p.tables e below (T6.setTop (mkF m 11 #[.val (.ref a0x), .val (.int p1), .val (.long q1), .second, .val (.int (6 : Int32)), .val (.int (3 : Int32))] [(.ref a0x)])) _
    refine XS.iloadN X6.here hx rfl (hb hby d1_11) rfl ?_
    show Steps p.tables e below (T6.setTop (mkF m 12 #[.val (.ref a0x), .val (.int p1), .val (.long q1), .second, .val (.int (6 : Int32)), .val (.int (3 : Int32))] [(.int p1), (.ref a0x)])) _
    refine XS.iload X6.here hx rfl (hb hby d1_12) rfl ?_
    show Steps p.tables e below (T6.setTop (mkF m 14 #[.val (.ref a0x), .val (.int p1), .val (.long q1), .second, .val (.int (6 : Int32)), .val (.int (3 : Int32))] [(.int (3 : Int32)), (.int p1), (.ref a0x)])) _
    refine XS.iadd X6.here hx rfl (hb hby d1_14) rfl ?_
    show Steps p.tables e below (T6.setTop (mkF m 15 #[.val (.ref a0x), .val (.int p1), .val (.long q1), .second, .val (.int (6 : Int32)), .val (.int (3 : Int32))] [(.int (p1 + (3 : Int32))), (.ref a0x)])) _
    refine XS.lloadN X6.here hx rfl (hb hby d1_15) rfl ?_
    show Steps p.tables e below (T6.setTop (mkF m 16 #[.val (.ref a0x), .val (.int p1), .val (.long q1), .second, .val (.int (6 : Int32)), .val (.int (3 : Int32))] [(.long q1), (.int (p1 + (3 : Int32))), (.ref a0x)])) _
    refine XS.bipush X6.here hx rfl (hb hby d1_16) ?_
    show Steps p.tables e below (T6.setTop (mkF m 18 #[.val (.ref a0x), .val (.int p1), .val (.long q1), .second, .val (.int (6 : Int32)), .val (.int (3 : Int32))] [(.int (8 : Int32)), (.long q1), (.int (p1 + (3 : Int32))), (.ref a0x)])) _
    refine XS.iload X6.here hx rfl (hb hby d1_18) rfl ?_
    show Steps p.tables e below (T6.setTop (mkF m 20 #[.val (.ref a0x), .val (.int p1), .val (.long q1), .second, .val (.int (6 : Int32)), .val (.int (3 : Int32))] [(.int (6 : Int32)), (.int (8 : Int32)), (.long q1), (.int (p1 + (3 : Int32))), (.ref a0x)])) _
    refine XS.iconst X6.here hx rfl (hb hby d1_20) ?_
    show Steps p.tables e below (T6.setTop (mkF m 21 #[.val (.ref a0x), .val (.int p1), .val (.long q1), .second, .val (.int (6 : Int32)), .val (.int (3 : Int32))] [(.int (1 : Int32)), (.int (6 : Int32)), (.int (8 : Int32)), (.long q1), (.int (p1 + (3 : Int32))), (.ref a0x)])) _
    refine XS.isub X6.here hx rfl (hb hby d1_21) rfl ?_
    show Steps p.tables e below (T6.setTop (mkF m 22 #[.val (.ref a0x), .val (.int p1), .val (.long q1), .second, .val (.int (6 : Int32)), .val (.int (3 : Int32))] [(.int (5 : Int32)), (.int (8 : Int32)), (.long q1), (.int (p1 + (3 : Int32))), (.ref a0x)])) _
    refine XS.iload X6.here hx rfl (hb hby d1_22) rfl ?_
    show Steps p.tables e below (T6.setTop (mkF m 24 #[.val (.ref a0x), .val (.int p1), .val (.long q1), .second, .val (.int (6 : Int32)), .val (.int (3 : Int32))] [(.int (3 : Int32)), (.int (5 : Int32)), (.int (8 : Int32)), (.long q1), (.int (p1 + (3 : Int32))), (.ref a0x)])) _
    refine XS.isub X6.here hx rfl (hb hby d1_24) rfl ?_
    show Steps p.tables e below (T6.setTop (mkF m 25 #[.val (.ref a0x), .val (.int p1), .val (.long q1), .second, .val (.int (6 : Int32)), .val (.int (3 : Int32))] [(.int (2 : Int32)), (.int (8 : Int32)), (.long q1), (.int (p1 + (3 : Int32))), (.ref a0x)])) _
    refine XS.imul X6.here hx rfl (hb hby d1_25) rfl ?_
    show Steps p.tables e below (T6.setTop (mkF m 26 #[.val (.ref a0x), .val (.int p1), .val (.long q1), .second, .val (.int (6 : Int32)), .val (.int (3 : Int32))] [(.int (16 : Int32)), (.long q1), (.int (p1 + (3 : Int32))), (.ref a0x)])) _
    refine XS.lushr X6.here hx rfl (hb hby d1_26) rfl ?_
    show Steps p.tables e below (T6.setTop (mkF m 27 #[.val (.ref a0x), .val (.int p1), .val (.long q1), .second, .val (.int (6 : Int32)), .val (.int (3 : Int32))] [(.long ((q1.toUInt64 >>> ((16 : Int32) &&& 0x3f).toInt64.toUInt64).toInt64)), (.int (p1 + (3 : Int32))), (.ref a0x)])) _
    refine XS.l2i X6.here hx rfl (hb hby d1_27) rfl ?_
    show Steps p.tables e below (T6.setTop (mkF m 28 #[.val (.ref a0x), .val (.int p1), .val (.long q1), .second, .val (.int (6 : Int32)), .val (.int (3 : Int32))] [(.int ((q1.toUInt64 >>> ((16 : Int32) &&& 0x3f).toInt64.toUInt64).toInt64).toInt32), (.int (p1 + (3 : Int32))), (.ref a0x)])) _
    refine XS.i2b X6.here hx rfl (hb hby d1_28) rfl ?_
    show Steps p.tables e below (T6.setTop (mkF m 29 #[.val (.ref a0x), .val (.int p1), .val (.long q1), .second, .val (.int (6 : Int32)), .val (.int (3 : Int32))] [(.int ((q1.toUInt64 >>> ((16 : Int32) &&& 0x3f).toInt64.toUInt64).toInt64).toInt32.toInt8.toInt32), (.int (p1 + (3 : Int32))), (.ref a0x)])) _
    refine st8 _ ?_
    show Steps p.tables e below (T8.setTop (mkF m 30 #[.val (.ref a0x), .val (.int p1), .val (.long q1), .second, .val (.int (6 : Int32)), .val (.int (3 : Int32))] [])) _
    refine XS.iinc X8.here hx rfl (hb hby d1_30) rfl (l' := #[.val (.ref a0x), .val (.int p1), .val (.long q1), .second, .val (.int (6 : Int32)), .val (.int (4 : Int32))]) rfl ?_
    show Steps p.tables e below (T8.setTop (mkF m 33 #[.val (.ref a0x), .val (.int p1), .val (.long q1), .second, .val (.int (6 : Int32)), .val (.int (4 : Int32))] [])) _
    refine XS.goto X8.here hx rfl (pc0 := 33) (pc' := 3) rfl (hb hby d1_33) (by decide) (by decide) ?_
    show Steps p.tables e below (T8.setTop (mkF m 3 #[.val (.ref a0x), .val (.int p1), .val (.long q1), .second, .val (.int (6 : Int32)), .val (.int (4 : Int32))] [])) _
    refine XS.iload X8.here hx rfl (hb hby d1_3) rfl ?_
    show Steps p.tables e below (T8.setTop (mkF m 5 #[.val (.ref a0x), .val (.int p1), .val (.long q1), .second, .val (.int (6 : Int32)), .val (.int (4 : Int32))] [(.int (4 : Int32))])) _
    refine XS.iload X8.here hx rfl (hb hby d1_5) rfl ?_
    show Steps p.tables e below (T8.setTop (mkF m 7 #[.val (.ref a0x), .val (.int p1), .val (.long q1), .second, .val (.int (6 : Int32)), .val (.int (4 : Int32))] [(.int (6 : Int32)), (.int (4 : Int32))])) _
    refine XS.icmpNo X8.here hx rfl (hb hby d1_7) rfl (tlt (by decide : (4 : Int32) < (6 : Int32))).2.1 ?_
    show Steps p.tables e below (T8.setTop (mkF m 10 #[.val (.ref a0x), .val (.int p1), .val (.long q1), .second, .val (.int (6 : Int32)), .val (.int (4 : Int32))] [])) _
    refine XS.aloadN X8.here hx rfl (hb hby d1_10) rfl rfl ?_
    show Steps p.tables e below (T8.setTop (mkF m 11 #[.val (.ref a0x), .val (.int p1), .val (.long q1), .second, .val (.int (6 : Int32)), .val (.int (4 : Int32))] [(.ref a0x)])) _
    refine XS.iloadN X8.here hx rfl (hb hby d1_11) rfl ?_
    show Steps p.tables e below (T8.setTop (mkF m 12 #[.val (.ref a0x), .val (.int p1), .val (.long q1), .second, .val (.int (6 : Int32)), .val (.int (4 : Int32))] [(.int p1), (.ref a0x)])) _
    refine XS.iload X8.here hx rfl (hb hby d1_12) rfl ?_
    show Steps p.tables e below (T8.setTop (mkF m 14 #[.val (.ref a0x), .val (.int p1), .val (.long q1), .second, .val (.int (6 : Int32)), .val (.int (4 : Int32))] [(.int (4 : Int32)), (.int p1), (.ref a0x)])) _
    refine XS.iadd X8.here hx rfl (hb hby d1_14) rfl ?_
    show Steps p.tables e below (T8.setTop (mkF m 15 #[.val (.ref a0x), .val (.int p1), .val (.long q1), .second, .val (.int (6 : Int32)), .val (.int (4 : Int32))] [(.int (p1 + (4 : Int32))), (.ref a0x)])) _
    refine XS.lloadN X8.here hx rfl (hb hby d1_15) rfl ?_
    show Steps p.tables e below (T8.setTop (mkF m 16 #[.val (.ref a0x), .val (.int p1), .val (.long q1), .second, .val (.int (6 : Int32)), .val (.int (4 : Int32))] [(.long q1), (.int (p1 + (4 : Int32))), (.ref a0x)])) _
    refine XS.bipush X8.here hx rfl (hb hby d1_16) ?_
    show Steps p.tables e below (T8.setTop (mkF m 18 #[.val (.ref a0x), .val (.int p1), .val (.long q1), .second, .val (.int (6 : Int32)), .val (.int (4 : Int32))] [(.int (8 : Int32)), (.long q1), (.int (p1 + (4 : Int32))), (.ref a0x)])) _
    refine XS.iload X8.here hx rfl (hb hby d1_18) rfl ?_
    show Steps p.tables e below (T8.setTop (mkF m 20 #[.val (.ref a0x), .val (.int p1), .val (.long q1), .second, .val (.int (6 : Int32)), .val (.int (4 : Int32))] [(.int (6 : Int32)), (.int (8 : Int32)), (.long q1), (.int (p1 + (4 : Int32))), (.ref a0x)])) _
    refine XS.iconst X8.here hx rfl (hb hby d1_20) ?_
    show Steps p.tables e below (T8.setTop (mkF m 21 #[.val (.ref a0x), .val (.int p1), .val (.long q1), .second, .val (.int (6 : Int32)), .val (.int (4 : Int32))] [(.int (1 : Int32)), (.int (6 : Int32)), (.int (8 : Int32)), (.long q1), (.int (p1 + (4 : Int32))), (.ref a0x)])) _
    refine XS.isub X8.here hx rfl (hb hby d1_21) rfl ?_
    show Steps p.tables e below (T8.setTop (mkF m 22 #[.val (.ref a0x), .val (.int p1), .val (.long q1), .second, .val (.int (6 : Int32)), .val (.int (4 : Int32))] [(.int (5 : Int32)), (.int (8 : Int32)), (.long q1), (.int (p1 + (4 : Int32))), (.ref a0x)])) _
    refine XS.iload X8.here hx rfl (hb hby d1_22) rfl ?_
    show Steps p.tables e below (T8.setTop (mkF m 24 #[.val (.ref a0x), .val (.int p1), .val (.long q1), .second, .val (.int (6 : Int32)), .val (.int (4 : Int32))] [(.int (4 : Int32)), (.int (5 : Int32)), (.int (8 : Int32)), (.long q1), (.int (p1 + (4 : Int32))), (.ref a0x)])) _
    refine XS.isub X8.here hx rfl (hb hby d1_24) rfl ?_
    show Steps p.tables e below (T8.setTop (mkF m 25 #[.val (.ref a0x), .val (.int p1), .val (.long q1), .second, .val (.int (6 : Int32)), .val (.int (4 : Int32))] [(.int (1 : Int32)), (.int (8 : Int32)), (.long q1), (.int (p1 + (4 : Int32))), (.ref a0x)])) _
    refine XS.imul X8.here hx rfl (hb hby d1_25) rfl ?_
    show Steps p.tables e below (T8.setTop (mkF m 26 #[.val (.ref a0x), .val (.int p1), .val (.long q1), .second, .val (.int (6 : Int32)), .val (.int (4 : Int32))] [(.int (8 : Int32)), (.long q1), (.int (p1 + (4 : Int32))), (.ref a0x)])) _
    refine XS.lushr X8.here hx rfl (hb hby d1_26) rfl ?_
    show Steps p.tables e below (T8.setTop (mkF m 27 #[.val (.ref a0x), .val (.int p1), .val (.long q1), .second, .val (.int (6 : Int32)), .val (.int (4 : Int32))] [(.long ((q1.toUInt64 >>> ((8 : Int32) &&& 0x3f).toInt64.toUInt64).toInt64)), (.int (p1 + (4 : Int32))), (.ref a0x)])) _
    refine XS.l2i X8.here hx rfl (hb hby d1_27) rfl ?_
    show Steps p.tables e below (T8.setTop (mkF m 28 #[.val (.ref a0x), .val (.int p1), .val (.long q1), .second, .val (.int (6 : Int32)), .val (.int (4 : Int32))] [(.int ((q1.toUInt64 >>> ((8 : Int32) &&& 0x3f).toInt64.toUInt64).toInt64).toInt32), (.int (p1 + (4 : Int32))), (.ref a0x)])) _
    refine XS.i2b X8.here hx rfl (hb hby d1_28) rfl ?_
    show Steps p.tables e below (T8.setTop (mkF m 29 #[.val (.ref a0x), .val (.int p1), .val (.long q1), .second, .val (.int (6 : Int32)), .val (.int (4 : Int32))] [(.int ((q1.toUInt64 >>> ((8 : Int32) &&& 0x3f).toInt64.toUInt64).toInt64).toInt32.toInt8.toInt32), (.int (p1 + (4 : Int32))), (.ref a0x)])) _
    refine st10 _ ?_
    show Steps p.tables e below (T10.setTop (mkF m 30 #[.val (.ref a0x), .val (.int p1), .val (.long q1), .second, .val (.int (6 : Int32)), .val (.int (4 : Int32))] [])) _
    refine XS.iinc X10.here hx rfl (hb hby d1_30) rfl (l' := #[.val (.ref a0x), .val (.int p1), .val (.long q1), .second, .val (.int (6 : Int32)), .val (.int (5 : Int32))]) rfl ?_
    show Steps p.tables e below (T10.setTop (mkF m 33 #[.val (.ref a0x), .val (.int p1), .val (.long q1), .second, .val (.int (6 : Int32)), .val (.int (5 : Int32))] [])) _
    refine XS.goto X10.here hx rfl (pc0 := 33) (pc' := 3) rfl (hb hby d1_33) (by decide) (by decide) ?_
    show Steps p.tables e below (T10.setTop (mkF m 3 #[.val (.ref a0x), .val (.int p1), .val (.long q1), .second, .val (.int (6 : Int32)), .val (.int (5 : Int32))] [])) _
    refine XS.iload X10.here hx rfl (hb hby d1_3) rfl ?_
    show Steps p.tables e below (T10.setTop (mkF m 5 #[.val (.ref a0x), .val (.int p1), .val (.long q1), .second, .val (.int (6 : Int32)), .val (.int (5 : Int32))] [(.int (5 : Int32))])) _
    refine XS.iload X10.here hx rfl (hb hby d1_5) rfl ?_
    show Steps p.tables e below (T10.setTop (mkF m 7 #[.val (.ref a0x), .val (.int p1), .val (.long q1), .second, .val (.int (6 : Int32)), .val (.int (5 : Int32))] [(.int (6 : Int32)), (.int (5 : Int32))])) _
    refine XS.icmpNo X10.here hx rfl (hb hby d1_7) rfl (tlt (by decide : (5 : Int32) < (6 : Int32))).2.1 ?_
    show Steps p.tables e below (T10.setTop (mkF m 10 #[.val (.ref a0x), .val (.int p1), .val (.long q1), .second, .val (.int (6 : Int32)), .val (.int (5 : Int32))] [])) _
    refine XS.aloadN X10.here hx rfl (hb hby d1_10) rfl rfl ?_
    show Steps p.tables e below (T10.setTop (mkF m 11 #[.val (.ref a0x), .val (.int p1), .val (.long q1), .second, .val (.int (6 : Int32)), .val (.int (5 : Int32))] [(.ref a0x)])) _
    refine XS.iloadN X10.here hx rfl (hb hby d1_11) rfl ?_
    show Steps p.tables e below (T10.setTop (mkF m 12 #[.val (.ref a0x), .val (.int p1), .val (.long q1), .second, .val (.int (6 : Int32)), .val (.int (5 : Int32))] [(.int p1), (.ref a0x)])) _
    refine XS.iload X10.here hx rfl (hb hby d1_12) rfl ?_
    show Steps p.tables e below (T10.setTop (mkF m 14 #[.val (.ref a0x), .val (.int p1), .val (.long q1), .second, .val (.int (6 : Int32)), .val (.int (5 : Int32))] [(.int (5 : Int32)), (.int p1), (.ref a0x)])) _
    refine XS.iadd X10.here hx rfl (hb hby d1_14) rfl ?_
    show Steps p.tables e below (T10.setTop (mkF m 15 #[.val (.ref a0x), .val (.int p1), .val (.long q1), .second, .val (.int (6 : Int32)), .val (.int (5 : Int32))] [(.int (p1 + (5 : Int32))), (.ref a0x)])) _
    refine XS.lloadN X10.here hx rfl (hb hby d1_15) rfl ?_
    show Steps p.tables e below (T10.setTop (mkF m 16 #[.val (.ref a0x), .val (.int p1), .val (.long q1), .second, .val (.int (6 : Int32)), .val (.int (5 : Int32))] [(.long q1), (.int (p1 + (5 : Int32))), (.ref a0x)])) _
    refine XS.bipush X10.here hx rfl (hb hby d1_16) ?_
    show Steps p.tables e below (T10.setTop (mkF m 18 #[.val (.ref a0x), .val (.int p1), .val (.long q1), .second, .val (.int (6 : Int32)), .val (.int (5 : Int32))] [(.int (8 : Int32)), (.long q1), (.int (p1 + (5 : Int32))), (.ref a0x)])) _
    refine XS.iload X10.here hx rfl (hb hby d1_18) rfl ?_
    show Steps p.tables e below (T10.setTop (mkF m 20 #[.val (.ref a0x), .val (.int p1), .val (.long q1), .second, .val (.int (6 : Int32)), .val (.int (5 : Int32))] [(.int (6 : Int32)), (.int (8 : Int32)), (.long q1), (.int (p1 + (5 : Int32))), (.ref a0x)])) _
    refine XS.iconst X10.here hx rfl (hb hby d1_20) ?_
    show Steps p.tables e below (T10.setTop (mkF m 21 #[.val (.ref a0x), .val (.int p1), .val (.long q1), .second, .val (.int (6 : Int32)), .val (.int (5 : Int32))] [(.int (1 : Int32)), (.int (6 : Int32)), (.int (8 : Int32)), (.long q1), (.int (p1 + (5 : Int32))), (.ref a0x)])) _
    refine XS.isub X10.here hx rfl (hb hby d1_21) rfl ?_
    show Steps p.tables e below (T10.setTop (mkF m 22 #[.val (.ref a0x), .val (.int p1), .val (.long q1), .second, .val (.int (6 : Int32)), .val (.int (5 : Int32))] [(.int (5 : Int32)), (.int (8 : Int32)), (.long q1), (.int (p1 + (5 : Int32))), (.ref a0x)])) _
    refine XS.iload X10.here hx rfl (hb hby d1_22) rfl ?_
    show Steps p.tables e below (T10.setTop (mkF m 24 #[.val (.ref a0x), .val (.int p1), .val (.long q1), .second, .val (.int (6 : Int32)), .val (.int (5 : Int32))] [(.int (5 : Int32)), (.int (5 : Int32)), (.int (8 : Int32)), (.long q1), (.int (p1 + (5 : Int32))), (.ref a0x)])) _
    refine XS.isub X10.here hx rfl (hb hby d1_24) rfl ?_
    show Steps p.tables e below (T10.setTop (mkF m 25 #[.val (.ref a0x), .val (.int p1), .val (.long q1), .second, .val (.int (6 : Int32)), .val (.int (5 : Int32))] [(.int (0 : Int32)), (.int (8 : Int32)), (.long q1), (.int (p1 + (5 : Int32))), (.ref a0x)])) _
    refine XS.imul X10.here hx rfl (hb hby d1_25) rfl ?_
    show Steps p.tables e below (T10.setTop (mkF m 26 #[.val (.ref a0x), .val (.int p1), .val (.long q1), .second, .val (.int (6 : Int32)), .val (.int (5 : Int32))] [(.int (0 : Int32)), (.long q1), (.int (p1 + (5 : Int32))), (.ref a0x)])) _
    refine XS.lushr X10.here hx rfl (hb hby d1_26) rfl ?_
    show Steps p.tables e below (T10.setTop (mkF m 27 #[.val (.ref a0x), .val (.int p1), .val (.long q1), .second, .val (.int (6 : Int32)), .val (.int (5 : Int32))] [(.long ((q1.toUInt64 >>> ((0 : Int32) &&& 0x3f).toInt64.toUInt64).toInt64)), (.int (p1 + (5 : Int32))), (.ref a0x)])) _
    refine XS.l2i X10.here hx rfl (hb hby d1_27) rfl ?_
    show Steps p.tables e below (T10.setTop (mkF m 28 #[.val (.ref a0x), .val (.int p1), .val (.long q1), .second, .val (.int (6 : Int32)), .val (.int (5 : Int32))] [(.int ((q1.toUInt64 >>> ((0 : Int32) &&& 0x3f).toInt64.toUInt64).toInt64).toInt32), (.int (p1 + (5 : Int32))), (.ref a0x)])) _
    refine XS.i2b X10.here hx rfl (hb hby d1_28) rfl ?_
    show Steps p.tables e below (T10.setTop (mkF m 29 #[.val (.ref a0x), .val (.int p1), .val (.long q1), .second, .val (.int (6 : Int32)), .val (.int (5 : Int32))] [(.int ((q1.toUInt64 >>> ((0 : Int32) &&& 0x3f).toInt64.toUInt64).toInt64).toInt32.toInt8.toInt32), (.int (p1 + (5 : Int32))), (.ref a0x)])) _
    refine st12 _ ?_
    show Steps p.tables e below (T12.setTop (mkF m 30 #[.val (.ref a0x), .val (.int p1), .val (.long q1), .second, .val (.int (6 : Int32)), .val (.int (5 : Int32))] [])) _
    refine XS.iinc X12.here hx rfl (hb hby d1_30) rfl (l' := #[.val (.ref a0x), .val (.int p1), .val (.long q1), .second, .val (.int (6 : Int32)), .val (.int (6 : Int32))]) rfl ?_
    show Steps p.tables e below (T12.setTop (mkF m 33 #[.val (.ref a0x), .val (.int p1), .val (.long q1), .second, .val (.int (6 : Int32)), .val (.int (6 : Int32))] [])) _
    refine XS.goto X12.here hx rfl (pc0 := 33) (pc' := 3) rfl (hb hby d1_33) (by decide) (by decide) ?_
    show Steps p.tables e below (T12.setTop (mkF m 3 #[.val (.ref a0x), .val (.int p1), .val (.long q1), .second, .val (.int (6 : Int32)), .val (.int (6 : Int32))] [])) _
    refine XS.iload X12.here hx rfl (hb hby d1_3) rfl ?_
    show Steps p.tables e below (T12.setTop (mkF m 5 #[.val (.ref a0x), .val (.int p1), .val (.long q1), .second, .val (.int (6 : Int32)), .val (.int (6 : Int32))] [(.int (6 : Int32))])) _
    refine XS.iload X12.here hx rfl (hb hby d1_5) rfl ?_
    show Steps p.tables e below (T12.setTop (mkF m 7 #[.val (.ref a0x), .val (.int p1), .val (.long q1), .second, .val (.int (6 : Int32)), .val (.int (6 : Int32))] [(.int (6 : Int32)), (.int (6 : Int32))])) _
    refine XS.icmpYes X12.here hx rfl (pc0 := 7) (pc' := 36) rfl (hb hby d1_7) rfl (flt (by decide : ¬ ((6 : Int32) < (6 : Int32)))).2.1 (by decide) (by decide) ?_
    show Steps p.tables e below (T12.setTop (mkF m 36 #[.val (.ref a0x), .val (.int p1), .val (.long q1), .second, .val (.int (6 : Int32)), .val (.int (6 : Int32))] [])) _
    refine XS.iloadN X12.here hx rfl (hb hby d1_36) rfl ?_
    show Steps p.tables e below (T12.setTop (mkF m 37 #[.val (.ref a0x), .val (.int p1), .val (.long q1), .second, .val (.int (6 : Int32)), .val (.int (6 : Int32))] [(.int p1)])) _
    refine XS.iload X12.here hx rfl (hb hby d1_37) rfl ?_
    show Steps p.tables e below (T12.setTop (mkF m 39 #[.val (.ref a0x), .val (.int p1), .val (.long q1), .second, .val (.int (6 : Int32)), .val (.int (6 : Int32))] [(.int (6 : Int32)), (.int p1)])) _
    refine XS.iadd X12.here hx rfl (hb hby d1_39) rfl ?_
    show Steps p.tables e below (T12.setTop (mkF m 40 #[.val (.ref a0x), .val (.int p1), .val (.long q1), .second, .val (.int (6 : Int32)), .val (.int (6 : Int32))] [(.int (p1 + (6 : Int32)))])) _
    exact retI X12 hx Bd.returns (hb hby d1_40) hr
  · show Q_rm_put Z a0x p1 q1 p2 tab h0 n0 _ T12.heap _
    rw [e12]
    exact ⟨(by rw [hk]), N12, K12, (by rw [hk]; exact (own_Tab.cong V12 (fun j _ _ => by simp [own_putF, own_b8, own_byte, (by decide : (0 : Int32) < 6), (by decide : (1 : Int32) < 6), (by decide : (2 : Int32) < 6), (by decide : (3 : Int32) < 6), (by decide : (4 : Int32) < 6), (by decide : (5 : Int32) < 6), (by decide : ¬ (6 : Int32) < 6), (by decide : ¬ (7 : Int32) < 6)])))⟩
set_option maxRecDepth 65536 in
set_option maxHeartbeats 40000000 in
theorem rm_put7 (l : Launch) (Z : State) (a0 : Array Value) (hw : ∀ d ∈ tables_1, d.before a0 Z = true) (ws : List Jvm.Cond) (a0x : Addr) (p1 : Int32) (q1 : Int64) (p2 : Int32) (tab : Int32 → Int32) (h0 : Heap) (n0 : Nat) (Z0 : n0 ≤ h0.size) (V0x : own_Tab Z h0 a0x .byte (12 : Int32) (fun j => .int (tab j))) (g0x : n0 ≤ a0x) (hat : 0 ≤ p1.toInt ∧ p1.toInt + ((7 : Int32)).toInt ≤ 12) (hk : p2 = (7 : Int32)) :
    MetFree l (⟨"com/example/fyfo/fyfo/BigEndian", "put", "([BIJI)I"⟩ : MethodName) (head1 (Jvm.Cond.code (⟨"com/example/fyfo/fyfo/BigEndian", "put", "([BIJI)I"⟩ : MethodName) prog_1_method_2_code 6 (some .int) :: ws) ({ frames := 0, cells := 0, slots := 0, locals := 0 } : Room)) (fun a U => a = #[(.ref a0x), (.int p1), (.long q1), (.int p2)] ∧ Z.Warmed39 U.vm ∧ U.heap = h0) (fun _ _ _ _ _ => True) (fun _ U o U' => ∃ v L, o = .returned v ∧ Q_rm_put Z a0x p1 q1 p2 tab h0 n0 v U'.heap L ∧ FrameEnd U o U' L ({ frames := 0, cells := 0, slots := 0, locals := 0 } : Room).cells ({ frames := 0, cells := 0, slots := 0, locals := 0 } : Room).slots) := by
  refine MetFree.of_bodySF (plainFor_of_name pn_0) hisR ?_
  intro p e s m args below meth c s₁ Bd hml0 hP hK
  obtain ⟨rfl, hZ, hh⟩ := hP
  have hx := Bd.exec
  have hby := Bd.bytes
  have hml : c.maxLocals = 6 := hml0
  have hown : s.vm.findClass "com/example/fyfo/fyfo/BigEndian" = some m.cls := findClass_of_methodNamed Bd.named
  have hnm := (name_of_methodNamed Bd.named Bd.method).1
  have X0 : Stand p l e ({ frames := 0, cells := 0, slots := 0, locals := 0 } : Room) s m #[(.ref a0x), (.int p1), (.long q1), (.int p2)] below meth c s₁ [] 0 0 := Stand.of_body Bd
  have e0 : s₁.heap = h0 := by rw [← hh, Bd.state]; rfl
  have N0 := Fr.nil n0
  have K0 : Keep h0 h0 [a0x] := Keep.refl h0 [a0x]
  have pre0 : ∀ t, Steps p.tables e below (s₁.setTop (mkF m 0 #[.val (.ref a0x), .val (.int p1), .val (.long q1), .second, .val (.int p2), .unset] [])) t → Steps p.tables e below (s₁.setTop (entryFrame m #[(.ref a0x), (.int p1), (.long q1), (.int p2)] 6)) t := fun t k => castTop (ef_1 m a0x p1 q1 p2) k
  obtain ⟨cl1, Ar1, S1, N1', H1⟩ := (id V0x)
  have hin1 : ¬ ((p1 + (0 : Int32)) < 0 ∨ cl1.slots.size ≤ ((p1 + (0 : Int32))).toNatClampNeg) := inb_of S1 (own_bd (w := (7 : Int32)) hat ⟨by decide, by decide⟩)
  obtain ⟨T2, h2, X2, e2, W2, st2⟩ := stB X0 hx hZ e0 Ar1 (j := (p1 + (0 : Int32))) hin1 (g := (mkF m 29 #[.val (.ref a0x), .val (.int p1), .val (.long q1), .second, .val (.int (7 : Int32)), .val (.int (0 : Int32))] [(.int ((q1.toUInt64 >>> ((48 : Int32) &&& 0x3f).toInt64.toUInt64).toInt64).toInt32.toInt8.toInt32), (.int (p1 + (0 : Int32))), (.ref a0x)])) rfl rfl (hb hby d1_29)
  have V2 : own_Tab Z h2 a0x .byte (12 : Int32) (fun j => .int ((fun i => if i = (p1 + (0 : Int32)) then ((q1.toUInt64 >>> ((48 : Int32) &&& 0x3f).toInt64.toUInt64).toInt64).toInt32.toInt8.toInt32.toInt8.toInt32 else tab i) j)) := (own_Tab.set Ar1 S1 N1' H1 hin1 W2).cong (fun j _ _ => by dsimp only; split <;> rfl)
  have N2 := Fr.snoc X2 N0 g0x
  have Z2 : n0 ≤ h2.size := Nat.le_trans Z0 (Keep.of_wr W2).1
  have K2 : Keep h0 h2 [a0x] := K0.wr W2 (Or.inl (List.mem_of_getElem? (i := 0) rfl))
  obtain ⟨cl3, Ar3, S3, N3', H3⟩ := (id V2)
  have hin3 : ¬ ((p1 + (1 : Int32)) < 0 ∨ cl3.slots.size ≤ ((p1 + (1 : Int32))).toNatClampNeg) := inb_of S3 (own_bd (w := (7 : Int32)) hat ⟨by decide, by decide⟩)
  obtain ⟨T4, h4, X4, e4, W4, st4⟩ := stB X2 hx hZ e2 Ar3 (j := (p1 + (1 : Int32))) hin3 (g := (mkF m 29 #[.val (.ref a0x), .val (.int p1), .val (.long q1), .second, .val (.int (7 : Int32)), .val (.int (1 : Int32))] [(.int ((q1.toUInt64 >>> ((40 : Int32) &&& 0x3f).toInt64.toUInt64).toInt64).toInt32.toInt8.toInt32), (.int (p1 + (1 : Int32))), (.ref a0x)])) rfl rfl (hb hby d1_29)
  have V4 : own_Tab Z h4 a0x .byte (12 : Int32) (fun j => .int ((fun i => if i = (p1 + (1 : Int32)) then ((q1.toUInt64 >>> ((40 : Int32) &&& 0x3f).toInt64.toUInt64).toInt64).toInt32.toInt8.toInt32.toInt8.toInt32 else (fun i => if i = (p1 + (0 : Int32)) then ((q1.toUInt64 >>> ((48 : Int32) &&& 0x3f).toInt64.toUInt64).toInt64).toInt32.toInt8.toInt32.toInt8.toInt32 else tab i) i) j)) := (own_Tab.set Ar3 S3 N3' H3 hin3 W4).cong (fun j _ _ => by dsimp only; split <;> rfl)
  have N4 := Fr.snoc X4 N2 g0x
  have Z4 : n0 ≤ h4.size := Nat.le_trans Z2 (Keep.of_wr W4).1
  have K4 : Keep h0 h4 [a0x] := K2.wr W4 (Or.inl (List.mem_of_getElem? (i := 0) rfl))
  obtain ⟨cl5, Ar5, S5, N5', H5⟩ := (id V4)
  have hin5 : ¬ ((p1 + (2 : Int32)) < 0 ∨ cl5.slots.size ≤ ((p1 + (2 : Int32))).toNatClampNeg) := inb_of S5 (own_bd (w := (7 : Int32)) hat ⟨by decide, by decide⟩)
  obtain ⟨T6, h6, X6, e6, W6, st6⟩ := stB X4 hx hZ e4 Ar5 (j := (p1 + (2 : Int32))) hin5 (g := (mkF m 29 #[.val (.ref a0x), .val (.int p1), .val (.long q1), .second, .val (.int (7 : Int32)), .val (.int (2 : Int32))] [(.int ((q1.toUInt64 >>> ((32 : Int32) &&& 0x3f).toInt64.toUInt64).toInt64).toInt32.toInt8.toInt32), (.int (p1 + (2 : Int32))), (.ref a0x)])) rfl rfl (hb hby d1_29)
  have V6 : own_Tab Z h6 a0x .byte (12 : Int32) (fun j => .int ((fun i => if i = (p1 + (2 : Int32)) then ((q1.toUInt64 >>> ((32 : Int32) &&& 0x3f).toInt64.toUInt64).toInt64).toInt32.toInt8.toInt32.toInt8.toInt32 else (fun i => if i = (p1 + (1 : Int32)) then ((q1.toUInt64 >>> ((40 : Int32) &&& 0x3f).toInt64.toUInt64).toInt64).toInt32.toInt8.toInt32.toInt8.toInt32 else (fun i => if i = (p1 + (0 : Int32)) then ((q1.toUInt64 >>> ((48 : Int32) &&& 0x3f).toInt64.toUInt64).toInt64).toInt32.toInt8.toInt32.toInt8.toInt32 else tab i) i) i) j)) := (own_Tab.set Ar5 S5 N5' H5 hin5 W6).cong (fun j _ _ => by dsimp only; split <;> rfl)
  have N6 := Fr.snoc X6 N4 g0x
  have Z6 : n0 ≤ h6.size := Nat.le_trans Z4 (Keep.of_wr W6).1
  have K6 : Keep h0 h6 [a0x] := K4.wr W6 (Or.inl (List.mem_of_getElem? (i := 0) rfl))
  obtain ⟨cl7, Ar7, S7, N7', H7⟩ := (id V6)
  have hin7 : ¬ ((p1 + (3 : Int32)) < 0 ∨ cl7.slots.size ≤ ((p1 + (3 : Int32))).toNatClampNeg) := inb_of S7 (own_bd (w := (7 : Int32)) hat ⟨by decide, by decide⟩)
  obtain ⟨T8, h8, X8, e8, W8, st8⟩ := stB X6 hx hZ e6 Ar7 (j := (p1 + (3 : Int32))) hin7 (g := (mkF m 29 #[.val (.ref a0x), .val (.int p1), .val (.long q1), .second, .val (.int (7 : Int32)), .val (.int (3 : Int32))] [(.int ((q1.toUInt64 >>> ((24 : Int32) &&& 0x3f).toInt64.toUInt64).toInt64).toInt32.toInt8.toInt32), (.int (p1 + (3 : Int32))), (.ref a0x)])) rfl rfl (hb hby d1_29)
  have V8 : own_Tab Z h8 a0x .byte (12 : Int32) (fun j => .int ((fun i => if i = (p1 + (3 : Int32)) then ((q1.toUInt64 >>> ((24 : Int32) &&& 0x3f).toInt64.toUInt64).toInt64).toInt32.toInt8.toInt32.toInt8.toInt32 else (fun i => if i = (p1 + (2 : Int32)) then ((q1.toUInt64 >>> ((32 : Int32) &&& 0x3f).toInt64.toUInt64).toInt64).toInt32.toInt8.toInt32.toInt8.toInt32 else (fun i => if i = (p1 + (1 : Int32)) then ((q1.toUInt64 >>> ((40 : Int32) &&& 0x3f).toInt64.toUInt64).toInt64).toInt32.toInt8.toInt32.toInt8.toInt32 else (fun i => if i = (p1 + (0 : Int32)) then ((q1.toUInt64 >>> ((48 : Int32) &&& 0x3f).toInt64.toUInt64).toInt64).toInt32.toInt8.toInt32.toInt8.toInt32 else tab i) i) i) i) j)) := (own_Tab.set Ar7 S7 N7' H7 hin7 W8).cong (fun j _ _ => by dsimp only; split <;> rfl)
  have N8 := Fr.snoc X8 N6 g0x
  have Z8 : n0 ≤ h8.size := Nat.le_trans Z6 (Keep.of_wr W8).1
  have K8 : Keep h0 h8 [a0x] := K6.wr W8 (Or.inl (List.mem_of_getElem? (i := 0) rfl))
  obtain ⟨cl9, Ar9, S9, N9', H9⟩ := (id V8)
  have hin9 : ¬ ((p1 + (4 : Int32)) < 0 ∨ cl9.slots.size ≤ ((p1 + (4 : Int32))).toNatClampNeg) := inb_of S9 (own_bd (w := (7 : Int32)) hat ⟨by decide, by decide⟩)
  obtain ⟨T10, h10, X10, e10, W10, st10⟩ := stB X8 hx hZ e8 Ar9 (j := (p1 + (4 : Int32))) hin9 (g := (mkF m 29 #[.val (.ref a0x), .val (.int p1), .val (.long q1), .second, .val (.int (7 : Int32)), .val (.int (4 : Int32))] [(.int ((q1.toUInt64 >>> ((16 : Int32) &&& 0x3f).toInt64.toUInt64).toInt64).toInt32.toInt8.toInt32), (.int (p1 + (4 : Int32))), (.ref a0x)])) rfl rfl (hb hby d1_29)
  have V10 : own_Tab Z h10 a0x .byte (12 : Int32) (fun j => .int ((fun i => if i = (p1 + (4 : Int32)) then ((q1.toUInt64 >>> ((16 : Int32) &&& 0x3f).toInt64.toUInt64).toInt64).toInt32.toInt8.toInt32.toInt8.toInt32 else (fun i => if i = (p1 + (3 : Int32)) then ((q1.toUInt64 >>> ((24 : Int32) &&& 0x3f).toInt64.toUInt64).toInt64).toInt32.toInt8.toInt32.toInt8.toInt32 else (fun i => if i = (p1 + (2 : Int32)) then ((q1.toUInt64 >>> ((32 : Int32) &&& 0x3f).toInt64.toUInt64).toInt64).toInt32.toInt8.toInt32.toInt8.toInt32 else (fun i => if i = (p1 + (1 : Int32)) then ((q1.toUInt64 >>> ((40 : Int32) &&& 0x3f).toInt64.toUInt64).toInt64).toInt32.toInt8.toInt32.toInt8.toInt32 else (fun i => if i = (p1 + (0 : Int32)) then ((q1.toUInt64 >>> ((48 : Int32) &&& 0x3f).toInt64.toUInt64).toInt64).toInt32.toInt8.toInt32.toInt8.toInt32 else tab i) i) i) i) i) j)) := (own_Tab.set Ar9 S9 N9' H9 hin9 W10).cong (fun j _ _ => by dsimp only; split <;> rfl)
  have N10 := Fr.snoc X10 N8 g0x
  have Z10 : n0 ≤ h10.size := Nat.le_trans Z8 (Keep.of_wr W10).1
  have K10 : Keep h0 h10 [a0x] := K8.wr W10 (Or.inl (List.mem_of_getElem? (i := 0) rfl))
  obtain ⟨cl11, Ar11, S11, N11', H11⟩ := (id V10)
  have hin11 : ¬ ((p1 + (5 : Int32)) < 0 ∨ cl11.slots.size ≤ ((p1 + (5 : Int32))).toNatClampNeg) := inb_of S11 (own_bd (w := (7 : Int32)) hat ⟨by decide, by decide⟩)
  obtain ⟨T12, h12, X12, e12, W12, st12⟩ := stB X10 hx hZ e10 Ar11 (j := (p1 + (5 : Int32))) hin11 (g := (mkF m 29 #[.val (.ref a0x), .val (.int p1), .val (.long q1), .second, .val (.int (7 : Int32)), .val (.int (5 : Int32))] [(.int ((q1.toUInt64 >>> ((8 : Int32) &&& 0x3f).toInt64.toUInt64).toInt64).toInt32.toInt8.toInt32), (.int (p1 + (5 : Int32))), (.ref a0x)])) rfl rfl (hb hby d1_29)
  have V12 : own_Tab Z h12 a0x .byte (12 : Int32) (fun j => .int ((fun i => if i = (p1 + (5 : Int32)) then ((q1.toUInt64 >>> ((8 : Int32) &&& 0x3f).toInt64.toUInt64).toInt64).toInt32.toInt8.toInt32.toInt8.toInt32 else (fun i => if i = (p1 + (4 : Int32)) then ((q1.toUInt64 >>> ((16 : Int32) &&& 0x3f).toInt64.toUInt64).toInt64).toInt32.toInt8.toInt32.toInt8.toInt32 else (fun i => if i = (p1 + (3 : Int32)) then ((q1.toUInt64 >>> ((24 : Int32) &&& 0x3f).toInt64.toUInt64).toInt64).toInt32.toInt8.toInt32.toInt8.toInt32 else (fun i => if i = (p1 + (2 : Int32)) then ((q1.toUInt64 >>> ((32 : Int32) &&& 0x3f).toInt64.toUInt64).toInt64).toInt32.toInt8.toInt32.toInt8.toInt32 else (fun i => if i = (p1 + (1 : Int32)) then ((q1.toUInt64 >>> ((40 : Int32) &&& 0x3f).toInt64.toUInt64).toInt64).toInt32.toInt8.toInt32.toInt8.toInt32 else (fun i => if i = (p1 + (0 : Int32)) then ((q1.toUInt64 >>> ((48 : Int32) &&& 0x3f).toInt64.toUInt64).toInt64).toInt32.toInt8.toInt32.toInt8.toInt32 else tab i) i) i) i) i) i) j)) := (own_Tab.set Ar11 S11 N11' H11 hin11 W12).cong (fun j _ _ => by dsimp only; split <;> rfl)
  have N12 := Fr.snoc X12 N10 g0x
  have Z12 : n0 ≤ h12.size := Nat.le_trans Z10 (Keep.of_wr W12).1
  have K12 : Keep h0 h12 [a0x] := K10.wr W12 (Or.inl (List.mem_of_getElem? (i := 0) rfl))
  obtain ⟨cl13, Ar13, S13, N13', H13⟩ := (id V12)
  have hin13 : ¬ ((p1 + (6 : Int32)) < 0 ∨ cl13.slots.size ≤ ((p1 + (6 : Int32))).toNatClampNeg) := inb_of S13 (own_bd (w := (7 : Int32)) hat ⟨by decide, by decide⟩)
  obtain ⟨T14, h14, X14, e14, W14, st14⟩ := stB X12 hx hZ e12 Ar13 (j := (p1 + (6 : Int32))) hin13 (g := (mkF m 29 #[.val (.ref a0x), .val (.int p1), .val (.long q1), .second, .val (.int (7 : Int32)), .val (.int (6 : Int32))] [(.int ((q1.toUInt64 >>> ((0 : Int32) &&& 0x3f).toInt64.toUInt64).toInt64).toInt32.toInt8.toInt32), (.int (p1 + (6 : Int32))), (.ref a0x)])) rfl rfl (hb hby d1_29)
  have V14 : own_Tab Z h14 a0x .byte (12 : Int32) (fun j => .int ((fun i => if i = (p1 + (6 : Int32)) then ((q1.toUInt64 >>> ((0 : Int32) &&& 0x3f).toInt64.toUInt64).toInt64).toInt32.toInt8.toInt32.toInt8.toInt32 else (fun i => if i = (p1 + (5 : Int32)) then ((q1.toUInt64 >>> ((8 : Int32) &&& 0x3f).toInt64.toUInt64).toInt64).toInt32.toInt8.toInt32.toInt8.toInt32 else (fun i => if i = (p1 + (4 : Int32)) then ((q1.toUInt64 >>> ((16 : Int32) &&& 0x3f).toInt64.toUInt64).toInt64).toInt32.toInt8.toInt32.toInt8.toInt32 else (fun i => if i = (p1 + (3 : Int32)) then ((q1.toUInt64 >>> ((24 : Int32) &&& 0x3f).toInt64.toUInt64).toInt64).toInt32.toInt8.toInt32.toInt8.toInt32 else (fun i => if i = (p1 + (2 : Int32)) then ((q1.toUInt64 >>> ((32 : Int32) &&& 0x3f).toInt64.toUInt64).toInt64).toInt32.toInt8.toInt32.toInt8.toInt32 else (fun i => if i = (p1 + (1 : Int32)) then ((q1.toUInt64 >>> ((40 : Int32) &&& 0x3f).toInt64.toUInt64).toInt64).toInt32.toInt8.toInt32.toInt8.toInt32 else (fun i => if i = (p1 + (0 : Int32)) then ((q1.toUInt64 >>> ((48 : Int32) &&& 0x3f).toInt64.toUInt64).toInt64).toInt32.toInt8.toInt32.toInt8.toInt32 else tab i) i) i) i) i) i) i) j)) := (own_Tab.set Ar13 S13 N13' H13 hin13 W14).cong (fun j _ _ => by dsimp only; split <;> rfl)
  have N14 := Fr.snoc X14 N12 g0x
  have Z14 : n0 ≤ h14.size := Nat.le_trans Z12 (Keep.of_wr W14).1
  have K14 : Keep h0 h14 [a0x] := K12.wr W14 (Or.inl (List.mem_of_getElem? (i := 0) rfl))
  obtain ⟨fs, hr, hrun, hended, hW, hsame⟩ := X14.leave (v := some (.int (p1 + (7 : Int32)))) (fun h => by rw [Bd.returns] at h; cases h)
  refine ⟨_, _, pre0 _ ?_, hrun, hended, _, _, rfl, ?_, ⟨_, rfl⟩, hW, hsame.mono (by decide) (by decide)⟩
  · show Steps p.tables e below (s₁.setTop (mkF m 0 #[.val (.ref a0x), .val (.int p1), .val (.long q1), .second, .val (.int p2), .unset] [])) _
    rw [hk]
    show Steps p.tables e below (s₁.setTop (mkF m 0 #[.val (.ref a0x), .val (.int p1), .val (.long q1), .second, .val (.int (7 : Int32)), .unset] [])) _
    refine XS.iconst X0.here hx rfl (hb hby d1_0) ?_
    show Steps p.tables e below (s₁.setTop (mkF m 1 #[.val (.ref a0x), .val (.int p1), .val (.long q1), .second, .val (.int (7 : Int32)), .unset] [(.int (0 : Int32))])) _
    refine XS.istore X0.here hx rfl (hb hby d1_1) rfl (l' := #[.val (.ref a0x), .val (.int p1), .val (.long q1), .second, .val (.int (7 : Int32)), .val (.int (0 : Int32))]) rfl ?_
    show Steps p.tables e below (s₁.setTop (mkF m 3 #[.val (.ref a0x), .val (.int p1), .val (.long q1), .second, .val (.int (7 : Int32)), .val (.int (0 : Int32))] [])) _
    refine XS.iload X0.here hx rfl (hb hby d1_3) rfl ?_
    show Steps p.tables e below (s₁.setTop (mkF m 5 #[.val (.ref a0x), .val (.int p1), .val (.long q1), .second, .val (.int (7 : Int32)), .val (.int (0 : Int32))] [(.int (0 : Int32))])) _
    refine XS.iload X0.here hx rfl (hb hby d1_5) rfl ?_
    show Steps p.tables e below (s₁.setTop (mkF m 7 #[.val (.ref a0x), .val (.int p1), .val (.long q1), .second, .val (.int (7 : Int32)), .val (.int (0 : Int32))] [(.int (7 : Int32)), (.int (0 : Int32))])) _
    refine XS.icmpNo X0.here hx rfl (hb hby d1_7) rfl (tlt (by decide : (0 : Int32) < (7 : Int32))).2.1 ?_
    show Steps p.tables e below (s₁.setTop (mkF m 10 #[.val (.ref a0x), .val (.int p1), .val (.long q1), .second, .val (.int (7 : Int32)), .val (.int (0 : Int32))] [])) _
    refine XS.aloadN X0.here hx rfl (hb hby d1_10) rfl rfl ?_
    show Steps p.tables e below (s₁.setTop (mkF m 11 #[.val (.ref a0x), .val (.int p1), .val (.long q1), .second, .val (.int (7 : Int32)), .val (.int (0 : Int32))] [(.ref a0x)])) _
    refine XS.iloadN X0.here hx rfl (hb hby d1_11) rfl ?_
    show Steps p.tables e below (s₁.setTop (mkF m 12 #[.val (.ref a0x), .val (.int p1), .val (.long q1), .second, .val (.int (7 : Int32)), .val (.int (0 : Int32))] [(.int p1), (.ref a0x)])) _
    refine XS.iload X0.here hx rfl (hb hby d1_12) rfl ?_
    show Steps p.tables e below (s₁.setTop (mkF m 14 #[.val (.ref a0x), .val (.int p1), .val (.long q1), .second, .val (.int (7 : Int32)), .val (.int (0 : Int32))] [(.int (0 : Int32)), (.int p1), (.ref a0x)])) _
    refine XS.iadd X0.here hx rfl (hb hby d1_14) rfl ?_
    show Steps p.tables e below (s₁.setTop (mkF m 15 #[.val (.ref a0x), .val (.int p1), .val (.long q1), .second, .val (.int (7 : Int32)), .val (.int (0 : Int32))] [(.int (p1 + (0 : Int32))), (.ref a0x)])) _
    refine XS.lloadN X0.here hx rfl (hb hby d1_15) rfl ?_
    show Steps p.tables e below (s₁.setTop (mkF m 16 #[.val (.ref a0x), .val (.int p1), .val (.long q1), .second, .val (.int (7 : Int32)), .val (.int (0 : Int32))] [(.long q1), (.int (p1 + (0 : Int32))), (.ref a0x)])) _
    refine XS.bipush X0.here hx rfl (hb hby d1_16) ?_
    show Steps p.tables e below (s₁.setTop (mkF m 18 #[.val (.ref a0x), .val (.int p1), .val (.long q1), .second, .val (.int (7 : Int32)), .val (.int (0 : Int32))] [(.int (8 : Int32)), (.long q1), (.int (p1 + (0 : Int32))), (.ref a0x)])) _
    refine XS.iload X0.here hx rfl (hb hby d1_18) rfl ?_
    show Steps p.tables e below (s₁.setTop (mkF m 20 #[.val (.ref a0x), .val (.int p1), .val (.long q1), .second, .val (.int (7 : Int32)), .val (.int (0 : Int32))] [(.int (7 : Int32)), (.int (8 : Int32)), (.long q1), (.int (p1 + (0 : Int32))), (.ref a0x)])) _
    refine XS.iconst X0.here hx rfl (hb hby d1_20) ?_
    show Steps p.tables e below (s₁.setTop (mkF m 21 #[.val (.ref a0x), .val (.int p1), .val (.long q1), .second, .val (.int (7 : Int32)), .val (.int (0 : Int32))] [(.int (1 : Int32)), (.int (7 : Int32)), (.int (8 : Int32)), (.long q1), (.int (p1 + (0 : Int32))), (.ref a0x)])) _
    refine XS.isub X0.here hx rfl (hb hby d1_21) rfl ?_
    show Steps p.tables e below (s₁.setTop (mkF m 22 #[.val (.ref a0x), .val (.int p1), .val (.long q1), .second, .val (.int (7 : Int32)), .val (.int (0 : Int32))] [(.int (6 : Int32)), (.int (8 : Int32)), (.long q1), (.int (p1 + (0 : Int32))), (.ref a0x)])) _
    refine XS.iload X0.here hx rfl (hb hby d1_22) rfl ?_
    show Steps p.tables e below (s₁.setTop (mkF m 24 #[.val (.ref a0x), .val (.int p1), .val (.long q1), .second, .val (.int (7 : Int32)), .val (.int (0 : Int32))] [(.int (0 : Int32)), (.int (6 : Int32)), (.int (8 : Int32)), (.long q1), (.int (p1 + (0 : Int32))), (.ref a0x)])) _
    refine XS.isub X0.here hx rfl (hb hby d1_24) rfl ?_
    show Steps p.tables e below (s₁.setTop (mkF m 25 #[.val (.ref a0x), .val (.int p1), .val (.long q1), .second, .val (.int (7 : Int32)), .val (.int (0 : Int32))] [(.int (6 : Int32)), (.int (8 : Int32)), (.long q1), (.int (p1 + (0 : Int32))), (.ref a0x)])) _
    refine XS.imul X0.here hx rfl (hb hby d1_25) rfl ?_
    show Steps p.tables e below (s₁.setTop (mkF m 26 #[.val (.ref a0x), .val (.int p1), .val (.long q1), .second, .val (.int (7 : Int32)), .val (.int (0 : Int32))] [(.int (48 : Int32)), (.long q1), (.int (p1 + (0 : Int32))), (.ref a0x)])) _
    refine XS.lushr X0.here hx rfl (hb hby d1_26) rfl ?_
    show Steps p.tables e below (s₁.setTop (mkF m 27 #[.val (.ref a0x), .val (.int p1), .val (.long q1), .second, .val (.int (7 : Int32)), .val (.int (0 : Int32))] [(.long ((q1.toUInt64 >>> ((48 : Int32) &&& 0x3f).toInt64.toUInt64).toInt64)), (.int (p1 + (0 : Int32))), (.ref a0x)])) _
    refine XS.l2i X0.here hx rfl (hb hby d1_27) rfl ?_
    show Steps p.tables e below (s₁.setTop (mkF m 28 #[.val (.ref a0x), .val (.int p1), .val (.long q1), .second, .val (.int (7 : Int32)), .val (.int (0 : Int32))] [(.int ((q1.toUInt64 >>> ((48 : Int32) &&& 0x3f).toInt64.toUInt64).toInt64).toInt32), (.int (p1 + (0 : Int32))), (.ref a0x)])) _
    refine XS.i2b X0.here hx rfl (hb hby d1_28) rfl ?_
    show Steps p.tables e below (s₁.setTop (mkF m 29 #[.val (.ref a0x), .val (.int p1), .val (.long q1), .second, .val (.int (7 : Int32)), .val (.int (0 : Int32))] [(.int ((q1.toUInt64 >>> ((48 : Int32) &&& 0x3f).toInt64.toUInt64).toInt64).toInt32.toInt8.toInt32), (.int (p1 + (0 : Int32))), (.ref a0x)])) _
    refine st2 _ ?_
    show Steps p.tables e below (T2.setTop (mkF m 30 #[.val (.ref a0x), .val (.int p1), .val (.long q1), .second, .val (.int (7 : Int32)), .val (.int (0 : Int32))] [])) _
    refine XS.iinc X2.here hx rfl (hb hby d1_30) rfl (l' := #[.val (.ref a0x), .val (.int p1), .val (.long q1), .second, .val (.int (7 : Int32)), .val (.int (1 : Int32))]) rfl ?_
    show Steps p.tables e below (T2.setTop (mkF m 33 #[.val (.ref a0x), .val (.int p1), .val (.long q1), .second, .val (.int (7 : Int32)), .val (.int (1 : Int32))] [])) _
    refine XS.goto X2.here hx rfl (pc0 := 33) (pc' := 3) rfl (hb hby d1_33) (by decide) (by decide) ?_
    show Steps p.tables e below (T2.setTop (mkF m 3 #[.val (.ref a0x), .val (.int p1), .val (.long q1), .second, .val (.int (7 : Int32)), .val (.int (1 : Int32))] [])) _
    refine XS.iload X2.here hx rfl (hb hby d1_3) rfl ?_
    show Steps p.tables e below (T2.setTop (mkF m 5 #[.val (.ref a0x), .val (.int p1), .val (.long q1), .second, .val (.int (7 : Int32)), .val (.int (1 : Int32))] [(.int (1 : Int32))])) _
    refine XS.iload X2.here hx rfl (hb hby d1_5) rfl ?_
    show Steps p.tables e below (T2.setTop (mkF m 7 #[.val (.ref a0x), .val (.int p1), .val (.long q1), .second, .val (.int (7 : Int32)), .val (.int (1 : Int32))] [(.int (7 : Int32)), (.int (1 : Int32))])) _
    refine XS.icmpNo X2.here hx rfl (hb hby d1_7) rfl (tlt (by decide : (1 : Int32) < (7 : Int32))).2.1 ?_
    show Steps p.tables e below (T2.setTop (mkF m 10 #[.val (.ref a0x), .val (.int p1), .val (.long q1), .second, .val (.int (7 : Int32)), .val (.int (1 : Int32))] [])) _
    refine XS.aloadN X2.here hx rfl (hb hby d1_10) rfl rfl ?_
    show Steps p.tables e below (T2.setTop (mkF m 11 #[.val (.ref a0x), .val (.int p1), .val (.long q1), .second, .val (.int (7 : Int32)), .val (.int (1 : Int32))] [(.ref a0x)])) _
    refine XS.iloadN X2.here hx rfl (hb hby d1_11) rfl ?_
    show Steps p.tables e below (T2.setTop (mkF m 12 #[.val (.ref a0x), .val (.int p1), .val (.long q1), .second, .val (.int (7 : Int32)), .val (.int (1 : Int32))] [(.int p1), (.ref a0x)])) _
    refine XS.iload X2.here hx rfl (hb hby d1_12) rfl ?_
    show Steps p.tables e below (T2.setTop (mkF m 14 #[.val (.ref a0x), .val (.int p1), .val (.long q1), .second, .val (.int (7 : Int32)), .val (.int (1 : Int32))] [(.int (1 : Int32)), (.int p1), (.ref a0x)])) _
    refine XS.iadd X2.here hx rfl (hb hby d1_14) rfl ?_
    show Steps p.tables e below (T2.setTop (mkF m 15 #[.val (.ref a0x), .val (.int p1), .val (.long q1), .second, .val (.int (7 : Int32)), .val (.int (1 : Int32))] [(.int (p1 + (1 : Int32))), (.ref a0x)])) _
    refine XS.lloadN X2.here hx rfl (hb hby d1_15) rfl ?_
    show Steps p.tables e below (T2.setTop (mkF m 16 #[.val (.ref a0x), .val (.int p1), .val (.long q1), .second, .val (.int (7 : Int32)), .val (.int (1 : Int32))] [(.long q1), (.int (p1 + (1 : Int32))), (.ref a0x)])) _
    refine XS.bipush X2.here hx rfl (hb hby d1_16) ?_
    show Steps p.tables e below (T2.setTop (mkF m 18 #[.val (.ref a0x), .val (.int p1), .val (.long q1), .second, .val (.int (7 : Int32)), .val (.int (1 : Int32))] [(.int (8 : Int32)), (.long q1), (.int (p1 + (1 : Int32))), (.ref a0x)])) _
    refine XS.iload X2.here hx rfl (hb hby d1_18) rfl ?_
    show Steps p.tables e below (T2.setTop (mkF m 20 #[.val (.ref a0x), .val (.int p1), .val (.long q1), .second, .val (.int (7 : Int32)), .val (.int (1 : Int32))] [(.int (7 : Int32)), (.int (8 : Int32)), (.long q1), (.int (p1 + (1 : Int32))), (.ref a0x)])) _
    refine XS.iconst X2.here hx rfl (hb hby d1_20) ?_
    show Steps p.tables e below (T2.setTop (mkF m 21 #[.val (.ref a0x), .val (.int p1), .val (.long q1), .second, .val (.int (7 : Int32)), .val (.int (1 : Int32))] [(.int (1 : Int32)), (.int (7 : Int32)), (.int (8 : Int32)), (.long q1), (.int (p1 + (1 : Int32))), (.ref a0x)])) _
    refine XS.isub X2.here hx rfl (hb hby d1_21) rfl ?_
    show Steps p.tables e below (T2.setTop (mkF m 22 #[.val (.ref a0x), .val (.int p1), .val (.long q1), .second, .val (.int (7 : Int32)), .val (.int (1 : Int32))] [(.int (6 : Int32)), (.int (8 : Int32)), (.long q1), (.int (p1 + (1 : Int32))), (.ref a0x)])) _
    refine XS.iload X2.here hx rfl (hb hby d1_22) rfl ?_
    show Steps p.tables e below (T2.setTop (mkF m 24 #[.val (.ref a0x), .val (.int p1), .val (.long q1), .second, .val (.int (7 : Int32)), .val (.int (1 : Int32))] [(.int (1 : Int32)), (.int (6 : Int32)), (.int (8 : Int32)), (.long q1), (.int (p1 + (1 : Int32))), (.ref a0x)])) _
    refine XS.isub X2.here hx rfl (hb hby d1_24) rfl ?_
    show Steps p.tables e below (T2.setTop (mkF m 25 #[.val (.ref a0x), .val (.int p1), .val (.long q1), .second, .val (.int (7 : Int32)), .val (.int (1 : Int32))] [(.int (5 : Int32)), (.int (8 : Int32)), (.long q1), (.int (p1 + (1 : Int32))), (.ref a0x)])) _
    refine XS.imul X2.here hx rfl (hb hby d1_25) rfl ?_
    show Steps p.tables e below (T2.setTop (mkF m 26 #[.val (.ref a0x), .val (.int p1), .val (.long q1), .second, .val (.int (7 : Int32)), .val (.int (1 : Int32))] [(.int (40 : Int32)), (.long q1), (.int (p1 + (1 : Int32))), (.ref a0x)])) _
    refine XS.lushr X2.here hx rfl (hb hby d1_26) rfl ?_
    show Steps p.tables e below (T2.setTop (mkF m 27 #[.val (.ref a0x), .val (.int p1), .val (.long q1), .second, .val (.int (7 : Int32)), .val (.int (1 : Int32))] [(.long ((q1.toUInt64 >>> ((40 : Int32) &&& 0x3f).toInt64.toUInt64).toInt64)), (.int (p1 + (1 : Int32))), (.ref a0x)])) _
    refine XS.l2i X2.here hx rfl (hb hby d1_27) rfl ?_
    show Steps p.tables e below (T2.setTop (mkF m 28 #[.val (.ref a0x), .val (.int p1), .val (.long q1), .second, .val (.int (7 : Int32)), .val (.int (1 : Int32))] [(.int ((q1.toUInt64 >>> ((40 : Int32) &&& 0x3f).toInt64.toUInt64).toInt64).toInt32), (.int (p1 + (1 : Int32))), (.ref a0x)])) _
    refine XS.i2b X2.here hx rfl (hb hby d1_28) rfl ?_
    show Steps p.tables e below (T2.setTop (mkF m 29 #[.val (.ref a0x), .val (.int p1), .val (.long q1), .second, .val (.int (7 : Int32)), .val (.int (1 : Int32))] [(.int ((q1.toUInt64 >>> ((40 : Int32) &&& 0x3f).toInt64.toUInt64).toInt64).toInt32.toInt8.toInt32), (.int (p1 + (1 : Int32))), (.ref a0x)])) _
    refine st4 _ ?_
    show Steps p.tables e below (T4.setTop (mkF m 30 #[.val (.ref a0x), .val (.int p1), .val (.long q1), .second, .val (.int (7 : Int32)), .val (.int (1 : Int32))] [])) _
    refine XS.iinc X4.here hx rfl (hb hby d1_30) rfl (l' := #[.val (.ref a0x), .val (.int p1), .val (.long q1), .second, .val (.int (7 : Int32)), .val (.int (2 : Int32))]) rfl ?_
    show Steps p.tables e below (T4.setTop (mkF m 33 #[.val (.ref a0x), .val (.int p1), .val (.long q1), .second, .val (.int (7 : Int32)), .val (.int (2 : Int32))] [])) _
    refine XS.goto X4.here hx rfl (pc0 := 33) (pc' := 3) rfl (hb hby d1_33) (by decide) (by decide) ?_
    show Steps p.tables e below (T4.setTop (mkF m 3 #[.val (.ref a0x), .val (.int p1), .val (.long q1), .second, .val (.int (7 : Int32)), .val (.int (2 : Int32))] [])) _
    refine XS.iload X4.here hx rfl (hb hby d1_3) rfl ?_
    show Steps p.tables e below (T4.setTop (mkF m 5 #[.val (.ref a0x), .val (.int p1), .val (.long q1), .second, .val (.int (7 : Int32)), .val (.int (2 : Int32))] [(.int (2 : Int32))])) _
    refine XS.iload X4.here hx rfl (hb hby d1_5) rfl ?_
    show Steps p.tables e below (T4.setTop (mkF m 7 #[.val (.ref a0x), .val (.int p1), .val (.long q1), .second, .val (.int (7 : Int32)), .val (.int (2 : Int32))] [(.int (7 : Int32)), (.int (2 : Int32))])) _
    refine XS.icmpNo X4.here hx rfl (hb hby d1_7) rfl (tlt (by decide : (2 : Int32) < (7 : Int32))).2.1 ?_
    show Steps p.tables e below (T4.setTop (mkF m 10 #[.val (.ref a0x), .val (.int p1), .val (.long q1), .second, .val (.int (7 : Int32)), .val (.int (2 : Int32))] [])) _
    refine XS.aloadN X4.here hx rfl (hb hby d1_10) rfl rfl ?_
    show Steps p.tables e below (T4.setTop (mkF m 11 #[.val (.ref a0x), .val (.int p1), .val (.long q1), .second, .val (.int (7 : Int32)), .val (.int (2 : Int32))] [(.ref a0x)])) _
    refine XS.iloadN X4.here hx rfl (hb hby d1_11) rfl ?_
    show Steps p.tables e below (T4.setTop (mkF m 12 #[.val (.ref a0x), .val (.int p1), .val (.long q1), .second, .val (.int (7 : Int32)), .val (.int (2 : Int32))] [(.int p1), (.ref a0x)])) _
    refine XS.iload X4.here hx rfl (hb hby d1_12) rfl ?_
    show Steps p.tables e below (T4.setTop (mkF m 14 #[.val (.ref a0x), .val (.int p1), .val (.long q1), .second, .val (.int (7 : Int32)), .val (.int (2 : Int32))] [(.int (2 : Int32)), (.int p1), (.ref a0x)])) _
    refine XS.iadd X4.here hx rfl (hb hby d1_14) rfl ?_
    show Steps p.tables e below (T4.setTop (mkF m 15 #[.val (.ref a0x), .val (.int p1), .val (.long q1), .second, .val (.int (7 : Int32)), .val (.int (2 : Int32))] [(.int (p1 + (2 : Int32))), (.ref a0x)])) _
    refine XS.lloadN X4.here hx rfl (hb hby d1_15) rfl ?_
    show Steps p.tables e below (T4.setTop (mkF m 16 #[.val (.ref a0x), .val (.int p1), .val (.long q1), .second, .val (.int (7 : Int32)), .val (.int (2 : Int32))] [(.long q1), (.int (p1 + (2 : Int32))), (.ref a0x)])) _
    refine XS.bipush X4.here hx rfl (hb hby d1_16) ?_
    show Steps p.tables e below (T4.setTop (mkF m 18 #[.val (.ref a0x), .val (.int p1), .val (.long q1), .second, .val (.int (7 : Int32)), .val (.int (2 : Int32))] [(.int (8 : Int32)), (.long q1), (.int (p1 + (2 : Int32))), (.ref a0x)])) _
    refine XS.iload X4.here hx rfl (hb hby d1_18) rfl ?_
    show Steps p.tables e below (T4.setTop (mkF m 20 #[.val (.ref a0x), .val (.int p1), .val (.long q1), .second, .val (.int (7 : Int32)), .val (.int (2 : Int32))] [(.int (7 : Int32)), (.int (8 : Int32)), (.long q1), (.int (p1 + (2 : Int32))), (.ref a0x)])) _
    refine XS.iconst X4.here hx rfl (hb hby d1_20) ?_
    show Steps p.tables e below (T4.setTop (mkF m 21 #[.val (.ref a0x), .val (.int p1), .val (.long q1), .second, .val (.int (7 : Int32)), .val (.int (2 : Int32))] [(.int (1 : Int32)), (.int (7 : Int32)), (.int (8 : Int32)), (.long q1), (.int (p1 + (2 : Int32))), (.ref a0x)])) _
    refine XS.isub X4.here hx rfl (hb hby d1_21) rfl ?_
    show Steps p.tables e below (T4.setTop (mkF m 22 #[.val (.ref a0x), .val (.int p1), .val (.long q1), .second, .val (.int (7 : Int32)), .val (.int (2 : Int32))] [(.int (6 : Int32)), (.int (8 : Int32)), (.long q1), (.int (p1 + (2 : Int32))), (.ref a0x)])) _
    refine XS.iload X4.here hx rfl (hb hby d1_22) rfl ?_
    show Steps p.tables e below (T4.setTop (mkF m 24 #[.val (.ref a0x), .val (.int p1), .val (.long q1), .second, .val (.int (7 : Int32)), .val (.int (2 : Int32))] [(.int (2 : Int32)), (.int (6 : Int32)), (.int (8 : Int32)), (.long q1), (.int (p1 + (2 : Int32))), (.ref a0x)])) _
    refine XS.isub X4.here hx rfl (hb hby d1_24) rfl ?_
    show Steps p.tables e below (T4.setTop (mkF m 25 #[.val (.ref a0x), .val (.int p1), .val (.long q1), .second, .val (.int (7 : Int32)), .val (.int (2 : Int32))] [(.int (4 : Int32)), (.int (8 : Int32)), (.long q1), (.int (p1 + (2 : Int32))), (.ref a0x)])) _
    refine XS.imul X4.here hx rfl (hb hby d1_25) rfl ?_
    show Steps p.tables e below (T4.setTop (mkF m 26 #[.val (.ref a0x), .val (.int p1), .val (.long q1), .second, .val (.int (7 : Int32)), .val (.int (2 : Int32))] [(.int (32 : Int32)), (.long q1), (.int (p1 + (2 : Int32))), (.ref a0x)])) _
    refine XS.lushr X4.here hx rfl (hb hby d1_26) rfl ?_
    show Steps p.tables e below (T4.setTop (mkF m 27 #[.val (.ref a0x), .val (.int p1), .val (.long q1), .second, .val (.int (7 : Int32)), .val (.int (2 : Int32))] [(.long ((q1.toUInt64 >>> ((32 : Int32) &&& 0x3f).toInt64.toUInt64).toInt64)), (.int (p1 + (2 : Int32))), (.ref a0x)])) _
    refine XS.l2i X4.here hx rfl (hb hby d1_27) rfl ?_
    show Steps p.tables e below (T4.setTop (mkF m 28 #[.val (.ref a0x), .val (.int p1), .val (.long q1), .second, .val (.int (7 : Int32)), .val (.int (2 : Int32))] [(.int ((q1.toUInt64 >>> ((32 : Int32) &&& 0x3f).toInt64.toUInt64).toInt64).toInt32), (.int (p1 + (2 : Int32))), (.ref a0x)])) _
    refine XS.i2b X4.here hx rfl (hb hby d1_28) rfl ?_
    show Steps p.tables e below (T4.setTop (mkF m 29 #[.val (.ref a0x), .val (.int p1), .val (.long q1), .second, .val (.int (7 : Int32)), .val (.int (2 : Int32))] [(.int ((q1.toUInt64 >>> ((32 : Int32) &&& 0x3f).toInt64.toUInt64).toInt64).toInt32.toInt8.toInt32), (.int (p1 + (2 : Int32))), (.ref a0x)])) _
    refine st6 _ ?_
    show Steps p.tables e below (T6.setTop (mkF m 30 #[.val (.ref a0x), .val (.int p1), .val (.long q1), .second, .val (.int (7 : Int32)), .val (.int (2 : Int32))] [])) _
    refine XS.iinc X6.here hx rfl (hb hby d1_30) rfl (l' := #[.val (.ref a0x), .val (.int p1), .val (.long q1), .second, .val (.int (7 : Int32)), .val (.int (3 : Int32))]) rfl ?_
    show Steps p.tables e below (T6.setTop (mkF m 33 #[.val (.ref a0x), .val (.int p1), .val (.long q1), .second, .val (.int (7 : Int32)), .val (.int (3 : Int32))] [])) _
    refine XS.goto X6.here hx rfl (pc0 := 33) (pc' := 3) rfl (hb hby d1_33) (by decide) (by decide) ?_
    show Steps p.tables e below (T6.setTop (mkF m 3 #[.val (.ref a0x), .val (.int p1), .val (.long q1), .second, .val (.int (7 : Int32)), .val (.int (3 : Int32))] [])) _
    refine XS.iload X6.here hx rfl (hb hby d1_3) rfl ?_
    show Steps p.tables e below (T6.setTop (mkF m 5 #[.val (.ref a0x), .val (.int p1), .val (.long q1), .second, .val (.int (7 : Int32)), .val (.int (3 : Int32))] [(.int (3 : Int32))])) _
    refine XS.iload X6.here hx rfl (hb hby d1_5) rfl ?_
    show Steps p.tables e below (T6.setTop (mkF m 7 #[.val (.ref a0x), .val (.int p1), .val (.long q1), .second, .val (.int (7 : Int32)), .val (.int (3 : Int32))] [(.int (7 : Int32)), (.int (3 : Int32))])) _
    refine XS.icmpNo X6.here hx rfl (hb hby d1_7) rfl (tlt (by decide : (3 : Int32) < (7 : Int32))).2.1 ?_
    show Steps p.tables e below (T6.setTop (mkF m 10 #[.val (.ref a0x), .val (.int p1), .val (.long q1), .second, .val (.int (7 : Int32)), .val (.int (3 : Int32))] [])) _
    refine XS.aloadN X6.here hx rfl (hb hby d1_10) rfl rfl ?_
    show Steps p.tables e below (T6.setTop (mkF m 11 #[.val (.ref a0x), .val (.int p1), .val (.long q1), .second, .val (.int (7 : Int32)), .val (.int (3 : Int32))] [(.ref a0x)])) _
    refine XS.iloadN X6.here hx rfl (hb hby d1_11) rfl ?_
    show Steps p.tables e below (T6.setTop (mkF m 12 #[.val (.ref a0x), .val (.int p1), .val (.long q1), .second, .val (.int (7 : Int32)), .val (.int (3 : Int32))] [(.int p1), (.ref a0x)])) _
    refine XS.iload X6.here hx rfl (hb hby d1_12) rfl ?_
    show Steps p.tables e below (T6.setTop (mkF m 14 #[.val (.ref a0x), .val (.int p1), .val (.long q1), .second, .val (.int (7 : Int32)), .val (.int (3 : Int32))] [(.int (3 : Int32)), (.int p1), (.ref a0x)])) _
    refine XS.iadd X6.here hx rfl (hb hby d1_14) rfl ?_
    show Steps p.tables e below (T6.setTop (mkF m 15 #[.val (.ref a0x), .val (.int p1), .val (.long q1), .second, .val (.int (7 : Int32)), .val (.int (3 : Int32))] [(.int (p1 + (3 : Int32))), (.ref a0x)])) _
    refine XS.lloadN X6.here hx rfl (hb hby d1_15) rfl ?_
    show Steps p.tables e below (T6.setTop (mkF m 16 #[.val (.ref a0x), .val (.int p1), .val (.long q1), .second, .val (.int (7 : Int32)), .val (.int (3 : Int32))] [(.long q1), (.int (p1 + (3 : Int32))), (.ref a0x)])) _
    refine XS.bipush X6.here hx rfl (hb hby d1_16) ?_
    show Steps p.tables e below (T6.setTop (mkF m 18 #[.val (.ref a0x), .val (.int p1), .val (.long q1), .second, .val (.int (7 : Int32)), .val (.int (3 : Int32))] [(.int (8 : Int32)), (.long q1), (.int (p1 + (3 : Int32))), (.ref a0x)])) _
    refine XS.iload X6.here hx rfl (hb hby d1_18) rfl ?_
    show Steps p.tables e below (T6.setTop (mkF m 20 #[.val (.ref a0x), .val (.int p1), .val (.long q1), .second, .val (.int (7 : Int32)), .val (.int (3 : Int32))] [(.int (7 : Int32)), (.int (8 : Int32)), (.long q1), (.int (p1 + (3 : Int32))), (.ref a0x)])) _
    refine XS.iconst X6.here hx rfl (hb hby d1_20) ?_
    show Steps p.tables e below (T6.setTop (mkF m 21 #[.val (.ref a0x), .val (.int p1), .val (.long q1), .second, .val (.int (7 : Int32)), .val (.int (3 : Int32))] [(.int (1 : Int32)), (.int (7 : Int32)), (.int (8 : Int32)), (.long q1), (.int (p1 + (3 : Int32))), (.ref a0x)])) _
    refine XS.isub X6.here hx rfl (hb hby d1_21) rfl ?_
    show Steps p.tables e below (T6.setTop (mkF m 22 #[.val (.ref a0x), .val (.int p1), .val (.long q1), .second, .val (.int (7 : Int32)), .val (.int (3 : Int32))] [(.int (6 : Int32)), (.int (8 : Int32)), (.long q1), (.int (p1 + (3 : Int32))), (.ref a0x)])) _
    refine XS.iload X6.here hx rfl (hb hby d1_22) rfl ?_
    show Steps p.tables e below (T6.setTop (mkF m 24 #[.val (.ref a0x), .val (.int p1), .val (.long q1), .second, .val (.int (7 : Int32)), .val (.int (3 : Int32))] [(.int (3 : Int32)), (.int (6 : Int32)), (.int (8 : Int32)), (.long q1), (.int (p1 + (3 : Int32))), (.ref a0x)])) _
    refine XS.isub X6.here hx rfl (hb hby d1_24) rfl ?_
    show Steps p.tables e below (T6.setTop (mkF m 25 #[.val (.ref a0x), .val (.int p1), .val (.long q1), .second, .val (.int (7 : Int32)), .val (.int (3 : Int32))] [(.int (3 : Int32)), (.int (8 : Int32)), (.long q1), (.int (p1 + (3 : Int32))), (.ref a0x)])) _
    refine XS.imul X6.here hx rfl (hb hby d1_25) rfl ?_
    show Steps p.tables e below (T6.setTop (mkF m 26 #[.val (.ref a0x), .val (.int p1), .val (.long q1), .second, .val (.int (7 : Int32)), .val (.int (3 : Int32))] [(.int (24 : Int32)), (.long q1), (.int (p1 + (3 : Int32))), (.ref a0x)])) _
    refine XS.lushr X6.here hx rfl (hb hby d1_26) rfl ?_
    show Steps p.tables e below (T6.setTop (mkF m 27 #[.val (.ref a0x), .val (.int p1), .val (.long q1), .second, .val (.int (7 : Int32)), .val (.int (3 : Int32))] [(.long ((q1.toUInt64 >>> ((24 : Int32) &&& 0x3f).toInt64.toUInt64).toInt64)), (.int (p1 + (3 : Int32))), (.ref a0x)])) _
    refine XS.l2i X6.here hx rfl (hb hby d1_27) rfl ?_
    show Steps p.tables e below (T6.setTop (mkF m 28 #[.val (.ref a0x), .val (.int p1), .val (.long q1), .second, .val (.int (7 : Int32)), .val (.int (3 : Int32))] [(.int ((q1.toUInt64 >>> ((24 : Int32) &&& 0x3f).toInt64.toUInt64).toInt64).toInt32), (.int (p1 + (3 : Int32))), (.ref a0x)])) _
    refine XS.i2b X6.here hx rfl (hb hby d1_28) rfl ?_
    show Steps p.tables e below (T6.setTop (mkF m 29 #[.val (.ref a0x), .val (.int p1), .val (.long q1), .second, .val (.int (7 : Int32)), .val (.int (3 : Int32))] [(.int ((q1.toUInt64 >>> ((24 : Int32) &&& 0x3f).toInt64.toUInt64).toInt64).toInt32.toInt8.toInt32), (.int (p1 + (3 : Int32))), (.ref a0x)])) _
    refine st8 _ ?_
    show Steps p.tables e below (T8.setTop (mkF m 30 #[.val (.ref a0x), .val (.int p1), .val (.long q1), .second, .val (.int (7 : Int32)), .val (.int (3 : Int32))] [])) _
    refine XS.iinc X8.here hx rfl (hb hby d1_30) rfl (l' := #[.val (.ref a0x), .val (.int p1), .val (.long q1), .second, .val (.int (7 : Int32)), .val (.int (4 : Int32))]) rfl ?_
    show Steps p.tables e below (T8.setTop (mkF m 33 #[.val (.ref a0x), .val (.int p1), .val (.long q1), .second, .val (.int (7 : Int32)), .val (.int (4 : Int32))] [])) _
    refine XS.goto X8.here hx rfl (pc0 := 33) (pc' := 3) rfl (hb hby d1_33) (by decide) (by decide) ?_
    show Steps p.tables e below (T8.setTop (mkF m 3 #[.val (.ref a0x), .val (.int p1), .val (.long q1), .second, .val (.int (7 : Int32)), .val (.int (4 : Int32))] [])) _
    refine XS.iload X8.here hx rfl (hb hby d1_3) rfl ?_
    show Steps p.tables e below (T8.setTop (mkF m 5 #[.val (.ref a0x), .val (.int p1), .val (.long q1), .second, .val (.int (7 : Int32)), .val (.int (4 : Int32))] [(.int (4 : Int32))])) _
    refine XS.iload X8.here hx rfl (hb hby d1_5) rfl ?_
    show Steps p.tables e below (T8.setTop (mkF m 7 #[.val (.ref a0x), .val (.int p1), .val (.long q1), .second, .val (.int (7 : Int32)), .val (.int (4 : Int32))] [(.int (7 : Int32)), (.int (4 : Int32))])) _
    refine XS.icmpNo X8.here hx rfl (hb hby d1_7) rfl (tlt (by decide : (4 : Int32) < (7 : Int32))).2.1 ?_
    show Steps p.tables e below (T8.setTop (mkF m 10 #[.val (.ref a0x), .val (.int p1), .val (.long q1), .second, .val (.int (7 : Int32)), .val (.int (4 : Int32))] [])) _
    refine XS.aloadN X8.here hx rfl (hb hby d1_10) rfl rfl ?_
    show Steps p.tables e below (T8.setTop (mkF m 11 #[.val (.ref a0x), .val (.int p1), .val (.long q1), .second, .val (.int (7 : Int32)), .val (.int (4 : Int32))] [(.ref a0x)])) _
    refine XS.iloadN X8.here hx rfl (hb hby d1_11) rfl ?_
    show Steps p.tables e below (T8.setTop (mkF m 12 #[.val (.ref a0x), .val (.int p1), .val (.long q1), .second, .val (.int (7 : Int32)), .val (.int (4 : Int32))] [(.int p1), (.ref a0x)])) _
    refine XS.iload X8.here hx rfl (hb hby d1_12) rfl ?_
    show Steps p.tables e below (T8.setTop (mkF m 14 #[.val (.ref a0x), .val (.int p1), .val (.long q1), .second, .val (.int (7 : Int32)), .val (.int (4 : Int32))] [(.int (4 : Int32)), (.int p1), (.ref a0x)])) _
    refine XS.iadd X8.here hx rfl (hb hby d1_14) rfl ?_
    show Steps p.tables e below (T8.setTop (mkF m 15 #[.val (.ref a0x), .val (.int p1), .val (.long q1), .second, .val (.int (7 : Int32)), .val (.int (4 : Int32))] [(.int (p1 + (4 : Int32))), (.ref a0x)])) _
    refine XS.lloadN X8.here hx rfl (hb hby d1_15) rfl ?_
    show Steps p.tables e below (T8.setTop (mkF m 16 #[.val (.ref a0x), .val (.int p1), .val (.long q1), .second, .val (.int (7 : Int32)), .val (.int (4 : Int32))] [(.long q1), (.int (p1 + (4 : Int32))), (.ref a0x)])) _
    refine XS.bipush X8.here hx rfl (hb hby d1_16) ?_
    show Steps p.tables e below (T8.setTop (mkF m 18 #[.val (.ref a0x), .val (.int p1), .val (.long q1), .second, .val (.int (7 : Int32)), .val (.int (4 : Int32))] [(.int (8 : Int32)), (.long q1), (.int (p1 + (4 : Int32))), (.ref a0x)])) _
    refine XS.iload X8.here hx rfl (hb hby d1_18) rfl ?_
    show Steps p.tables e below (T8.setTop (mkF m 20 #[.val (.ref a0x), .val (.int p1), .val (.long q1), .second, .val (.int (7 : Int32)), .val (.int (4 : Int32))] [(.int (7 : Int32)), (.int (8 : Int32)), (.long q1), (.int (p1 + (4 : Int32))), (.ref a0x)])) _
    refine XS.iconst X8.here hx rfl (hb hby d1_20) ?_
    show Steps p.tables e below (T8.setTop (mkF m 21 #[.val (.ref a0x), .val (.int p1), .val (.long q1), .second, .val (.int (7 : Int32)), .val (.int (4 : Int32))] [(.int (1 : Int32)), (.int (7 : Int32)), (.int (8 : Int32)), (.long q1), (.int (p1 + (4 : Int32))), (.ref a0x)])) _
    refine XS.isub X8.here hx rfl (hb hby d1_21) rfl ?_
    show Steps p.tables e below (T8.setTop (mkF m 22 #[.val (.ref a0x), .val (.int p1), .val (.long q1), .second, .val (.int (7 : Int32)), .val (.int (4 : Int32))] [(.int (6 : Int32)), (.int (8 : Int32)), (.long q1), (.int (p1 + (4 : Int32))), (.ref a0x)])) _
    refine XS.iload X8.here hx rfl (hb hby d1_22) rfl ?_
    show Steps p.tables e below (T8.setTop (mkF m 24 #[.val (.ref a0x), .val (.int p1), .val (.long q1), .second, .val (.int (7 : Int32)), .val (.int (4 : Int32))] [(.int (4 : Int32)), (.int (6 : Int32)), (.int (8 : Int32)), (.long q1), (.int (p1 + (4 : Int32))), (.ref a0x)])) _
    refine XS.isub X8.here hx rfl (hb hby d1_24) rfl ?_
    show Steps p.tables e below (T8.setTop (mkF m 25 #[.val (.ref a0x), .val (.int p1), .val (.long q1), .second, .val (.int (7 : Int32)), .val (.int (4 : Int32))] [(.int (2 : Int32)), (.int (8 : Int32)), (.long q1), (.int (p1 + (4 : Int32))), (.ref a0x)])) _
    refine XS.imul X8.here hx rfl (hb hby d1_25) rfl ?_
    show Steps p.tables e below (T8.setTop (mkF m 26 #[.val (.ref a0x), .val (.int p1), .val (.long q1), .second, .val (.int (7 : Int32)), .val (.int (4 : Int32))] [(.int (16 : Int32)), (.long q1), (.int (p1 + (4 : Int32))), (.ref a0x)])) _
    refine XS.lushr X8.here hx rfl (hb hby d1_26) rfl ?_
    show Steps p.tables e below (T8.setTop (mkF m 27 #[.val (.ref a0x), .val (.int p1), .val (.long q1), .second, .val (.int (7 : Int32)), .val (.int (4 : Int32))] [(.long ((q1.toUInt64 >>> ((16 : Int32) &&& 0x3f).toInt64.toUInt64).toInt64)), (.int (p1 + (4 : Int32))), (.ref a0x)])) _
    refine XS.l2i X8.here hx rfl (hb hby d1_27) rfl ?_
    show Steps p.tables e below (T8.setTop (mkF m 28 #[.val (.ref a0x), .val (.int p1), .val (.long q1), .second, .val (.int (7 : Int32)), .val (.int (4 : Int32))] [(.int ((q1.toUInt64 >>> ((16 : Int32) &&& 0x3f).toInt64.toUInt64).toInt64).toInt32), (.int (p1 + (4 : Int32))), (.ref a0x)])) _
    refine XS.i2b X8.here hx rfl (hb hby d1_28) rfl ?_
    show Steps p.tables e below (T8.setTop (mkF m 29 #[.val (.ref a0x), .val (.int p1), .val (.long q1), .second, .val (.int (7 : Int32)), .val (.int (4 : Int32))] [(.int ((q1.toUInt64 >>> ((16 : Int32) &&& 0x3f).toInt64.toUInt64).toInt64).toInt32.toInt8.toInt32), (.int (p1 + (4 : Int32))), (.ref a0x)])) _
    refine st10 _ ?_
    show Steps p.tables e below (T10.setTop (mkF m 30 #[.val (.ref a0x), .val (.int p1), .val (.long q1), .second, .val (.int (7 : Int32)), .val (.int (4 : Int32))] [])) _
    refine XS.iinc X10.here hx rfl (hb hby d1_30) rfl (l' := #[.val (.ref a0x), .val (.int p1), .val (.long q1), .second, .val (.int (7 : Int32)), .val (.int (5 : Int32))]) rfl ?_
    show Steps p.tables e below (T10.setTop (mkF m 33 #[.val (.ref a0x), .val (.int p1), .val (.long q1), .second, .val (.int (7 : Int32)), .val (.int (5 : Int32))] [])) _
    refine XS.goto X10.here hx rfl (pc0 := 33) (pc' := 3) rfl (hb hby d1_33) (by decide) (by decide) ?_
    show Steps p.tables e below (T10.setTop (mkF m 3 #[.val (.ref a0x), .val (.int p1), .val (.long q1), .second, .val (.int (7 : Int32)), .val (.int (5 : Int32))] [])) _
    refine XS.iload X10.here hx rfl (hb hby d1_3) rfl ?_
    show Steps p.tables e below (T10.setTop (mkF m 5 #[.val (.ref a0x), .val (.int p1), .val (.long q1), .second, .val (.int (7 : Int32)), .val (.int (5 : Int32))] [(.int (5 : Int32))])) _
    refine XS.iload X10.here hx rfl (hb hby d1_5) rfl ?_
    show Steps p.tables e below (T10.setTop (mkF m 7 #[.val (.ref a0x), .val (.int p1), .val (.long q1), .second, .val (.int (7 : Int32)), .val (.int (5 : Int32))] [(.int (7 : Int32)), (.int (5 : Int32))])) _
    refine XS.icmpNo X10.here hx rfl (hb hby d1_7) rfl (tlt (by decide : (5 : Int32) < (7 : Int32))).2.1 ?_
    show Steps p.tables e below (T10.setTop (mkF m 10 #[.val (.ref a0x), .val (.int p1), .val (.long q1), .second, .val (.int (7 : Int32)), .val (.int (5 : Int32))] [])) _
    refine XS.aloadN X10.here hx rfl (hb hby d1_10) rfl rfl ?_
    show Steps p.tables e below (T10.setTop (mkF m 11 #[.val (.ref a0x), .val (.int p1), .val (.long q1), .second, .val (.int (7 : Int32)), .val (.int (5 : Int32))] [(.ref a0x)])) _
    refine XS.iloadN X10.here hx rfl (hb hby d1_11) rfl ?_
    show Steps p.tables e below (T10.setTop (mkF m 12 #[.val (.ref a0x), .val (.int p1), .val (.long q1), .second, .val (.int (7 : Int32)), .val (.int (5 : Int32))] [(.int p1), (.ref a0x)])) _
    refine XS.iload X10.here hx rfl (hb hby d1_12) rfl ?_
    show Steps p.tables e below (T10.setTop (mkF m 14 #[.val (.ref a0x), .val (.int p1), .val (.long q1), .second, .val (.int (7 : Int32)), .val (.int (5 : Int32))] [(.int (5 : Int32)), (.int p1), (.ref a0x)])) _
    refine XS.iadd X10.here hx rfl (hb hby d1_14) rfl ?_
    show Steps p.tables e below (T10.setTop (mkF m 15 #[.val (.ref a0x), .val (.int p1), .val (.long q1), .second, .val (.int (7 : Int32)), .val (.int (5 : Int32))] [(.int (p1 + (5 : Int32))), (.ref a0x)])) _
    refine XS.lloadN X10.here hx rfl (hb hby d1_15) rfl ?_
    show Steps p.tables e below (T10.setTop (mkF m 16 #[.val (.ref a0x), .val (.int p1), .val (.long q1), .second, .val (.int (7 : Int32)), .val (.int (5 : Int32))] [(.long q1), (.int (p1 + (5 : Int32))), (.ref a0x)])) _
    refine XS.bipush X10.here hx rfl (hb hby d1_16) ?_
    show Steps p.tables e below (T10.setTop (mkF m 18 #[.val (.ref a0x), .val (.int p1), .val (.long q1), .second, .val (.int (7 : Int32)), .val (.int (5 : Int32))] [(.int (8 : Int32)), (.long q1), (.int (p1 + (5 : Int32))), (.ref a0x)])) _
    refine XS.iload X10.here hx rfl (hb hby d1_18) rfl ?_
    show Steps p.tables e below (T10.setTop (mkF m 20 #[.val (.ref a0x), .val (.int p1), .val (.long q1), .second, .val (.int (7 : Int32)), .val (.int (5 : Int32))] [(.int (7 : Int32)), (.int (8 : Int32)), (.long q1), (.int (p1 + (5 : Int32))), (.ref a0x)])) _
    refine XS.iconst X10.here hx rfl (hb hby d1_20) ?_
    show Steps p.tables e below (T10.setTop (mkF m 21 #[.val (.ref a0x), .val (.int p1), .val (.long q1), .second, .val (.int (7 : Int32)), .val (.int (5 : Int32))] [(.int (1 : Int32)), (.int (7 : Int32)), (.int (8 : Int32)), (.long q1), (.int (p1 + (5 : Int32))), (.ref a0x)])) _
    refine XS.isub X10.here hx rfl (hb hby d1_21) rfl ?_
    show Steps p.tables e below (T10.setTop (mkF m 22 #[.val (.ref a0x), .val (.int p1), .val (.long q1), .second, .val (.int (7 : Int32)), .val (.int (5 : Int32))] [(.int (6 : Int32)), (.int (8 : Int32)), (.long q1), (.int (p1 + (5 : Int32))), (.ref a0x)])) _
    refine XS.iload X10.here hx rfl (hb hby d1_22) rfl ?_
    show Steps p.tables e below (T10.setTop (mkF m 24 #[.val (.ref a0x), .val (.int p1), .val (.long q1), .second, .val (.int (7 : Int32)), .val (.int (5 : Int32))] [(.int (5 : Int32)), (.int (6 : Int32)), (.int (8 : Int32)), (.long q1), (.int (p1 + (5 : Int32))), (.ref a0x)])) _
    refine XS.isub X10.here hx rfl (hb hby d1_24) rfl ?_
    show Steps p.tables e below (T10.setTop (mkF m 25 #[.val (.ref a0x), .val (.int p1), .val (.long q1), .second, .val (.int (7 : Int32)), .val (.int (5 : Int32))] [(.int (1 : Int32)), (.int (8 : Int32)), (.long q1), (.int (p1 + (5 : Int32))), (.ref a0x)])) _
    refine XS.imul X10.here hx rfl (hb hby d1_25) rfl ?_
    show Steps p.tables e below (T10.setTop (mkF m 26 #[.val (.ref a0x), .val (.int p1), .val (.long q1), .second, .val (.int (7 : Int32)), .val (.int (5 : Int32))] [(.int (8 : Int32)), (.long q1), (.int (p1 + (5 : Int32))), (.ref a0x)])) _
    refine XS.lushr X10.here hx rfl (hb hby d1_26) rfl ?_
    show Steps p.tables e below (T10.setTop (mkF m 27 #[.val (.ref a0x), .val (.int p1), .val (.long q1), .second, .val (.int (7 : Int32)), .val (.int (5 : Int32))] [(.long ((q1.toUInt64 >>> ((8 : Int32) &&& 0x3f).toInt64.toUInt64).toInt64)), (.int (p1 + (5 : Int32))), (.ref a0x)])) _
    refine XS.l2i X10.here hx rfl (hb hby d1_27) rfl ?_
    show Steps p.tables e below (T10.setTop (mkF m 28 #[.val (.ref a0x), .val (.int p1), .val (.long q1), .second, .val (.int (7 : Int32)), .val (.int (5 : Int32))] [(.int ((q1.toUInt64 >>> ((8 : Int32) &&& 0x3f).toInt64.toUInt64).toInt64).toInt32), (.int (p1 + (5 : Int32))), (.ref a0x)])) _
    refine XS.i2b X10.here hx rfl (hb hby d1_28) rfl ?_
    show Steps p.tables e below (T10.setTop (mkF m 29 #[.val (.ref a0x), .val (.int p1), .val (.long q1), .second, .val (.int (7 : Int32)), .val (.int (5 : Int32))] [(.int ((q1.toUInt64 >>> ((8 : Int32) &&& 0x3f).toInt64.toUInt64).toInt64).toInt32.toInt8.toInt32), (.int (p1 + (5 : Int32))), (.ref a0x)])) _
    refine st12 _ ?_
    show Steps p.tables e below (T12.setTop (mkF m 30 #[.val (.ref a0x), .val (.int p1), .val (.long q1), .second, .val (.int (7 : Int32)), .val (.int (5 : Int32))] [])) _
    refine XS.iinc X12.here hx rfl (hb hby d1_30) rfl (l' := #[.val (.ref a0x), .val (.int p1), .val (.long q1), .second, .val (.int (7 : Int32)), .val (.int (6 : Int32))]) rfl ?_
    show Steps p.tables e below (T12.setTop (mkF m 33 #[.val (.ref a0x), .val (.int p1), .val (.long q1), .second, .val (.int (7 : Int32)), .val (.int (6 : Int32))] [])) _
    refine XS.goto X12.here hx rfl (pc0 := 33) (pc' := 3) rfl (hb hby d1_33) (by decide) (by decide) ?_
    show Steps p.tables e below (T12.setTop (mkF m 3 #[.val (.ref a0x), .val (.int p1), .val (.long q1), .second, .val (.int (7 : Int32)), .val (.int (6 : Int32))] [])) _
    refine XS.iload X12.here hx rfl (hb hby d1_3) rfl ?_
    show Steps p.tables e below (T12.setTop (mkF m 5 #[.val (.ref a0x), .val (.int p1), .val (.long q1), .second, .val (.int (7 : Int32)), .val (.int (6 : Int32))] [(.int (6 : Int32))])) _
    refine XS.iload X12.here hx rfl (hb hby d1_5) rfl ?_
    show Steps p.tables e below (T12.setTop (mkF m 7 #[.val (.ref a0x), .val (.int p1), .val (.long q1), .second, .val (.int (7 : Int32)), .val (.int (6 : Int32))] [(.int (7 : Int32)), (.int (6 : Int32))])) _
    refine XS.icmpNo X12.here hx rfl (hb hby d1_7) rfl (tlt (by decide : (6 : Int32) < (7 : Int32))).2.1 ?_
    show Steps p.tables e below (T12.setTop (mkF m 10 #[.val (.ref a0x), .val (.int p1), .val (.long q1), .second, .val (.int (7 : Int32)), .val (.int (6 : Int32))] [])) _
    refine XS.aloadN X12.here hx rfl (hb hby d1_10) rfl rfl ?_
    show Steps p.tables e below (T12.setTop (mkF m 11 #[.val (.ref a0x), .val (.int p1), .val (.long q1), .second, .val (.int (7 : Int32)), .val (.int (6 : Int32))] [(.ref a0x)])) _
    refine XS.iloadN X12.here hx rfl (hb hby d1_11) rfl ?_
    show Steps p.tables e below (T12.setTop (mkF m 12 #[.val (.ref a0x), .val (.int p1), .val (.long q1), .second, .val (.int (7 : Int32)), .val (.int (6 : Int32))] [(.int p1), (.ref a0x)])) _
    refine XS.iload X12.here hx rfl (hb hby d1_12) rfl ?_
    show Steps p.tables e below (T12.setTop (mkF m 14 #[.val (.ref a0x), .val (.int p1), .val (.long q1), .second, .val (.int (7 : Int32)), .val (.int (6 : Int32))] [(.int (6 : Int32)), (.int p1), (.ref a0x)])) _
    refine XS.iadd X12.here hx rfl (hb hby d1_14) rfl ?_
    show Steps p.tables e below (T12.setTop (mkF m 15 #[.val (.ref a0x), .val (.int p1), .val (.long q1), .second, .val (.int (7 : Int32)), .val (.int (6 : Int32))] [(.int (p1 + (6 : Int32))), (.ref a0x)])) _
    refine XS.lloadN X12.here hx rfl (hb hby d1_15) rfl ?_
    show Steps p.tables e below (T12.setTop (mkF m 16 #[.val (.ref a0x), .val (.int p1), .val (.long q1), .second, .val (.int (7 : Int32)), .val (.int (6 : Int32))] [(.long q1), (.int (p1 + (6 : Int32))), (.ref a0x)])) _
    refine XS.bipush X12.here hx rfl (hb hby d1_16) ?_
    show Steps p.tables e below (T12.setTop (mkF m 18 #[.val (.ref a0x), .val (.int p1), .val (.long q1), .second, .val (.int (7 : Int32)), .val (.int (6 : Int32))] [(.int (8 : Int32)), (.long q1), (.int (p1 + (6 : Int32))), (.ref a0x)])) _
    refine XS.iload X12.here hx rfl (hb hby d1_18) rfl ?_
    show Steps p.tables e below (T12.setTop (mkF m 20 #[.val (.ref a0x), .val (.int p1), .val (.long q1), .second, .val (.int (7 : Int32)), .val (.int (6 : Int32))] [(.int (7 : Int32)), (.int (8 : Int32)), (.long q1), (.int (p1 + (6 : Int32))), (.ref a0x)])) _
    refine XS.iconst X12.here hx rfl (hb hby d1_20) ?_
    show Steps p.tables e below (T12.setTop (mkF m 21 #[.val (.ref a0x), .val (.int p1), .val (.long q1), .second, .val (.int (7 : Int32)), .val (.int (6 : Int32))] [(.int (1 : Int32)), (.int (7 : Int32)), (.int (8 : Int32)), (.long q1), (.int (p1 + (6 : Int32))), (.ref a0x)])) _
    refine XS.isub X12.here hx rfl (hb hby d1_21) rfl ?_
    show Steps p.tables e below (T12.setTop (mkF m 22 #[.val (.ref a0x), .val (.int p1), .val (.long q1), .second, .val (.int (7 : Int32)), .val (.int (6 : Int32))] [(.int (6 : Int32)), (.int (8 : Int32)), (.long q1), (.int (p1 + (6 : Int32))), (.ref a0x)])) _
    refine XS.iload X12.here hx rfl (hb hby d1_22) rfl ?_
    show Steps p.tables e below (T12.setTop (mkF m 24 #[.val (.ref a0x), .val (.int p1), .val (.long q1), .second, .val (.int (7 : Int32)), .val (.int (6 : Int32))] [(.int (6 : Int32)), (.int (6 : Int32)), (.int (8 : Int32)), (.long q1), (.int (p1 + (6 : Int32))), (.ref a0x)])) _
    refine XS.isub X12.here hx rfl (hb hby d1_24) rfl ?_
    show Steps p.tables e below (T12.setTop (mkF m 25 #[.val (.ref a0x), .val (.int p1), .val (.long q1), .second, .val (.int (7 : Int32)), .val (.int (6 : Int32))] [(.int (0 : Int32)), (.int (8 : Int32)), (.long q1), (.int (p1 + (6 : Int32))), (.ref a0x)])) _
    refine XS.imul X12.here hx rfl (hb hby d1_25) rfl ?_
    show Steps p.tables e below (T12.setTop (mkF m 26 #[.val (.ref a0x), .val (.int p1), .val (.long q1), .second, .val (.int (7 : Int32)), .val (.int (6 : Int32))] [(.int (0 : Int32)), (.long q1), (.int (p1 + (6 : Int32))), (.ref a0x)])) _
    refine XS.lushr X12.here hx rfl (hb hby d1_26) rfl ?_
    show Steps p.tables e below (T12.setTop (mkF m 27 #[.val (.ref a0x), .val (.int p1), .val (.long q1), .second, .val (.int (7 : Int32)), .val (.int (6 : Int32))] [(.long ((q1.toUInt64 >>> ((0 : Int32) &&& 0x3f).toInt64.toUInt64).toInt64)), (.int (p1 + (6 : Int32))), (.ref a0x)])) _
    refine XS.l2i X12.here hx rfl (hb hby d1_27) rfl ?_
    show Steps p.tables e below (T12.setTop (mkF m 28 #[.val (.ref a0x), .val (.int p1), .val (.long q1), .second, .val (.int (7 : Int32)), .val (.int (6 : Int32))] [(.int ((q1.toUInt64 >>> ((0 : Int32) &&& 0x3f).toInt64.toUInt64).toInt64).toInt32), (.int (p1 + (6 : Int32))), (.ref a0x)])) _
    refine XS.i2b X12.here hx rfl (hb hby d1_28) rfl ?_
    show Steps p.tables e below (T12.setTop (mkF m 29 #[.val (.ref a0x), .val (.int p1), .val (.long q1), .second, .val (.int (7 : Int32)), .val (.int (6 : Int32))] [(.int ((q1.toUInt64 >>> ((0 : Int32) &&& 0x3f).toInt64.toUInt64).toInt64).toInt32.toInt8.toInt32), (.int (p1 + (6 : Int32))), (.ref a0x)])) _
    refine st14 _ ?_
    show Steps p.tables e below (T14.setTop (mkF m 30 #[.val (.ref a0x), .val (.int p1), .val (.long q1), .second, .val (.int (7 : Int32)), .val (.int (6 : Int32))] [])) _
    refine XS.iinc X14.here hx rfl (hb hby d1_30) rfl (l' := #[.val (.ref a0x), .val (.int p1), .val (.long q1), .second, .val (.int (7 : Int32)), .val (.int (7 : Int32))]) rfl ?_
    show Steps p.tables e below (T14.setTop (mkF m 33 #[.val (.ref a0x), .val (.int p1), .val (.long q1), .second, .val (.int (7 : Int32)), .val (.int (7 : Int32))] [])) _
    refine XS.goto X14.here hx rfl (pc0 := 33) (pc' := 3) rfl (hb hby d1_33) (by decide) (by decide) ?_
    show Steps p.tables e below (T14.setTop (mkF m 3 #[.val (.ref a0x), .val (.int p1), .val (.long q1), .second, .val (.int (7 : Int32)), .val (.int (7 : Int32))] [])) _
    refine XS.iload X14.here hx rfl (hb hby d1_3) rfl ?_
    show Steps p.tables e below (T14.setTop (mkF m 5 #[.val (.ref a0x), .val (.int p1), .val (.long q1), .second, .val (.int (7 : Int32)), .val (.int (7 : Int32))] [(.int (7 : Int32))])) _
    refine XS.iload X14.here hx rfl (hb hby d1_5) rfl ?_
    show Steps p.tables e below (T14.setTop (mkF m 7 #[.val (.ref a0x), .val (.int p1), .val (.long q1), .second, .val (.int (7 : Int32)), .val (.int (7 : Int32))] [(.int (7 : Int32)), (.int (7 : Int32))])) _
    refine XS.icmpYes X14.here hx rfl (pc0 := 7) (pc' := 36) rfl (hb hby d1_7) rfl (flt (by decide : ¬ ((7 : Int32) < (7 : Int32)))).2.1 (by decide) (by decide) ?_
    show Steps p.tables e below (T14.setTop (mkF m 36 #[.val (.ref a0x), .val (.int p1), .val (.long q1), .second, .val (.int (7 : Int32)), .val (.int (7 : Int32))] [])) _
    refine XS.iloadN X14.here hx rfl (hb hby d1_36) rfl ?_
    show Steps p.tables e below (T14.setTop (mkF m 37 #[.val (.ref a0x), .val (.int p1), .val (.long q1), .second, .val (.int (7 : Int32)), .val (.int (7 : Int32))] [(.int p1)])) _
    refine XS.iload X14.here hx rfl (hb hby d1_37) rfl ?_
    show Steps p.tables e below (T14.setTop (mkF m 39 #[.val (.ref a0x), .val (.int p1), .val (.long q1), .second, .val (.int (7 : Int32)), .val (.int (7 : Int32))] [(.int (7 : Int32)), (.int p1)])) _
    refine XS.iadd X14.here hx rfl (hb hby d1_39) rfl ?_
    show Steps p.tables e below (T14.setTop (mkF m 40 #[.val (.ref a0x), .val (.int p1), .val (.long q1), .second, .val (.int (7 : Int32)), .val (.int (7 : Int32))] [(.int (p1 + (7 : Int32)))])) _
    exact retI X14 hx Bd.returns (hb hby d1_40) hr
  · show Q_rm_put Z a0x p1 q1 p2 tab h0 n0 _ T14.heap _
    rw [e14]
    exact ⟨(by rw [hk]), N14, K14, (by rw [hk]; exact (own_Tab.cong V14 (fun j _ _ => by simp [own_putF, own_b8, own_byte, (by decide : (0 : Int32) < 7), (by decide : (1 : Int32) < 7), (by decide : (2 : Int32) < 7), (by decide : (3 : Int32) < 7), (by decide : (4 : Int32) < 7), (by decide : (5 : Int32) < 7), (by decide : (6 : Int32) < 7), (by decide : ¬ (7 : Int32) < 7)])))⟩
set_option maxRecDepth 65536 in
set_option maxHeartbeats 40000000 in
theorem rm_put8 (l : Launch) (Z : State) (a0 : Array Value) (hw : ∀ d ∈ tables_1, d.before a0 Z = true) (ws : List Jvm.Cond) (a0x : Addr) (p1 : Int32) (q1 : Int64) (p2 : Int32) (tab : Int32 → Int32) (h0 : Heap) (n0 : Nat) (Z0 : n0 ≤ h0.size) (V0x : own_Tab Z h0 a0x .byte (12 : Int32) (fun j => .int (tab j))) (g0x : n0 ≤ a0x) (hat : 0 ≤ p1.toInt ∧ p1.toInt + ((8 : Int32)).toInt ≤ 12) (hk : p2 = (8 : Int32)) :
    MetFree l (⟨"com/example/fyfo/fyfo/BigEndian", "put", "([BIJI)I"⟩ : MethodName) (head1 (Jvm.Cond.code (⟨"com/example/fyfo/fyfo/BigEndian", "put", "([BIJI)I"⟩ : MethodName) prog_1_method_2_code 6 (some .int) :: ws) ({ frames := 0, cells := 0, slots := 0, locals := 0 } : Room)) (fun a U => a = #[(.ref a0x), (.int p1), (.long q1), (.int p2)] ∧ Z.Warmed39 U.vm ∧ U.heap = h0) (fun _ _ _ _ _ => True) (fun _ U o U' => ∃ v L, o = .returned v ∧ Q_rm_put Z a0x p1 q1 p2 tab h0 n0 v U'.heap L ∧ FrameEnd U o U' L ({ frames := 0, cells := 0, slots := 0, locals := 0 } : Room).cells ({ frames := 0, cells := 0, slots := 0, locals := 0 } : Room).slots) := by
  refine MetFree.of_bodySF (plainFor_of_name pn_0) hisR ?_
  intro p e s m args below meth c s₁ Bd hml0 hP hK
  obtain ⟨rfl, hZ, hh⟩ := hP
  have hx := Bd.exec
  have hby := Bd.bytes
  have hml : c.maxLocals = 6 := hml0
  have hown : s.vm.findClass "com/example/fyfo/fyfo/BigEndian" = some m.cls := findClass_of_methodNamed Bd.named
  have hnm := (name_of_methodNamed Bd.named Bd.method).1
  have X0 : Stand p l e ({ frames := 0, cells := 0, slots := 0, locals := 0 } : Room) s m #[(.ref a0x), (.int p1), (.long q1), (.int p2)] below meth c s₁ [] 0 0 := Stand.of_body Bd
  have e0 : s₁.heap = h0 := by rw [← hh, Bd.state]; rfl
  have N0 := Fr.nil n0
  have K0 : Keep h0 h0 [a0x] := Keep.refl h0 [a0x]
  have pre0 : ∀ t, Steps p.tables e below (s₁.setTop (mkF m 0 #[.val (.ref a0x), .val (.int p1), .val (.long q1), .second, .val (.int p2), .unset] [])) t → Steps p.tables e below (s₁.setTop (entryFrame m #[(.ref a0x), (.int p1), (.long q1), (.int p2)] 6)) t := fun t k => castTop (ef_1 m a0x p1 q1 p2) k
  obtain ⟨cl1, Ar1, S1, N1', H1⟩ := (id V0x)
  have hin1 : ¬ ((p1 + (0 : Int32)) < 0 ∨ cl1.slots.size ≤ ((p1 + (0 : Int32))).toNatClampNeg) := inb_of S1 (own_bd (w := (8 : Int32)) hat ⟨by decide, by decide⟩)
  obtain ⟨T2, h2, X2, e2, W2, st2⟩ := stB X0 hx hZ e0 Ar1 (j := (p1 + (0 : Int32))) hin1 (g := (mkF m 29 #[.val (.ref a0x), .val (.int p1), .val (.long q1), .second, .val (.int (8 : Int32)), .val (.int (0 : Int32))] [(.int ((q1.toUInt64 >>> ((56 : Int32) &&& 0x3f).toInt64.toUInt64).toInt64).toInt32.toInt8.toInt32), (.int (p1 + (0 : Int32))), (.ref a0x)])) rfl rfl (hb hby d1_29)
  have V2 : own_Tab Z h2 a0x .byte (12 : Int32) (fun j => .int ((fun i => if i = (p1 + (0 : Int32)) then ((q1.toUInt64 >>> ((56 : Int32) &&& 0x3f).toInt64.toUInt64).toInt64).toInt32.toInt8.toInt32.toInt8.toInt32 else tab i) j)) := (own_Tab.set Ar1 S1 N1' H1 hin1 W2).cong (fun j _ _ => by dsimp only; split <;> rfl)
  have N2 := Fr.snoc X2 N0 g0x
  have Z2 : n0 ≤ h2.size := Nat.le_trans Z0 (Keep.of_wr W2).1
  have K2 : Keep h0 h2 [a0x] := K0.wr W2 (Or.inl (List.mem_of_getElem? (i := 0) rfl))
  obtain ⟨cl3, Ar3, S3, N3', H3⟩ := (id V2)
  have hin3 : ¬ ((p1 + (1 : Int32)) < 0 ∨ cl3.slots.size ≤ ((p1 + (1 : Int32))).toNatClampNeg) := inb_of S3 (own_bd (w := (8 : Int32)) hat ⟨by decide, by decide⟩)
  obtain ⟨T4, h4, X4, e4, W4, st4⟩ := stB X2 hx hZ e2 Ar3 (j := (p1 + (1 : Int32))) hin3 (g := (mkF m 29 #[.val (.ref a0x), .val (.int p1), .val (.long q1), .second, .val (.int (8 : Int32)), .val (.int (1 : Int32))] [(.int ((q1.toUInt64 >>> ((48 : Int32) &&& 0x3f).toInt64.toUInt64).toInt64).toInt32.toInt8.toInt32), (.int (p1 + (1 : Int32))), (.ref a0x)])) rfl rfl (hb hby d1_29)
  have V4 : own_Tab Z h4 a0x .byte (12 : Int32) (fun j => .int ((fun i => if i = (p1 + (1 : Int32)) then ((q1.toUInt64 >>> ((48 : Int32) &&& 0x3f).toInt64.toUInt64).toInt64).toInt32.toInt8.toInt32.toInt8.toInt32 else (fun i => if i = (p1 + (0 : Int32)) then ((q1.toUInt64 >>> ((56 : Int32) &&& 0x3f).toInt64.toUInt64).toInt64).toInt32.toInt8.toInt32.toInt8.toInt32 else tab i) i) j)) := (own_Tab.set Ar3 S3 N3' H3 hin3 W4).cong (fun j _ _ => by dsimp only; split <;> rfl)
  have N4 := Fr.snoc X4 N2 g0x
  have Z4 : n0 ≤ h4.size := Nat.le_trans Z2 (Keep.of_wr W4).1
  have K4 : Keep h0 h4 [a0x] := K2.wr W4 (Or.inl (List.mem_of_getElem? (i := 0) rfl))
  obtain ⟨cl5, Ar5, S5, N5', H5⟩ := (id V4)
  have hin5 : ¬ ((p1 + (2 : Int32)) < 0 ∨ cl5.slots.size ≤ ((p1 + (2 : Int32))).toNatClampNeg) := inb_of S5 (own_bd (w := (8 : Int32)) hat ⟨by decide, by decide⟩)
  obtain ⟨T6, h6, X6, e6, W6, st6⟩ := stB X4 hx hZ e4 Ar5 (j := (p1 + (2 : Int32))) hin5 (g := (mkF m 29 #[.val (.ref a0x), .val (.int p1), .val (.long q1), .second, .val (.int (8 : Int32)), .val (.int (2 : Int32))] [(.int ((q1.toUInt64 >>> ((40 : Int32) &&& 0x3f).toInt64.toUInt64).toInt64).toInt32.toInt8.toInt32), (.int (p1 + (2 : Int32))), (.ref a0x)])) rfl rfl (hb hby d1_29)
  have V6 : own_Tab Z h6 a0x .byte (12 : Int32) (fun j => .int ((fun i => if i = (p1 + (2 : Int32)) then ((q1.toUInt64 >>> ((40 : Int32) &&& 0x3f).toInt64.toUInt64).toInt64).toInt32.toInt8.toInt32.toInt8.toInt32 else (fun i => if i = (p1 + (1 : Int32)) then ((q1.toUInt64 >>> ((48 : Int32) &&& 0x3f).toInt64.toUInt64).toInt64).toInt32.toInt8.toInt32.toInt8.toInt32 else (fun i => if i = (p1 + (0 : Int32)) then ((q1.toUInt64 >>> ((56 : Int32) &&& 0x3f).toInt64.toUInt64).toInt64).toInt32.toInt8.toInt32.toInt8.toInt32 else tab i) i) i) j)) := (own_Tab.set Ar5 S5 N5' H5 hin5 W6).cong (fun j _ _ => by dsimp only; split <;> rfl)
  have N6 := Fr.snoc X6 N4 g0x
  have Z6 : n0 ≤ h6.size := Nat.le_trans Z4 (Keep.of_wr W6).1
  have K6 : Keep h0 h6 [a0x] := K4.wr W6 (Or.inl (List.mem_of_getElem? (i := 0) rfl))
  obtain ⟨cl7, Ar7, S7, N7', H7⟩ := (id V6)
  have hin7 : ¬ ((p1 + (3 : Int32)) < 0 ∨ cl7.slots.size ≤ ((p1 + (3 : Int32))).toNatClampNeg) := inb_of S7 (own_bd (w := (8 : Int32)) hat ⟨by decide, by decide⟩)
  obtain ⟨T8, h8, X8, e8, W8, st8⟩ := stB X6 hx hZ e6 Ar7 (j := (p1 + (3 : Int32))) hin7 (g := (mkF m 29 #[.val (.ref a0x), .val (.int p1), .val (.long q1), .second, .val (.int (8 : Int32)), .val (.int (3 : Int32))] [(.int ((q1.toUInt64 >>> ((32 : Int32) &&& 0x3f).toInt64.toUInt64).toInt64).toInt32.toInt8.toInt32), (.int (p1 + (3 : Int32))), (.ref a0x)])) rfl rfl (hb hby d1_29)
  have V8 : own_Tab Z h8 a0x .byte (12 : Int32) (fun j => .int ((fun i => if i = (p1 + (3 : Int32)) then ((q1.toUInt64 >>> ((32 : Int32) &&& 0x3f).toInt64.toUInt64).toInt64).toInt32.toInt8.toInt32.toInt8.toInt32 else (fun i => if i = (p1 + (2 : Int32)) then ((q1.toUInt64 >>> ((40 : Int32) &&& 0x3f).toInt64.toUInt64).toInt64).toInt32.toInt8.toInt32.toInt8.toInt32 else (fun i => if i = (p1 + (1 : Int32)) then ((q1.toUInt64 >>> ((48 : Int32) &&& 0x3f).toInt64.toUInt64).toInt64).toInt32.toInt8.toInt32.toInt8.toInt32 else (fun i => if i = (p1 + (0 : Int32)) then ((q1.toUInt64 >>> ((56 : Int32) &&& 0x3f).toInt64.toUInt64).toInt64).toInt32.toInt8.toInt32.toInt8.toInt32 else tab i) i) i) i) j)) := (own_Tab.set Ar7 S7 N7' H7 hin7 W8).cong (fun j _ _ => by dsimp only; split <;> rfl)
  have N8 := Fr.snoc X8 N6 g0x
  have Z8 : n0 ≤ h8.size := Nat.le_trans Z6 (Keep.of_wr W8).1
  have K8 : Keep h0 h8 [a0x] := K6.wr W8 (Or.inl (List.mem_of_getElem? (i := 0) rfl))
  obtain ⟨cl9, Ar9, S9, N9', H9⟩ := (id V8)
  have hin9 : ¬ ((p1 + (4 : Int32)) < 0 ∨ cl9.slots.size ≤ ((p1 + (4 : Int32))).toNatClampNeg) := inb_of S9 (own_bd (w := (8 : Int32)) hat ⟨by decide, by decide⟩)
  obtain ⟨T10, h10, X10, e10, W10, st10⟩ := stB X8 hx hZ e8 Ar9 (j := (p1 + (4 : Int32))) hin9 (g := (mkF m 29 #[.val (.ref a0x), .val (.int p1), .val (.long q1), .second, .val (.int (8 : Int32)), .val (.int (4 : Int32))] [(.int ((q1.toUInt64 >>> ((24 : Int32) &&& 0x3f).toInt64.toUInt64).toInt64).toInt32.toInt8.toInt32), (.int (p1 + (4 : Int32))), (.ref a0x)])) rfl rfl (hb hby d1_29)
  have V10 : own_Tab Z h10 a0x .byte (12 : Int32) (fun j => .int ((fun i => if i = (p1 + (4 : Int32)) then ((q1.toUInt64 >>> ((24 : Int32) &&& 0x3f).toInt64.toUInt64).toInt64).toInt32.toInt8.toInt32.toInt8.toInt32 else (fun i => if i = (p1 + (3 : Int32)) then ((q1.toUInt64 >>> ((32 : Int32) &&& 0x3f).toInt64.toUInt64).toInt64).toInt32.toInt8.toInt32.toInt8.toInt32 else (fun i => if i = (p1 + (2 : Int32)) then ((q1.toUInt64 >>> ((40 : Int32) &&& 0x3f).toInt64.toUInt64).toInt64).toInt32.toInt8.toInt32.toInt8.toInt32 else (fun i => if i = (p1 + (1 : Int32)) then ((q1.toUInt64 >>> ((48 : Int32) &&& 0x3f).toInt64.toUInt64).toInt64).toInt32.toInt8.toInt32.toInt8.toInt32 else (fun i => if i = (p1 + (0 : Int32)) then ((q1.toUInt64 >>> ((56 : Int32) &&& 0x3f).toInt64.toUInt64).toInt64).toInt32.toInt8.toInt32.toInt8.toInt32 else tab i) i) i) i) i) j)) := (own_Tab.set Ar9 S9 N9' H9 hin9 W10).cong (fun j _ _ => by dsimp only; split <;> rfl)
  have N10 := Fr.snoc X10 N8 g0x
  have Z10 : n0 ≤ h10.size := Nat.le_trans Z8 (Keep.of_wr W10).1
  have K10 : Keep h0 h10 [a0x] := K8.wr W10 (Or.inl (List.mem_of_getElem? (i := 0) rfl))
  obtain ⟨cl11, Ar11, S11, N11', H11⟩ := (id V10)
  have hin11 : ¬ ((p1 + (5 : Int32)) < 0 ∨ cl11.slots.size ≤ ((p1 + (5 : Int32))).toNatClampNeg) := inb_of S11 (own_bd (w := (8 : Int32)) hat ⟨by decide, by decide⟩)
  obtain ⟨T12, h12, X12, e12, W12, st12⟩ := stB X10 hx hZ e10 Ar11 (j := (p1 + (5 : Int32))) hin11 (g := (mkF m 29 #[.val (.ref a0x), .val (.int p1), .val (.long q1), .second, .val (.int (8 : Int32)), .val (.int (5 : Int32))] [(.int ((q1.toUInt64 >>> ((16 : Int32) &&& 0x3f).toInt64.toUInt64).toInt64).toInt32.toInt8.toInt32), (.int (p1 + (5 : Int32))), (.ref a0x)])) rfl rfl (hb hby d1_29)
  have V12 : own_Tab Z h12 a0x .byte (12 : Int32) (fun j => .int ((fun i => if i = (p1 + (5 : Int32)) then ((q1.toUInt64 >>> ((16 : Int32) &&& 0x3f).toInt64.toUInt64).toInt64).toInt32.toInt8.toInt32.toInt8.toInt32 else (fun i => if i = (p1 + (4 : Int32)) then ((q1.toUInt64 >>> ((24 : Int32) &&& 0x3f).toInt64.toUInt64).toInt64).toInt32.toInt8.toInt32.toInt8.toInt32 else (fun i => if i = (p1 + (3 : Int32)) then ((q1.toUInt64 >>> ((32 : Int32) &&& 0x3f).toInt64.toUInt64).toInt64).toInt32.toInt8.toInt32.toInt8.toInt32 else (fun i => if i = (p1 + (2 : Int32)) then ((q1.toUInt64 >>> ((40 : Int32) &&& 0x3f).toInt64.toUInt64).toInt64).toInt32.toInt8.toInt32.toInt8.toInt32 else (fun i => if i = (p1 + (1 : Int32)) then ((q1.toUInt64 >>> ((48 : Int32) &&& 0x3f).toInt64.toUInt64).toInt64).toInt32.toInt8.toInt32.toInt8.toInt32 else (fun i => if i = (p1 + (0 : Int32)) then ((q1.toUInt64 >>> ((56 : Int32) &&& 0x3f).toInt64.toUInt64).toInt64).toInt32.toInt8.toInt32.toInt8.toInt32 else tab i) i) i) i) i) i) j)) := (own_Tab.set Ar11 S11 N11' H11 hin11 W12).cong (fun j _ _ => by dsimp only; split <;> rfl)
  have N12 := Fr.snoc X12 N10 g0x
  have Z12 : n0 ≤ h12.size := Nat.le_trans Z10 (Keep.of_wr W12).1
  have K12 : Keep h0 h12 [a0x] := K10.wr W12 (Or.inl (List.mem_of_getElem? (i := 0) rfl))
  obtain ⟨cl13, Ar13, S13, N13', H13⟩ := (id V12)
  have hin13 : ¬ ((p1 + (6 : Int32)) < 0 ∨ cl13.slots.size ≤ ((p1 + (6 : Int32))).toNatClampNeg) := inb_of S13 (own_bd (w := (8 : Int32)) hat ⟨by decide, by decide⟩)
  obtain ⟨T14, h14, X14, e14, W14, st14⟩ := stB X12 hx hZ e12 Ar13 (j := (p1 + (6 : Int32))) hin13 (g := (mkF m 29 #[.val (.ref a0x), .val (.int p1), .val (.long q1), .second, .val (.int (8 : Int32)), .val (.int (6 : Int32))] [(.int ((q1.toUInt64 >>> ((8 : Int32) &&& 0x3f).toInt64.toUInt64).toInt64).toInt32.toInt8.toInt32), (.int (p1 + (6 : Int32))), (.ref a0x)])) rfl rfl (hb hby d1_29)
  have V14 : own_Tab Z h14 a0x .byte (12 : Int32) (fun j => .int ((fun i => if i = (p1 + (6 : Int32)) then ((q1.toUInt64 >>> ((8 : Int32) &&& 0x3f).toInt64.toUInt64).toInt64).toInt32.toInt8.toInt32.toInt8.toInt32 else (fun i => if i = (p1 + (5 : Int32)) then ((q1.toUInt64 >>> ((16 : Int32) &&& 0x3f).toInt64.toUInt64).toInt64).toInt32.toInt8.toInt32.toInt8.toInt32 else (fun i => if i = (p1 + (4 : Int32)) then ((q1.toUInt64 >>> ((24 : Int32) &&& 0x3f).toInt64.toUInt64).toInt64).toInt32.toInt8.toInt32.toInt8.toInt32 else (fun i => if i = (p1 + (3 : Int32)) then ((q1.toUInt64 >>> ((32 : Int32) &&& 0x3f).toInt64.toUInt64).toInt64).toInt32.toInt8.toInt32.toInt8.toInt32 else (fun i => if i = (p1 + (2 : Int32)) then ((q1.toUInt64 >>> ((40 : Int32) &&& 0x3f).toInt64.toUInt64).toInt64).toInt32.toInt8.toInt32.toInt8.toInt32 else (fun i => if i = (p1 + (1 : Int32)) then ((q1.toUInt64 >>> ((48 : Int32) &&& 0x3f).toInt64.toUInt64).toInt64).toInt32.toInt8.toInt32.toInt8.toInt32 else (fun i => if i = (p1 + (0 : Int32)) then ((q1.toUInt64 >>> ((56 : Int32) &&& 0x3f).toInt64.toUInt64).toInt64).toInt32.toInt8.toInt32.toInt8.toInt32 else tab i) i) i) i) i) i) i) j)) := (own_Tab.set Ar13 S13 N13' H13 hin13 W14).cong (fun j _ _ => by dsimp only; split <;> rfl)
  have N14 := Fr.snoc X14 N12 g0x
  have Z14 : n0 ≤ h14.size := Nat.le_trans Z12 (Keep.of_wr W14).1
  have K14 : Keep h0 h14 [a0x] := K12.wr W14 (Or.inl (List.mem_of_getElem? (i := 0) rfl))
  obtain ⟨cl15, Ar15, S15, N15', H15⟩ := (id V14)
  have hin15 : ¬ ((p1 + (7 : Int32)) < 0 ∨ cl15.slots.size ≤ ((p1 + (7 : Int32))).toNatClampNeg) := inb_of S15 (own_bd (w := (8 : Int32)) hat ⟨by decide, by decide⟩)
  obtain ⟨T16, h16, X16, e16, W16, st16⟩ := stB X14 hx hZ e14 Ar15 (j := (p1 + (7 : Int32))) hin15 (g := (mkF m 29 #[.val (.ref a0x), .val (.int p1), .val (.long q1), .second, .val (.int (8 : Int32)), .val (.int (7 : Int32))] [(.int ((q1.toUInt64 >>> ((0 : Int32) &&& 0x3f).toInt64.toUInt64).toInt64).toInt32.toInt8.toInt32), (.int (p1 + (7 : Int32))), (.ref a0x)])) rfl rfl (hb hby d1_29)
  have V16 : own_Tab Z h16 a0x .byte (12 : Int32) (fun j => .int ((fun i => if i = (p1 + (7 : Int32)) then ((q1.toUInt64 >>> ((0 : Int32) &&& 0x3f).toInt64.toUInt64).toInt64).toInt32.toInt8.toInt32.toInt8.toInt32 else (fun i => if i = (p1 + (6 : Int32)) then ((q1.toUInt64 >>> ((8 : Int32) &&& 0x3f).toInt64.toUInt64).toInt64).toInt32.toInt8.toInt32.toInt8.toInt32 else (fun i => if i = (p1 + (5 : Int32)) then ((q1.toUInt64 >>> ((16 : Int32) &&& 0x3f).toInt64.toUInt64).toInt64).toInt32.toInt8.toInt32.toInt8.toInt32 else (fun i => if i = (p1 + (4 : Int32)) then ((q1.toUInt64 >>> ((24 : Int32) &&& 0x3f).toInt64.toUInt64).toInt64).toInt32.toInt8.toInt32.toInt8.toInt32 else (fun i => if i = (p1 + (3 : Int32)) then ((q1.toUInt64 >>> ((32 : Int32) &&& 0x3f).toInt64.toUInt64).toInt64).toInt32.toInt8.toInt32.toInt8.toInt32 else (fun i => if i = (p1 + (2 : Int32)) then ((q1.toUInt64 >>> ((40 : Int32) &&& 0x3f).toInt64.toUInt64).toInt64).toInt32.toInt8.toInt32.toInt8.toInt32 else (fun i => if i = (p1 + (1 : Int32)) then ((q1.toUInt64 >>> ((48 : Int32) &&& 0x3f).toInt64.toUInt64).toInt64).toInt32.toInt8.toInt32.toInt8.toInt32 else (fun i => if i = (p1 + (0 : Int32)) then ((q1.toUInt64 >>> ((56 : Int32) &&& 0x3f).toInt64.toUInt64).toInt64).toInt32.toInt8.toInt32.toInt8.toInt32 else tab i) i) i) i) i) i) i) i) j)) := (own_Tab.set Ar15 S15 N15' H15 hin15 W16).cong (fun j _ _ => by dsimp only; split <;> rfl)
  have N16 := Fr.snoc X16 N14 g0x
  have Z16 : n0 ≤ h16.size := Nat.le_trans Z14 (Keep.of_wr W16).1
  have K16 : Keep h0 h16 [a0x] := K14.wr W16 (Or.inl (List.mem_of_getElem? (i := 0) rfl))
  obtain ⟨fs, hr, hrun, hended, hW, hsame⟩ := X16.leave (v := some (.int (p1 + (8 : Int32)))) (fun h => by rw [Bd.returns] at h; cases h)
  refine ⟨_, _, pre0 _ ?_, hrun, hended, _, _, rfl, ?_, ⟨_, rfl⟩, hW, hsame.mono (by decide) (by decide)⟩
  · show Steps p.tables e below (s₁.setTop (mkF m 0 #[.val (.ref a0x), .val (.int p1), .val (.long q1), .second, .val (.int p2), .unset] [])) _
    rw [hk]
    show Steps p.tables e below (s₁.setTop (mkF m 0 #[.val (.ref a0x), .val (.int p1), .val (.long q1), .second, .val (.int (8 : Int32)), .unset] [])) _
    refine XS.iconst X0.here hx rfl (hb hby d1_0) ?_
    show Steps p.tables e below (s₁.setTop (mkF m 1 #[.val (.ref a0x), .val (.int p1), .val (.long q1), .second, .val (.int (8 : Int32)), .unset] [(.int (0 : Int32))])) _
    refine XS.istore X0.here hx rfl (hb hby d1_1) rfl (l' := #[.val (.ref a0x), .val (.int p1), .val (.long q1), .second, .val (.int (8 : Int32)), .val (.int (0 : Int32))]) rfl ?_
    show Steps p.tables e below (s₁.setTop (mkF m 3 #[.val (.ref a0x), .val (.int p1), .val (.long q1), .second, .val (.int (8 : Int32)), .val (.int (0 : Int32))] [])) _
    refine XS.iload X0.here hx rfl (hb hby d1_3) rfl ?_
    show Steps p.tables e below (s₁.setTop (mkF m 5 #[.val (.ref a0x), .val (.int p1), .val (.long q1), .second, .val (.int (8 : Int32)), .val (.int (0 : Int32))] [(.int (0 : Int32))])) _
    refine XS.iload X0.here hx rfl (hb hby d1_5) rfl ?_
    show Steps p.tables e below (s₁.setTop (mkF m 7 #[.val (.ref a0x), .val (.int p1), .val (.long q1), .second, .val (.int (8 : Int32)), .val (.int (0 : Int32))] [(.int (8 : Int32)), (.int (0 : Int32))])) _
    refine XS.icmpNo X0.here hx rfl (hb hby d1_7) rfl (tlt (by decide : (0 : Int32) < (8 : Int32))).2.1 ?_
    show Steps p.tables e below (s₁.setTop (mkF m 10 #[.val (.ref a0x), .val (.int p1), .val (.long q1), .second, .val (.int (8 : Int32)), .val (.int (0 : Int32))] [])) _
    refine XS.aloadN X0.here hx rfl (hb hby d1_10) rfl rfl ?_
    show Steps p.tables e below (s₁.setTop (mkF m 11 #[.val (.ref a0x), .val (.int p1), .val (.long q1), .second, .val (.int (8 : Int32)), .val (.int (0 : Int32))] [(.ref a0x)])) _
    refine XS.iloadN X0.here hx rfl (hb hby d1_11) rfl ?_
    show Steps p.tables e below (s₁.setTop (mkF m 12 #[.val (.ref a0x), .val (.int p1), .val (.long q1), .second, .val (.int (8 : Int32)), .val (.int (0 : Int32))] [(.int p1), (.ref a0x)])) _
    refine XS.iload X0.here hx rfl (hb hby d1_12) rfl ?_
    show Steps p.tables e below (s₁.setTop (mkF m 14 #[.val (.ref a0x), .val (.int p1), .val (.long q1), .second, .val (.int (8 : Int32)), .val (.int (0 : Int32))] [(.int (0 : Int32)), (.int p1), (.ref a0x)])) _
    refine XS.iadd X0.here hx rfl (hb hby d1_14) rfl ?_
    show Steps p.tables e below (s₁.setTop (mkF m 15 #[.val (.ref a0x), .val (.int p1), .val (.long q1), .second, .val (.int (8 : Int32)), .val (.int (0 : Int32))] [(.int (p1 + (0 : Int32))), (.ref a0x)])) _
    refine XS.lloadN X0.here hx rfl (hb hby d1_15) rfl ?_
    show Steps p.tables e below (s₁.setTop (mkF m 16 #[.val (.ref a0x), .val (.int p1), .val (.long q1), .second, .val (.int (8 : Int32)), .val (.int (0 : Int32))] [(.long q1), (.int (p1 + (0 : Int32))), (.ref a0x)])) _
    refine XS.bipush X0.here hx rfl (hb hby d1_16) ?_
    show Steps p.tables e below (s₁.setTop (mkF m 18 #[.val (.ref a0x), .val (.int p1), .val (.long q1), .second, .val (.int (8 : Int32)), .val (.int (0 : Int32))] [(.int (8 : Int32)), (.long q1), (.int (p1 + (0 : Int32))), (.ref a0x)])) _
    refine XS.iload X0.here hx rfl (hb hby d1_18) rfl ?_
    show Steps p.tables e below (s₁.setTop (mkF m 20 #[.val (.ref a0x), .val (.int p1), .val (.long q1), .second, .val (.int (8 : Int32)), .val (.int (0 : Int32))] [(.int (8 : Int32)), (.int (8 : Int32)), (.long q1), (.int (p1 + (0 : Int32))), (.ref a0x)])) _
    refine XS.iconst X0.here hx rfl (hb hby d1_20) ?_
    show Steps p.tables e below (s₁.setTop (mkF m 21 #[.val (.ref a0x), .val (.int p1), .val (.long q1), .second, .val (.int (8 : Int32)), .val (.int (0 : Int32))] [(.int (1 : Int32)), (.int (8 : Int32)), (.int (8 : Int32)), (.long q1), (.int (p1 + (0 : Int32))), (.ref a0x)])) _
    refine XS.isub X0.here hx rfl (hb hby d1_21) rfl ?_
    show Steps p.tables e below (s₁.setTop (mkF m 22 #[.val (.ref a0x), .val (.int p1), .val (.long q1), .second, .val (.int (8 : Int32)), .val (.int (0 : Int32))] [(.int (7 : Int32)), (.int (8 : Int32)), (.long q1), (.int (p1 + (0 : Int32))), (.ref a0x)])) _
    refine XS.iload X0.here hx rfl (hb hby d1_22) rfl ?_
    show Steps p.tables e below (s₁.setTop (mkF m 24 #[.val (.ref a0x), .val (.int p1), .val (.long q1), .second, .val (.int (8 : Int32)), .val (.int (0 : Int32))] [(.int (0 : Int32)), (.int (7 : Int32)), (.int (8 : Int32)), (.long q1), (.int (p1 + (0 : Int32))), (.ref a0x)])) _
    refine XS.isub X0.here hx rfl (hb hby d1_24) rfl ?_
    show Steps p.tables e below (s₁.setTop (mkF m 25 #[.val (.ref a0x), .val (.int p1), .val (.long q1), .second, .val (.int (8 : Int32)), .val (.int (0 : Int32))] [(.int (7 : Int32)), (.int (8 : Int32)), (.long q1), (.int (p1 + (0 : Int32))), (.ref a0x)])) _
    refine XS.imul X0.here hx rfl (hb hby d1_25) rfl ?_
    show Steps p.tables e below (s₁.setTop (mkF m 26 #[.val (.ref a0x), .val (.int p1), .val (.long q1), .second, .val (.int (8 : Int32)), .val (.int (0 : Int32))] [(.int (56 : Int32)), (.long q1), (.int (p1 + (0 : Int32))), (.ref a0x)])) _
    refine XS.lushr X0.here hx rfl (hb hby d1_26) rfl ?_
    show Steps p.tables e below (s₁.setTop (mkF m 27 #[.val (.ref a0x), .val (.int p1), .val (.long q1), .second, .val (.int (8 : Int32)), .val (.int (0 : Int32))] [(.long ((q1.toUInt64 >>> ((56 : Int32) &&& 0x3f).toInt64.toUInt64).toInt64)), (.int (p1 + (0 : Int32))), (.ref a0x)])) _
    refine XS.l2i X0.here hx rfl (hb hby d1_27) rfl ?_
    show Steps p.tables e below (s₁.setTop (mkF m 28 #[.val (.ref a0x), .val (.int p1), .val (.long q1), .second, .val (.int (8 : Int32)), .val (.int (0 : Int32))] [(.int ((q1.toUInt64 >>> ((56 : Int32) &&& 0x3f).toInt64.toUInt64).toInt64).toInt32), (.int (p1 + (0 : Int32))), (.ref a0x)])) _
    refine XS.i2b X0.here hx rfl (hb hby d1_28) rfl ?_
    show Steps p.tables e below (s₁.setTop (mkF m 29 #[.val (.ref a0x), .val (.int p1), .val (.long q1), .second, .val (.int (8 : Int32)), .val (.int (0 : Int32))] [(.int ((q1.toUInt64 >>> ((56 : Int32) &&& 0x3f).toInt64.toUInt64).toInt64).toInt32.toInt8.toInt32), (.int (p1 + (0 : Int32))), (.ref a0x)])) _
    refine st2 _ ?_
    show Steps p.tables e below (T2.setTop (mkF m 30 #[.val (.ref a0x), .val (.int p1), .val (.long q1), .second, .val (.int (8 : Int32)), .val (.int (0 : Int32))] [])) _
    refine XS.iinc X2.here hx rfl (hb hby d1_30) rfl (l' := #[.val (.ref a0x), .val (.int p1), .val (.long q1), .second, .val (.int (8 : Int32)), .val (.int (1 : Int32))]) rfl ?_
    show Steps p.tables e below (T2.setTop (mkF m 33 #[.val (.ref a0x), .val (.int p1), .val (.long q1), .second, .val (.int (8 : Int32)), .val (.int (1 : Int32))] [])) _
    refine XS.goto X2.here hx rfl (pc0 := 33) (pc' := 3) rfl (hb hby d1_33) (by decide) (by decide) ?_
    show Steps p.tables e below (T2.setTop (mkF m 3 #[.val (.ref a0x), .val (.int p1), .val (.long q1), .second, .val (.int (8 : Int32)), .val (.int (1 : Int32))] [])) _
    refine XS.iload X2.here hx rfl (hb hby d1_3) rfl ?_
    show Steps p.tables e below (T2.setTop (mkF m 5 #[.val (.ref a0x), .val (.int p1), .val (.long q1), .second, .val (.int (8 : Int32)), .val (.int (1 : Int32))] [(.int (1 : Int32))])) _
    refine XS.iload X2.here hx rfl (hb hby d1_5) rfl ?_
    show Steps p.tables e below (T2.setTop (mkF m 7 #[.val (.ref a0x), .val (.int p1), .val (.long q1), .second, .val (.int (8 : Int32)), .val (.int (1 : Int32))] [(.int (8 : Int32)), (.int (1 : Int32))])) _
    refine XS.icmpNo X2.here hx rfl (hb hby d1_7) rfl (tlt (by decide : (1 : Int32) < (8 : Int32))).2.1 ?_
    show Steps p.tables e below (T2.setTop (mkF m 10 #[.val (.ref a0x), .val (.int p1), .val (.long q1), .second, .val (.int (8 : Int32)), .val (.int (1 : Int32))] [])) _
    refine XS.aloadN X2.here hx rfl (hb hby d1_10) rfl rfl ?_
    show Steps p.tables e below (T2.setTop (mkF m 11 #[.val (.ref a0x), .val (.int p1), .val (.long q1), .second, .val (.int (8 : Int32)), .val (.int (1 : Int32))] [(.ref a0x)])) _
    refine XS.iloadN X2.here hx rfl (hb hby d1_11) rfl ?_
    show Steps p.tables e below (T2.setTop (mkF m 12 #[.val (.ref a0x), .val (.int p1), .val (.long q1), .second, .val (.int (8 : Int32)), .val (.int (1 : Int32))] [(.int p1), (.ref a0x)])) _
    refine XS.iload X2.here hx rfl (hb hby d1_12) rfl ?_
    show Steps p.tables e below (T2.setTop (mkF m 14 #[.val (.ref a0x), .val (.int p1), .val (.long q1), .second, .val (.int (8 : Int32)), .val (.int (1 : Int32))] [(.int (1 : Int32)), (.int p1), (.ref a0x)])) _
    refine XS.iadd X2.here hx rfl (hb hby d1_14) rfl ?_
    show Steps p.tables e below (T2.setTop (mkF m 15 #[.val (.ref a0x), .val (.int p1), .val (.long q1), .second, .val (.int (8 : Int32)), .val (.int (1 : Int32))] [(.int (p1 + (1 : Int32))), (.ref a0x)])) _
    refine XS.lloadN X2.here hx rfl (hb hby d1_15) rfl ?_
    show Steps p.tables e below (T2.setTop (mkF m 16 #[.val (.ref a0x), .val (.int p1), .val (.long q1), .second, .val (.int (8 : Int32)), .val (.int (1 : Int32))] [(.long q1), (.int (p1 + (1 : Int32))), (.ref a0x)])) _
    refine XS.bipush X2.here hx rfl (hb hby d1_16) ?_
    show Steps p.tables e below (T2.setTop (mkF m 18 #[.val (.ref a0x), .val (.int p1), .val (.long q1), .second, .val (.int (8 : Int32)), .val (.int (1 : Int32))] [(.int (8 : Int32)), (.long q1), (.int (p1 + (1 : Int32))), (.ref a0x)])) _
    refine XS.iload X2.here hx rfl (hb hby d1_18) rfl ?_
    show Steps p.tables e below (T2.setTop (mkF m 20 #[.val (.ref a0x), .val (.int p1), .val (.long q1), .second, .val (.int (8 : Int32)), .val (.int (1 : Int32))] [(.int (8 : Int32)), (.int (8 : Int32)), (.long q1), (.int (p1 + (1 : Int32))), (.ref a0x)])) _
    refine XS.iconst X2.here hx rfl (hb hby d1_20) ?_
    show Steps p.tables e below (T2.setTop (mkF m 21 #[.val (.ref a0x), .val (.int p1), .val (.long q1), .second, .val (.int (8 : Int32)), .val (.int (1 : Int32))] [(.int (1 : Int32)), (.int (8 : Int32)), (.int (8 : Int32)), (.long q1), (.int (p1 + (1 : Int32))), (.ref a0x)])) _
    refine XS.isub X2.here hx rfl (hb hby d1_21) rfl ?_
    show Steps p.tables e below (T2.setTop (mkF m 22 #[.val (.ref a0x), .val (.int p1), .val (.long q1), .second, .val (.int (8 : Int32)), .val (.int (1 : Int32))] [(.int (7 : Int32)), (.int (8 : Int32)), (.long q1), (.int (p1 + (1 : Int32))), (.ref a0x)])) _
    refine XS.iload X2.here hx rfl (hb hby d1_22) rfl ?_
    show Steps p.tables e below (T2.setTop (mkF m 24 #[.val (.ref a0x), .val (.int p1), .val (.long q1), .second, .val (.int (8 : Int32)), .val (.int (1 : Int32))] [(.int (1 : Int32)), (.int (7 : Int32)), (.int (8 : Int32)), (.long q1), (.int (p1 + (1 : Int32))), (.ref a0x)])) _
    refine XS.isub X2.here hx rfl (hb hby d1_24) rfl ?_
    show Steps p.tables e below (T2.setTop (mkF m 25 #[.val (.ref a0x), .val (.int p1), .val (.long q1), .second, .val (.int (8 : Int32)), .val (.int (1 : Int32))] [(.int (6 : Int32)), (.int (8 : Int32)), (.long q1), (.int (p1 + (1 : Int32))), (.ref a0x)])) _
    refine XS.imul X2.here hx rfl (hb hby d1_25) rfl ?_
    show Steps p.tables e below (T2.setTop (mkF m 26 #[.val (.ref a0x), .val (.int p1), .val (.long q1), .second, .val (.int (8 : Int32)), .val (.int (1 : Int32))] [(.int (48 : Int32)), (.long q1), (.int (p1 + (1 : Int32))), (.ref a0x)])) _
    refine XS.lushr X2.here hx rfl (hb hby d1_26) rfl ?_
    show Steps p.tables e below (T2.setTop (mkF m 27 #[.val (.ref a0x), .val (.int p1), .val (.long q1), .second, .val (.int (8 : Int32)), .val (.int (1 : Int32))] [(.long ((q1.toUInt64 >>> ((48 : Int32) &&& 0x3f).toInt64.toUInt64).toInt64)), (.int (p1 + (1 : Int32))), (.ref a0x)])) _
    refine XS.l2i X2.here hx rfl (hb hby d1_27) rfl ?_
    show Steps p.tables e below (T2.setTop (mkF m 28 #[.val (.ref a0x), .val (.int p1), .val (.long q1), .second, .val (.int (8 : Int32)), .val (.int (1 : Int32))] [(.int ((q1.toUInt64 >>> ((48 : Int32) &&& 0x3f).toInt64.toUInt64).toInt64).toInt32), (.int (p1 + (1 : Int32))), (.ref a0x)])) _
    refine XS.i2b X2.here hx rfl (hb hby d1_28) rfl ?_
    show Steps p.tables e below (T2.setTop (mkF m 29 #[.val (.ref a0x), .val (.int p1), .val (.long q1), .second, .val (.int (8 : Int32)), .val (.int (1 : Int32))] [(.int ((q1.toUInt64 >>> ((48 : Int32) &&& 0x3f).toInt64.toUInt64).toInt64).toInt32.toInt8.toInt32), (.int (p1 + (1 : Int32))), (.ref a0x)])) _
    refine st4 _ ?_
    show Steps p.tables e below (T4.setTop (mkF m 30 #[.val (.ref a0x), .val (.int p1), .val (.long q1), .second, .val (.int (8 : Int32)), .val (.int (1 : Int32))] [])) _
    refine XS.iinc X4.here hx rfl (hb hby d1_30) rfl (l' := #[.val (.ref a0x), .val (.int p1), .val (.long q1), .second, .val (.int (8 : Int32)), .val (.int (2 : Int32))]) rfl ?_
    show Steps p.tables e below (T4.setTop (mkF m 33 #[.val (.ref a0x), .val (.int p1), .val (.long q1), .second, .val (.int (8 : Int32)), .val (.int (2 : Int32))] [])) _
    refine XS.goto X4.here hx rfl (pc0 := 33) (pc' := 3) rfl (hb hby d1_33) (by decide) (by decide) ?_
    show Steps p.tables e below (T4.setTop (mkF m 3 #[.val (.ref a0x), .val (.int p1), .val (.long q1), .second, .val (.int (8 : Int32)), .val (.int (2 : Int32))] [])) _
    refine XS.iload X4.here hx rfl (hb hby d1_3) rfl ?_
    show Steps p.tables e below (T4.setTop (mkF m 5 #[.val (.ref a0x), .val (.int p1), .val (.long q1), .second, .val (.int (8 : Int32)), .val (.int (2 : Int32))] [(.int (2 : Int32))])) _
    refine XS.iload X4.here hx rfl (hb hby d1_5) rfl ?_
    show Steps p.tables e below (T4.setTop (mkF m 7 #[.val (.ref a0x), .val (.int p1), .val (.long q1), .second, .val (.int (8 : Int32)), .val (.int (2 : Int32))] [(.int (8 : Int32)), (.int (2 : Int32))])) _
    refine XS.icmpNo X4.here hx rfl (hb hby d1_7) rfl (tlt (by decide : (2 : Int32) < (8 : Int32))).2.1 ?_
    show Steps p.tables e below (T4.setTop (mkF m 10 #[.val (.ref a0x), .val (.int p1), .val (.long q1), .second, .val (.int (8 : Int32)), .val (.int (2 : Int32))] [])) _
    refine XS.aloadN X4.here hx rfl (hb hby d1_10) rfl rfl ?_
    show Steps p.tables e below (T4.setTop (mkF m 11 #[.val (.ref a0x), .val (.int p1), .val (.long q1), .second, .val (.int (8 : Int32)), .val (.int (2 : Int32))] [(.ref a0x)])) _
    refine XS.iloadN X4.here hx rfl (hb hby d1_11) rfl ?_
    show Steps p.tables e below (T4.setTop (mkF m 12 #[.val (.ref a0x), .val (.int p1), .val (.long q1), .second, .val (.int (8 : Int32)), .val (.int (2 : Int32))] [(.int p1), (.ref a0x)])) _
    refine XS.iload X4.here hx rfl (hb hby d1_12) rfl ?_
    show Steps p.tables e below (T4.setTop (mkF m 14 #[.val (.ref a0x), .val (.int p1), .val (.long q1), .second, .val (.int (8 : Int32)), .val (.int (2 : Int32))] [(.int (2 : Int32)), (.int p1), (.ref a0x)])) _
    refine XS.iadd X4.here hx rfl (hb hby d1_14) rfl ?_
    show Steps p.tables e below (T4.setTop (mkF m 15 #[.val (.ref a0x), .val (.int p1), .val (.long q1), .second, .val (.int (8 : Int32)), .val (.int (2 : Int32))] [(.int (p1 + (2 : Int32))), (.ref a0x)])) _
    refine XS.lloadN X4.here hx rfl (hb hby d1_15) rfl ?_
    show Steps p.tables e below (T4.setTop (mkF m 16 #[.val (.ref a0x), .val (.int p1), .val (.long q1), .second, .val (.int (8 : Int32)), .val (.int (2 : Int32))] [(.long q1), (.int (p1 + (2 : Int32))), (.ref a0x)])) _
    refine XS.bipush X4.here hx rfl (hb hby d1_16) ?_
    show Steps p.tables e below (T4.setTop (mkF m 18 #[.val (.ref a0x), .val (.int p1), .val (.long q1), .second, .val (.int (8 : Int32)), .val (.int (2 : Int32))] [(.int (8 : Int32)), (.long q1), (.int (p1 + (2 : Int32))), (.ref a0x)])) _
    refine XS.iload X4.here hx rfl (hb hby d1_18) rfl ?_
    show Steps p.tables e below (T4.setTop (mkF m 20 #[.val (.ref a0x), .val (.int p1), .val (.long q1), .second, .val (.int (8 : Int32)), .val (.int (2 : Int32))] [(.int (8 : Int32)), (.int (8 : Int32)), (.long q1), (.int (p1 + (2 : Int32))), (.ref a0x)])) _
    refine XS.iconst X4.here hx rfl (hb hby d1_20) ?_
    show Steps p.tables e below (T4.setTop (mkF m 21 #[.val (.ref a0x), .val (.int p1), .val (.long q1), .second, .val (.int (8 : Int32)), .val (.int (2 : Int32))] [(.int (1 : Int32)), (.int (8 : Int32)), (.int (8 : Int32)), (.long q1), (.int (p1 + (2 : Int32))), (.ref a0x)])) _
    refine XS.isub X4.here hx rfl (hb hby d1_21) rfl ?_
    show Steps p.tables e below (T4.setTop (mkF m 22 #[.val (.ref a0x), .val (.int p1), .val (.long q1), .second, .val (.int (8 : Int32)), .val (.int (2 : Int32))] [(.int (7 : Int32)), (.int (8 : Int32)), (.long q1), (.int (p1 + (2 : Int32))), (.ref a0x)])) _
    refine XS.iload X4.here hx rfl (hb hby d1_22) rfl ?_
    show Steps p.tables e below (T4.setTop (mkF m 24 #[.val (.ref a0x), .val (.int p1), .val (.long q1), .second, .val (.int (8 : Int32)), .val (.int (2 : Int32))] [(.int (2 : Int32)), (.int (7 : Int32)), (.int (8 : Int32)), (.long q1), (.int (p1 + (2 : Int32))), (.ref a0x)])) _
    refine XS.isub X4.here hx rfl (hb hby d1_24) rfl ?_
    show Steps p.tables e below (T4.setTop (mkF m 25 #[.val (.ref a0x), .val (.int p1), .val (.long q1), .second, .val (.int (8 : Int32)), .val (.int (2 : Int32))] [(.int (5 : Int32)), (.int (8 : Int32)), (.long q1), (.int (p1 + (2 : Int32))), (.ref a0x)])) _
    refine XS.imul X4.here hx rfl (hb hby d1_25) rfl ?_
    show Steps p.tables e below (T4.setTop (mkF m 26 #[.val (.ref a0x), .val (.int p1), .val (.long q1), .second, .val (.int (8 : Int32)), .val (.int (2 : Int32))] [(.int (40 : Int32)), (.long q1), (.int (p1 + (2 : Int32))), (.ref a0x)])) _
    refine XS.lushr X4.here hx rfl (hb hby d1_26) rfl ?_
    show Steps p.tables e below (T4.setTop (mkF m 27 #[.val (.ref a0x), .val (.int p1), .val (.long q1), .second, .val (.int (8 : Int32)), .val (.int (2 : Int32))] [(.long ((q1.toUInt64 >>> ((40 : Int32) &&& 0x3f).toInt64.toUInt64).toInt64)), (.int (p1 + (2 : Int32))), (.ref a0x)])) _
    refine XS.l2i X4.here hx rfl (hb hby d1_27) rfl ?_
    show Steps p.tables e below (T4.setTop (mkF m 28 #[.val (.ref a0x), .val (.int p1), .val (.long q1), .second, .val (.int (8 : Int32)), .val (.int (2 : Int32))] [(.int ((q1.toUInt64 >>> ((40 : Int32) &&& 0x3f).toInt64.toUInt64).toInt64).toInt32), (.int (p1 + (2 : Int32))), (.ref a0x)])) _
    refine XS.i2b X4.here hx rfl (hb hby d1_28) rfl ?_
    show Steps p.tables e below (T4.setTop (mkF m 29 #[.val (.ref a0x), .val (.int p1), .val (.long q1), .second, .val (.int (8 : Int32)), .val (.int (2 : Int32))] [(.int ((q1.toUInt64 >>> ((40 : Int32) &&& 0x3f).toInt64.toUInt64).toInt64).toInt32.toInt8.toInt32), (.int (p1 + (2 : Int32))), (.ref a0x)])) _
    refine st6 _ ?_
    show Steps p.tables e below (T6.setTop (mkF m 30 #[.val (.ref a0x), .val (.int p1), .val (.long q1), .second, .val (.int (8 : Int32)), .val (.int (2 : Int32))] [])) _
    refine XS.iinc X6.here hx rfl (hb hby d1_30) rfl (l' := #[.val (.ref a0x), .val (.int p1), .val (.long q1), .second, .val (.int (8 : Int32)), .val (.int (3 : Int32))]) rfl ?_
    show Steps p.tables e below (T6.setTop (mkF m 33 #[.val (.ref a0x), .val (.int p1), .val (.long q1), .second, .val (.int (8 : Int32)), .val (.int (3 : Int32))] [])) _
    refine XS.goto X6.here hx rfl (pc0 := 33) (pc' := 3) rfl (hb hby d1_33) (by decide) (by decide) ?_
    show Steps p.tables e below (T6.setTop (mkF m 3 #[.val (.ref a0x), .val (.int p1), .val (.long q1), .second, .val (.int (8 : Int32)), .val (.int (3 : Int32))] [])) _
    refine XS.iload X6.here hx rfl (hb hby d1_3) rfl ?_
    show Steps p.tables e below (T6.setTop (mkF m 5 #[.val (.ref a0x), .val (.int p1), .val (.long q1), .second, .val (.int (8 : Int32)), .val (.int (3 : Int32))] [(.int (3 : Int32))])) _
    refine XS.iload X6.here hx rfl (hb hby d1_5) rfl ?_
    show Steps p.tables e below (T6.setTop (mkF m 7 #[.val (.ref a0x), .val (.int p1), .val (.long q1), .second, .val (.int (8 : Int32)), .val (.int (3 : Int32))] [(.int (8 : Int32)), (.int (3 : Int32))])) _
    refine XS.icmpNo X6.here hx rfl (hb hby d1_7) rfl (tlt (by decide : (3 : Int32) < (8 : Int32))).2.1 ?_
    show Steps p.tables e below (T6.setTop (mkF m 10 #[.val (.ref a0x), .val (.int p1), .val (.long q1), .second, .val (.int (8 : Int32)), .val (.int (3 : Int32))] [])) _
    refine XS.aloadN X6.here hx rfl (hb hby d1_10) rfl rfl ?_
    show Steps p.tables e below (T6.setTop (mkF m 11 #[.val (.ref a0x), .val (.int p1), .val (.long q1), .second, .val (.int (8 : Int32)), .val (.int (3 : Int32))] [(.ref a0x)])) _
    refine XS.iloadN X6.here hx rfl (hb hby d1_11) rfl ?_
    show Steps p.tables e below (T6.setTop (mkF m 12 #[.val (.ref a0x), .val (.int p1), .val (.long q1), .second, .val (.int (8 : Int32)), .val (.int (3 : Int32))] [(.int p1), (.ref a0x)])) _
    refine XS.iload X6.here hx rfl (hb hby d1_12) rfl ?_
    show Steps p.tables e below (T6.setTop (mkF m 14 #[.val (.ref a0x), .val (.int p1), .val (.long q1), .second, .val (.int (8 : Int32)), .val (.int (3 : Int32))] [(.int (3 : Int32)), (.int p1), (.ref a0x)])) _
    refine XS.iadd X6.here hx rfl (hb hby d1_14) rfl ?_
    show Steps p.tables e below (T6.setTop (mkF m 15 #[.val (.ref a0x), .val (.int p1), .val (.long q1), .second, .val (.int (8 : Int32)), .val (.int (3 : Int32))] [(.int (p1 + (3 : Int32))), (.ref a0x)])) _
    refine XS.lloadN X6.here hx rfl (hb hby d1_15) rfl ?_
    show Steps p.tables e below (T6.setTop (mkF m 16 #[.val (.ref a0x), .val (.int p1), .val (.long q1), .second, .val (.int (8 : Int32)), .val (.int (3 : Int32))] [(.long q1), (.int (p1 + (3 : Int32))), (.ref a0x)])) _
    refine XS.bipush X6.here hx rfl (hb hby d1_16) ?_
    show Steps p.tables e below (T6.setTop (mkF m 18 #[.val (.ref a0x), .val (.int p1), .val (.long q1), .second, .val (.int (8 : Int32)), .val (.int (3 : Int32))] [(.int (8 : Int32)), (.long q1), (.int (p1 + (3 : Int32))), (.ref a0x)])) _
    refine XS.iload X6.here hx rfl (hb hby d1_18) rfl ?_
    show Steps p.tables e below (T6.setTop (mkF m 20 #[.val (.ref a0x), .val (.int p1), .val (.long q1), .second, .val (.int (8 : Int32)), .val (.int (3 : Int32))] [(.int (8 : Int32)), (.int (8 : Int32)), (.long q1), (.int (p1 + (3 : Int32))), (.ref a0x)])) _
    refine XS.iconst X6.here hx rfl (hb hby d1_20) ?_
    show Steps p.tables e below (T6.setTop (mkF m 21 #[.val (.ref a0x), .val (.int p1), .val (.long q1), .second, .val (.int (8 : Int32)), .val (.int (3 : Int32))] [(.int (1 : Int32)), (.int (8 : Int32)), (.int (8 : Int32)), (.long q1), (.int (p1 + (3 : Int32))), (.ref a0x)])) _
    refine XS.isub X6.here hx rfl (hb hby d1_21) rfl ?_
    show Steps p.tables e below (T6.setTop (mkF m 22 #[.val (.ref a0x), .val (.int p1), .val (.long q1), .second, .val (.int (8 : Int32)), .val (.int (3 : Int32))] [(.int (7 : Int32)), (.int (8 : Int32)), (.long q1), (.int (p1 + (3 : Int32))), (.ref a0x)])) _
    refine XS.iload X6.here hx rfl (hb hby d1_22) rfl ?_
    show Steps p.tables e below (T6.setTop (mkF m 24 #[.val (.ref a0x), .val (.int p1), .val (.long q1), .second, .val (.int (8 : Int32)), .val (.int (3 : Int32))] [(.int (3 : Int32)), (.int (7 : Int32)), (.int (8 : Int32)), (.long q1), (.int (p1 + (3 : Int32))), (.ref a0x)])) _
    refine XS.isub X6.here hx rfl (hb hby d1_24) rfl ?_
    show Steps p.tables e below (T6.setTop (mkF m 25 #[.val (.ref a0x), .val (.int p1), .val (.long q1), .second, .val (.int (8 : Int32)), .val (.int (3 : Int32))] [(.int (4 : Int32)), (.int (8 : Int32)), (.long q1), (.int (p1 + (3 : Int32))), (.ref a0x)])) _
    refine XS.imul X6.here hx rfl (hb hby d1_25) rfl ?_
    show Steps p.tables e below (T6.setTop (mkF m 26 #[.val (.ref a0x), .val (.int p1), .val (.long q1), .second, .val (.int (8 : Int32)), .val (.int (3 : Int32))] [(.int (32 : Int32)), (.long q1), (.int (p1 + (3 : Int32))), (.ref a0x)])) _
    refine XS.lushr X6.here hx rfl (hb hby d1_26) rfl ?_
    show Steps p.tables e below (T6.setTop (mkF m 27 #[.val (.ref a0x), .val (.int p1), .val (.long q1), .second, .val (.int (8 : Int32)), .val (.int (3 : Int32))] [(.long ((q1.toUInt64 >>> ((32 : Int32) &&& 0x3f).toInt64.toUInt64).toInt64)), (.int (p1 + (3 : Int32))), (.ref a0x)])) _
    refine XS.l2i X6.here hx rfl (hb hby d1_27) rfl ?_
    show Steps p.tables e below (T6.setTop (mkF m 28 #[.val (.ref a0x), .val (.int p1), .val (.long q1), .second, .val (.int (8 : Int32)), .val (.int (3 : Int32))] [(.int ((q1.toUInt64 >>> ((32 : Int32) &&& 0x3f).toInt64.toUInt64).toInt64).toInt32), (.int (p1 + (3 : Int32))), (.ref a0x)])) _
    refine XS.i2b X6.here hx rfl (hb hby d1_28) rfl ?_
    show Steps p.tables e below (T6.setTop (mkF m 29 #[.val (.ref a0x), .val (.int p1), .val (.long q1), .second, .val (.int (8 : Int32)), .val (.int (3 : Int32))] [(.int ((q1.toUInt64 >>> ((32 : Int32) &&& 0x3f).toInt64.toUInt64).toInt64).toInt32.toInt8.toInt32), (.int (p1 + (3 : Int32))), (.ref a0x)])) _
    refine st8 _ ?_
    show Steps p.tables e below (T8.setTop (mkF m 30 #[.val (.ref a0x), .val (.int p1), .val (.long q1), .second, .val (.int (8 : Int32)), .val (.int (3 : Int32))] [])) _
    refine XS.iinc X8.here hx rfl (hb hby d1_30) rfl (l' := #[.val (.ref a0x), .val (.int p1), .val (.long q1), .second, .val (.int (8 : Int32)), .val (.int (4 : Int32))]) rfl ?_
    show Steps p.tables e below (T8.setTop (mkF m 33 #[.val (.ref a0x), .val (.int p1), .val (.long q1), .second, .val (.int (8 : Int32)), .val (.int (4 : Int32))] [])) _
    refine XS.goto X8.here hx rfl (pc0 := 33) (pc' := 3) rfl (hb hby d1_33) (by decide) (by decide) ?_
    show Steps p.tables e below (T8.setTop (mkF m 3 #[.val (.ref a0x), .val (.int p1), .val (.long q1), .second, .val (.int (8 : Int32)), .val (.int (4 : Int32))] [])) _
    refine XS.iload X8.here hx rfl (hb hby d1_3) rfl ?_
    show Steps p.tables e below (T8.setTop (mkF m 5 #[.val (.ref a0x), .val (.int p1), .val (.long q1), .second, .val (.int (8 : Int32)), .val (.int (4 : Int32))] [(.int (4 : Int32))])) _
    refine XS.iload X8.here hx rfl (hb hby d1_5) rfl ?_
    show Steps p.tables e below (T8.setTop (mkF m 7 #[.val (.ref a0x), .val (.int p1), .val (.long q1), .second, .val (.int (8 : Int32)), .val (.int (4 : Int32))] [(.int (8 : Int32)), (.int (4 : Int32))])) _
    refine XS.icmpNo X8.here hx rfl (hb hby d1_7) rfl (tlt (by decide : (4 : Int32) < (8 : Int32))).2.1 ?_
    show Steps p.tables e below (T8.setTop (mkF m 10 #[.val (.ref a0x), .val (.int p1), .val (.long q1), .second, .val (.int (8 : Int32)), .val (.int (4 : Int32))] [])) _
    refine XS.aloadN X8.here hx rfl (hb hby d1_10) rfl rfl ?_
    show Steps p.tables e below (T8.setTop (mkF m 11 #[.val (.ref a0x), .val (.int p1), .val (.long q1), .second, .val (.int (8 : Int32)), .val (.int (4 : Int32))] [(.ref a0x)])) _
    refine XS.iloadN X8.here hx rfl (hb hby d1_11) rfl ?_
    show Steps p.tables e below (T8.setTop (mkF m 12 #[.val (.ref a0x), .val (.int p1), .val (.long q1), .second, .val (.int (8 : Int32)), .val (.int (4 : Int32))] [(.int p1), (.ref a0x)])) _
    refine XS.iload X8.here hx rfl (hb hby d1_12) rfl ?_
    show Steps p.tables e below (T8.setTop (mkF m 14 #[.val (.ref a0x), .val (.int p1), .val (.long q1), .second, .val (.int (8 : Int32)), .val (.int (4 : Int32))] [(.int (4 : Int32)), (.int p1), (.ref a0x)])) _
    refine XS.iadd X8.here hx rfl (hb hby d1_14) rfl ?_
    show Steps p.tables e below (T8.setTop (mkF m 15 #[.val (.ref a0x), .val (.int p1), .val (.long q1), .second, .val (.int (8 : Int32)), .val (.int (4 : Int32))] [(.int (p1 + (4 : Int32))), (.ref a0x)])) _
    refine XS.lloadN X8.here hx rfl (hb hby d1_15) rfl ?_
    show Steps p.tables e below (T8.setTop (mkF m 16 #[.val (.ref a0x), .val (.int p1), .val (.long q1), .second, .val (.int (8 : Int32)), .val (.int (4 : Int32))] [(.long q1), (.int (p1 + (4 : Int32))), (.ref a0x)])) _
    refine XS.bipush X8.here hx rfl (hb hby d1_16) ?_
    show Steps p.tables e below (T8.setTop (mkF m 18 #[.val (.ref a0x), .val (.int p1), .val (.long q1), .second, .val (.int (8 : Int32)), .val (.int (4 : Int32))] [(.int (8 : Int32)), (.long q1), (.int (p1 + (4 : Int32))), (.ref a0x)])) _
    refine XS.iload X8.here hx rfl (hb hby d1_18) rfl ?_
    show Steps p.tables e below (T8.setTop (mkF m 20 #[.val (.ref a0x), .val (.int p1), .val (.long q1), .second, .val (.int (8 : Int32)), .val (.int (4 : Int32))] [(.int (8 : Int32)), (.int (8 : Int32)), (.long q1), (.int (p1 + (4 : Int32))), (.ref a0x)])) _
    refine XS.iconst X8.here hx rfl (hb hby d1_20) ?_
    show Steps p.tables e below (T8.setTop (mkF m 21 #[.val (.ref a0x), .val (.int p1), .val (.long q1), .second, .val (.int (8 : Int32)), .val (.int (4 : Int32))] [(.int (1 : Int32)), (.int (8 : Int32)), (.int (8 : Int32)), (.long q1), (.int (p1 + (4 : Int32))), (.ref a0x)])) _
    refine XS.isub X8.here hx rfl (hb hby d1_21) rfl ?_
    show Steps p.tables e below (T8.setTop (mkF m 22 #[.val (.ref a0x), .val (.int p1), .val (.long q1), .second, .val (.int (8 : Int32)), .val (.int (4 : Int32))] [(.int (7 : Int32)), (.int (8 : Int32)), (.long q1), (.int (p1 + (4 : Int32))), (.ref a0x)])) _
    refine XS.iload X8.here hx rfl (hb hby d1_22) rfl ?_
    show Steps p.tables e below (T8.setTop (mkF m 24 #[.val (.ref a0x), .val (.int p1), .val (.long q1), .second, .val (.int (8 : Int32)), .val (.int (4 : Int32))] [(.int (4 : Int32)), (.int (7 : Int32)), (.int (8 : Int32)), (.long q1), (.int (p1 + (4 : Int32))), (.ref a0x)])) _
    refine XS.isub X8.here hx rfl (hb hby d1_24) rfl ?_
    show Steps p.tables e below (T8.setTop (mkF m 25 #[.val (.ref a0x), .val (.int p1), .val (.long q1), .second, .val (.int (8 : Int32)), .val (.int (4 : Int32))] [(.int (3 : Int32)), (.int (8 : Int32)), (.long q1), (.int (p1 + (4 : Int32))), (.ref a0x)])) _
    refine XS.imul X8.here hx rfl (hb hby d1_25) rfl ?_
    show Steps p.tables e below (T8.setTop (mkF m 26 #[.val (.ref a0x), .val (.int p1), .val (.long q1), .second, .val (.int (8 : Int32)), .val (.int (4 : Int32))] [(.int (24 : Int32)), (.long q1), (.int (p1 + (4 : Int32))), (.ref a0x)])) _
    refine XS.lushr X8.here hx rfl (hb hby d1_26) rfl ?_
    show Steps p.tables e below (T8.setTop (mkF m 27 #[.val (.ref a0x), .val (.int p1), .val (.long q1), .second, .val (.int (8 : Int32)), .val (.int (4 : Int32))] [(.long ((q1.toUInt64 >>> ((24 : Int32) &&& 0x3f).toInt64.toUInt64).toInt64)), (.int (p1 + (4 : Int32))), (.ref a0x)])) _
    refine XS.l2i X8.here hx rfl (hb hby d1_27) rfl ?_
    show Steps p.tables e below (T8.setTop (mkF m 28 #[.val (.ref a0x), .val (.int p1), .val (.long q1), .second, .val (.int (8 : Int32)), .val (.int (4 : Int32))] [(.int ((q1.toUInt64 >>> ((24 : Int32) &&& 0x3f).toInt64.toUInt64).toInt64).toInt32), (.int (p1 + (4 : Int32))), (.ref a0x)])) _
    refine XS.i2b X8.here hx rfl (hb hby d1_28) rfl ?_
    show Steps p.tables e below (T8.setTop (mkF m 29 #[.val (.ref a0x), .val (.int p1), .val (.long q1), .second, .val (.int (8 : Int32)), .val (.int (4 : Int32))] [(.int ((q1.toUInt64 >>> ((24 : Int32) &&& 0x3f).toInt64.toUInt64).toInt64).toInt32.toInt8.toInt32), (.int (p1 + (4 : Int32))), (.ref a0x)])) _
    refine st10 _ ?_
    show Steps p.tables e below (T10.setTop (mkF m 30 #[.val (.ref a0x), .val (.int p1), .val (.long q1), .second, .val (.int (8 : Int32)), .val (.int (4 : Int32))] [])) _
    refine XS.iinc X10.here hx rfl (hb hby d1_30) rfl (l' := #[.val (.ref a0x), .val (.int p1), .val (.long q1), .second, .val (.int (8 : Int32)), .val (.int (5 : Int32))]) rfl ?_
    show Steps p.tables e below (T10.setTop (mkF m 33 #[.val (.ref a0x), .val (.int p1), .val (.long q1), .second, .val (.int (8 : Int32)), .val (.int (5 : Int32))] [])) _
    refine XS.goto X10.here hx rfl (pc0 := 33) (pc' := 3) rfl (hb hby d1_33) (by decide) (by decide) ?_
    show Steps p.tables e below (T10.setTop (mkF m 3 #[.val (.ref a0x), .val (.int p1), .val (.long q1), .second, .val (.int (8 : Int32)), .val (.int (5 : Int32))] [])) _
    refine XS.iload X10.here hx rfl (hb hby d1_3) rfl ?_
    show Steps p.tables e below (T10.setTop (mkF m 5 #[.val (.ref a0x), .val (.int p1), .val (.long q1), .second, .val (.int (8 : Int32)), .val (.int (5 : Int32))] [(.int (5 : Int32))])) _
    refine XS.iload X10.here hx rfl (hb hby d1_5) rfl ?_
    show Steps p.tables e below (T10.setTop (mkF m 7 #[.val (.ref a0x), .val (.int p1), .val (.long q1), .second, .val (.int (8 : Int32)), .val (.int (5 : Int32))] [(.int (8 : Int32)), (.int (5 : Int32))])) _
    refine XS.icmpNo X10.here hx rfl (hb hby d1_7) rfl (tlt (by decide : (5 : Int32) < (8 : Int32))).2.1 ?_
    show Steps p.tables e below (T10.setTop (mkF m 10 #[.val (.ref a0x), .val (.int p1), .val (.long q1), .second, .val (.int (8 : Int32)), .val (.int (5 : Int32))] [])) _
    refine XS.aloadN X10.here hx rfl (hb hby d1_10) rfl rfl ?_
    show Steps p.tables e below (T10.setTop (mkF m 11 #[.val (.ref a0x), .val (.int p1), .val (.long q1), .second, .val (.int (8 : Int32)), .val (.int (5 : Int32))] [(.ref a0x)])) _
    refine XS.iloadN X10.here hx rfl (hb hby d1_11) rfl ?_
    show Steps p.tables e below (T10.setTop (mkF m 12 #[.val (.ref a0x), .val (.int p1), .val (.long q1), .second, .val (.int (8 : Int32)), .val (.int (5 : Int32))] [(.int p1), (.ref a0x)])) _
    refine XS.iload X10.here hx rfl (hb hby d1_12) rfl ?_
    show Steps p.tables e below (T10.setTop (mkF m 14 #[.val (.ref a0x), .val (.int p1), .val (.long q1), .second, .val (.int (8 : Int32)), .val (.int (5 : Int32))] [(.int (5 : Int32)), (.int p1), (.ref a0x)])) _
    refine XS.iadd X10.here hx rfl (hb hby d1_14) rfl ?_
    show Steps p.tables e below (T10.setTop (mkF m 15 #[.val (.ref a0x), .val (.int p1), .val (.long q1), .second, .val (.int (8 : Int32)), .val (.int (5 : Int32))] [(.int (p1 + (5 : Int32))), (.ref a0x)])) _
    refine XS.lloadN X10.here hx rfl (hb hby d1_15) rfl ?_
    show Steps p.tables e below (T10.setTop (mkF m 16 #[.val (.ref a0x), .val (.int p1), .val (.long q1), .second, .val (.int (8 : Int32)), .val (.int (5 : Int32))] [(.long q1), (.int (p1 + (5 : Int32))), (.ref a0x)])) _
    refine XS.bipush X10.here hx rfl (hb hby d1_16) ?_
    show Steps p.tables e below (T10.setTop (mkF m 18 #[.val (.ref a0x), .val (.int p1), .val (.long q1), .second, .val (.int (8 : Int32)), .val (.int (5 : Int32))] [(.int (8 : Int32)), (.long q1), (.int (p1 + (5 : Int32))), (.ref a0x)])) _
    refine XS.iload X10.here hx rfl (hb hby d1_18) rfl ?_
    show Steps p.tables e below (T10.setTop (mkF m 20 #[.val (.ref a0x), .val (.int p1), .val (.long q1), .second, .val (.int (8 : Int32)), .val (.int (5 : Int32))] [(.int (8 : Int32)), (.int (8 : Int32)), (.long q1), (.int (p1 + (5 : Int32))), (.ref a0x)])) _
    refine XS.iconst X10.here hx rfl (hb hby d1_20) ?_
    show Steps p.tables e below (T10.setTop (mkF m 21 #[.val (.ref a0x), .val (.int p1), .val (.long q1), .second, .val (.int (8 : Int32)), .val (.int (5 : Int32))] [(.int (1 : Int32)), (.int (8 : Int32)), (.int (8 : Int32)), (.long q1), (.int (p1 + (5 : Int32))), (.ref a0x)])) _
    refine XS.isub X10.here hx rfl (hb hby d1_21) rfl ?_
    show Steps p.tables e below (T10.setTop (mkF m 22 #[.val (.ref a0x), .val (.int p1), .val (.long q1), .second, .val (.int (8 : Int32)), .val (.int (5 : Int32))] [(.int (7 : Int32)), (.int (8 : Int32)), (.long q1), (.int (p1 + (5 : Int32))), (.ref a0x)])) _
    refine XS.iload X10.here hx rfl (hb hby d1_22) rfl ?_
    show Steps p.tables e below (T10.setTop (mkF m 24 #[.val (.ref a0x), .val (.int p1), .val (.long q1), .second, .val (.int (8 : Int32)), .val (.int (5 : Int32))] [(.int (5 : Int32)), (.int (7 : Int32)), (.int (8 : Int32)), (.long q1), (.int (p1 + (5 : Int32))), (.ref a0x)])) _
    refine XS.isub X10.here hx rfl (hb hby d1_24) rfl ?_
    show Steps p.tables e below (T10.setTop (mkF m 25 #[.val (.ref a0x), .val (.int p1), .val (.long q1), .second, .val (.int (8 : Int32)), .val (.int (5 : Int32))] [(.int (2 : Int32)), (.int (8 : Int32)), (.long q1), (.int (p1 + (5 : Int32))), (.ref a0x)])) _
    refine XS.imul X10.here hx rfl (hb hby d1_25) rfl ?_
    show Steps p.tables e below (T10.setTop (mkF m 26 #[.val (.ref a0x), .val (.int p1), .val (.long q1), .second, .val (.int (8 : Int32)), .val (.int (5 : Int32))] [(.int (16 : Int32)), (.long q1), (.int (p1 + (5 : Int32))), (.ref a0x)])) _
    refine XS.lushr X10.here hx rfl (hb hby d1_26) rfl ?_
    show Steps p.tables e below (T10.setTop (mkF m 27 #[.val (.ref a0x), .val (.int p1), .val (.long q1), .second, .val (.int (8 : Int32)), .val (.int (5 : Int32))] [(.long ((q1.toUInt64 >>> ((16 : Int32) &&& 0x3f).toInt64.toUInt64).toInt64)), (.int (p1 + (5 : Int32))), (.ref a0x)])) _
    refine XS.l2i X10.here hx rfl (hb hby d1_27) rfl ?_
    show Steps p.tables e below (T10.setTop (mkF m 28 #[.val (.ref a0x), .val (.int p1), .val (.long q1), .second, .val (.int (8 : Int32)), .val (.int (5 : Int32))] [(.int ((q1.toUInt64 >>> ((16 : Int32) &&& 0x3f).toInt64.toUInt64).toInt64).toInt32), (.int (p1 + (5 : Int32))), (.ref a0x)])) _
    refine XS.i2b X10.here hx rfl (hb hby d1_28) rfl ?_
    show Steps p.tables e below (T10.setTop (mkF m 29 #[.val (.ref a0x), .val (.int p1), .val (.long q1), .second, .val (.int (8 : Int32)), .val (.int (5 : Int32))] [(.int ((q1.toUInt64 >>> ((16 : Int32) &&& 0x3f).toInt64.toUInt64).toInt64).toInt32.toInt8.toInt32), (.int (p1 + (5 : Int32))), (.ref a0x)])) _
    refine st12 _ ?_
    show Steps p.tables e below (T12.setTop (mkF m 30 #[.val (.ref a0x), .val (.int p1), .val (.long q1), .second, .val (.int (8 : Int32)), .val (.int (5 : Int32))] [])) _
    refine XS.iinc X12.here hx rfl (hb hby d1_30) rfl (l' := #[.val (.ref a0x), .val (.int p1), .val (.long q1), .second, .val (.int (8 : Int32)), .val (.int (6 : Int32))]) rfl ?_
    show Steps p.tables e below (T12.setTop (mkF m 33 #[.val (.ref a0x), .val (.int p1), .val (.long q1), .second, .val (.int (8 : Int32)), .val (.int (6 : Int32))] [])) _
    refine XS.goto X12.here hx rfl (pc0 := 33) (pc' := 3) rfl (hb hby d1_33) (by decide) (by decide) ?_
    show Steps p.tables e below (T12.setTop (mkF m 3 #[.val (.ref a0x), .val (.int p1), .val (.long q1), .second, .val (.int (8 : Int32)), .val (.int (6 : Int32))] [])) _
    refine XS.iload X12.here hx rfl (hb hby d1_3) rfl ?_
    show Steps p.tables e below (T12.setTop (mkF m 5 #[.val (.ref a0x), .val (.int p1), .val (.long q1), .second, .val (.int (8 : Int32)), .val (.int (6 : Int32))] [(.int (6 : Int32))])) _
    refine XS.iload X12.here hx rfl (hb hby d1_5) rfl ?_
    show Steps p.tables e below (T12.setTop (mkF m 7 #[.val (.ref a0x), .val (.int p1), .val (.long q1), .second, .val (.int (8 : Int32)), .val (.int (6 : Int32))] [(.int (8 : Int32)), (.int (6 : Int32))])) _
    refine XS.icmpNo X12.here hx rfl (hb hby d1_7) rfl (tlt (by decide : (6 : Int32) < (8 : Int32))).2.1 ?_
    show Steps p.tables e below (T12.setTop (mkF m 10 #[.val (.ref a0x), .val (.int p1), .val (.long q1), .second, .val (.int (8 : Int32)), .val (.int (6 : Int32))] [])) _
    refine XS.aloadN X12.here hx rfl (hb hby d1_10) rfl rfl ?_
    show Steps p.tables e below (T12.setTop (mkF m 11 #[.val (.ref a0x), .val (.int p1), .val (.long q1), .second, .val (.int (8 : Int32)), .val (.int (6 : Int32))] [(.ref a0x)])) _
    refine XS.iloadN X12.here hx rfl (hb hby d1_11) rfl ?_
    show Steps p.tables e below (T12.setTop (mkF m 12 #[.val (.ref a0x), .val (.int p1), .val (.long q1), .second, .val (.int (8 : Int32)), .val (.int (6 : Int32))] [(.int p1), (.ref a0x)])) _
    refine XS.iload X12.here hx rfl (hb hby d1_12) rfl ?_
    show Steps p.tables e below (T12.setTop (mkF m 14 #[.val (.ref a0x), .val (.int p1), .val (.long q1), .second, .val (.int (8 : Int32)), .val (.int (6 : Int32))] [(.int (6 : Int32)), (.int p1), (.ref a0x)])) _
    refine XS.iadd X12.here hx rfl (hb hby d1_14) rfl ?_
    show Steps p.tables e below (T12.setTop (mkF m 15 #[.val (.ref a0x), .val (.int p1), .val (.long q1), .second, .val (.int (8 : Int32)), .val (.int (6 : Int32))] [(.int (p1 + (6 : Int32))), (.ref a0x)])) _
    refine XS.lloadN X12.here hx rfl (hb hby d1_15) rfl ?_
    show Steps p.tables e below (T12.setTop (mkF m 16 #[.val (.ref a0x), .val (.int p1), .val (.long q1), .second, .val (.int (8 : Int32)), .val (.int (6 : Int32))] [(.long q1), (.int (p1 + (6 : Int32))), (.ref a0x)])) _
    refine XS.bipush X12.here hx rfl (hb hby d1_16) ?_
    show Steps p.tables e below (T12.setTop (mkF m 18 #[.val (.ref a0x), .val (.int p1), .val (.long q1), .second, .val (.int (8 : Int32)), .val (.int (6 : Int32))] [(.int (8 : Int32)), (.long q1), (.int (p1 + (6 : Int32))), (.ref a0x)])) _
    refine XS.iload X12.here hx rfl (hb hby d1_18) rfl ?_
    show Steps p.tables e below (T12.setTop (mkF m 20 #[.val (.ref a0x), .val (.int p1), .val (.long q1), .second, .val (.int (8 : Int32)), .val (.int (6 : Int32))] [(.int (8 : Int32)), (.int (8 : Int32)), (.long q1), (.int (p1 + (6 : Int32))), (.ref a0x)])) _
    refine XS.iconst X12.here hx rfl (hb hby d1_20) ?_
    show Steps p.tables e below (T12.setTop (mkF m 21 #[.val (.ref a0x), .val (.int p1), .val (.long q1), .second, .val (.int (8 : Int32)), .val (.int (6 : Int32))] [(.int (1 : Int32)), (.int (8 : Int32)), (.int (8 : Int32)), (.long q1), (.int (p1 + (6 : Int32))), (.ref a0x)])) _
    refine XS.isub X12.here hx rfl (hb hby d1_21) rfl ?_
    show Steps p.tables e below (T12.setTop (mkF m 22 #[.val (.ref a0x), .val (.int p1), .val (.long q1), .second, .val (.int (8 : Int32)), .val (.int (6 : Int32))] [(.int (7 : Int32)), (.int (8 : Int32)), (.long q1), (.int (p1 + (6 : Int32))), (.ref a0x)])) _
    refine XS.iload X12.here hx rfl (hb hby d1_22) rfl ?_
    show Steps p.tables e below (T12.setTop (mkF m 24 #[.val (.ref a0x), .val (.int p1), .val (.long q1), .second, .val (.int (8 : Int32)), .val (.int (6 : Int32))] [(.int (6 : Int32)), (.int (7 : Int32)), (.int (8 : Int32)), (.long q1), (.int (p1 + (6 : Int32))), (.ref a0x)])) _
    refine XS.isub X12.here hx rfl (hb hby d1_24) rfl ?_
    show Steps p.tables e below (T12.setTop (mkF m 25 #[.val (.ref a0x), .val (.int p1), .val (.long q1), .second, .val (.int (8 : Int32)), .val (.int (6 : Int32))] [(.int (1 : Int32)), (.int (8 : Int32)), (.long q1), (.int (p1 + (6 : Int32))), (.ref a0x)])) _
    refine XS.imul X12.here hx rfl (hb hby d1_25) rfl ?_
    show Steps p.tables e below (T12.setTop (mkF m 26 #[.val (.ref a0x), .val (.int p1), .val (.long q1), .second, .val (.int (8 : Int32)), .val (.int (6 : Int32))] [(.int (8 : Int32)), (.long q1), (.int (p1 + (6 : Int32))), (.ref a0x)])) _
    refine XS.lushr X12.here hx rfl (hb hby d1_26) rfl ?_
    show Steps p.tables e below (T12.setTop (mkF m 27 #[.val (.ref a0x), .val (.int p1), .val (.long q1), .second, .val (.int (8 : Int32)), .val (.int (6 : Int32))] [(.long ((q1.toUInt64 >>> ((8 : Int32) &&& 0x3f).toInt64.toUInt64).toInt64)), (.int (p1 + (6 : Int32))), (.ref a0x)])) _
    refine XS.l2i X12.here hx rfl (hb hby d1_27) rfl ?_
    show Steps p.tables e below (T12.setTop (mkF m 28 #[.val (.ref a0x), .val (.int p1), .val (.long q1), .second, .val (.int (8 : Int32)), .val (.int (6 : Int32))] [(.int ((q1.toUInt64 >>> ((8 : Int32) &&& 0x3f).toInt64.toUInt64).toInt64).toInt32), (.int (p1 + (6 : Int32))), (.ref a0x)])) _
    refine XS.i2b X12.here hx rfl (hb hby d1_28) rfl ?_
    show Steps p.tables e below (T12.setTop (mkF m 29 #[.val (.ref a0x), .val (.int p1), .val (.long q1), .second, .val (.int (8 : Int32)), .val (.int (6 : Int32))] [(.int ((q1.toUInt64 >>> ((8 : Int32) &&& 0x3f).toInt64.toUInt64).toInt64).toInt32.toInt8.toInt32), (.int (p1 + (6 : Int32))), (.ref a0x)])) _
    refine st14 _ ?_
    show Steps p.tables e below (T14.setTop (mkF m 30 #[.val (.ref a0x), .val (.int p1), .val (.long q1), .second, .val (.int (8 : Int32)), .val (.int (6 : Int32))] [])) _
    refine XS.iinc X14.here hx rfl (hb hby d1_30) rfl (l' := #[.val (.ref a0x), .val (.int p1), .val (.long q1), .second, .val (.int (8 : Int32)), .val (.int (7 : Int32))]) rfl ?_
    show Steps p.tables e below (T14.setTop (mkF m 33 #[.val (.ref a0x), .val (.int p1), .val (.long q1), .second, .val (.int (8 : Int32)), .val (.int (7 : Int32))] [])) _
    refine XS.goto X14.here hx rfl (pc0 := 33) (pc' := 3) rfl (hb hby d1_33) (by decide) (by decide) ?_
    show Steps p.tables e below (T14.setTop (mkF m 3 #[.val (.ref a0x), .val (.int p1), .val (.long q1), .second, .val (.int (8 : Int32)), .val (.int (7 : Int32))] [])) _
    refine XS.iload X14.here hx rfl (hb hby d1_3) rfl ?_
    show Steps p.tables e below (T14.setTop (mkF m 5 #[.val (.ref a0x), .val (.int p1), .val (.long q1), .second, .val (.int (8 : Int32)), .val (.int (7 : Int32))] [(.int (7 : Int32))])) _
    refine XS.iload X14.here hx rfl (hb hby d1_5) rfl ?_
    show Steps p.tables e below (T14.setTop (mkF m 7 #[.val (.ref a0x), .val (.int p1), .val (.long q1), .second, .val (.int (8 : Int32)), .val (.int (7 : Int32))] [(.int (8 : Int32)), (.int (7 : Int32))])) _
    refine XS.icmpNo X14.here hx rfl (hb hby d1_7) rfl (tlt (by decide : (7 : Int32) < (8 : Int32))).2.1 ?_
    show Steps p.tables e below (T14.setTop (mkF m 10 #[.val (.ref a0x), .val (.int p1), .val (.long q1), .second, .val (.int (8 : Int32)), .val (.int (7 : Int32))] [])) _
    refine XS.aloadN X14.here hx rfl (hb hby d1_10) rfl rfl ?_
    show Steps p.tables e below (T14.setTop (mkF m 11 #[.val (.ref a0x), .val (.int p1), .val (.long q1), .second, .val (.int (8 : Int32)), .val (.int (7 : Int32))] [(.ref a0x)])) _
    refine XS.iloadN X14.here hx rfl (hb hby d1_11) rfl ?_
    show Steps p.tables e below (T14.setTop (mkF m 12 #[.val (.ref a0x), .val (.int p1), .val (.long q1), .second, .val (.int (8 : Int32)), .val (.int (7 : Int32))] [(.int p1), (.ref a0x)])) _
    refine XS.iload X14.here hx rfl (hb hby d1_12) rfl ?_
    show Steps p.tables e below (T14.setTop (mkF m 14 #[.val (.ref a0x), .val (.int p1), .val (.long q1), .second, .val (.int (8 : Int32)), .val (.int (7 : Int32))] [(.int (7 : Int32)), (.int p1), (.ref a0x)])) _
    refine XS.iadd X14.here hx rfl (hb hby d1_14) rfl ?_
    show Steps p.tables e below (T14.setTop (mkF m 15 #[.val (.ref a0x), .val (.int p1), .val (.long q1), .second, .val (.int (8 : Int32)), .val (.int (7 : Int32))] [(.int (p1 + (7 : Int32))), (.ref a0x)])) _
    refine XS.lloadN X14.here hx rfl (hb hby d1_15) rfl ?_
    show Steps p.tables e below (T14.setTop (mkF m 16 #[.val (.ref a0x), .val (.int p1), .val (.long q1), .second, .val (.int (8 : Int32)), .val (.int (7 : Int32))] [(.long q1), (.int (p1 + (7 : Int32))), (.ref a0x)])) _
    refine XS.bipush X14.here hx rfl (hb hby d1_16) ?_
    show Steps p.tables e below (T14.setTop (mkF m 18 #[.val (.ref a0x), .val (.int p1), .val (.long q1), .second, .val (.int (8 : Int32)), .val (.int (7 : Int32))] [(.int (8 : Int32)), (.long q1), (.int (p1 + (7 : Int32))), (.ref a0x)])) _
    refine XS.iload X14.here hx rfl (hb hby d1_18) rfl ?_
    show Steps p.tables e below (T14.setTop (mkF m 20 #[.val (.ref a0x), .val (.int p1), .val (.long q1), .second, .val (.int (8 : Int32)), .val (.int (7 : Int32))] [(.int (8 : Int32)), (.int (8 : Int32)), (.long q1), (.int (p1 + (7 : Int32))), (.ref a0x)])) _
    refine XS.iconst X14.here hx rfl (hb hby d1_20) ?_
    show Steps p.tables e below (T14.setTop (mkF m 21 #[.val (.ref a0x), .val (.int p1), .val (.long q1), .second, .val (.int (8 : Int32)), .val (.int (7 : Int32))] [(.int (1 : Int32)), (.int (8 : Int32)), (.int (8 : Int32)), (.long q1), (.int (p1 + (7 : Int32))), (.ref a0x)])) _
    refine XS.isub X14.here hx rfl (hb hby d1_21) rfl ?_
    show Steps p.tables e below (T14.setTop (mkF m 22 #[.val (.ref a0x), .val (.int p1), .val (.long q1), .second, .val (.int (8 : Int32)), .val (.int (7 : Int32))] [(.int (7 : Int32)), (.int (8 : Int32)), (.long q1), (.int (p1 + (7 : Int32))), (.ref a0x)])) _
    refine XS.iload X14.here hx rfl (hb hby d1_22) rfl ?_
    show Steps p.tables e below (T14.setTop (mkF m 24 #[.val (.ref a0x), .val (.int p1), .val (.long q1), .second, .val (.int (8 : Int32)), .val (.int (7 : Int32))] [(.int (7 : Int32)), (.int (7 : Int32)), (.int (8 : Int32)), (.long q1), (.int (p1 + (7 : Int32))), (.ref a0x)])) _
    refine XS.isub X14.here hx rfl (hb hby d1_24) rfl ?_
    show Steps p.tables e below (T14.setTop (mkF m 25 #[.val (.ref a0x), .val (.int p1), .val (.long q1), .second, .val (.int (8 : Int32)), .val (.int (7 : Int32))] [(.int (0 : Int32)), (.int (8 : Int32)), (.long q1), (.int (p1 + (7 : Int32))), (.ref a0x)])) _
    refine XS.imul X14.here hx rfl (hb hby d1_25) rfl ?_
    show Steps p.tables e below (T14.setTop (mkF m 26 #[.val (.ref a0x), .val (.int p1), .val (.long q1), .second, .val (.int (8 : Int32)), .val (.int (7 : Int32))] [(.int (0 : Int32)), (.long q1), (.int (p1 + (7 : Int32))), (.ref a0x)])) _
    refine XS.lushr X14.here hx rfl (hb hby d1_26) rfl ?_
    show Steps p.tables e below (T14.setTop (mkF m 27 #[.val (.ref a0x), .val (.int p1), .val (.long q1), .second, .val (.int (8 : Int32)), .val (.int (7 : Int32))] [(.long ((q1.toUInt64 >>> ((0 : Int32) &&& 0x3f).toInt64.toUInt64).toInt64)), (.int (p1 + (7 : Int32))), (.ref a0x)])) _
    refine XS.l2i X14.here hx rfl (hb hby d1_27) rfl ?_
    show Steps p.tables e below (T14.setTop (mkF m 28 #[.val (.ref a0x), .val (.int p1), .val (.long q1), .second, .val (.int (8 : Int32)), .val (.int (7 : Int32))] [(.int ((q1.toUInt64 >>> ((0 : Int32) &&& 0x3f).toInt64.toUInt64).toInt64).toInt32), (.int (p1 + (7 : Int32))), (.ref a0x)])) _
    refine XS.i2b X14.here hx rfl (hb hby d1_28) rfl ?_
    show Steps p.tables e below (T14.setTop (mkF m 29 #[.val (.ref a0x), .val (.int p1), .val (.long q1), .second, .val (.int (8 : Int32)), .val (.int (7 : Int32))] [(.int ((q1.toUInt64 >>> ((0 : Int32) &&& 0x3f).toInt64.toUInt64).toInt64).toInt32.toInt8.toInt32), (.int (p1 + (7 : Int32))), (.ref a0x)])) _
    refine st16 _ ?_
    show Steps p.tables e below (T16.setTop (mkF m 30 #[.val (.ref a0x), .val (.int p1), .val (.long q1), .second, .val (.int (8 : Int32)), .val (.int (7 : Int32))] [])) _
    refine XS.iinc X16.here hx rfl (hb hby d1_30) rfl (l' := #[.val (.ref a0x), .val (.int p1), .val (.long q1), .second, .val (.int (8 : Int32)), .val (.int (8 : Int32))]) rfl ?_
    show Steps p.tables e below (T16.setTop (mkF m 33 #[.val (.ref a0x), .val (.int p1), .val (.long q1), .second, .val (.int (8 : Int32)), .val (.int (8 : Int32))] [])) _
    refine XS.goto X16.here hx rfl (pc0 := 33) (pc' := 3) rfl (hb hby d1_33) (by decide) (by decide) ?_
    show Steps p.tables e below (T16.setTop (mkF m 3 #[.val (.ref a0x), .val (.int p1), .val (.long q1), .second, .val (.int (8 : Int32)), .val (.int (8 : Int32))] [])) _
    refine XS.iload X16.here hx rfl (hb hby d1_3) rfl ?_
    show Steps p.tables e below (T16.setTop (mkF m 5 #[.val (.ref a0x), .val (.int p1), .val (.long q1), .second, .val (.int (8 : Int32)), .val (.int (8 : Int32))] [(.int (8 : Int32))])) _
    refine XS.iload X16.here hx rfl (hb hby d1_5) rfl ?_
    show Steps p.tables e below (T16.setTop (mkF m 7 #[.val (.ref a0x), .val (.int p1), .val (.long q1), .second, .val (.int (8 : Int32)), .val (.int (8 : Int32))] [(.int (8 : Int32)), (.int (8 : Int32))])) _
    refine XS.icmpYes X16.here hx rfl (pc0 := 7) (pc' := 36) rfl (hb hby d1_7) rfl (flt (by decide : ¬ ((8 : Int32) < (8 : Int32)))).2.1 (by decide) (by decide) ?_
    show Steps p.tables e below (T16.setTop (mkF m 36 #[.val (.ref a0x), .val (.int p1), .val (.long q1), .second, .val (.int (8 : Int32)), .val (.int (8 : Int32))] [])) _
    refine XS.iloadN X16.here hx rfl (hb hby d1_36) rfl ?_
    show Steps p.tables e below (T16.setTop (mkF m 37 #[.val (.ref a0x), .val (.int p1), .val (.long q1), .second, .val (.int (8 : Int32)), .val (.int (8 : Int32))] [(.int p1)])) _
    refine XS.iload X16.here hx rfl (hb hby d1_37) rfl ?_
    show Steps p.tables e below (T16.setTop (mkF m 39 #[.val (.ref a0x), .val (.int p1), .val (.long q1), .second, .val (.int (8 : Int32)), .val (.int (8 : Int32))] [(.int (8 : Int32)), (.int p1)])) _
    refine XS.iadd X16.here hx rfl (hb hby d1_39) rfl ?_
    show Steps p.tables e below (T16.setTop (mkF m 40 #[.val (.ref a0x), .val (.int p1), .val (.long q1), .second, .val (.int (8 : Int32)), .val (.int (8 : Int32))] [(.int (p1 + (8 : Int32)))])) _
    exact retI X16 hx Bd.returns (hb hby d1_40) hr
  · show Q_rm_put Z a0x p1 q1 p2 tab h0 n0 _ T16.heap _
    rw [e16]
    exact ⟨(by rw [hk]), N16, K16, (by rw [hk]; exact (own_Tab.cong V16 (fun j _ _ => by simp [own_putF, own_b8, own_byte, (by decide : (0 : Int32) < 8), (by decide : (1 : Int32) < 8), (by decide : (2 : Int32) < 8), (by decide : (3 : Int32) < 8), (by decide : (4 : Int32) < 8), (by decide : (5 : Int32) < 8), (by decide : (6 : Int32) < 8), (by decide : (7 : Int32) < 8)])))⟩
theorem rm_put (l : Launch) (Z : State) (a0 : Array Value) (hw : ∀ d ∈ tables_1, d.before a0 Z = true) (ws : List Jvm.Cond) (a0x : Addr) (p1 : Int32) (q1 : Int64) (p2 : Int32) (tab : Int32 → Int32) (h0 : Heap) (n0 : Nat) (Z0 : n0 ≤ h0.size) (V0x : own_Tab Z h0 a0x .byte (12 : Int32) (fun j => .int (tab j))) (g0x : n0 ≤ a0x) (hat : 0 ≤ p1.toInt ∧ p1.toInt + p2.toInt ≤ 12) (hk : p2 = (0 : Int32) ∨ p2 = (1 : Int32) ∨ p2 = (2 : Int32) ∨ p2 = (3 : Int32) ∨ p2 = (4 : Int32) ∨ p2 = (5 : Int32) ∨ p2 = (6 : Int32) ∨ p2 = (7 : Int32) ∨ p2 = (8 : Int32)) :
    MetFree l (⟨"com/example/fyfo/fyfo/BigEndian", "put", "([BIJI)I"⟩ : MethodName) (head1 (Jvm.Cond.code (⟨"com/example/fyfo/fyfo/BigEndian", "put", "([BIJI)I"⟩ : MethodName) prog_1_method_2_code 6 (some .int) :: ws) ({ frames := 0, cells := 0, slots := 0, locals := 0 } : Room)) (fun a U => a = #[(.ref a0x), (.int p1), (.long q1), (.int p2)] ∧ Z.Warmed39 U.vm ∧ U.heap = h0) (fun _ _ _ _ _ => True) (fun _ U o U' => ∃ v L, o = .returned v ∧ Q_rm_put Z a0x p1 q1 p2 tab h0 n0 v U'.heap L ∧ FrameEnd U o U' L ({ frames := 0, cells := 0, slots := 0, locals := 0 } : Room).cells ({ frames := 0, cells := 0, slots := 0, locals := 0 } : Room).slots) := by
  rcases hk with h | h | h | h | h | h | h | h | h
  · exact rm_put0 l Z a0 hw ws a0x p1 q1 p2 tab h0 n0 Z0 V0x g0x (by rw [h] at hat; exact hat) h
  · exact rm_put1 l Z a0 hw ws a0x p1 q1 p2 tab h0 n0 Z0 V0x g0x (by rw [h] at hat; exact hat) h
  · exact rm_put2 l Z a0 hw ws a0x p1 q1 p2 tab h0 n0 Z0 V0x g0x (by rw [h] at hat; exact hat) h
  · exact rm_put3 l Z a0 hw ws a0x p1 q1 p2 tab h0 n0 Z0 V0x g0x (by rw [h] at hat; exact hat) h
  · exact rm_put4 l Z a0 hw ws a0x p1 q1 p2 tab h0 n0 Z0 V0x g0x (by rw [h] at hat; exact hat) h
  · exact rm_put5 l Z a0 hw ws a0x p1 q1 p2 tab h0 n0 Z0 V0x g0x (by rw [h] at hat; exact hat) h
  · exact rm_put6 l Z a0 hw ws a0x p1 q1 p2 tab h0 n0 Z0 V0x g0x (by rw [h] at hat; exact hat) h
  · exact rm_put7 l Z a0 hw ws a0x p1 q1 p2 tab h0 n0 Z0 V0x g0x (by rw [h] at hat; exact hat) h
  · exact rm_put8 l Z a0 hw ws a0x p1 q1 p2 tab h0 n0 Z0 V0x g0x (by rw [h] at hat; exact hat) h
theorem d2_0 : decode method_3_code 0 = .ok (.iload 4, 2) := by decide +kernel
theorem d2_2 : decode method_3_code 2 = .ok (.iload 5, 2) := by decide +kernel
theorem d2_4 : decode method_3_code 4 = .ok (.if_icmp .ge 20, 3) := by decide +kernel
theorem d2_7 : decode method_3_code 7 = .ok (.lload_n 0, 1) := by decide +kernel
theorem d2_8 : decode method_3_code 8 = .ok (.bipush 8, 2) := by decide +kernel
theorem d2_10 : decode method_3_code 10 = .ok (.lshl, 1) := by decide +kernel
theorem d2_11 : decode method_3_code 11 = .ok (.aload_n 2, 1) := by decide +kernel
theorem d2_12 : decode method_3_code 12 = .ok (.iload_n 3, 1) := by decide +kernel
theorem d2_13 : decode method_3_code 13 = .ok (.iload 4, 2) := by decide +kernel
theorem d2_15 : decode method_3_code 15 = .ok (.iadd, 1) := by decide +kernel
theorem d2_16 : decode method_3_code 16 = .ok (.baload, 1) := by decide +kernel
theorem d2_17 : decode method_3_code 17 = .ok (.sipush 255, 3) := by decide +kernel
theorem d2_20 : decode method_3_code 20 = .ok (.iand, 1) := by decide +kernel
theorem d2_21 : decode method_3_code 21 = .ok (.i2l, 1) := by decide +kernel
theorem d2_22 : decode method_3_code 22 = .ok (.lor, 1) := by decide +kernel
theorem d2_23 : decode method_3_code 23 = .ok (.lreturn, 1) := by decide +kernel
theorem d2_24 : decode method_3_code 24 = .ok (.lload_n 0, 1) := by decide +kernel
theorem d2_25 : decode method_3_code 25 = .ok (.lreturn, 1) := by decide +kernel
theorem pn_1 : plainName "com/example/fyfo/fyfo/BigEndianPutPinLaw" = true := by first | (simp [plainName, overriddenIn]; done) | decide +kernel
theorem ef_2 (m : MethodId) (x0 : Int64) (x1 : Addr) (x2 : Int32) (x3 : Int32) (x4 : Int32) : entryFrame m #[(.long x0), (.ref x1), (.int x2), (.int x3), (.int x4)] 6 = mkF m 0 #[.val (.long x0), .second, .val (.ref x1), .val (.int x2), .val (.int x3), .val (.int x4)] [] := by first | (simp [entryFrame, mkF, argsToLocals, Value.category]; done) | rfl
def Q_rm_acc (Z : State) (q0 : Int64) (a0x : Addr) (p1 : Int32) (p2 : Int32) (p3 : Int32) (tab : Int32 → Int32) (h0 : Heap) (n0 : Nat) (v : Option Value) (h : Heap) (L : List Loc) : Prop := v = some (.long (own_acc tab q0 p1 p2 p3)) ∧ Fr n0 L ∧ h = h0
set_option maxRecDepth 65536 in
set_option maxHeartbeats 40000000 in
theorem rm_acc (l : Launch) (Z : State) (a0 : Array Value) (hw : ∀ d ∈ tables_1, d.before a0 Z = true) (ws : List Jvm.Cond) (q0 : Int64) (a0x : Addr) (p1 : Int32) (p2 : Int32) (p3 : Int32) (tab : Int32 → Int32) (h0 : Heap) (n0 : Nat) (Z0 : n0 ≤ h0.size) (V0x : own_Tab Z h0 a0x .byte (12 : Int32) (fun j => .int (tab j))) (hb1 : p2 < p3 → ¬ (p1 + p2) < 0 ∧ (p1 + p2) < (12 : Int32)) :
    MetFree l (⟨"com/example/fyfo/fyfo/BigEndianPutPinLaw", "acc", "(J[BIII)J"⟩ : MethodName) (head1 (Jvm.Cond.code (⟨"com/example/fyfo/fyfo/BigEndianPutPinLaw", "acc", "(J[BIII)J"⟩ : MethodName) method_3_code 6 (some .long) :: ws) ({ frames := 0, cells := 0, slots := 0, locals := 0 } : Room)) (fun a U => a = #[(.long q0), (.ref a0x), (.int p1), (.int p2), (.int p3)] ∧ Z.Warmed39 U.vm ∧ U.heap = h0) (fun _ _ _ _ _ => True) (fun _ U o U' => ∃ v L, o = .returned v ∧ Q_rm_acc Z q0 a0x p1 p2 p3 tab h0 n0 v U'.heap L ∧ FrameEnd U o U' L ({ frames := 0, cells := 0, slots := 0, locals := 0 } : Room).cells ({ frames := 0, cells := 0, slots := 0, locals := 0 } : Room).slots) := by
  refine MetFree.of_bodySF (plainFor_of_name pn_1) hisR ?_
  intro p e s m args below meth c s₁ Bd hml0 hP hK
  obtain ⟨rfl, hZ, hh⟩ := hP
  have hx := Bd.exec
  have hby := Bd.bytes
  have hml : c.maxLocals = 6 := hml0
  have hown : s.vm.findClass "com/example/fyfo/fyfo/BigEndianPutPinLaw" = some m.cls := findClass_of_methodNamed Bd.named
  have hnm := (name_of_methodNamed Bd.named Bd.method).1
  have X0 : Stand p l e ({ frames := 0, cells := 0, slots := 0, locals := 0 } : Room) s m #[(.long q0), (.ref a0x), (.int p1), (.int p2), (.int p3)] below meth c s₁ [] 0 0 := Stand.of_body Bd
  have e0 : s₁.heap = h0 := by rw [← hh, Bd.state]; rfl
  have N0 := Fr.nil n0
  have pre0 : ∀ t, Steps p.tables e below (s₁.setTop (mkF m 0 #[.val (.long q0), .second, .val (.ref a0x), .val (.int p1), .val (.int p2), .val (.int p3)] [])) t → Steps p.tables e below (s₁.setTop (entryFrame m #[(.long q0), (.ref a0x), (.int p1), (.int p2), (.int p3)] 6)) t := fun t k => castTop (ef_2 m q0 a0x p1 p2 p3) k
  have k1 : ∀ target, Steps p.tables e below (s₁.setTop (mkF m 4 #[.val (.long q0), .second, .val (.ref a0x), .val (.int p1), .val (.int p2), .val (.int p3)] [(.int p3), (.int p2)])) target → Steps p.tables e below (s₁.setTop (mkF m 0 #[.val (.long q0), .second, .val (.ref a0x), .val (.int p1), .val (.int p2), .val (.int p3)] [])) target := by
    intro target kt
    show Steps p.tables e below (s₁.setTop (mkF m 0 #[.val (.long q0), .second, .val (.ref a0x), .val (.int p1), .val (.int p2), .val (.int p3)] [])) _
    refine XS.iload X0.here hx rfl (hb hby d2_0) rfl ?_
    show Steps p.tables e below (s₁.setTop (mkF m 2 #[.val (.long q0), .second, .val (.ref a0x), .val (.int p1), .val (.int p2), .val (.int p3)] [(.int p2)])) _
    refine XS.iload X0.here hx rfl (hb hby d2_2) rfl ?_
    exact kt
  by_cases hc4 : p2 < p3
  · obtain ⟨cl2, Ar2, S2, N2', H2⟩ := (id V0x)
    have hbd2 : ¬ (p1 + p2) < 0 ∧ (p1 + p2) < (12 : Int32) := (hb1 hc4)
    have hin2 : ¬ ((p1 + p2) < 0 ∨ cl2.slots.size ≤ ((p1 + p2)).toNatClampNeg) := inb_of S2 hbd2
    have hat2 : cl2.slots[((p1 + p2)).toNatClampNeg]? = some (.int (tab (p1 + p2))) := H2 _ hbd2.1 hbd2.2
    obtain ⟨fs, hr, hrun, hended, hW, hsame⟩ := X0.leave (v := some (.long ((q0 <<< ((8 : Int32) &&& 0x3f).toInt64) ||| ((tab (p1 + p2)) &&& (255 : Int32)).toInt64))) (fun h => by rw [Bd.returns] at h; cases h)
    refine ⟨_, _, pre0 _ ?_, hrun, hended, _, _, rfl, ?_, ⟨_, rfl⟩, hW, hsame.mono (by decide) (by decide)⟩
    · refine k1 _ ?_
      show Steps p.tables e below (s₁.setTop (mkF m 4 #[.val (.long q0), .second, .val (.ref a0x), .val (.int p1), .val (.int p2), .val (.int p3)] [(.int p3), (.int p2)])) _
      refine XS.icmpNo X0.here hx rfl (hb hby d2_4) rfl (tlt hc4).2.1 ?_
      show Steps p.tables e below (s₁.setTop (mkF m 7 #[.val (.long q0), .second, .val (.ref a0x), .val (.int p1), .val (.int p2), .val (.int p3)] [])) _
      refine XS.lloadN X0.here hx rfl (hb hby d2_7) rfl ?_
      show Steps p.tables e below (s₁.setTop (mkF m 8 #[.val (.long q0), .second, .val (.ref a0x), .val (.int p1), .val (.int p2), .val (.int p3)] [(.long q0)])) _
      refine XS.bipush X0.here hx rfl (hb hby d2_8) ?_
      show Steps p.tables e below (s₁.setTop (mkF m 10 #[.val (.long q0), .second, .val (.ref a0x), .val (.int p1), .val (.int p2), .val (.int p3)] [(.int (8 : Int32)), (.long q0)])) _
      refine XS.lshl X0.here hx rfl (hb hby d2_10) rfl ?_
      show Steps p.tables e below (s₁.setTop (mkF m 11 #[.val (.long q0), .second, .val (.ref a0x), .val (.int p1), .val (.int p2), .val (.int p3)] [(.long (q0 <<< ((8 : Int32) &&& 0x3f).toInt64))])) _
      refine XS.aloadN X0.here hx rfl (hb hby d2_11) rfl rfl ?_
      show Steps p.tables e below (s₁.setTop (mkF m 12 #[.val (.long q0), .second, .val (.ref a0x), .val (.int p1), .val (.int p2), .val (.int p3)] [(.ref a0x), (.long (q0 <<< ((8 : Int32) &&& 0x3f).toInt64))])) _
      refine XS.iloadN X0.here hx rfl (hb hby d2_12) rfl ?_
      show Steps p.tables e below (s₁.setTop (mkF m 13 #[.val (.long q0), .second, .val (.ref a0x), .val (.int p1), .val (.int p2), .val (.int p3)] [(.int p1), (.ref a0x), (.long (q0 <<< ((8 : Int32) &&& 0x3f).toInt64))])) _
      refine XS.iload X0.here hx rfl (hb hby d2_13) rfl ?_
      show Steps p.tables e below (s₁.setTop (mkF m 15 #[.val (.long q0), .second, .val (.ref a0x), .val (.int p1), .val (.int p2), .val (.int p3)] [(.int p2), (.int p1), (.ref a0x), (.long (q0 <<< ((8 : Int32) &&& 0x3f).toInt64))])) _
      refine XS.iadd X0.here hx rfl (hb hby d2_15) rfl ?_
      show Steps p.tables e below (s₁.setTop (mkF m 16 #[.val (.long q0), .second, .val (.ref a0x), .val (.int p1), .val (.int p2), .val (.int p3)] [(.int (p1 + p2)), (.ref a0x), (.long (q0 <<< ((8 : Int32) &&& 0x3f).toInt64))])) _
      refine X0.baloadBytes hx (j := (p1 + p2)) (v := (.int (tab (p1 + p2)))) (by rw [e0]; exact Ar2.1) (State.isArrayOf_alike hZ.alike Ar2.2.1) Ar2.2.2 hin2 hat2 (g := (mkF m 16 #[.val (.long q0), .second, .val (.ref a0x), .val (.int p1), .val (.int p2), .val (.int p3)] [(.int (p1 + p2)), (.ref a0x), (.long (q0 <<< ((8 : Int32) &&& 0x3f).toInt64))])) rfl rfl (hb hby d2_16) _ ?_
      show Steps p.tables e below (s₁.setTop (mkF m 17 #[.val (.long q0), .second, .val (.ref a0x), .val (.int p1), .val (.int p2), .val (.int p3)] [(.int (tab (p1 + p2))), (.long (q0 <<< ((8 : Int32) &&& 0x3f).toInt64))])) _
      refine XS.sipush X0.here hx rfl (hb hby d2_17) ?_
      show Steps p.tables e below (s₁.setTop (mkF m 20 #[.val (.long q0), .second, .val (.ref a0x), .val (.int p1), .val (.int p2), .val (.int p3)] [(.int (255 : Int32)), (.int (tab (p1 + p2))), (.long (q0 <<< ((8 : Int32) &&& 0x3f).toInt64))])) _
      refine XS.iand X0.here hx rfl (hb hby d2_20) rfl ?_
      show Steps p.tables e below (s₁.setTop (mkF m 21 #[.val (.long q0), .second, .val (.ref a0x), .val (.int p1), .val (.int p2), .val (.int p3)] [(.int ((tab (p1 + p2)) &&& (255 : Int32))), (.long (q0 <<< ((8 : Int32) &&& 0x3f).toInt64))])) _
      refine XS.i2l X0.here hx rfl (hb hby d2_21) rfl ?_
      show Steps p.tables e below (s₁.setTop (mkF m 22 #[.val (.long q0), .second, .val (.ref a0x), .val (.int p1), .val (.int p2), .val (.int p3)] [(.long ((tab (p1 + p2)) &&& (255 : Int32)).toInt64), (.long (q0 <<< ((8 : Int32) &&& 0x3f).toInt64))])) _
      refine XS.lor X0.here hx rfl (hb hby d2_22) rfl ?_
      show Steps p.tables e below (s₁.setTop (mkF m 23 #[.val (.long q0), .second, .val (.ref a0x), .val (.int p1), .val (.int p2), .val (.int p3)] [(.long ((q0 <<< ((8 : Int32) &&& 0x3f).toInt64) ||| ((tab (p1 + p2)) &&& (255 : Int32)).toInt64))])) _
      exact retOut X0 hx Bd.returns (by rfl) (Or.inr (Or.inl ⟨rfl, rfl, _, rfl⟩)) (hb hby d2_23) hr
    · show Q_rm_acc Z q0 a0x p1 p2 p3 tab h0 n0 _ s₁.heap _
      rw [e0]
      exact ⟨(by simp [own_acc, hc4]), N0, rfl⟩
  · obtain ⟨fs, hr, hrun, hended, hW, hsame⟩ := X0.leave (v := some (.long q0)) (fun h => by rw [Bd.returns] at h; cases h)
    refine ⟨_, _, pre0 _ ?_, hrun, hended, _, _, rfl, ?_, ⟨_, rfl⟩, hW, hsame.mono (by decide) (by decide)⟩
    · refine k1 _ ?_
      show Steps p.tables e below (s₁.setTop (mkF m 4 #[.val (.long q0), .second, .val (.ref a0x), .val (.int p1), .val (.int p2), .val (.int p3)] [(.int p3), (.int p2)])) _
      refine XS.icmpYes X0.here hx rfl (pc0 := 4) (pc' := 24) rfl (hb hby d2_4) rfl (flt hc4).2.1 (by decide) (by decide) ?_
      show Steps p.tables e below (s₁.setTop (mkF m 24 #[.val (.long q0), .second, .val (.ref a0x), .val (.int p1), .val (.int p2), .val (.int p3)] [])) _
      refine XS.lloadN X0.here hx rfl (hb hby d2_24) rfl ?_
      show Steps p.tables e below (s₁.setTop (mkF m 25 #[.val (.long q0), .second, .val (.ref a0x), .val (.int p1), .val (.int p2), .val (.int p3)] [(.long q0)])) _
      exact retOut X0 hx Bd.returns (by rfl) (Or.inr (Or.inl ⟨rfl, rfl, _, rfl⟩)) (hb hby d2_25) hr
    · show Q_rm_acc Z q0 a0x p1 p2 p3 tab h0 n0 _ s₁.heap _
      rw [e0]
      exact ⟨(by simp [own_acc, hc4]), N0, rfl⟩
theorem d3_0 : decode method_4_code 0 = .ok (.iload_n 1, 1) := by decide +kernel
theorem d3_1 : decode method_4_code 1 = .ok (.iload_n 2, 1) := by decide +kernel
theorem d3_2 : decode method_4_code 2 = .ok (.if_icmp .lt 10, 3) := by decide +kernel
theorem d3_12 : decode method_4_code 12 = .ok (.aload_n 0, 1) := by decide +kernel
theorem d3_13 : decode method_4_code 13 = .ok (.iload_n 1, 1) := by decide +kernel
theorem d3_14 : decode method_4_code 14 = .ok (.baload, 1) := by decide +kernel
theorem d3_15 : decode method_4_code 15 = .ok (.iload 4, 2) := by decide +kernel
theorem d3_17 : decode method_4_code 17 = .ok (.if_icmp .ne 7, 3) := by decide +kernel
theorem d3_20 : decode method_4_code 20 = .ok (.iconst 1, 1) := by decide +kernel
theorem d3_21 : decode method_4_code 21 = .ok (.goto 4, 3) := by decide +kernel
theorem d3_25 : decode method_4_code 25 = .ok (.ireturn, 1) := by decide +kernel
theorem d3_24 : decode method_4_code 24 = .ok (.iconst 0, 1) := by decide +kernel
theorem d3_5 : decode method_4_code 5 = .ok (.iload_n 1, 1) := by decide +kernel
theorem d3_6 : decode method_4_code 6 = .ok (.iload_n 2, 1) := by decide +kernel
theorem d3_7 : decode method_4_code 7 = .ok (.iload_n 3, 1) := by decide +kernel
theorem d3_8 : decode method_4_code 8 = .ok (.iadd, 1) := by decide +kernel
theorem d3_9 : decode method_4_code 9 = .ok (.if_icmp .lt 17, 3) := by decide +kernel
theorem d3_26 : decode method_4_code 26 = .ok (.iconst 1, 1) := by decide +kernel
theorem d3_27 : decode method_4_code 27 = .ok (.ireturn, 1) := by decide +kernel
theorem ef_3 (m : MethodId) (x0 : Addr) (x1 : Int32) (x2 : Int32) (x3 : Int32) (x4 : Int32) : entryFrame m #[(.ref x0), (.int x1), (.int x2), (.int x3), (.int x4)] 5 = mkF m 0 #[.val (.ref x0), .val (.int x1), .val (.int x2), .val (.int x3), .val (.int x4)] [] := by first | (simp [entryFrame, mkF, argsToLocals, Value.category]; done) | rfl
def Q_rm_unt (Z : State) (a0x : Addr) (p1 : Int32) (p2 : Int32) (p3 : Int32) (p4 : Int32) (tab : Int32 → Int32) (h0 : Heap) (n0 : Nat) (v : Option Value) (h : Heap) (L : List Loc) : Prop := v = some (.int (own_unt tab p1 p2 p3 p4)) ∧ Fr n0 L ∧ h = h0
set_option maxRecDepth 65536 in
set_option maxHeartbeats 40000000 in
theorem rm_unt (l : Launch) (Z : State) (a0 : Array Value) (hw : ∀ d ∈ tables_1, d.before a0 Z = true) (ws : List Jvm.Cond) (a0x : Addr) (p1 : Int32) (p2 : Int32) (p3 : Int32) (p4 : Int32) (tab : Int32 → Int32) (h0 : Heap) (n0 : Nat) (Z0 : n0 ≤ h0.size) (V0x : own_Tab Z h0 a0x .byte (12 : Int32) (fun j => .int (tab j))) (hb1 : ¬ p1 < 0 ∧ p1 < (12 : Int32)) :
    MetFree l (⟨"com/example/fyfo/fyfo/BigEndianPutPinLaw", "untouched", "([BIIIB)Z"⟩ : MethodName) (head1 (Jvm.Cond.code (⟨"com/example/fyfo/fyfo/BigEndianPutPinLaw", "untouched", "([BIIIB)Z"⟩ : MethodName) method_4_code 5 (some .boolean) :: ws) ({ frames := 0, cells := 0, slots := 0, locals := 0 } : Room)) (fun a U => a = #[(.ref a0x), (.int p1), (.int p2), (.int p3), (.int p4)] ∧ Z.Warmed39 U.vm ∧ U.heap = h0) (fun _ _ _ _ _ => True) (fun _ U o U' => ∃ v L, o = .returned v ∧ Q_rm_unt Z a0x p1 p2 p3 p4 tab h0 n0 v U'.heap L ∧ FrameEnd U o U' L ({ frames := 0, cells := 0, slots := 0, locals := 0 } : Room).cells ({ frames := 0, cells := 0, slots := 0, locals := 0 } : Room).slots) := by
  refine MetFree.of_bodySF (plainFor_of_name pn_1) hisR ?_
  intro p e s m args below meth c s₁ Bd hml0 hP hK
  obtain ⟨rfl, hZ, hh⟩ := hP
  have hx := Bd.exec
  have hby := Bd.bytes
  have hml : c.maxLocals = 5 := hml0
  have hown : s.vm.findClass "com/example/fyfo/fyfo/BigEndianPutPinLaw" = some m.cls := findClass_of_methodNamed Bd.named
  have hnm := (name_of_methodNamed Bd.named Bd.method).1
  have X0 : Stand p l e ({ frames := 0, cells := 0, slots := 0, locals := 0 } : Room) s m #[(.ref a0x), (.int p1), (.int p2), (.int p3), (.int p4)] below meth c s₁ [] 0 0 := Stand.of_body Bd
  have e0 : s₁.heap = h0 := by rw [← hh, Bd.state]; rfl
  have N0 := Fr.nil n0
  have pre0 : ∀ t, Steps p.tables e below (s₁.setTop (mkF m 0 #[.val (.ref a0x), .val (.int p1), .val (.int p2), .val (.int p3), .val (.int p4)] [])) t → Steps p.tables e below (s₁.setTop (entryFrame m #[(.ref a0x), (.int p1), (.int p2), (.int p3), (.int p4)] 5)) t := fun t k => castTop (ef_3 m a0x p1 p2 p3 p4) k
  have k1 : ∀ target, Steps p.tables e below (s₁.setTop (mkF m 2 #[.val (.ref a0x), .val (.int p1), .val (.int p2), .val (.int p3), .val (.int p4)] [(.int p2), (.int p1)])) target → Steps p.tables e below (s₁.setTop (mkF m 0 #[.val (.ref a0x), .val (.int p1), .val (.int p2), .val (.int p3), .val (.int p4)] [])) target := by
    intro target kt
    show Steps p.tables e below (s₁.setTop (mkF m 0 #[.val (.ref a0x), .val (.int p1), .val (.int p2), .val (.int p3), .val (.int p4)] [])) _
    refine XS.iloadN X0.here hx rfl (hb hby d3_0) rfl ?_
    show Steps p.tables e below (s₁.setTop (mkF m 1 #[.val (.ref a0x), .val (.int p1), .val (.int p2), .val (.int p3), .val (.int p4)] [(.int p1)])) _
    refine XS.iloadN X0.here hx rfl (hb hby d3_1) rfl ?_
    exact kt
  by_cases hc2 : p1 < p2
  · obtain ⟨cl2, Ar2, S2, N2', H2⟩ := (id V0x)
    have hbd2 : ¬ p1 < 0 ∧ p1 < (12 : Int32) := hb1
    have hin2 : ¬ (p1 < 0 ∨ cl2.slots.size ≤ (p1).toNatClampNeg) := inb_of S2 hbd2
    have hat2 : cl2.slots[(p1).toNatClampNeg]? = some (.int (tab p1)) := H2 _ hbd2.1 hbd2.2
    have k3 : ∀ target, Steps p.tables e below (s₁.setTop (mkF m 17 #[.val (.ref a0x), .val (.int p1), .val (.int p2), .val (.int p3), .val (.int p4)] [(.int p4), (.int (tab p1))])) target → Steps p.tables e below (s₁.setTop (mkF m 0 #[.val (.ref a0x), .val (.int p1), .val (.int p2), .val (.int p3), .val (.int p4)] [])) target := by
      intro target kt
      refine k1 _ ?_
      show Steps p.tables e below (s₁.setTop (mkF m 2 #[.val (.ref a0x), .val (.int p1), .val (.int p2), .val (.int p3), .val (.int p4)] [(.int p2), (.int p1)])) _
      refine XS.icmpYes X0.here hx rfl (pc0 := 2) (pc' := 12) rfl (hb hby d3_2) rfl (tlt hc2).1 (by decide) (by decide) ?_
      show Steps p.tables e below (s₁.setTop (mkF m 12 #[.val (.ref a0x), .val (.int p1), .val (.int p2), .val (.int p3), .val (.int p4)] [])) _
      refine XS.aloadN X0.here hx rfl (hb hby d3_12) rfl rfl ?_
      show Steps p.tables e below (s₁.setTop (mkF m 13 #[.val (.ref a0x), .val (.int p1), .val (.int p2), .val (.int p3), .val (.int p4)] [(.ref a0x)])) _
      refine XS.iloadN X0.here hx rfl (hb hby d3_13) rfl ?_
      show Steps p.tables e below (s₁.setTop (mkF m 14 #[.val (.ref a0x), .val (.int p1), .val (.int p2), .val (.int p3), .val (.int p4)] [(.int p1), (.ref a0x)])) _
      refine X0.baloadBytes hx (j := p1) (v := (.int (tab p1))) (by rw [e0]; exact Ar2.1) (State.isArrayOf_alike hZ.alike Ar2.2.1) Ar2.2.2 hin2 hat2 (g := (mkF m 14 #[.val (.ref a0x), .val (.int p1), .val (.int p2), .val (.int p3), .val (.int p4)] [(.int p1), (.ref a0x)])) rfl rfl (hb hby d3_14) _ ?_
      show Steps p.tables e below (s₁.setTop (mkF m 15 #[.val (.ref a0x), .val (.int p1), .val (.int p2), .val (.int p3), .val (.int p4)] [(.int (tab p1))])) _
      refine XS.iload X0.here hx rfl (hb hby d3_15) rfl ?_
      exact kt
    by_cases hc17 : (tab p1) = p4
    · obtain ⟨fs, hr, hrun, hended, hW, hsame⟩ := X0.leave (v := some (.int (1 : Int32))) (fun h => by rw [Bd.returns] at h; cases h)
      refine ⟨_, _, pre0 _ ?_, hrun, hended, _, _, rfl, ?_, ⟨_, rfl⟩, hW, hsame.mono (by decide) (by decide)⟩
      · refine k3 _ ?_
        show Steps p.tables e below (s₁.setTop (mkF m 17 #[.val (.ref a0x), .val (.int p1), .val (.int p2), .val (.int p3), .val (.int p4)] [(.int p4), (.int (tab p1))])) _
        refine XS.icmpNo X0.here hx rfl (hb hby d3_17) rfl (teq hc17).2 ?_
        show Steps p.tables e below (s₁.setTop (mkF m 20 #[.val (.ref a0x), .val (.int p1), .val (.int p2), .val (.int p3), .val (.int p4)] [])) _
        refine XS.iconst X0.here hx rfl (hb hby d3_20) ?_
        show Steps p.tables e below (s₁.setTop (mkF m 21 #[.val (.ref a0x), .val (.int p1), .val (.int p2), .val (.int p3), .val (.int p4)] [(.int (1 : Int32))])) _
        refine XS.goto X0.here hx rfl (pc0 := 21) (pc' := 25) rfl (hb hby d3_21) (by decide) (by decide) ?_
        show Steps p.tables e below (s₁.setTop (mkF m 25 #[.val (.ref a0x), .val (.int p1), .val (.int p2), .val (.int p3), .val (.int p4)] [(.int (1 : Int32))])) _
        exact retN X0 hx (t := .boolean) Bd.returns (by simp) (hb hby d3_25) hr
      · show Q_rm_unt Z a0x p1 p2 p3 p4 tab h0 n0 _ s₁.heap _
        rw [e0]
        exact ⟨(by simp [own_unt, hc2, hc17]), N0, rfl⟩
    · obtain ⟨fs, hr, hrun, hended, hW, hsame⟩ := X0.leave (v := some (.int (0 : Int32))) (fun h => by rw [Bd.returns] at h; cases h)
      refine ⟨_, _, pre0 _ ?_, hrun, hended, _, _, rfl, ?_, ⟨_, rfl⟩, hW, hsame.mono (by decide) (by decide)⟩
      · refine k3 _ ?_
        show Steps p.tables e below (s₁.setTop (mkF m 17 #[.val (.ref a0x), .val (.int p1), .val (.int p2), .val (.int p3), .val (.int p4)] [(.int p4), (.int (tab p1))])) _
        refine XS.icmpYes X0.here hx rfl (pc0 := 17) (pc' := 24) rfl (hb hby d3_17) rfl (feq hc17).2 (by decide) (by decide) ?_
        show Steps p.tables e below (s₁.setTop (mkF m 24 #[.val (.ref a0x), .val (.int p1), .val (.int p2), .val (.int p3), .val (.int p4)] [])) _
        refine XS.iconst X0.here hx rfl (hb hby d3_24) ?_
        show Steps p.tables e below (s₁.setTop (mkF m 25 #[.val (.ref a0x), .val (.int p1), .val (.int p2), .val (.int p3), .val (.int p4)] [(.int (0 : Int32))])) _
        exact retN X0 hx (t := .boolean) Bd.returns (by simp) (hb hby d3_25) hr
      · show Q_rm_unt Z a0x p1 p2 p3 p4 tab h0 n0 _ s₁.heap _
        rw [e0]
        exact ⟨(by simp [own_unt, hc2, hc17]), N0, rfl⟩
  · have k4 : ∀ target, Steps p.tables e below (s₁.setTop (mkF m 9 #[.val (.ref a0x), .val (.int p1), .val (.int p2), .val (.int p3), .val (.int p4)] [(.int (p2 + p3)), (.int p1)])) target → Steps p.tables e below (s₁.setTop (mkF m 0 #[.val (.ref a0x), .val (.int p1), .val (.int p2), .val (.int p3), .val (.int p4)] [])) target := by
      intro target kt
      refine k1 _ ?_
      show Steps p.tables e below (s₁.setTop (mkF m 2 #[.val (.ref a0x), .val (.int p1), .val (.int p2), .val (.int p3), .val (.int p4)] [(.int p2), (.int p1)])) _
      refine XS.icmpNo X0.here hx rfl (hb hby d3_2) rfl (flt hc2).1 ?_
      show Steps p.tables e below (s₁.setTop (mkF m 5 #[.val (.ref a0x), .val (.int p1), .val (.int p2), .val (.int p3), .val (.int p4)] [])) _
      refine XS.iloadN X0.here hx rfl (hb hby d3_5) rfl ?_
      show Steps p.tables e below (s₁.setTop (mkF m 6 #[.val (.ref a0x), .val (.int p1), .val (.int p2), .val (.int p3), .val (.int p4)] [(.int p1)])) _
      refine XS.iloadN X0.here hx rfl (hb hby d3_6) rfl ?_
      show Steps p.tables e below (s₁.setTop (mkF m 7 #[.val (.ref a0x), .val (.int p1), .val (.int p2), .val (.int p3), .val (.int p4)] [(.int p2), (.int p1)])) _
      refine XS.iloadN X0.here hx rfl (hb hby d3_7) rfl ?_
      show Steps p.tables e below (s₁.setTop (mkF m 8 #[.val (.ref a0x), .val (.int p1), .val (.int p2), .val (.int p3), .val (.int p4)] [(.int p3), (.int p2), (.int p1)])) _
      refine XS.iadd X0.here hx rfl (hb hby d3_8) rfl ?_
      exact kt
    by_cases hc9 : p1 < (p2 + p3)
    · obtain ⟨fs, hr, hrun, hended, hW, hsame⟩ := X0.leave (v := some (.int (1 : Int32))) (fun h => by rw [Bd.returns] at h; cases h)
      refine ⟨_, _, pre0 _ ?_, hrun, hended, _, _, rfl, ?_, ⟨_, rfl⟩, hW, hsame.mono (by decide) (by decide)⟩
      · refine k4 _ ?_
        show Steps p.tables e below (s₁.setTop (mkF m 9 #[.val (.ref a0x), .val (.int p1), .val (.int p2), .val (.int p3), .val (.int p4)] [(.int (p2 + p3)), (.int p1)])) _
        refine XS.icmpYes X0.here hx rfl (pc0 := 9) (pc' := 26) rfl (hb hby d3_9) rfl (tlt hc9).1 (by decide) (by decide) ?_
        show Steps p.tables e below (s₁.setTop (mkF m 26 #[.val (.ref a0x), .val (.int p1), .val (.int p2), .val (.int p3), .val (.int p4)] [])) _
        refine XS.iconst X0.here hx rfl (hb hby d3_26) ?_
        show Steps p.tables e below (s₁.setTop (mkF m 27 #[.val (.ref a0x), .val (.int p1), .val (.int p2), .val (.int p3), .val (.int p4)] [(.int (1 : Int32))])) _
        exact retN X0 hx (t := .boolean) Bd.returns (by simp) (hb hby d3_27) hr
      · show Q_rm_unt Z a0x p1 p2 p3 p4 tab h0 n0 _ s₁.heap _
        rw [e0]
        exact ⟨(by simp [own_unt, hc2, hc9]), N0, rfl⟩
    · obtain ⟨cl5, Ar5, S5, N5', H5⟩ := (id V0x)
      have hbd5 : ¬ p1 < 0 ∧ p1 < (12 : Int32) := hb1
      have hin5 : ¬ (p1 < 0 ∨ cl5.slots.size ≤ (p1).toNatClampNeg) := inb_of S5 hbd5
      have hat5 : cl5.slots[(p1).toNatClampNeg]? = some (.int (tab p1)) := H5 _ hbd5.1 hbd5.2
      have k6 : ∀ target, Steps p.tables e below (s₁.setTop (mkF m 17 #[.val (.ref a0x), .val (.int p1), .val (.int p2), .val (.int p3), .val (.int p4)] [(.int p4), (.int (tab p1))])) target → Steps p.tables e below (s₁.setTop (mkF m 0 #[.val (.ref a0x), .val (.int p1), .val (.int p2), .val (.int p3), .val (.int p4)] [])) target := by
        intro target kt
        refine k4 _ ?_
        show Steps p.tables e below (s₁.setTop (mkF m 9 #[.val (.ref a0x), .val (.int p1), .val (.int p2), .val (.int p3), .val (.int p4)] [(.int (p2 + p3)), (.int p1)])) _
        refine XS.icmpNo X0.here hx rfl (hb hby d3_9) rfl (flt hc9).1 ?_
        show Steps p.tables e below (s₁.setTop (mkF m 12 #[.val (.ref a0x), .val (.int p1), .val (.int p2), .val (.int p3), .val (.int p4)] [])) _
        refine XS.aloadN X0.here hx rfl (hb hby d3_12) rfl rfl ?_
        show Steps p.tables e below (s₁.setTop (mkF m 13 #[.val (.ref a0x), .val (.int p1), .val (.int p2), .val (.int p3), .val (.int p4)] [(.ref a0x)])) _
        refine XS.iloadN X0.here hx rfl (hb hby d3_13) rfl ?_
        show Steps p.tables e below (s₁.setTop (mkF m 14 #[.val (.ref a0x), .val (.int p1), .val (.int p2), .val (.int p3), .val (.int p4)] [(.int p1), (.ref a0x)])) _
        refine X0.baloadBytes hx (j := p1) (v := (.int (tab p1))) (by rw [e0]; exact Ar5.1) (State.isArrayOf_alike hZ.alike Ar5.2.1) Ar5.2.2 hin5 hat5 (g := (mkF m 14 #[.val (.ref a0x), .val (.int p1), .val (.int p2), .val (.int p3), .val (.int p4)] [(.int p1), (.ref a0x)])) rfl rfl (hb hby d3_14) _ ?_
        show Steps p.tables e below (s₁.setTop (mkF m 15 #[.val (.ref a0x), .val (.int p1), .val (.int p2), .val (.int p3), .val (.int p4)] [(.int (tab p1))])) _
        refine XS.iload X0.here hx rfl (hb hby d3_15) rfl ?_
        exact kt
      by_cases hc17 : (tab p1) = p4
      · obtain ⟨fs, hr, hrun, hended, hW, hsame⟩ := X0.leave (v := some (.int (1 : Int32))) (fun h => by rw [Bd.returns] at h; cases h)
        refine ⟨_, _, pre0 _ ?_, hrun, hended, _, _, rfl, ?_, ⟨_, rfl⟩, hW, hsame.mono (by decide) (by decide)⟩
        · refine k6 _ ?_
          show Steps p.tables e below (s₁.setTop (mkF m 17 #[.val (.ref a0x), .val (.int p1), .val (.int p2), .val (.int p3), .val (.int p4)] [(.int p4), (.int (tab p1))])) _
          refine XS.icmpNo X0.here hx rfl (hb hby d3_17) rfl (teq hc17).2 ?_
          show Steps p.tables e below (s₁.setTop (mkF m 20 #[.val (.ref a0x), .val (.int p1), .val (.int p2), .val (.int p3), .val (.int p4)] [])) _
          refine XS.iconst X0.here hx rfl (hb hby d3_20) ?_
          show Steps p.tables e below (s₁.setTop (mkF m 21 #[.val (.ref a0x), .val (.int p1), .val (.int p2), .val (.int p3), .val (.int p4)] [(.int (1 : Int32))])) _
          refine XS.goto X0.here hx rfl (pc0 := 21) (pc' := 25) rfl (hb hby d3_21) (by decide) (by decide) ?_
          show Steps p.tables e below (s₁.setTop (mkF m 25 #[.val (.ref a0x), .val (.int p1), .val (.int p2), .val (.int p3), .val (.int p4)] [(.int (1 : Int32))])) _
          exact retN X0 hx (t := .boolean) Bd.returns (by simp) (hb hby d3_25) hr
        · show Q_rm_unt Z a0x p1 p2 p3 p4 tab h0 n0 _ s₁.heap _
          rw [e0]
          exact ⟨(by simp [own_unt, hc2, hc9, hc17]), N0, rfl⟩
      · obtain ⟨fs, hr, hrun, hended, hW, hsame⟩ := X0.leave (v := some (.int (0 : Int32))) (fun h => by rw [Bd.returns] at h; cases h)
        refine ⟨_, _, pre0 _ ?_, hrun, hended, _, _, rfl, ?_, ⟨_, rfl⟩, hW, hsame.mono (by decide) (by decide)⟩
        · refine k6 _ ?_
          show Steps p.tables e below (s₁.setTop (mkF m 17 #[.val (.ref a0x), .val (.int p1), .val (.int p2), .val (.int p3), .val (.int p4)] [(.int p4), (.int (tab p1))])) _
          refine XS.icmpYes X0.here hx rfl (pc0 := 17) (pc' := 24) rfl (hb hby d3_17) rfl (feq hc17).2 (by decide) (by decide) ?_
          show Steps p.tables e below (s₁.setTop (mkF m 24 #[.val (.ref a0x), .val (.int p1), .val (.int p2), .val (.int p3), .val (.int p4)] [])) _
          refine XS.iconst X0.here hx rfl (hb hby d3_24) ?_
          show Steps p.tables e below (s₁.setTop (mkF m 25 #[.val (.ref a0x), .val (.int p1), .val (.int p2), .val (.int p3), .val (.int p4)] [(.int (0 : Int32))])) _
          exact retN X0 hx (t := .boolean) Bd.returns (by simp) (hb hby d3_25) hr
        · show Q_rm_unt Z a0x p1 p2 p3 p4 tab h0 n0 _ s₁.heap _
          rw [e0]
          exact ⟨(by simp [own_unt, hc2, hc9, hc17]), N0, rfl⟩
def own_f (p : Int32) : Int32 := p.toInt8.toInt32
def own_w (p : Int32) : Int32 := (p &&& (2147483647 : Int32)) % (9 : Int32)
def own_at (p a : Int32) : Int32 := (a &&& (2147483647 : Int32)) % ((13 : Int32) - own_w p)
theorem own_mask (x : Int32) : 0 ≤ (x &&& (2147483647 : Int32)).toInt := by
  have e : (x &&& (2147483647 : Int32)).toInt = x.toInt % 2 ^ 31 := Jvm.Kit.i32_mask x 2147483647 (k := 31) (by decide) (by decide)
  rw [e]; exact Int.emod_nonneg _ (by decide)
theorem own_modb (d k : Int32) (hk : 0 < k.toInt) : 0 ≤ ((d &&& (2147483647 : Int32)) % k).toInt ∧ ((d &&& (2147483647 : Int32)) % k).toInt < k.toInt := by
  rw [Int32.toInt_mod]
  exact ⟨Int.tmod_nonneg _ (own_mask d), Int.tmod_lt_of_pos _ hk⟩
theorem own_wb (p : Int32) : 0 ≤ (own_w p).toInt ∧ (own_w p).toInt ≤ 8 := by
  have := own_modb p 9 (by decide)
  have e : (9 : Int32).toInt = 9 := rfl
  unfold own_w; omega
theorem own_wc (p : Int32) : own_w p = 0 ∨ own_w p = 1 ∨ own_w p = 2 ∨ own_w p = 3 ∨ own_w p = 4 ∨ own_w p = 5 ∨ own_w p = 6 ∨ own_w p = 7 ∨ own_w p = 8 := by
  have h := own_wb p
  simp only [← Int32.toInt_inj, show (0 : Int32).toInt = 0 from rfl, show (1 : Int32).toInt = 1 from rfl, show (2 : Int32).toInt = 2 from rfl, show (3 : Int32).toInt = 3 from rfl, show (4 : Int32).toInt = 4 from rfl, show (5 : Int32).toInt = 5 from rfl, show (6 : Int32).toInt = 6 from rfl, show (7 : Int32).toInt = 7 from rfl, show (8 : Int32).toInt = 8 from rfl]
  omega
theorem own_den (p : Int32) : ((13 : Int32) - own_w p).toInt = 13 - (own_w p).toInt := by
  have h := own_wb p
  have e : (13 : Int32).toInt = 13 := rfl
  rw [Int32.toInt_sub, e]; exact Int.bmod_eq_of_le (by omega) (by omega)
theorem own_nz (p : Int32) : (13 : Int32) - own_w p ≠ 0 := by
  intro q
  have h := own_den p
  have k := own_wb p
  rw [q] at h
  have e : (0 : Int32).toInt = 0 := rfl
  omega
theorem own_atb (p a : Int32) : 0 ≤ (own_at p a).toInt ∧ (own_at p a).toInt + (own_w p).toInt ≤ 12 := by
  have h := own_den p
  have k := own_wb p
  have := own_modb a ((13 : Int32) - own_w p) (by omega)
  unfold own_at; omega
theorem own_hb {a k w : Int32} (h : 0 ≤ a.toInt ∧ a.toInt + w.toInt ≤ 12) (hk : 0 ≤ k.toInt) (hlt : k < w) : ¬ (a + k) < 0 ∧ (a + k) < (12 : Int32) := by
  rw [Int32.lt_iff_toInt_lt] at hlt
  exact own_bd h ⟨hk, hlt⟩
theorem own_tab_arv {Z : State} {h : Heap} {a : Addr} {k : ClassId} {ty : FieldType} {z : Int32} {vs : List Value} {d : Value} {tab : Int32 → Value} (F : Arv Z h a k ty z vs d) (q : ∀ j : Int32, ¬ j < 0 → j < z → vs.getD j.toNatClampNeg d = tab j) : own_Tab Z h a ty z tab := by
  obtain ⟨c, A, -, S, n, H, -⟩ := F
  exact ⟨c, A, S, n, fun j h1 h2 => H.at (inb_of S ⟨h1, h2⟩) (q j h1 h2)⟩
theorem own_rep (v d : Value) (j : Int32) (h1 : ¬ j < 0) (h2 : j < (12 : Int32)) : ([v, v, v, v, v, v, v, v, v, v, v, v] : List Value).getD j.toNatClampNeg d = v := by
  have hn : j.toNatClampNeg < 12 := by
    have e := nat_of h1
    rw [Int32.lt_iff_toInt_lt, show (12 : Int32).toInt = 12 from rfl] at h2
    omega
  generalize j.toNatClampNeg = n at hn
  match n, hn with
  | 0, _ | 1, _ | 2, _ | 3, _ | 4, _ | 5, _ | 6, _ | 7, _ | 8, _ | 9, _ | 10, _ | 11, _ => rfl
-- where the bytes stand
theorem own_ne {a x y : Int32} (h : x ≠ y) : a + x ≠ a + y := fun e => h (by simpa using e)
theorem own_at_p {tab : Int32 → Int32} {a : Int32} {v : Int64} {w : Int32} : (0 < w → own_putF tab a v w (a + 0) = own_byte v (8 * (w - 1 - 0))) ∧ (1 < w → own_putF tab a v w (a + 1) = own_byte v (8 * (w - 1 - 1))) ∧ (2 < w → own_putF tab a v w (a + 2) = own_byte v (8 * (w - 1 - 2))) ∧ (3 < w → own_putF tab a v w (a + 3) = own_byte v (8 * (w - 1 - 3))) ∧ (4 < w → own_putF tab a v w (a + 4) = own_byte v (8 * (w - 1 - 4))) ∧ (5 < w → own_putF tab a v w (a + 5) = own_byte v (8 * (w - 1 - 5))) ∧ (6 < w → own_putF tab a v w (a + 6) = own_byte v (8 * (w - 1 - 6))) ∧ (7 < w → own_putF tab a v w (a + 7) = own_byte v (8 * (w - 1 - 7))) := by
  refine ⟨?_, ?_, ?_, ?_, ?_, ?_, ?_, ?_⟩
  · intro hp
    unfold own_putF
    rw [if_neg (fun q => own_ne (a := a) (show (0 : Int32) ≠ 7 by decide) q.1)]
    rw [if_neg (fun q => own_ne (a := a) (show (0 : Int32) ≠ 6 by decide) q.1)]
    rw [if_neg (fun q => own_ne (a := a) (show (0 : Int32) ≠ 5 by decide) q.1)]
    rw [if_neg (fun q => own_ne (a := a) (show (0 : Int32) ≠ 4 by decide) q.1)]
    rw [if_neg (fun q => own_ne (a := a) (show (0 : Int32) ≠ 3 by decide) q.1)]
    rw [if_neg (fun q => own_ne (a := a) (show (0 : Int32) ≠ 2 by decide) q.1)]
    rw [if_neg (fun q => own_ne (a := a) (show (0 : Int32) ≠ 1 by decide) q.1)]
    rw [if_pos ⟨rfl, hp⟩]
  · intro hp
    unfold own_putF
    rw [if_neg (fun q => own_ne (a := a) (show (1 : Int32) ≠ 7 by decide) q.1)]
    rw [if_neg (fun q => own_ne (a := a) (show (1 : Int32) ≠ 6 by decide) q.1)]
    rw [if_neg (fun q => own_ne (a := a) (show (1 : Int32) ≠ 5 by decide) q.1)]
    rw [if_neg (fun q => own_ne (a := a) (show (1 : Int32) ≠ 4 by decide) q.1)]
    rw [if_neg (fun q => own_ne (a := a) (show (1 : Int32) ≠ 3 by decide) q.1)]
    rw [if_neg (fun q => own_ne (a := a) (show (1 : Int32) ≠ 2 by decide) q.1)]
    rw [if_pos ⟨rfl, hp⟩]
  · intro hp
    unfold own_putF
    rw [if_neg (fun q => own_ne (a := a) (show (2 : Int32) ≠ 7 by decide) q.1)]
    rw [if_neg (fun q => own_ne (a := a) (show (2 : Int32) ≠ 6 by decide) q.1)]
    rw [if_neg (fun q => own_ne (a := a) (show (2 : Int32) ≠ 5 by decide) q.1)]
    rw [if_neg (fun q => own_ne (a := a) (show (2 : Int32) ≠ 4 by decide) q.1)]
    rw [if_neg (fun q => own_ne (a := a) (show (2 : Int32) ≠ 3 by decide) q.1)]
    rw [if_pos ⟨rfl, hp⟩]
  · intro hp
    unfold own_putF
    rw [if_neg (fun q => own_ne (a := a) (show (3 : Int32) ≠ 7 by decide) q.1)]
    rw [if_neg (fun q => own_ne (a := a) (show (3 : Int32) ≠ 6 by decide) q.1)]
    rw [if_neg (fun q => own_ne (a := a) (show (3 : Int32) ≠ 5 by decide) q.1)]
    rw [if_neg (fun q => own_ne (a := a) (show (3 : Int32) ≠ 4 by decide) q.1)]
    rw [if_pos ⟨rfl, hp⟩]
  · intro hp
    unfold own_putF
    rw [if_neg (fun q => own_ne (a := a) (show (4 : Int32) ≠ 7 by decide) q.1)]
    rw [if_neg (fun q => own_ne (a := a) (show (4 : Int32) ≠ 6 by decide) q.1)]
    rw [if_neg (fun q => own_ne (a := a) (show (4 : Int32) ≠ 5 by decide) q.1)]
    rw [if_pos ⟨rfl, hp⟩]
  · intro hp
    unfold own_putF
    rw [if_neg (fun q => own_ne (a := a) (show (5 : Int32) ≠ 7 by decide) q.1)]
    rw [if_neg (fun q => own_ne (a := a) (show (5 : Int32) ≠ 6 by decide) q.1)]
    rw [if_pos ⟨rfl, hp⟩]
  · intro hp
    unfold own_putF
    rw [if_neg (fun q => own_ne (a := a) (show (6 : Int32) ≠ 7 by decide) q.1)]
    rw [if_pos ⟨rfl, hp⟩]
  · intro hp
    unfold own_putF
    rw [if_pos ⟨rfl, hp⟩]
theorem own_unt1 {f a w j : Int32} {v : Int64} (h : 0 ≤ a.toInt ∧ a.toInt + w.toInt ≤ 12) (hw : 0 ≤ w.toInt ∧ w.toInt ≤ 8) (hj : 0 ≤ j.toInt ∧ j.toInt ≤ 11) : ¬ own_unt (own_putF (fun _ => f) a v w) j a w f = 0 := by
  have key : (j < a ∨ ¬ j < a + w) → own_putF (fun _ => f) a v w j = f := by
    intro hq
    simp only [Int32.lt_iff_toInt_lt, own_add (a := a) (b := w) (by omega) (by omega)] at hq
    unfold own_putF
    rw [if_neg (fun q => by have e := congrArg Int32.toInt q.1; have l := q.2; rw [Int32.lt_iff_toInt_lt, show (7 : Int32).toInt = 7 from rfl] at l; rw [own_add (by omega) (by decide), show (7 : Int32).toInt = 7 from rfl] at e; omega)]
    rw [if_neg (fun q => by have e := congrArg Int32.toInt q.1; have l := q.2; rw [Int32.lt_iff_toInt_lt, show (6 : Int32).toInt = 6 from rfl] at l; rw [own_add (by omega) (by decide), show (6 : Int32).toInt = 6 from rfl] at e; omega)]
    rw [if_neg (fun q => by have e := congrArg Int32.toInt q.1; have l := q.2; rw [Int32.lt_iff_toInt_lt, show (5 : Int32).toInt = 5 from rfl] at l; rw [own_add (by omega) (by decide), show (5 : Int32).toInt = 5 from rfl] at e; omega)]
    rw [if_neg (fun q => by have e := congrArg Int32.toInt q.1; have l := q.2; rw [Int32.lt_iff_toInt_lt, show (4 : Int32).toInt = 4 from rfl] at l; rw [own_add (by omega) (by decide), show (4 : Int32).toInt = 4 from rfl] at e; omega)]
    rw [if_neg (fun q => by have e := congrArg Int32.toInt q.1; have l := q.2; rw [Int32.lt_iff_toInt_lt, show (3 : Int32).toInt = 3 from rfl] at l; rw [own_add (by omega) (by decide), show (3 : Int32).toInt = 3 from rfl] at e; omega)]
    rw [if_neg (fun q => by have e := congrArg Int32.toInt q.1; have l := q.2; rw [Int32.lt_iff_toInt_lt, show (2 : Int32).toInt = 2 from rfl] at l; rw [own_add (by omega) (by decide), show (2 : Int32).toInt = 2 from rfl] at e; omega)]
    rw [if_neg (fun q => by have e := congrArg Int32.toInt q.1; have l := q.2; rw [Int32.lt_iff_toInt_lt, show (1 : Int32).toInt = 1 from rfl] at l; rw [own_add (by omega) (by decide), show (1 : Int32).toInt = 1 from rfl] at e; omega)]
    rw [if_neg (fun q => by have e := congrArg Int32.toInt q.1; have l := q.2; rw [Int32.lt_iff_toInt_lt, show (0 : Int32).toInt = 0 from rfl] at l; rw [own_add (by omega) (by decide), show (0 : Int32).toInt = 0 from rfl] at e; omega)]
  unfold own_unt
  by_cases h1 : j < a
  · rw [if_pos h1, if_pos (key (Or.inl h1))]; decide
  · rw [if_neg h1]
    by_cases h2 : j < a + w
    · rw [if_pos h2]; decide
    · rw [if_neg h2, if_pos (key (Or.inr h2))]; decide
def own_r1 (tab : Int32 → Int32) (a w : Int32) : Int64 := own_acc tab 0 a 0 w
def own_r2 (tab : Int32 → Int32) (a w : Int32) : Int64 := own_acc tab (own_r1 tab a w) a 1 w
def own_r3 (tab : Int32 → Int32) (a w : Int32) : Int64 := own_acc tab (own_r2 tab a w) a 2 w
def own_r4 (tab : Int32 → Int32) (a w : Int32) : Int64 := own_acc tab (own_r3 tab a w) a 3 w
def own_r5 (tab : Int32 → Int32) (a w : Int32) : Int64 := own_acc tab (own_r4 tab a w) a 4 w
def own_r6 (tab : Int32 → Int32) (a w : Int32) : Int64 := own_acc tab (own_r5 tab a w) a 5 w
def own_r7 (tab : Int32 → Int32) (a w : Int32) : Int64 := own_acc tab (own_r6 tab a w) a 6 w
def own_r8 (tab : Int32 → Int32) (a w : Int32) : Int64 := own_acc tab (own_r7 tab a w) a 7 w
def own_R (tab : Int32 → Int32) (a w : Int32) : Int64 := own_r8 tab a w
theorem own_255 (i : Nat) : (255#32 : BitVec 32).getLsbD i = decide (i < 8) := by
  rw [BitVec.getLsbD_ofNat]
  have : (255 : Nat) = 2 ^ 8 - 1 := rfl
  rw [this, Nat.testBit_two_pow_sub_one]
  by_cases h : i < 8 <;> simp [h] <;> omega
theorem own_255' (i : Nat) : (255#64 : BitVec 64).getLsbD i = decide (i < 8) := by
  rw [BitVec.getLsbD_ofNat]
  have : (255 : Nat) = 2 ^ 8 - 1 := rfl
  rw [this, Nat.testBit_two_pow_sub_one]
  by_cases h : i < 8 <;> simp [h] <;> omega
theorem own_low8 (b : BitVec 64) : ((((b.signExtend 32).signExtend 8).signExtend 32 &&& 255#32).signExtend 64) = b &&& 255#64 := by
  apply BitVec.eq_of_getLsbD_eq
  intro i hi
  have hmsb : ((((b.signExtend 32).signExtend 8).signExtend 32 &&& 255#32)).msb = false := by
    rw [BitVec.msb_eq_getLsbD_last, BitVec.getLsbD_and, own_255]; simp
  have r : (b &&& 255#64).getLsbD i = (b.getLsbD i && decide (i < 8)) := by rw [BitVec.getLsbD_and, own_255']
  rw [BitVec.getLsbD_signExtend, hmsb, r]
  by_cases h8 : i < 8
  · have h32 : i < 32 := by omega
    rw [if_pos h32, BitVec.getLsbD_and, own_255, BitVec.getLsbD_signExtend, if_pos h8, BitVec.getLsbD_signExtend, if_pos h32, BitVec.getLsbD_signExtend, if_pos hi, decide_eq_true h8, decide_eq_true h32, decide_eq_true hi]
    simp
  · simp [h8, BitVec.getLsbD_and, own_255]
theorem own_and255 (b : BitVec 64) : (b &&& 255#64).toNat = b.toNat % 256 := by
  rw [BitVec.toNat_and]
  have : (255#64 : BitVec 64).toNat = 2 ^ 8 - 1 := rfl
  rw [this, Nat.and_two_pow_sub_one_eq_mod]
theorem own_bv0 (v : Int64) : ((own_byte v (0 : Int32)) &&& (255 : Int32)).toInt64.toBitVec.toNat = (v.toBitVec.toNat / 2 ^ 0) % 256 := by
  have e : ((own_byte v (0 : Int32)) &&& (255 : Int32)).toInt64.toBitVec = (v.toBitVec >>> 0) &&& 255#64 := own_low8 (v.toBitVec >>> 0)
  rw [e, own_and255, BitVec.toNat_ushiftRight, Nat.shiftRight_eq_div_pow]
theorem own_bv1 (v : Int64) : ((own_byte v (8 : Int32)) &&& (255 : Int32)).toInt64.toBitVec.toNat = (v.toBitVec.toNat / 2 ^ 8) % 256 := by
  have e : ((own_byte v (8 : Int32)) &&& (255 : Int32)).toInt64.toBitVec = (v.toBitVec >>> 8) &&& 255#64 := own_low8 (v.toBitVec >>> 8)
  rw [e, own_and255, BitVec.toNat_ushiftRight, Nat.shiftRight_eq_div_pow]
theorem own_bv2 (v : Int64) : ((own_byte v (16 : Int32)) &&& (255 : Int32)).toInt64.toBitVec.toNat = (v.toBitVec.toNat / 2 ^ 16) % 256 := by
  have e : ((own_byte v (16 : Int32)) &&& (255 : Int32)).toInt64.toBitVec = (v.toBitVec >>> 16) &&& 255#64 := own_low8 (v.toBitVec >>> 16)
  rw [e, own_and255, BitVec.toNat_ushiftRight, Nat.shiftRight_eq_div_pow]
theorem own_bv3 (v : Int64) : ((own_byte v (24 : Int32)) &&& (255 : Int32)).toInt64.toBitVec.toNat = (v.toBitVec.toNat / 2 ^ 24) % 256 := by
  have e : ((own_byte v (24 : Int32)) &&& (255 : Int32)).toInt64.toBitVec = (v.toBitVec >>> 24) &&& 255#64 := own_low8 (v.toBitVec >>> 24)
  rw [e, own_and255, BitVec.toNat_ushiftRight, Nat.shiftRight_eq_div_pow]
theorem own_bv4 (v : Int64) : ((own_byte v (32 : Int32)) &&& (255 : Int32)).toInt64.toBitVec.toNat = (v.toBitVec.toNat / 2 ^ 32) % 256 := by
  have e : ((own_byte v (32 : Int32)) &&& (255 : Int32)).toInt64.toBitVec = (v.toBitVec >>> 32) &&& 255#64 := own_low8 (v.toBitVec >>> 32)
  rw [e, own_and255, BitVec.toNat_ushiftRight, Nat.shiftRight_eq_div_pow]
theorem own_bv5 (v : Int64) : ((own_byte v (40 : Int32)) &&& (255 : Int32)).toInt64.toBitVec.toNat = (v.toBitVec.toNat / 2 ^ 40) % 256 := by
  have e : ((own_byte v (40 : Int32)) &&& (255 : Int32)).toInt64.toBitVec = (v.toBitVec >>> 40) &&& 255#64 := own_low8 (v.toBitVec >>> 40)
  rw [e, own_and255, BitVec.toNat_ushiftRight, Nat.shiftRight_eq_div_pow]
theorem own_bv6 (v : Int64) : ((own_byte v (48 : Int32)) &&& (255 : Int32)).toInt64.toBitVec.toNat = (v.toBitVec.toNat / 2 ^ 48) % 256 := by
  have e : ((own_byte v (48 : Int32)) &&& (255 : Int32)).toInt64.toBitVec = (v.toBitVec >>> 48) &&& 255#64 := own_low8 (v.toBitVec >>> 48)
  rw [e, own_and255, BitVec.toNat_ushiftRight, Nat.shiftRight_eq_div_pow]
theorem own_bv7 (v : Int64) : ((own_byte v (56 : Int32)) &&& (255 : Int32)).toInt64.toBitVec.toNat = (v.toBitVec.toNat / 2 ^ 56) % 256 := by
  have e : ((own_byte v (56 : Int32)) &&& (255 : Int32)).toInt64.toBitVec = (v.toBitVec >>> 56) &&& 255#64 := own_low8 (v.toBitVec >>> 56)
  rw [e, own_and255, BitVec.toNat_ushiftRight, Nat.shiftRight_eq_div_pow]
theorem own_step (r y : Int64) (V : Nat) (i m : Nat) (hi : i ≤ 7) (hr : r.toBitVec.toNat = (V / 2 ^ (8 * m + 8)) % 2 ^ (8 * i)) (hy : y.toBitVec.toNat = (V / 2 ^ (8 * m)) % 256) : ((r <<< ((8 : Int32) &&& 0x3f).toInt64) ||| y).toBitVec.toNat = (V / 2 ^ (8 * m)) % 2 ^ (8 * (i + 1)) := by
  have hp : (2 : Nat) ^ (8 * i) ≤ 2 ^ 56 := Nat.pow_le_pow_right (by decide) (by omega)
  have hlt : r.toBitVec.toNat < 2 ^ (8 * i) := by rw [hr]; exact Nat.mod_lt _ (Nat.pow_pos (by decide))
  have e1 : ((r <<< ((8 : Int32) &&& 0x3f).toInt64) ||| y).toBitVec = (r.toBitVec <<< 8) ||| y.toBitVec := rfl
  have e2 : (r.toBitVec <<< 8).toNat = r.toBitVec.toNat * 256 := by
    rw [BitVec.toNat_shiftLeft, Nat.shiftLeft_eq]
    exact Nat.mod_eq_of_lt (by omega)
  have hy8 : y.toBitVec.toNat < 2 ^ 8 := by rw [hy]; exact Nat.mod_lt _ (by decide)
  rw [e1, BitVec.toNat_or, e2]
  have e3 : r.toBitVec.toNat * 256 ||| y.toBitVec.toNat = r.toBitVec.toNat * 256 + y.toBitVec.toNat := by
    have := Nat.shiftLeft_add_eq_or_of_lt hy8 r.toBitVec.toNat
    rw [Nat.shiftLeft_eq] at this
    exact this.symm
  rw [e3, hr, hy]
  generalize hW : V / 2 ^ (8 * m) = W
  have e4 : V / 2 ^ (8 * m + 8) = W / 256 := by rw [← hW, Nat.div_div_eq_div_mul, Nat.pow_add]
  rw [e4, show 8 * (i + 1) = 8 + 8 * i by omega, Nat.pow_add, Nat.mod_mul]
  have : (2 : Nat) ^ 8 = 256 := rfl
  rw [this, Nat.mul_comm 256, Nat.add_comm]
theorem own_R0 (f a : Int32) (v : Int64) : (own_R (own_putF (fun _ => f) a v (0 : Int32)) a (0 : Int32)).toBitVec.toNat = v.toBitVec.toNat % 2 ^ 0 := by
  obtain ⟨b0, b1, b2, b3, b4, b5, b6, b7⟩ := own_at_p (tab := fun _ => f) (a := a) (v := v) (w := (0 : Int32))
  have s0 : (0 : Int64).toBitVec.toNat = 0 := rfl
  unfold own_R own_r8 own_r7 own_r6 own_r5 own_r4 own_r3 own_r2 own_r1 own_acc
  simp only [show ((0 : Int32) < (0 : Int32)) = False by simp, show ((1 : Int32) < (0 : Int32)) = False by simp, show ((2 : Int32) < (0 : Int32)) = False by simp, show ((3 : Int32) < (0 : Int32)) = False by simp, show ((4 : Int32) < (0 : Int32)) = False by simp, show ((5 : Int32) < (0 : Int32)) = False by simp, show ((6 : Int32) < (0 : Int32)) = False by simp, show ((7 : Int32) < (0 : Int32)) = False by simp, if_true, if_false]
  simp [Nat.mod_one]
theorem own_R1 (f a : Int32) (v : Int64) : (own_R (own_putF (fun _ => f) a v (1 : Int32)) a (1 : Int32)).toBitVec.toNat = v.toBitVec.toNat % 2 ^ 8 := by
  obtain ⟨b0, b1, b2, b3, b4, b5, b6, b7⟩ := own_at_p (tab := fun _ => f) (a := a) (v := v) (w := (1 : Int32))
  have s0 : (0 : Int64).toBitVec.toNat = (v.toBitVec.toNat / 2 ^ (8 * 0 + 8)) % 2 ^ (8 * 0) := by simp [Nat.mod_one]
  have y0 : ((own_putF (fun _ => f) a v (1 : Int32) (a + 0)) &&& (255 : Int32)).toInt64.toBitVec.toNat = (v.toBitVec.toNat / 2 ^ (8 * 0)) % 256 := by rw [b0 (by decide)]; exact own_bv0 v
  have s1 := own_step _ _ v.toBitVec.toNat 0 0 (by decide) s0 y0
  unfold own_R own_r8 own_r7 own_r6 own_r5 own_r4 own_r3 own_r2 own_r1 own_acc
  simp only [show ((0 : Int32) < (1 : Int32)) = True by simp, show ((1 : Int32) < (1 : Int32)) = False by simp, show ((2 : Int32) < (1 : Int32)) = False by simp, show ((3 : Int32) < (1 : Int32)) = False by simp, show ((4 : Int32) < (1 : Int32)) = False by simp, show ((5 : Int32) < (1 : Int32)) = False by simp, show ((6 : Int32) < (1 : Int32)) = False by simp, show ((7 : Int32) < (1 : Int32)) = False by simp, if_true, if_false]
  refine s1.trans ?_
  simp
theorem own_R2 (f a : Int32) (v : Int64) : (own_R (own_putF (fun _ => f) a v (2 : Int32)) a (2 : Int32)).toBitVec.toNat = v.toBitVec.toNat % 2 ^ 16 := by
  obtain ⟨b0, b1, b2, b3, b4, b5, b6, b7⟩ := own_at_p (tab := fun _ => f) (a := a) (v := v) (w := (2 : Int32))
  have s0 : (0 : Int64).toBitVec.toNat = (v.toBitVec.toNat / 2 ^ (8 * 1 + 8)) % 2 ^ (8 * 0) := by simp [Nat.mod_one]
  have y0 : ((own_putF (fun _ => f) a v (2 : Int32) (a + 0)) &&& (255 : Int32)).toInt64.toBitVec.toNat = (v.toBitVec.toNat / 2 ^ (8 * 1)) % 256 := by rw [b0 (by decide)]; exact own_bv1 v
  have s1 := own_step _ _ v.toBitVec.toNat 0 1 (by decide) s0 y0
  have y1 : ((own_putF (fun _ => f) a v (2 : Int32) (a + 1)) &&& (255 : Int32)).toInt64.toBitVec.toNat = (v.toBitVec.toNat / 2 ^ (8 * 0)) % 256 := by rw [b1 (by decide)]; exact own_bv0 v
  have s2 := own_step _ _ v.toBitVec.toNat 1 0 (by decide) s1 y1
  unfold own_R own_r8 own_r7 own_r6 own_r5 own_r4 own_r3 own_r2 own_r1 own_acc
  simp only [show ((0 : Int32) < (2 : Int32)) = True by simp, show ((1 : Int32) < (2 : Int32)) = True by simp, show ((2 : Int32) < (2 : Int32)) = False by simp, show ((3 : Int32) < (2 : Int32)) = False by simp, show ((4 : Int32) < (2 : Int32)) = False by simp, show ((5 : Int32) < (2 : Int32)) = False by simp, show ((6 : Int32) < (2 : Int32)) = False by simp, show ((7 : Int32) < (2 : Int32)) = False by simp, if_true, if_false]
  refine s2.trans ?_
  simp
theorem own_R3 (f a : Int32) (v : Int64) : (own_R (own_putF (fun _ => f) a v (3 : Int32)) a (3 : Int32)).toBitVec.toNat = v.toBitVec.toNat % 2 ^ 24 := by
  obtain ⟨b0, b1, b2, b3, b4, b5, b6, b7⟩ := own_at_p (tab := fun _ => f) (a := a) (v := v) (w := (3 : Int32))
  have s0 : (0 : Int64).toBitVec.toNat = (v.toBitVec.toNat / 2 ^ (8 * 2 + 8)) % 2 ^ (8 * 0) := by simp [Nat.mod_one]
  have y0 : ((own_putF (fun _ => f) a v (3 : Int32) (a + 0)) &&& (255 : Int32)).toInt64.toBitVec.toNat = (v.toBitVec.toNat / 2 ^ (8 * 2)) % 256 := by rw [b0 (by decide)]; exact own_bv2 v
  have s1 := own_step _ _ v.toBitVec.toNat 0 2 (by decide) s0 y0
  have y1 : ((own_putF (fun _ => f) a v (3 : Int32) (a + 1)) &&& (255 : Int32)).toInt64.toBitVec.toNat = (v.toBitVec.toNat / 2 ^ (8 * 1)) % 256 := by rw [b1 (by decide)]; exact own_bv1 v
  have s2 := own_step _ _ v.toBitVec.toNat 1 1 (by decide) s1 y1
  have y2 : ((own_putF (fun _ => f) a v (3 : Int32) (a + 2)) &&& (255 : Int32)).toInt64.toBitVec.toNat = (v.toBitVec.toNat / 2 ^ (8 * 0)) % 256 := by rw [b2 (by decide)]; exact own_bv0 v
  have s3 := own_step _ _ v.toBitVec.toNat 2 0 (by decide) s2 y2
  unfold own_R own_r8 own_r7 own_r6 own_r5 own_r4 own_r3 own_r2 own_r1 own_acc
  simp only [show ((0 : Int32) < (3 : Int32)) = True by simp, show ((1 : Int32) < (3 : Int32)) = True by simp, show ((2 : Int32) < (3 : Int32)) = True by simp, show ((3 : Int32) < (3 : Int32)) = False by simp, show ((4 : Int32) < (3 : Int32)) = False by simp, show ((5 : Int32) < (3 : Int32)) = False by simp, show ((6 : Int32) < (3 : Int32)) = False by simp, show ((7 : Int32) < (3 : Int32)) = False by simp, if_true, if_false]
  refine s3.trans ?_
  simp
theorem own_R4 (f a : Int32) (v : Int64) : (own_R (own_putF (fun _ => f) a v (4 : Int32)) a (4 : Int32)).toBitVec.toNat = v.toBitVec.toNat % 2 ^ 32 := by
  obtain ⟨b0, b1, b2, b3, b4, b5, b6, b7⟩ := own_at_p (tab := fun _ => f) (a := a) (v := v) (w := (4 : Int32))
  have s0 : (0 : Int64).toBitVec.toNat = (v.toBitVec.toNat / 2 ^ (8 * 3 + 8)) % 2 ^ (8 * 0) := by simp [Nat.mod_one]
  have y0 : ((own_putF (fun _ => f) a v (4 : Int32) (a + 0)) &&& (255 : Int32)).toInt64.toBitVec.toNat = (v.toBitVec.toNat / 2 ^ (8 * 3)) % 256 := by rw [b0 (by decide)]; exact own_bv3 v
  have s1 := own_step _ _ v.toBitVec.toNat 0 3 (by decide) s0 y0
  have y1 : ((own_putF (fun _ => f) a v (4 : Int32) (a + 1)) &&& (255 : Int32)).toInt64.toBitVec.toNat = (v.toBitVec.toNat / 2 ^ (8 * 2)) % 256 := by rw [b1 (by decide)]; exact own_bv2 v
  have s2 := own_step _ _ v.toBitVec.toNat 1 2 (by decide) s1 y1
  have y2 : ((own_putF (fun _ => f) a v (4 : Int32) (a + 2)) &&& (255 : Int32)).toInt64.toBitVec.toNat = (v.toBitVec.toNat / 2 ^ (8 * 1)) % 256 := by rw [b2 (by decide)]; exact own_bv1 v
  have s3 := own_step _ _ v.toBitVec.toNat 2 1 (by decide) s2 y2
  have y3 : ((own_putF (fun _ => f) a v (4 : Int32) (a + 3)) &&& (255 : Int32)).toInt64.toBitVec.toNat = (v.toBitVec.toNat / 2 ^ (8 * 0)) % 256 := by rw [b3 (by decide)]; exact own_bv0 v
  have s4 := own_step _ _ v.toBitVec.toNat 3 0 (by decide) s3 y3
  unfold own_R own_r8 own_r7 own_r6 own_r5 own_r4 own_r3 own_r2 own_r1 own_acc
  simp only [show ((0 : Int32) < (4 : Int32)) = True by simp, show ((1 : Int32) < (4 : Int32)) = True by simp, show ((2 : Int32) < (4 : Int32)) = True by simp, show ((3 : Int32) < (4 : Int32)) = True by simp, show ((4 : Int32) < (4 : Int32)) = False by simp, show ((5 : Int32) < (4 : Int32)) = False by simp, show ((6 : Int32) < (4 : Int32)) = False by simp, show ((7 : Int32) < (4 : Int32)) = False by simp, if_true, if_false]
  refine s4.trans ?_
  simp
theorem own_R5 (f a : Int32) (v : Int64) : (own_R (own_putF (fun _ => f) a v (5 : Int32)) a (5 : Int32)).toBitVec.toNat = v.toBitVec.toNat % 2 ^ 40 := by
  obtain ⟨b0, b1, b2, b3, b4, b5, b6, b7⟩ := own_at_p (tab := fun _ => f) (a := a) (v := v) (w := (5 : Int32))
  have s0 : (0 : Int64).toBitVec.toNat = (v.toBitVec.toNat / 2 ^ (8 * 4 + 8)) % 2 ^ (8 * 0) := by simp [Nat.mod_one]
  have y0 : ((own_putF (fun _ => f) a v (5 : Int32) (a + 0)) &&& (255 : Int32)).toInt64.toBitVec.toNat = (v.toBitVec.toNat / 2 ^ (8 * 4)) % 256 := by rw [b0 (by decide)]; exact own_bv4 v
  have s1 := own_step _ _ v.toBitVec.toNat 0 4 (by decide) s0 y0
  have y1 : ((own_putF (fun _ => f) a v (5 : Int32) (a + 1)) &&& (255 : Int32)).toInt64.toBitVec.toNat = (v.toBitVec.toNat / 2 ^ (8 * 3)) % 256 := by rw [b1 (by decide)]; exact own_bv3 v
  have s2 := own_step _ _ v.toBitVec.toNat 1 3 (by decide) s1 y1
  have y2 : ((own_putF (fun _ => f) a v (5 : Int32) (a + 2)) &&& (255 : Int32)).toInt64.toBitVec.toNat = (v.toBitVec.toNat / 2 ^ (8 * 2)) % 256 := by rw [b2 (by decide)]; exact own_bv2 v
  have s3 := own_step _ _ v.toBitVec.toNat 2 2 (by decide) s2 y2
  have y3 : ((own_putF (fun _ => f) a v (5 : Int32) (a + 3)) &&& (255 : Int32)).toInt64.toBitVec.toNat = (v.toBitVec.toNat / 2 ^ (8 * 1)) % 256 := by rw [b3 (by decide)]; exact own_bv1 v
  have s4 := own_step _ _ v.toBitVec.toNat 3 1 (by decide) s3 y3
  have y4 : ((own_putF (fun _ => f) a v (5 : Int32) (a + 4)) &&& (255 : Int32)).toInt64.toBitVec.toNat = (v.toBitVec.toNat / 2 ^ (8 * 0)) % 256 := by rw [b4 (by decide)]; exact own_bv0 v
  have s5 := own_step _ _ v.toBitVec.toNat 4 0 (by decide) s4 y4
  unfold own_R own_r8 own_r7 own_r6 own_r5 own_r4 own_r3 own_r2 own_r1 own_acc
  simp only [show ((0 : Int32) < (5 : Int32)) = True by simp, show ((1 : Int32) < (5 : Int32)) = True by simp, show ((2 : Int32) < (5 : Int32)) = True by simp, show ((3 : Int32) < (5 : Int32)) = True by simp, show ((4 : Int32) < (5 : Int32)) = True by simp, show ((5 : Int32) < (5 : Int32)) = False by simp, show ((6 : Int32) < (5 : Int32)) = False by simp, show ((7 : Int32) < (5 : Int32)) = False by simp, if_true, if_false]
  refine s5.trans ?_
  simp
theorem own_R6 (f a : Int32) (v : Int64) : (own_R (own_putF (fun _ => f) a v (6 : Int32)) a (6 : Int32)).toBitVec.toNat = v.toBitVec.toNat % 2 ^ 48 := by
  obtain ⟨b0, b1, b2, b3, b4, b5, b6, b7⟩ := own_at_p (tab := fun _ => f) (a := a) (v := v) (w := (6 : Int32))
  have s0 : (0 : Int64).toBitVec.toNat = (v.toBitVec.toNat / 2 ^ (8 * 5 + 8)) % 2 ^ (8 * 0) := by simp [Nat.mod_one]
  have y0 : ((own_putF (fun _ => f) a v (6 : Int32) (a + 0)) &&& (255 : Int32)).toInt64.toBitVec.toNat = (v.toBitVec.toNat / 2 ^ (8 * 5)) % 256 := by rw [b0 (by decide)]; exact own_bv5 v
  have s1 := own_step _ _ v.toBitVec.toNat 0 5 (by decide) s0 y0
  have y1 : ((own_putF (fun _ => f) a v (6 : Int32) (a + 1)) &&& (255 : Int32)).toInt64.toBitVec.toNat = (v.toBitVec.toNat / 2 ^ (8 * 4)) % 256 := by rw [b1 (by decide)]; exact own_bv4 v
  have s2 := own_step _ _ v.toBitVec.toNat 1 4 (by decide) s1 y1
  have y2 : ((own_putF (fun _ => f) a v (6 : Int32) (a + 2)) &&& (255 : Int32)).toInt64.toBitVec.toNat = (v.toBitVec.toNat / 2 ^ (8 * 3)) % 256 := by rw [b2 (by decide)]; exact own_bv3 v
  have s3 := own_step _ _ v.toBitVec.toNat 2 3 (by decide) s2 y2
  have y3 : ((own_putF (fun _ => f) a v (6 : Int32) (a + 3)) &&& (255 : Int32)).toInt64.toBitVec.toNat = (v.toBitVec.toNat / 2 ^ (8 * 2)) % 256 := by rw [b3 (by decide)]; exact own_bv2 v
  have s4 := own_step _ _ v.toBitVec.toNat 3 2 (by decide) s3 y3
  have y4 : ((own_putF (fun _ => f) a v (6 : Int32) (a + 4)) &&& (255 : Int32)).toInt64.toBitVec.toNat = (v.toBitVec.toNat / 2 ^ (8 * 1)) % 256 := by rw [b4 (by decide)]; exact own_bv1 v
  have s5 := own_step _ _ v.toBitVec.toNat 4 1 (by decide) s4 y4
  have y5 : ((own_putF (fun _ => f) a v (6 : Int32) (a + 5)) &&& (255 : Int32)).toInt64.toBitVec.toNat = (v.toBitVec.toNat / 2 ^ (8 * 0)) % 256 := by rw [b5 (by decide)]; exact own_bv0 v
  have s6 := own_step _ _ v.toBitVec.toNat 5 0 (by decide) s5 y5
  unfold own_R own_r8 own_r7 own_r6 own_r5 own_r4 own_r3 own_r2 own_r1 own_acc
  simp only [show ((0 : Int32) < (6 : Int32)) = True by simp, show ((1 : Int32) < (6 : Int32)) = True by simp, show ((2 : Int32) < (6 : Int32)) = True by simp, show ((3 : Int32) < (6 : Int32)) = True by simp, show ((4 : Int32) < (6 : Int32)) = True by simp, show ((5 : Int32) < (6 : Int32)) = True by simp, show ((6 : Int32) < (6 : Int32)) = False by simp, show ((7 : Int32) < (6 : Int32)) = False by simp, if_true, if_false]
  refine s6.trans ?_
  simp
theorem own_R7 (f a : Int32) (v : Int64) : (own_R (own_putF (fun _ => f) a v (7 : Int32)) a (7 : Int32)).toBitVec.toNat = v.toBitVec.toNat % 2 ^ 56 := by
  obtain ⟨b0, b1, b2, b3, b4, b5, b6, b7⟩ := own_at_p (tab := fun _ => f) (a := a) (v := v) (w := (7 : Int32))
  have s0 : (0 : Int64).toBitVec.toNat = (v.toBitVec.toNat / 2 ^ (8 * 6 + 8)) % 2 ^ (8 * 0) := by simp [Nat.mod_one]
  have y0 : ((own_putF (fun _ => f) a v (7 : Int32) (a + 0)) &&& (255 : Int32)).toInt64.toBitVec.toNat = (v.toBitVec.toNat / 2 ^ (8 * 6)) % 256 := by rw [b0 (by decide)]; exact own_bv6 v
  have s1 := own_step _ _ v.toBitVec.toNat 0 6 (by decide) s0 y0
  have y1 : ((own_putF (fun _ => f) a v (7 : Int32) (a + 1)) &&& (255 : Int32)).toInt64.toBitVec.toNat = (v.toBitVec.toNat / 2 ^ (8 * 5)) % 256 := by rw [b1 (by decide)]; exact own_bv5 v
  have s2 := own_step _ _ v.toBitVec.toNat 1 5 (by decide) s1 y1
  have y2 : ((own_putF (fun _ => f) a v (7 : Int32) (a + 2)) &&& (255 : Int32)).toInt64.toBitVec.toNat = (v.toBitVec.toNat / 2 ^ (8 * 4)) % 256 := by rw [b2 (by decide)]; exact own_bv4 v
  have s3 := own_step _ _ v.toBitVec.toNat 2 4 (by decide) s2 y2
  have y3 : ((own_putF (fun _ => f) a v (7 : Int32) (a + 3)) &&& (255 : Int32)).toInt64.toBitVec.toNat = (v.toBitVec.toNat / 2 ^ (8 * 3)) % 256 := by rw [b3 (by decide)]; exact own_bv3 v
  have s4 := own_step _ _ v.toBitVec.toNat 3 3 (by decide) s3 y3
  have y4 : ((own_putF (fun _ => f) a v (7 : Int32) (a + 4)) &&& (255 : Int32)).toInt64.toBitVec.toNat = (v.toBitVec.toNat / 2 ^ (8 * 2)) % 256 := by rw [b4 (by decide)]; exact own_bv2 v
  have s5 := own_step _ _ v.toBitVec.toNat 4 2 (by decide) s4 y4
  have y5 : ((own_putF (fun _ => f) a v (7 : Int32) (a + 5)) &&& (255 : Int32)).toInt64.toBitVec.toNat = (v.toBitVec.toNat / 2 ^ (8 * 1)) % 256 := by rw [b5 (by decide)]; exact own_bv1 v
  have s6 := own_step _ _ v.toBitVec.toNat 5 1 (by decide) s5 y5
  have y6 : ((own_putF (fun _ => f) a v (7 : Int32) (a + 6)) &&& (255 : Int32)).toInt64.toBitVec.toNat = (v.toBitVec.toNat / 2 ^ (8 * 0)) % 256 := by rw [b6 (by decide)]; exact own_bv0 v
  have s7 := own_step _ _ v.toBitVec.toNat 6 0 (by decide) s6 y6
  unfold own_R own_r8 own_r7 own_r6 own_r5 own_r4 own_r3 own_r2 own_r1 own_acc
  simp only [show ((0 : Int32) < (7 : Int32)) = True by simp, show ((1 : Int32) < (7 : Int32)) = True by simp, show ((2 : Int32) < (7 : Int32)) = True by simp, show ((3 : Int32) < (7 : Int32)) = True by simp, show ((4 : Int32) < (7 : Int32)) = True by simp, show ((5 : Int32) < (7 : Int32)) = True by simp, show ((6 : Int32) < (7 : Int32)) = True by simp, show ((7 : Int32) < (7 : Int32)) = False by simp, if_true, if_false]
  refine s7.trans ?_
  simp
theorem own_R8 (f a : Int32) (v : Int64) : (own_R (own_putF (fun _ => f) a v (8 : Int32)) a (8 : Int32)).toBitVec.toNat = v.toBitVec.toNat % 2 ^ 64 := by
  obtain ⟨b0, b1, b2, b3, b4, b5, b6, b7⟩ := own_at_p (tab := fun _ => f) (a := a) (v := v) (w := (8 : Int32))
  have s0 : (0 : Int64).toBitVec.toNat = (v.toBitVec.toNat / 2 ^ (8 * 7 + 8)) % 2 ^ (8 * 0) := by simp [Nat.mod_one]
  have y0 : ((own_putF (fun _ => f) a v (8 : Int32) (a + 0)) &&& (255 : Int32)).toInt64.toBitVec.toNat = (v.toBitVec.toNat / 2 ^ (8 * 7)) % 256 := by rw [b0 (by decide)]; exact own_bv7 v
  have s1 := own_step _ _ v.toBitVec.toNat 0 7 (by decide) s0 y0
  have y1 : ((own_putF (fun _ => f) a v (8 : Int32) (a + 1)) &&& (255 : Int32)).toInt64.toBitVec.toNat = (v.toBitVec.toNat / 2 ^ (8 * 6)) % 256 := by rw [b1 (by decide)]; exact own_bv6 v
  have s2 := own_step _ _ v.toBitVec.toNat 1 6 (by decide) s1 y1
  have y2 : ((own_putF (fun _ => f) a v (8 : Int32) (a + 2)) &&& (255 : Int32)).toInt64.toBitVec.toNat = (v.toBitVec.toNat / 2 ^ (8 * 5)) % 256 := by rw [b2 (by decide)]; exact own_bv5 v
  have s3 := own_step _ _ v.toBitVec.toNat 2 5 (by decide) s2 y2
  have y3 : ((own_putF (fun _ => f) a v (8 : Int32) (a + 3)) &&& (255 : Int32)).toInt64.toBitVec.toNat = (v.toBitVec.toNat / 2 ^ (8 * 4)) % 256 := by rw [b3 (by decide)]; exact own_bv4 v
  have s4 := own_step _ _ v.toBitVec.toNat 3 4 (by decide) s3 y3
  have y4 : ((own_putF (fun _ => f) a v (8 : Int32) (a + 4)) &&& (255 : Int32)).toInt64.toBitVec.toNat = (v.toBitVec.toNat / 2 ^ (8 * 3)) % 256 := by rw [b4 (by decide)]; exact own_bv3 v
  have s5 := own_step _ _ v.toBitVec.toNat 4 3 (by decide) s4 y4
  have y5 : ((own_putF (fun _ => f) a v (8 : Int32) (a + 5)) &&& (255 : Int32)).toInt64.toBitVec.toNat = (v.toBitVec.toNat / 2 ^ (8 * 2)) % 256 := by rw [b5 (by decide)]; exact own_bv2 v
  have s6 := own_step _ _ v.toBitVec.toNat 5 2 (by decide) s5 y5
  have y6 : ((own_putF (fun _ => f) a v (8 : Int32) (a + 6)) &&& (255 : Int32)).toInt64.toBitVec.toNat = (v.toBitVec.toNat / 2 ^ (8 * 1)) % 256 := by rw [b6 (by decide)]; exact own_bv1 v
  have s7 := own_step _ _ v.toBitVec.toNat 6 1 (by decide) s6 y6
  have y7 : ((own_putF (fun _ => f) a v (8 : Int32) (a + 7)) &&& (255 : Int32)).toInt64.toBitVec.toNat = (v.toBitVec.toNat / 2 ^ (8 * 0)) % 256 := by rw [b7 (by decide)]; exact own_bv0 v
  have s8 := own_step _ _ v.toBitVec.toNat 7 0 (by decide) s7 y7
  unfold own_R own_r8 own_r7 own_r6 own_r5 own_r4 own_r3 own_r2 own_r1 own_acc
  simp only [show ((0 : Int32) < (8 : Int32)) = True by simp, show ((1 : Int32) < (8 : Int32)) = True by simp, show ((2 : Int32) < (8 : Int32)) = True by simp, show ((3 : Int32) < (8 : Int32)) = True by simp, show ((4 : Int32) < (8 : Int32)) = True by simp, show ((5 : Int32) < (8 : Int32)) = True by simp, show ((6 : Int32) < (8 : Int32)) = True by simp, show ((7 : Int32) < (8 : Int32)) = True by simp, if_true, if_false]
  refine s8.trans ?_
  simp
theorem own_mask64 (v : Int64) (w : Int32) (k : Nat) (hk : k ≤ 7) (hw : w = Int32.ofNat k) : (v &&& (((1 : Int64) <<< (((8 : Int32) * w) &&& 0x3f).toInt64) - (1 : Int64))).toBitVec.toNat = v.toBitVec.toNat % 2 ^ (8 * k) := by
  subst hw
  match k, hk with
  | 0, _ =>
    have e : (v &&& (((1 : Int64) <<< (((8 : Int32) * Int32.ofNat 0) &&& 0x3f).toInt64) - (1 : Int64))).toBitVec = v.toBitVec &&& BitVec.ofNat 64 (2 ^ 0 - 1) := rfl
    rw [e, BitVec.toNat_and, show (BitVec.ofNat 64 (2 ^ 0 - 1)).toNat = 2 ^ 0 - 1 from rfl, Nat.and_two_pow_sub_one_eq_mod]
  | 1, _ =>
    have e : (v &&& (((1 : Int64) <<< (((8 : Int32) * Int32.ofNat 1) &&& 0x3f).toInt64) - (1 : Int64))).toBitVec = v.toBitVec &&& BitVec.ofNat 64 (2 ^ 8 - 1) := rfl
    rw [e, BitVec.toNat_and, show (BitVec.ofNat 64 (2 ^ 8 - 1)).toNat = 2 ^ 8 - 1 from rfl, Nat.and_two_pow_sub_one_eq_mod]
  | 2, _ =>
    have e : (v &&& (((1 : Int64) <<< (((8 : Int32) * Int32.ofNat 2) &&& 0x3f).toInt64) - (1 : Int64))).toBitVec = v.toBitVec &&& BitVec.ofNat 64 (2 ^ 16 - 1) := rfl
    rw [e, BitVec.toNat_and, show (BitVec.ofNat 64 (2 ^ 16 - 1)).toNat = 2 ^ 16 - 1 from rfl, Nat.and_two_pow_sub_one_eq_mod]
  | 3, _ =>
    have e : (v &&& (((1 : Int64) <<< (((8 : Int32) * Int32.ofNat 3) &&& 0x3f).toInt64) - (1 : Int64))).toBitVec = v.toBitVec &&& BitVec.ofNat 64 (2 ^ 24 - 1) := rfl
    rw [e, BitVec.toNat_and, show (BitVec.ofNat 64 (2 ^ 24 - 1)).toNat = 2 ^ 24 - 1 from rfl, Nat.and_two_pow_sub_one_eq_mod]
  | 4, _ =>
    have e : (v &&& (((1 : Int64) <<< (((8 : Int32) * Int32.ofNat 4) &&& 0x3f).toInt64) - (1 : Int64))).toBitVec = v.toBitVec &&& BitVec.ofNat 64 (2 ^ 32 - 1) := rfl
    rw [e, BitVec.toNat_and, show (BitVec.ofNat 64 (2 ^ 32 - 1)).toNat = 2 ^ 32 - 1 from rfl, Nat.and_two_pow_sub_one_eq_mod]
  | 5, _ =>
    have e : (v &&& (((1 : Int64) <<< (((8 : Int32) * Int32.ofNat 5) &&& 0x3f).toInt64) - (1 : Int64))).toBitVec = v.toBitVec &&& BitVec.ofNat 64 (2 ^ 40 - 1) := rfl
    rw [e, BitVec.toNat_and, show (BitVec.ofNat 64 (2 ^ 40 - 1)).toNat = 2 ^ 40 - 1 from rfl, Nat.and_two_pow_sub_one_eq_mod]
  | 6, _ =>
    have e : (v &&& (((1 : Int64) <<< (((8 : Int32) * Int32.ofNat 6) &&& 0x3f).toInt64) - (1 : Int64))).toBitVec = v.toBitVec &&& BitVec.ofNat 64 (2 ^ 48 - 1) := rfl
    rw [e, BitVec.toNat_and, show (BitVec.ofNat 64 (2 ^ 48 - 1)).toNat = 2 ^ 48 - 1 from rfl, Nat.and_two_pow_sub_one_eq_mod]
  | 7, _ =>
    have e : (v &&& (((1 : Int64) <<< (((8 : Int32) * Int32.ofNat 7) &&& 0x3f).toInt64) - (1 : Int64))).toBitVec = v.toBitVec &&& BitVec.ofNat 64 (2 ^ 56 - 1) := rfl
    rw [e, BitVec.toNat_and, show (BitVec.ofNat 64 (2 ^ 56 - 1)).toNat = 2 ^ 56 - 1 from rfl, Nat.and_two_pow_sub_one_eq_mod]
theorem own_eq8 (f a p : Int32) (v : Int64) (h : own_w p = 8) : lcmpW (own_R (own_putF (fun _ => f) a v (own_w p)) a (own_w p)) v = 0 := by
  rw [lcW, lc_eq, h]
  apply Int64.toBitVec_inj.mp
  apply BitVec.eq_of_toNat_eq
  rw [own_R8]
  exact Nat.mod_eq_of_lt v.toBitVec.isLt
theorem own_eq7 (f a p : Int32) (v : Int64) (h : ¬ own_w p = 8) : lcmpW (own_R (own_putF (fun _ => f) a v (own_w p)) a (own_w p)) (v &&& (((1 : Int64) <<< (((8 : Int32) * (own_w p)) &&& 0x3f).toInt64) - (1 : Int64))) = 0 := by
  rw [lcW, lc_eq]
  apply Int64.toBitVec_inj.mp
  apply BitVec.eq_of_toNat_eq
  rcases own_wc p with q | q | q | q | q | q | q | q | q
  · rw [q, own_R0, own_mask64 v (0 : Int32) 0 (by decide) rfl]
  · rw [q, own_R1, own_mask64 v (1 : Int32) 1 (by decide) rfl]
  · rw [q, own_R2, own_mask64 v (2 : Int32) 2 (by decide) rfl]
  · rw [q, own_R3, own_mask64 v (3 : Int32) 3 (by decide) rfl]
  · rw [q, own_R4, own_mask64 v (4 : Int32) 4 (by decide) rfl]
  · rw [q, own_R5, own_mask64 v (5 : Int32) 5 (by decide) rfl]
  · rw [q, own_R6, own_mask64 v (6 : Int32) 6 (by decide) rfl]
  · rw [q, own_R7, own_mask64 v (7 : Int32) 7 (by decide) rfl]
  · exact absurd q h
theorem own_untv {tb : Int32 → Int32} {f a w j : Int32} {v : Int64} (e : tb = own_putF (fun _ => f) a v w) (h : 0 ≤ a.toInt ∧ a.toInt + w.toInt ≤ 12) (hw : 0 ≤ w.toInt ∧ w.toInt ≤ 8) (hj : 0 ≤ j.toInt ∧ j.toInt ≤ 11) : ¬ own_unt tb j a w f = 0 := by rw [e]; exact own_unt1 h hw hj
theorem pd_0 : parseMethodDescriptor "([BIJI)I" = some ⟨[(.array .byte), .int, .long, .int], some .int⟩ := by decide +kernel
theorem pd_1 : parseMethodDescriptor "(J[BIII)J" = some ⟨[.long, (.array .byte), .int, .int, .int], some .long⟩ := by decide +kernel
theorem pd_2 : parseMethodDescriptor "([BIIIB)Z" = some ⟨[(.array .byte), .int, .int, .int, .byte], some .boolean⟩ := by decide +kernel
theorem ef_0 (m : MethodId) (x0 : Int64) (x1 : Int32) (x2 : Int32) (x3 : Int32) : entryFrame m #[(.long x0), (.int x1), (.int x2), (.int x3)] maxLocals = mkF m 0 #[.val (.long x0), .second, .val (.int x1), .val (.int x2), .val (.int x3), .unset, .unset, .unset, .unset, .unset, .unset, .unset, .unset, .unset] [] := by first | (simp [entryFrame, mkF, argsToLocals, Value.category, maxLocals]; done) | rfl
def Q_rm_law (Z : State) (q0 : Int64) (p0 : Int32) (p1 : Int32) (p2 : Int32) (h0 : Heap) (n0 : Nat) (v : Option Value) (h : Heap) (L : List Loc) : Prop := v = some (.int (1 : Int32)) ∧ Fr n0 L ∧ True
set_option maxRecDepth 65536 in
set_option maxHeartbeats 40000000 in
theorem rm_law (l : Launch) (Z : State) (a0 : Array Value) (hw : ∀ d ∈ tables_1, d.before a0 Z = true) (ws : List Jvm.Cond) (q0 : Int64) (p0 : Int32) (p1 : Int32) (p2 : Int32) (h0 : Heap) (n0 : Nat) (Z0 : n0 ≤ h0.size)  :
    MetFree l x (head1 (Jvm.Cond.code x code maxLocals ret :: ws) room_1) (fun a U => a = #[(.long q0), (.int p0), (.int p1), (.int p2)] ∧ Z.Warmed39 U.vm ∧ U.heap = h0) (fun _ _ _ _ _ => True) (fun _ U o U' => ∃ v L, o = .returned v ∧ Q_rm_law Z q0 p0 p1 p2 h0 n0 v U'.heap L ∧ FrameEnd U o U' L room_1.cells room_1.slots) := by
  refine MetFree.of_bodySF (plainFor_of_name pn_1) hisR ?_
  intro p e s m args below meth c s₁ Bd hml0 hP hK
  obtain ⟨rfl, hZ, hh⟩ := hP
  have hx := Bd.exec
  have hby := Bd.bytes
  have hml : c.maxLocals = 14 := hml0
  have hown : s.vm.findClass "com/example/fyfo/fyfo/BigEndianPutPinLaw" = some m.cls := findClass_of_methodNamed Bd.named
  have hnm := (name_of_methodNamed Bd.named Bd.method).1
  have X0 : Stand p l e room_1 s m #[(.long q0), (.int p0), (.int p1), (.int p2)] below meth c s₁ [] 0 0 := Stand.of_body Bd
  have e0 : s₁.heap = h0 := by rw [← hh, Bd.state]; rfl
  have N0 := Fr.nil n0
  have pre0 : ∀ t, Steps p.tables e below (s₁.setTop (mkF m 0 #[.val (.long q0), .second, .val (.int p0), .val (.int p1), .val (.int p2), .unset, .unset, .unset, .unset, .unset, .unset, .unset, .unset, .unset] [])) t → Steps p.tables e below (s₁.setTop (entryFrame m #[(.long q0), (.int p0), (.int p1), (.int p2)] maxLocals)) t := fun t k => castTop (ef_0 m q0 p0 p1 p2) k
  obtain ⟨ww, h_ww⟩ : ∃ z : Int32, z = ((p0 &&& (2147483647 : Int32)) % (9 : Int32)) := ⟨_, rfl⟩
  have hwc : ww = (0 : Int32) ∨ ww = (1 : Int32) ∨ ww = (2 : Int32) ∨ ww = (3 : Int32) ∨ ww = (4 : Int32) ∨ ww = (5 : Int32) ∨ ww = (6 : Int32) ∨ ww = (7 : Int32) ∨ ww = (8 : Int32) := by rw [h_ww]; exact own_wc p0
  have hwb : 0 ≤ ww.toInt ∧ ww.toInt ≤ 8 := by rw [h_ww]; exact own_wb p0
  obtain ⟨aa, h_aa⟩ : ∃ z : Int32, z = ((p1 &&& (2147483647 : Int32)) % ((13 : Int32) - ww)) := ⟨_, rfl⟩
  have hat : 0 ≤ aa.toInt ∧ aa.toInt + ww.toInt ≤ 12 := by rw [h_aa, h_ww]; exact own_atb p0 p1
  obtain ⟨fl, h_fl⟩ : ∃ z : Int32, z = p2.toInt8.toInt32 := ⟨_, rfl⟩
  obtain ⟨T1, h1, k1, X1, e1, E1, A1, st1⟩ := newP X0 hx hZ (hw _ (List.mem_of_getElem? (i := 1) rfl)) e0 (g := (mkF m 28 #[.val (.long q0), .second, .val (.int p0), .val (.int p1), .val (.int p2), .val (.int ww), .val (.int aa), .val (.int fl), .unset, .unset, .unset, .unset, .unset, .unset] [(.int (12 : Int32))])) rfl (hb hby at_28) rfl (by decide) (cap := 12) (by decide) (by decide) (by decide) (by decide)
  obtain ⟨b1, g1⟩ : ∃ z, z = h0.size := ⟨_, rfl⟩
  rw [← g1] at A1 st1
  have g_b1 : n0 ≤ b1 := Nat.le_trans Z0 (Nat.le_of_eq g1.symm)
  have Z1 : n0 ≤ h1.size := Nat.le_trans Z0 E1.1
  have V_b1 : Arv Z h1 b1 k1 .byte (12 : Int32) [(.int (0 : Int32)), (.int (0 : Int32)), (.int (0 : Int32)), (.int (0 : Int32)), (.int (0 : Int32)), (.int (0 : Int32)), (.int (0 : Int32)), (.int (0 : Int32)), (.int (0 : Int32)), (.int (0 : Int32)), (.int (0 : Int32)), (.int (0 : Int32))] (.int (0 : Int32)) := (Arv.new A1 (by decide)).pad (pad_rep [] (.int (0 : Int32)) 12)
  obtain ⟨cl2, Ar2, qk2, S2, N2', H2, G2⟩ := (id V_b1)
  have hin2 : ¬ ((0 : Int32) < 0 ∨ cl2.slots.size ≤ ((0 : Int32)).toNatClampNeg) := inb_of S2 ⟨by decide, by decide⟩
  obtain ⟨T3, h3, X3, e3, W3, st3⟩ := stB X1 hx hZ e1 Ar2 (j := (0 : Int32)) hin2 (g := (mkF m 34 #[.val (.long q0), .second, .val (.int p0), .val (.int p1), .val (.int p2), .val (.int ww), .val (.int aa), .val (.int fl), .unset, .unset, .unset, .unset, .unset, .unset] [(.int fl), (.int (0 : Int32)), (.ref b1), (.ref b1)])) rfl rfl (hb hby at_34)
  have V3 : Arv Z h3 b1 k1 .byte (12 : Int32) [(.int fl.toInt8.toInt32), (.int (0 : Int32)), (.int (0 : Int32)), (.int (0 : Int32)), (.int (0 : Int32)), (.int (0 : Int32)), (.int (0 : Int32)), (.int (0 : Int32)), (.int (0 : Int32)), (.int (0 : Int32)), (.int (0 : Int32)), (.int (0 : Int32))] (.int (0 : Int32)) := Arv.set Ar2 qk2 S2 N2' H2 G2 (fits_nar_byte _) W3 0 rfl (Nat.le_of_ble_eq_true rfl)
  have N3 := Fr.snoc X3 N0 g_b1
  have Z3 : n0 ≤ h3.size := Nat.le_trans Z1 (Keep.of_wr W3).1
  obtain ⟨cl4, Ar4, qk4, S4, N4', H4, G4⟩ := (id V3)
  have hin4 : ¬ ((1 : Int32) < 0 ∨ cl4.slots.size ≤ ((1 : Int32)).toNatClampNeg) := inb_of S4 ⟨by decide, by decide⟩
  obtain ⟨T5, h5, X5, e5, W5, st5⟩ := stB X3 hx hZ e3 Ar4 (j := (1 : Int32)) hin4 (g := (mkF m 39 #[.val (.long q0), .second, .val (.int p0), .val (.int p1), .val (.int p2), .val (.int ww), .val (.int aa), .val (.int fl), .unset, .unset, .unset, .unset, .unset, .unset] [(.int fl), (.int (1 : Int32)), (.ref b1), (.ref b1)])) rfl rfl (hb hby at_39)
  have V5 : Arv Z h5 b1 k1 .byte (12 : Int32) [(.int fl.toInt8.toInt32), (.int fl.toInt8.toInt32), (.int (0 : Int32)), (.int (0 : Int32)), (.int (0 : Int32)), (.int (0 : Int32)), (.int (0 : Int32)), (.int (0 : Int32)), (.int (0 : Int32)), (.int (0 : Int32)), (.int (0 : Int32)), (.int (0 : Int32))] (.int (0 : Int32)) := Arv.set Ar4 qk4 S4 N4' H4 G4 (fits_nar_byte _) W5 1 rfl (Nat.le_of_ble_eq_true rfl)
  have N5 := Fr.snoc X5 N3 g_b1
  have Z5 : n0 ≤ h5.size := Nat.le_trans Z3 (Keep.of_wr W5).1
  obtain ⟨cl6, Ar6, qk6, S6, N6', H6, G6⟩ := (id V5)
  have hin6 : ¬ ((2 : Int32) < 0 ∨ cl6.slots.size ≤ ((2 : Int32)).toNatClampNeg) := inb_of S6 ⟨by decide, by decide⟩
  obtain ⟨T7, h7, X7, e7, W7, st7⟩ := stB X5 hx hZ e5 Ar6 (j := (2 : Int32)) hin6 (g := (mkF m 44 #[.val (.long q0), .second, .val (.int p0), .val (.int p1), .val (.int p2), .val (.int ww), .val (.int aa), .val (.int fl), .unset, .unset, .unset, .unset, .unset, .unset] [(.int fl), (.int (2 : Int32)), (.ref b1), (.ref b1)])) rfl rfl (hb hby at_44)
  have V7 : Arv Z h7 b1 k1 .byte (12 : Int32) [(.int fl.toInt8.toInt32), (.int fl.toInt8.toInt32), (.int fl.toInt8.toInt32), (.int (0 : Int32)), (.int (0 : Int32)), (.int (0 : Int32)), (.int (0 : Int32)), (.int (0 : Int32)), (.int (0 : Int32)), (.int (0 : Int32)), (.int (0 : Int32)), (.int (0 : Int32))] (.int (0 : Int32)) := Arv.set Ar6 qk6 S6 N6' H6 G6 (fits_nar_byte _) W7 2 rfl (Nat.le_of_ble_eq_true rfl)
  have N7 := Fr.snoc X7 N5 g_b1
  have Z7 : n0 ≤ h7.size := Nat.le_trans Z5 (Keep.of_wr W7).1
  obtain ⟨cl8, Ar8, qk8, S8, N8', H8, G8⟩ := (id V7)
  have hin8 : ¬ ((3 : Int32) < 0 ∨ cl8.slots.size ≤ ((3 : Int32)).toNatClampNeg) := inb_of S8 ⟨by decide, by decide⟩
  obtain ⟨T9, h9, X9, e9, W9, st9⟩ := stB X7 hx hZ e7 Ar8 (j := (3 : Int32)) hin8 (g := (mkF m 49 #[.val (.long q0), .second, .val (.int p0), .val (.int p1), .val (.int p2), .val (.int ww), .val (.int aa), .val (.int fl), .unset, .unset, .unset, .unset, .unset, .unset] [(.int fl), (.int (3 : Int32)), (.ref b1), (.ref b1)])) rfl rfl (hb hby at_49)
  have V9 : Arv Z h9 b1 k1 .byte (12 : Int32) [(.int fl.toInt8.toInt32), (.int fl.toInt8.toInt32), (.int fl.toInt8.toInt32), (.int fl.toInt8.toInt32), (.int (0 : Int32)), (.int (0 : Int32)), (.int (0 : Int32)), (.int (0 : Int32)), (.int (0 : Int32)), (.int (0 : Int32)), (.int (0 : Int32)), (.int (0 : Int32))] (.int (0 : Int32)) := Arv.set Ar8 qk8 S8 N8' H8 G8 (fits_nar_byte _) W9 3 rfl (Nat.le_of_ble_eq_true rfl)
  have N9 := Fr.snoc X9 N7 g_b1
  have Z9 : n0 ≤ h9.size := Nat.le_trans Z7 (Keep.of_wr W9).1
  obtain ⟨cl10, Ar10, qk10, S10, N10', H10, G10⟩ := (id V9)
  have hin10 : ¬ ((4 : Int32) < 0 ∨ cl10.slots.size ≤ ((4 : Int32)).toNatClampNeg) := inb_of S10 ⟨by decide, by decide⟩
  obtain ⟨T11, h11, X11, e11, W11, st11⟩ := stB X9 hx hZ e9 Ar10 (j := (4 : Int32)) hin10 (g := (mkF m 54 #[.val (.long q0), .second, .val (.int p0), .val (.int p1), .val (.int p2), .val (.int ww), .val (.int aa), .val (.int fl), .unset, .unset, .unset, .unset, .unset, .unset] [(.int fl), (.int (4 : Int32)), (.ref b1), (.ref b1)])) rfl rfl (hb hby at_54)
  have V11 : Arv Z h11 b1 k1 .byte (12 : Int32) [(.int fl.toInt8.toInt32), (.int fl.toInt8.toInt32), (.int fl.toInt8.toInt32), (.int fl.toInt8.toInt32), (.int fl.toInt8.toInt32), (.int (0 : Int32)), (.int (0 : Int32)), (.int (0 : Int32)), (.int (0 : Int32)), (.int (0 : Int32)), (.int (0 : Int32)), (.int (0 : Int32))] (.int (0 : Int32)) := Arv.set Ar10 qk10 S10 N10' H10 G10 (fits_nar_byte _) W11 4 rfl (Nat.le_of_ble_eq_true rfl)
  have N11 := Fr.snoc X11 N9 g_b1
  have Z11 : n0 ≤ h11.size := Nat.le_trans Z9 (Keep.of_wr W11).1
  obtain ⟨cl12, Ar12, qk12, S12, N12', H12, G12⟩ := (id V11)
  have hin12 : ¬ ((5 : Int32) < 0 ∨ cl12.slots.size ≤ ((5 : Int32)).toNatClampNeg) := inb_of S12 ⟨by decide, by decide⟩
  obtain ⟨T13, h13, X13, e13, W13, st13⟩ := stB X11 hx hZ e11 Ar12 (j := (5 : Int32)) hin12 (g := (mkF m 59 #[.val (.long q0), .second, .val (.int p0), .val (.int p1), .val (.int p2), .val (.int ww), .val (.int aa), .val (.int fl), .unset, .unset, .unset, .unset, .unset, .unset] [(.int fl), (.int (5 : Int32)), (.ref b1), (.ref b1)])) rfl rfl (hb hby at_59)
  have V13 : Arv Z h13 b1 k1 .byte (12 : Int32) [(.int fl.toInt8.toInt32), (.int fl.toInt8.toInt32), (.int fl.toInt8.toInt32), (.int fl.toInt8.toInt32), (.int fl.toInt8.toInt32), (.int fl.toInt8.toInt32), (.int (0 : Int32)), (.int (0 : Int32)), (.int (0 : Int32)), (.int (0 : Int32)), (.int (0 : Int32)), (.int (0 : Int32))] (.int (0 : Int32)) := Arv.set Ar12 qk12 S12 N12' H12 G12 (fits_nar_byte _) W13 5 rfl (Nat.le_of_ble_eq_true rfl)
  have N13 := Fr.snoc X13 N11 g_b1
  have Z13 : n0 ≤ h13.size := Nat.le_trans Z11 (Keep.of_wr W13).1
  obtain ⟨cl14, Ar14, qk14, S14, N14', H14, G14⟩ := (id V13)
  have hin14 : ¬ ((6 : Int32) < 0 ∨ cl14.slots.size ≤ ((6 : Int32)).toNatClampNeg) := inb_of S14 ⟨by decide, by decide⟩
  obtain ⟨T15, h15, X15, e15, W15, st15⟩ := stB X13 hx hZ e13 Ar14 (j := (6 : Int32)) hin14 (g := (mkF m 65 #[.val (.long q0), .second, .val (.int p0), .val (.int p1), .val (.int p2), .val (.int ww), .val (.int aa), .val (.int fl), .unset, .unset, .unset, .unset, .unset, .unset] [(.int fl), (.int (6 : Int32)), (.ref b1), (.ref b1)])) rfl rfl (hb hby at_65)
  have V15 : Arv Z h15 b1 k1 .byte (12 : Int32) [(.int fl.toInt8.toInt32), (.int fl.toInt8.toInt32), (.int fl.toInt8.toInt32), (.int fl.toInt8.toInt32), (.int fl.toInt8.toInt32), (.int fl.toInt8.toInt32), (.int fl.toInt8.toInt32), (.int (0 : Int32)), (.int (0 : Int32)), (.int (0 : Int32)), (.int (0 : Int32)), (.int (0 : Int32))] (.int (0 : Int32)) := Arv.set Ar14 qk14 S14 N14' H14 G14 (fits_nar_byte _) W15 6 rfl (Nat.le_of_ble_eq_true rfl)
  have N15 := Fr.snoc X15 N13 g_b1
  have Z15 : n0 ≤ h15.size := Nat.le_trans Z13 (Keep.of_wr W15).1
  obtain ⟨cl16, Ar16, qk16, S16, N16', H16, G16⟩ := (id V15)
  have hin16 : ¬ ((7 : Int32) < 0 ∨ cl16.slots.size ≤ ((7 : Int32)).toNatClampNeg) := inb_of S16 ⟨by decide, by decide⟩
  obtain ⟨T17, h17, X17, e17, W17, st17⟩ := stB X15 hx hZ e15 Ar16 (j := (7 : Int32)) hin16 (g := (mkF m 71 #[.val (.long q0), .second, .val (.int p0), .val (.int p1), .val (.int p2), .val (.int ww), .val (.int aa), .val (.int fl), .unset, .unset, .unset, .unset, .unset, .unset] [(.int fl), (.int (7 : Int32)), (.ref b1), (.ref b1)])) rfl rfl (hb hby at_71)
  have V17 : Arv Z h17 b1 k1 .byte (12 : Int32) [(.int fl.toInt8.toInt32), (.int fl.toInt8.toInt32), (.int fl.toInt8.toInt32), (.int fl.toInt8.toInt32), (.int fl.toInt8.toInt32), (.int fl.toInt8.toInt32), (.int fl.toInt8.toInt32), (.int fl.toInt8.toInt32), (.int (0 : Int32)), (.int (0 : Int32)), (.int (0 : Int32)), (.int (0 : Int32))] (.int (0 : Int32)) := Arv.set Ar16 qk16 S16 N16' H16 G16 (fits_nar_byte _) W17 7 rfl (Nat.le_of_ble_eq_true rfl)
  have N17 := Fr.snoc X17 N15 g_b1
  have Z17 : n0 ≤ h17.size := Nat.le_trans Z15 (Keep.of_wr W17).1
  obtain ⟨cl18, Ar18, qk18, S18, N18', H18, G18⟩ := (id V17)
  have hin18 : ¬ ((8 : Int32) < 0 ∨ cl18.slots.size ≤ ((8 : Int32)).toNatClampNeg) := inb_of S18 ⟨by decide, by decide⟩
  obtain ⟨T19, h19, X19, e19, W19, st19⟩ := stB X17 hx hZ e17 Ar18 (j := (8 : Int32)) hin18 (g := (mkF m 77 #[.val (.long q0), .second, .val (.int p0), .val (.int p1), .val (.int p2), .val (.int ww), .val (.int aa), .val (.int fl), .unset, .unset, .unset, .unset, .unset, .unset] [(.int fl), (.int (8 : Int32)), (.ref b1), (.ref b1)])) rfl rfl (hb hby at_77)
  have V19 : Arv Z h19 b1 k1 .byte (12 : Int32) [(.int fl.toInt8.toInt32), (.int fl.toInt8.toInt32), (.int fl.toInt8.toInt32), (.int fl.toInt8.toInt32), (.int fl.toInt8.toInt32), (.int fl.toInt8.toInt32), (.int fl.toInt8.toInt32), (.int fl.toInt8.toInt32), (.int fl.toInt8.toInt32), (.int (0 : Int32)), (.int (0 : Int32)), (.int (0 : Int32))] (.int (0 : Int32)) := Arv.set Ar18 qk18 S18 N18' H18 G18 (fits_nar_byte _) W19 8 rfl (Nat.le_of_ble_eq_true rfl)
  have N19 := Fr.snoc X19 N17 g_b1
  have Z19 : n0 ≤ h19.size := Nat.le_trans Z17 (Keep.of_wr W19).1
  obtain ⟨cl20, Ar20, qk20, S20, N20', H20, G20⟩ := (id V19)
  have hin20 : ¬ ((9 : Int32) < 0 ∨ cl20.slots.size ≤ ((9 : Int32)).toNatClampNeg) := inb_of S20 ⟨by decide, by decide⟩
  obtain ⟨T21, h21, X21, e21, W21, st21⟩ := stB X19 hx hZ e19 Ar20 (j := (9 : Int32)) hin20 (g := (mkF m 83 #[.val (.long q0), .second, .val (.int p0), .val (.int p1), .val (.int p2), .val (.int ww), .val (.int aa), .val (.int fl), .unset, .unset, .unset, .unset, .unset, .unset] [(.int fl), (.int (9 : Int32)), (.ref b1), (.ref b1)])) rfl rfl (hb hby at_83)
  have V21 : Arv Z h21 b1 k1 .byte (12 : Int32) [(.int fl.toInt8.toInt32), (.int fl.toInt8.toInt32), (.int fl.toInt8.toInt32), (.int fl.toInt8.toInt32), (.int fl.toInt8.toInt32), (.int fl.toInt8.toInt32), (.int fl.toInt8.toInt32), (.int fl.toInt8.toInt32), (.int fl.toInt8.toInt32), (.int fl.toInt8.toInt32), (.int (0 : Int32)), (.int (0 : Int32))] (.int (0 : Int32)) := Arv.set Ar20 qk20 S20 N20' H20 G20 (fits_nar_byte _) W21 9 rfl (Nat.le_of_ble_eq_true rfl)
  have N21 := Fr.snoc X21 N19 g_b1
  have Z21 : n0 ≤ h21.size := Nat.le_trans Z19 (Keep.of_wr W21).1
  obtain ⟨cl22, Ar22, qk22, S22, N22', H22, G22⟩ := (id V21)
  have hin22 : ¬ ((10 : Int32) < 0 ∨ cl22.slots.size ≤ ((10 : Int32)).toNatClampNeg) := inb_of S22 ⟨by decide, by decide⟩
  obtain ⟨T23, h23, X23, e23, W23, st23⟩ := stB X21 hx hZ e21 Ar22 (j := (10 : Int32)) hin22 (g := (mkF m 89 #[.val (.long q0), .second, .val (.int p0), .val (.int p1), .val (.int p2), .val (.int ww), .val (.int aa), .val (.int fl), .unset, .unset, .unset, .unset, .unset, .unset] [(.int fl), (.int (10 : Int32)), (.ref b1), (.ref b1)])) rfl rfl (hb hby at_89)
  have V23 : Arv Z h23 b1 k1 .byte (12 : Int32) [(.int fl.toInt8.toInt32), (.int fl.toInt8.toInt32), (.int fl.toInt8.toInt32), (.int fl.toInt8.toInt32), (.int fl.toInt8.toInt32), (.int fl.toInt8.toInt32), (.int fl.toInt8.toInt32), (.int fl.toInt8.toInt32), (.int fl.toInt8.toInt32), (.int fl.toInt8.toInt32), (.int fl.toInt8.toInt32), (.int (0 : Int32))] (.int (0 : Int32)) := Arv.set Ar22 qk22 S22 N22' H22 G22 (fits_nar_byte _) W23 10 rfl (Nat.le_of_ble_eq_true rfl)
  have N23 := Fr.snoc X23 N21 g_b1
  have Z23 : n0 ≤ h23.size := Nat.le_trans Z21 (Keep.of_wr W23).1
  obtain ⟨cl24, Ar24, qk24, S24, N24', H24, G24⟩ := (id V23)
  have hin24 : ¬ ((11 : Int32) < 0 ∨ cl24.slots.size ≤ ((11 : Int32)).toNatClampNeg) := inb_of S24 ⟨by decide, by decide⟩
  obtain ⟨T25, h25, X25, e25, W25, st25⟩ := stB X23 hx hZ e23 Ar24 (j := (11 : Int32)) hin24 (g := (mkF m 95 #[.val (.long q0), .second, .val (.int p0), .val (.int p1), .val (.int p2), .val (.int ww), .val (.int aa), .val (.int fl), .unset, .unset, .unset, .unset, .unset, .unset] [(.int fl), (.int (11 : Int32)), (.ref b1), (.ref b1)])) rfl rfl (hb hby at_95)
  have V25 : Arv Z h25 b1 k1 .byte (12 : Int32) [(.int fl.toInt8.toInt32), (.int fl.toInt8.toInt32), (.int fl.toInt8.toInt32), (.int fl.toInt8.toInt32), (.int fl.toInt8.toInt32), (.int fl.toInt8.toInt32), (.int fl.toInt8.toInt32), (.int fl.toInt8.toInt32), (.int fl.toInt8.toInt32), (.int fl.toInt8.toInt32), (.int fl.toInt8.toInt32), (.int fl.toInt8.toInt32)] (.int (0 : Int32)) := Arv.set Ar24 qk24 S24 N24' H24 G24 (fits_nar_byte _) W25 11 rfl (Nat.le_of_ble_eq_true rfl)
  have N25 := Fr.snoc X25 N23 g_b1
  have Z25 : n0 ≤ h25.size := Nat.le_trans Z23 (Keep.of_wr W25).1
  have Vt : own_Tab Z h25 b1 .byte (12 : Int32) (fun j => .int ((fun _ => fl) j)) := own_tab_arv V25 (fun j h1 h2 => (own_rep _ _ j h1 h2).trans (congrArg Value.int (by rw [h_fl]; exact own_b8 p2)))
  obtain ⟨_, _, ⟨T26, L26, k26, n26⟩, -, X26, ⟨Lc26, hQ26, l26, y26, z26⟩, st26⟩ := Jvm.LawKit.callS X25 hx (y := (⟨"com/example/fyfo/fyfo/BigEndian", "put", "([BIJI)I"⟩ : MethodName)) hown (mvT hZ (hw _ (List.mem_of_getElem? (i := 2) rfl))) (mvT hZ (hw _ (List.mem_of_getElem? (i := 3) rfl))) (mvT hZ (hw _ (List.mem_of_getElem? (i := 4) rfl))) (mvT hZ (hw _ (List.mem_of_getElem? (i := 5) rfl))) (by decide) (backOf (W := 0) (rm_put l Z a0 hw [] b1 aa q0 ww (fun _ => fl) h25 n0 Z25 Vt g_b1 hat hwc) hZ (hw _ (List.mem_of_getElem? (i := 5) rfl)) (hw _ (List.mem_of_getElem? (i := 4) rfl)) (by decide) (by decide)) (g := (mkF m 105 #[.val (.long q0), .second, .val (.int p0), .val (.int p1), .val (.int p2), .val (.int ww), .val (.int aa), .val (.int fl), .val (.ref b1), .unset, .unset, .unset, .unset, .unset] [(.int ww), (.long q0), (.int aa), (.ref b1)])) rfl (by rw [hml]; rfl) (argsL := [(.ref b1), (.int aa), (.long q0), (.int ww)]) (rest := []) (lenOf pd_0 rfl) rfl (by show 2 * 0 + _ ≤ _; exact Nat.le_of_eq rfl) (hb hby at_105) (fun _ _ => ⟨rfl, e25, (by decide : 1 + 0 ≤ _), (by decide : 12 + 0 ≤ _)⟩)
  dsimp only [Pt.U, Pt.locs, Pt.cells, Pt.slots] at X26 l26 y26 z26 st26 hQ26
  subst y26 z26
  obtain ⟨rfl, N26q, x26c0, x26c1⟩ := hQ26
  have N26 : Fr n0 L26 := by rw [l26]; exact Fr.app N25 N26q
  have Z26 : n0 ≤ T26.heap.size := Nat.le_trans Z25 x26c0.1
  obtain ⟨tb, h_tb⟩ : ∃ z : Int32 → Int32, z = own_putF (fun _ => fl) aa q0 ww := ⟨_, rfl⟩
  have Vtb : own_Tab Z T26.heap b1 .byte (12 : Int32) (fun j => .int (tb j)) := by rw [h_tb]; exact x26c1
  obtain ⟨_, _, ⟨T27, L27, k27, n27⟩, -, X27, ⟨Lc27, hQ27, l27, y27, z27⟩, st27⟩ := Jvm.LawKit.callS X26 hx (y := (⟨"com/example/fyfo/fyfo/BigEndianPutPinLaw", "acc", "(J[BIII)J"⟩ : MethodName)) hown (mvT hZ (hw _ (List.mem_of_getElem? (i := 6) rfl))) (mvT hZ (hw _ (List.mem_of_getElem? (i := 7) rfl))) (mvT hZ (hw _ (List.mem_of_getElem? (i := 8) rfl))) (mvT hZ (hw _ (List.mem_of_getElem? (i := 9) rfl))) (by decide) (backOf (W := 0) (rm_acc l Z a0 hw [] (0 : Int64) b1 aa (0 : Int32) ww tb T26.heap n0 Z26 Vtb (own_hb hat (by decide))) hZ (hw _ (List.mem_of_getElem? (i := 9) rfl)) (hw _ (List.mem_of_getElem? (i := 8) rfl)) (by decide) (by decide)) (g := (mkF m 134 #[.val (.long q0), .second, .val (.int p0), .val (.int p1), .val (.int p2), .val (.int ww), .val (.int aa), .val (.int fl), .val (.ref b1), .val (.int (aa + ww)), .val (.long (0 : Int64)), .second, .unset, .unset] [(.int ww), (.int (0 : Int32)), (.int aa), (.ref b1), (.long (0 : Int64))])) rfl (by rw [hml]; rfl) (argsL := [(.long (0 : Int64)), (.ref b1), (.int aa), (.int (0 : Int32)), (.int ww)]) (rest := []) (lenOf pd_1 rfl) rfl (by show 2 * 0 + _ ≤ _; exact Nat.le_of_eq rfl) (hb hby at_134) (fun _ _ => ⟨rfl, rfl, (by decide : 1 + 0 ≤ _), (by decide : 12 + 0 ≤ _)⟩)
  dsimp only [Pt.U, Pt.locs, Pt.cells, Pt.slots] at X27 l27 y27 z27 st27 hQ27
  subst y27 z27
  obtain ⟨rfl, N27q, e27⟩ := hQ27
  have N27 : Fr n0 L27 := by rw [l27]; exact Fr.app N26 N27q
  obtain ⟨r1, h_r1⟩ : ∃ z : Int64, z = (own_acc tb (0 : Int64) aa (0 : Int32) ww) := ⟨_, rfl⟩
  obtain ⟨_, _, ⟨T28, L28, k28, n28⟩, -, X28, ⟨Lc28, hQ28, l28, y28, z28⟩, st28⟩ := Jvm.LawKit.callS X27 hx (y := (⟨"com/example/fyfo/fyfo/BigEndianPutPinLaw", "acc", "(J[BIII)J"⟩ : MethodName)) hown (mvT hZ (hw _ (List.mem_of_getElem? (i := 6) rfl))) (mvT hZ (hw _ (List.mem_of_getElem? (i := 7) rfl))) (mvT hZ (hw _ (List.mem_of_getElem? (i := 8) rfl))) (mvT hZ (hw _ (List.mem_of_getElem? (i := 9) rfl))) (by decide) (backOf (W := 0) (rm_acc l Z a0 hw [] r1 b1 aa (1 : Int32) ww tb T26.heap n0 Z26 Vtb (own_hb hat (by decide))) hZ (hw _ (List.mem_of_getElem? (i := 9) rfl)) (hw _ (List.mem_of_getElem? (i := 8) rfl)) (by decide) (by decide)) (g := (mkF m 148 #[.val (.long q0), .second, .val (.int p0), .val (.int p1), .val (.int p2), .val (.int ww), .val (.int aa), .val (.int fl), .val (.ref b1), .val (.int (aa + ww)), .val (.long r1), .second, .unset, .unset] [(.int ww), (.int (1 : Int32)), (.int aa), (.ref b1), (.long r1)])) rfl (by rw [hml]; rfl) (argsL := [(.long r1), (.ref b1), (.int aa), (.int (1 : Int32)), (.int ww)]) (rest := []) (lenOf pd_1 rfl) rfl (by show 2 * 0 + _ ≤ _; exact Nat.le_of_eq rfl) (hb hby at_148) (fun _ _ => ⟨rfl, e27, (by decide : 1 + 0 ≤ _), (by decide : 12 + 0 ≤ _)⟩)
  dsimp only [Pt.U, Pt.locs, Pt.cells, Pt.slots] at X28 l28 y28 z28 st28 hQ28
  subst y28 z28
  obtain ⟨rfl, N28q, e28⟩ := hQ28
  have N28 : Fr n0 L28 := by rw [l28]; exact Fr.app N27 N28q
  obtain ⟨r2, h_r2⟩ : ∃ z : Int64, z = (own_acc tb r1 aa (1 : Int32) ww) := ⟨_, rfl⟩
  obtain ⟨_, _, ⟨T29, L29, k29, n29⟩, -, X29, ⟨Lc29, hQ29, l29, y29, z29⟩, st29⟩ := Jvm.LawKit.callS X28 hx (y := (⟨"com/example/fyfo/fyfo/BigEndianPutPinLaw", "acc", "(J[BIII)J"⟩ : MethodName)) hown (mvT hZ (hw _ (List.mem_of_getElem? (i := 6) rfl))) (mvT hZ (hw _ (List.mem_of_getElem? (i := 7) rfl))) (mvT hZ (hw _ (List.mem_of_getElem? (i := 8) rfl))) (mvT hZ (hw _ (List.mem_of_getElem? (i := 9) rfl))) (by decide) (backOf (W := 0) (rm_acc l Z a0 hw [] r2 b1 aa (2 : Int32) ww tb T26.heap n0 Z26 Vtb (own_hb hat (by decide))) hZ (hw _ (List.mem_of_getElem? (i := 9) rfl)) (hw _ (List.mem_of_getElem? (i := 8) rfl)) (by decide) (by decide)) (g := (mkF m 162 #[.val (.long q0), .second, .val (.int p0), .val (.int p1), .val (.int p2), .val (.int ww), .val (.int aa), .val (.int fl), .val (.ref b1), .val (.int (aa + ww)), .val (.long r2), .second, .unset, .unset] [(.int ww), (.int (2 : Int32)), (.int aa), (.ref b1), (.long r2)])) rfl (by rw [hml]; rfl) (argsL := [(.long r2), (.ref b1), (.int aa), (.int (2 : Int32)), (.int ww)]) (rest := []) (lenOf pd_1 rfl) rfl (by show 2 * 0 + _ ≤ _; exact Nat.le_of_eq rfl) (hb hby at_162) (fun _ _ => ⟨rfl, e28, (by decide : 1 + 0 ≤ _), (by decide : 12 + 0 ≤ _)⟩)
  dsimp only [Pt.U, Pt.locs, Pt.cells, Pt.slots] at X29 l29 y29 z29 st29 hQ29
  subst y29 z29
  obtain ⟨rfl, N29q, e29⟩ := hQ29
  have N29 : Fr n0 L29 := by rw [l29]; exact Fr.app N28 N29q
  obtain ⟨r3, h_r3⟩ : ∃ z : Int64, z = (own_acc tb r2 aa (2 : Int32) ww) := ⟨_, rfl⟩
  obtain ⟨_, _, ⟨T30, L30, k30, n30⟩, -, X30, ⟨Lc30, hQ30, l30, y30, z30⟩, st30⟩ := Jvm.LawKit.callS X29 hx (y := (⟨"com/example/fyfo/fyfo/BigEndianPutPinLaw", "acc", "(J[BIII)J"⟩ : MethodName)) hown (mvT hZ (hw _ (List.mem_of_getElem? (i := 6) rfl))) (mvT hZ (hw _ (List.mem_of_getElem? (i := 7) rfl))) (mvT hZ (hw _ (List.mem_of_getElem? (i := 8) rfl))) (mvT hZ (hw _ (List.mem_of_getElem? (i := 9) rfl))) (by decide) (backOf (W := 0) (rm_acc l Z a0 hw [] r3 b1 aa (3 : Int32) ww tb T26.heap n0 Z26 Vtb (own_hb hat (by decide))) hZ (hw _ (List.mem_of_getElem? (i := 9) rfl)) (hw _ (List.mem_of_getElem? (i := 8) rfl)) (by decide) (by decide)) (g := (mkF m 176 #[.val (.long q0), .second, .val (.int p0), .val (.int p1), .val (.int p2), .val (.int ww), .val (.int aa), .val (.int fl), .val (.ref b1), .val (.int (aa + ww)), .val (.long r3), .second, .unset, .unset] [(.int ww), (.int (3 : Int32)), (.int aa), (.ref b1), (.long r3)])) rfl (by rw [hml]; rfl) (argsL := [(.long r3), (.ref b1), (.int aa), (.int (3 : Int32)), (.int ww)]) (rest := []) (lenOf pd_1 rfl) rfl (by show 2 * 0 + _ ≤ _; exact Nat.le_of_eq rfl) (hb hby at_176) (fun _ _ => ⟨rfl, e29, (by decide : 1 + 0 ≤ _), (by decide : 12 + 0 ≤ _)⟩)
  dsimp only [Pt.U, Pt.locs, Pt.cells, Pt.slots] at X30 l30 y30 z30 st30 hQ30
  subst y30 z30
  obtain ⟨rfl, N30q, e30⟩ := hQ30
  have N30 : Fr n0 L30 := by rw [l30]; exact Fr.app N29 N30q
  obtain ⟨r4, h_r4⟩ : ∃ z : Int64, z = (own_acc tb r3 aa (3 : Int32) ww) := ⟨_, rfl⟩
  obtain ⟨_, _, ⟨T31, L31, k31, n31⟩, -, X31, ⟨Lc31, hQ31, l31, y31, z31⟩, st31⟩ := Jvm.LawKit.callS X30 hx (y := (⟨"com/example/fyfo/fyfo/BigEndianPutPinLaw", "acc", "(J[BIII)J"⟩ : MethodName)) hown (mvT hZ (hw _ (List.mem_of_getElem? (i := 6) rfl))) (mvT hZ (hw _ (List.mem_of_getElem? (i := 7) rfl))) (mvT hZ (hw _ (List.mem_of_getElem? (i := 8) rfl))) (mvT hZ (hw _ (List.mem_of_getElem? (i := 9) rfl))) (by decide) (backOf (W := 0) (rm_acc l Z a0 hw [] r4 b1 aa (4 : Int32) ww tb T26.heap n0 Z26 Vtb (own_hb hat (by decide))) hZ (hw _ (List.mem_of_getElem? (i := 9) rfl)) (hw _ (List.mem_of_getElem? (i := 8) rfl)) (by decide) (by decide)) (g := (mkF m 190 #[.val (.long q0), .second, .val (.int p0), .val (.int p1), .val (.int p2), .val (.int ww), .val (.int aa), .val (.int fl), .val (.ref b1), .val (.int (aa + ww)), .val (.long r4), .second, .unset, .unset] [(.int ww), (.int (4 : Int32)), (.int aa), (.ref b1), (.long r4)])) rfl (by rw [hml]; rfl) (argsL := [(.long r4), (.ref b1), (.int aa), (.int (4 : Int32)), (.int ww)]) (rest := []) (lenOf pd_1 rfl) rfl (by show 2 * 0 + _ ≤ _; exact Nat.le_of_eq rfl) (hb hby at_190) (fun _ _ => ⟨rfl, e30, (by decide : 1 + 0 ≤ _), (by decide : 12 + 0 ≤ _)⟩)
  dsimp only [Pt.U, Pt.locs, Pt.cells, Pt.slots] at X31 l31 y31 z31 st31 hQ31
  subst y31 z31
  obtain ⟨rfl, N31q, e31⟩ := hQ31
  have N31 : Fr n0 L31 := by rw [l31]; exact Fr.app N30 N31q
  obtain ⟨r5, h_r5⟩ : ∃ z : Int64, z = (own_acc tb r4 aa (4 : Int32) ww) := ⟨_, rfl⟩
  obtain ⟨_, _, ⟨T32, L32, k32, n32⟩, -, X32, ⟨Lc32, hQ32, l32, y32, z32⟩, st32⟩ := Jvm.LawKit.callS X31 hx (y := (⟨"com/example/fyfo/fyfo/BigEndianPutPinLaw", "acc", "(J[BIII)J"⟩ : MethodName)) hown (mvT hZ (hw _ (List.mem_of_getElem? (i := 6) rfl))) (mvT hZ (hw _ (List.mem_of_getElem? (i := 7) rfl))) (mvT hZ (hw _ (List.mem_of_getElem? (i := 8) rfl))) (mvT hZ (hw _ (List.mem_of_getElem? (i := 9) rfl))) (by decide) (backOf (W := 0) (rm_acc l Z a0 hw [] r5 b1 aa (5 : Int32) ww tb T26.heap n0 Z26 Vtb (own_hb hat (by decide))) hZ (hw _ (List.mem_of_getElem? (i := 9) rfl)) (hw _ (List.mem_of_getElem? (i := 8) rfl)) (by decide) (by decide)) (g := (mkF m 204 #[.val (.long q0), .second, .val (.int p0), .val (.int p1), .val (.int p2), .val (.int ww), .val (.int aa), .val (.int fl), .val (.ref b1), .val (.int (aa + ww)), .val (.long r5), .second, .unset, .unset] [(.int ww), (.int (5 : Int32)), (.int aa), (.ref b1), (.long r5)])) rfl (by rw [hml]; rfl) (argsL := [(.long r5), (.ref b1), (.int aa), (.int (5 : Int32)), (.int ww)]) (rest := []) (lenOf pd_1 rfl) rfl (by show 2 * 0 + _ ≤ _; exact Nat.le_of_eq rfl) (hb hby at_204) (fun _ _ => ⟨rfl, e31, (by decide : 1 + 0 ≤ _), (by decide : 12 + 0 ≤ _)⟩)
  dsimp only [Pt.U, Pt.locs, Pt.cells, Pt.slots] at X32 l32 y32 z32 st32 hQ32
  subst y32 z32
  obtain ⟨rfl, N32q, e32⟩ := hQ32
  have N32 : Fr n0 L32 := by rw [l32]; exact Fr.app N31 N32q
  obtain ⟨r6, h_r6⟩ : ∃ z : Int64, z = (own_acc tb r5 aa (5 : Int32) ww) := ⟨_, rfl⟩
  obtain ⟨_, _, ⟨T33, L33, k33, n33⟩, -, X33, ⟨Lc33, hQ33, l33, y33, z33⟩, st33⟩ := Jvm.LawKit.callS X32 hx (y := (⟨"com/example/fyfo/fyfo/BigEndianPutPinLaw", "acc", "(J[BIII)J"⟩ : MethodName)) hown (mvT hZ (hw _ (List.mem_of_getElem? (i := 6) rfl))) (mvT hZ (hw _ (List.mem_of_getElem? (i := 7) rfl))) (mvT hZ (hw _ (List.mem_of_getElem? (i := 8) rfl))) (mvT hZ (hw _ (List.mem_of_getElem? (i := 9) rfl))) (by decide) (backOf (W := 0) (rm_acc l Z a0 hw [] r6 b1 aa (6 : Int32) ww tb T26.heap n0 Z26 Vtb (own_hb hat (by decide))) hZ (hw _ (List.mem_of_getElem? (i := 9) rfl)) (hw _ (List.mem_of_getElem? (i := 8) rfl)) (by decide) (by decide)) (g := (mkF m 219 #[.val (.long q0), .second, .val (.int p0), .val (.int p1), .val (.int p2), .val (.int ww), .val (.int aa), .val (.int fl), .val (.ref b1), .val (.int (aa + ww)), .val (.long r6), .second, .unset, .unset] [(.int ww), (.int (6 : Int32)), (.int aa), (.ref b1), (.long r6)])) rfl (by rw [hml]; rfl) (argsL := [(.long r6), (.ref b1), (.int aa), (.int (6 : Int32)), (.int ww)]) (rest := []) (lenOf pd_1 rfl) rfl (by show 2 * 0 + _ ≤ _; exact Nat.le_of_eq rfl) (hb hby at_219) (fun _ _ => ⟨rfl, e32, (by decide : 1 + 0 ≤ _), (by decide : 12 + 0 ≤ _)⟩)
  dsimp only [Pt.U, Pt.locs, Pt.cells, Pt.slots] at X33 l33 y33 z33 st33 hQ33
  subst y33 z33
  obtain ⟨rfl, N33q, e33⟩ := hQ33
  have N33 : Fr n0 L33 := by rw [l33]; exact Fr.app N32 N33q
  obtain ⟨r7, h_r7⟩ : ∃ z : Int64, z = (own_acc tb r6 aa (6 : Int32) ww) := ⟨_, rfl⟩
  obtain ⟨_, _, ⟨T34, L34, k34, n34⟩, -, X34, ⟨Lc34, hQ34, l34, y34, z34⟩, st34⟩ := Jvm.LawKit.callS X33 hx (y := (⟨"com/example/fyfo/fyfo/BigEndianPutPinLaw", "acc", "(J[BIII)J"⟩ : MethodName)) hown (mvT hZ (hw _ (List.mem_of_getElem? (i := 6) rfl))) (mvT hZ (hw _ (List.mem_of_getElem? (i := 7) rfl))) (mvT hZ (hw _ (List.mem_of_getElem? (i := 8) rfl))) (mvT hZ (hw _ (List.mem_of_getElem? (i := 9) rfl))) (by decide) (backOf (W := 0) (rm_acc l Z a0 hw [] r7 b1 aa (7 : Int32) ww tb T26.heap n0 Z26 Vtb (own_hb hat (by decide))) hZ (hw _ (List.mem_of_getElem? (i := 9) rfl)) (hw _ (List.mem_of_getElem? (i := 8) rfl)) (by decide) (by decide)) (g := (mkF m 234 #[.val (.long q0), .second, .val (.int p0), .val (.int p1), .val (.int p2), .val (.int ww), .val (.int aa), .val (.int fl), .val (.ref b1), .val (.int (aa + ww)), .val (.long r7), .second, .unset, .unset] [(.int ww), (.int (7 : Int32)), (.int aa), (.ref b1), (.long r7)])) rfl (by rw [hml]; rfl) (argsL := [(.long r7), (.ref b1), (.int aa), (.int (7 : Int32)), (.int ww)]) (rest := []) (lenOf pd_1 rfl) rfl (by show 2 * 0 + _ ≤ _; exact Nat.le_of_eq rfl) (hb hby at_234) (fun _ _ => ⟨rfl, e33, (by decide : 1 + 0 ≤ _), (by decide : 12 + 0 ≤ _)⟩)
  dsimp only [Pt.U, Pt.locs, Pt.cells, Pt.slots] at X34 l34 y34 z34 st34 hQ34
  subst y34 z34
  obtain ⟨rfl, N34q, e34⟩ := hQ34
  have N34 : Fr n0 L34 := by rw [l34]; exact Fr.app N33 N34q
  obtain ⟨r8, h_r8⟩ : ∃ z : Int64, z = (own_acc tb r7 aa (7 : Int32) ww) := ⟨_, rfl⟩
  have k35 : ∀ target, Steps p.tables e below (T34.setTop (mkF m 243 #[.val (.long q0), .second, .val (.int p0), .val (.int p1), .val (.int p2), .val (.int ww), .val (.int aa), .val (.int fl), .val (.ref b1), .val (.int (aa + ww)), .val (.long r8), .second, .unset, .unset] [(.int (8 : Int32)), (.int ww)])) target → Steps p.tables e below (s₁.setTop (mkF m 0 #[.val (.long q0), .second, .val (.int p0), .val (.int p1), .val (.int p2), .unset, .unset, .unset, .unset, .unset, .unset, .unset, .unset, .unset] [])) target := by
    intro target kt
    show Steps p.tables e below (s₁.setTop (mkF m 0 #[.val (.long q0), .second, .val (.int p0), .val (.int p1), .val (.int p2), .unset, .unset, .unset, .unset, .unset, .unset, .unset, .unset, .unset] [])) _
    refine XS.iloadN X0.here hx rfl (hb hby at_0) rfl ?_
    show Steps p.tables e below (s₁.setTop (mkF m 1 #[.val (.long q0), .second, .val (.int p0), .val (.int p1), .val (.int p2), .unset, .unset, .unset, .unset, .unset, .unset, .unset, .unset, .unset] [(.int p0)])) _
    refine X0.ldcInt hx hown (mvT hZ (hw _ (List.mem_of_getElem? (i := 0) rfl))) (g := (mkF m 1 #[.val (.long q0), .second, .val (.int p0), .val (.int p1), .val (.int p2), .unset, .unset, .unset, .unset, .unset, .unset, .unset, .unset, .unset] [(.int p0)])) rfl (hb hby at_1) _ ?_
    show Steps p.tables e below (s₁.setTop (mkF m 3 #[.val (.long q0), .second, .val (.int p0), .val (.int p1), .val (.int p2), .unset, .unset, .unset, .unset, .unset, .unset, .unset, .unset, .unset] [(.int (2147483647 : Int32)), (.int p0)])) _
    refine XS.iand X0.here hx rfl (hb hby at_3) rfl ?_
    show Steps p.tables e below (s₁.setTop (mkF m 4 #[.val (.long q0), .second, .val (.int p0), .val (.int p1), .val (.int p2), .unset, .unset, .unset, .unset, .unset, .unset, .unset, .unset, .unset] [(.int (p0 &&& (2147483647 : Int32)))])) _
    refine XS.bipush X0.here hx rfl (hb hby at_4) ?_
    show Steps p.tables e below (s₁.setTop (mkF m 6 #[.val (.long q0), .second, .val (.int p0), .val (.int p1), .val (.int p2), .unset, .unset, .unset, .unset, .unset, .unset, .unset, .unset, .unset] [(.int (9 : Int32)), (.int (p0 &&& (2147483647 : Int32)))])) _
    refine iremM X0 hx rfl (hb hby at_6) rfl (by decide) ?_
    show Steps p.tables e below (s₁.setTop (mkF m 7 #[.val (.long q0), .second, .val (.int p0), .val (.int p1), .val (.int p2), .unset, .unset, .unset, .unset, .unset, .unset, .unset, .unset, .unset] [(.int ((p0 &&& (2147483647 : Int32)) % (9 : Int32)))])) _
    refine XS.istore X0.here hx rfl (hb hby at_7) rfl (l' := #[.val (.long q0), .second, .val (.int p0), .val (.int p1), .val (.int p2), .val (.int ((p0 &&& (2147483647 : Int32)) % (9 : Int32))), .unset, .unset, .unset, .unset, .unset, .unset, .unset, .unset]) rfl ?_
    show Steps p.tables e below (s₁.setTop (mkF m 9 #[.val (.long q0), .second, .val (.int p0), .val (.int p1), .val (.int p2), .val (.int ((p0 &&& (2147483647 : Int32)) % (9 : Int32))), .unset, .unset, .unset, .unset, .unset, .unset, .unset, .unset] [])) _
    rw [← h_ww]
    show Steps p.tables e below (s₁.setTop (mkF m 9 #[.val (.long q0), .second, .val (.int p0), .val (.int p1), .val (.int p2), .val (.int ww), .unset, .unset, .unset, .unset, .unset, .unset, .unset, .unset] [])) _
    refine XS.iloadN X0.here hx rfl (hb hby at_9) rfl ?_
    show Steps p.tables e below (s₁.setTop (mkF m 10 #[.val (.long q0), .second, .val (.int p0), .val (.int p1), .val (.int p2), .val (.int ww), .unset, .unset, .unset, .unset, .unset, .unset, .unset, .unset] [(.int p1)])) _
    refine X0.ldcInt hx hown (mvT hZ (hw _ (List.mem_of_getElem? (i := 0) rfl))) (g := (mkF m 10 #[.val (.long q0), .second, .val (.int p0), .val (.int p1), .val (.int p2), .val (.int ww), .unset, .unset, .unset, .unset, .unset, .unset, .unset, .unset] [(.int p1)])) rfl (hb hby at_10) _ ?_
    show Steps p.tables e below (s₁.setTop (mkF m 12 #[.val (.long q0), .second, .val (.int p0), .val (.int p1), .val (.int p2), .val (.int ww), .unset, .unset, .unset, .unset, .unset, .unset, .unset, .unset] [(.int (2147483647 : Int32)), (.int p1)])) _
    refine XS.iand X0.here hx rfl (hb hby at_12) rfl ?_
    show Steps p.tables e below (s₁.setTop (mkF m 13 #[.val (.long q0), .second, .val (.int p0), .val (.int p1), .val (.int p2), .val (.int ww), .unset, .unset, .unset, .unset, .unset, .unset, .unset, .unset] [(.int (p1 &&& (2147483647 : Int32)))])) _
    refine XS.bipush X0.here hx rfl (hb hby at_13) ?_
    show Steps p.tables e below (s₁.setTop (mkF m 15 #[.val (.long q0), .second, .val (.int p0), .val (.int p1), .val (.int p2), .val (.int ww), .unset, .unset, .unset, .unset, .unset, .unset, .unset, .unset] [(.int (13 : Int32)), (.int (p1 &&& (2147483647 : Int32)))])) _
    refine XS.iload X0.here hx rfl (hb hby at_15) rfl ?_
    show Steps p.tables e below (s₁.setTop (mkF m 17 #[.val (.long q0), .second, .val (.int p0), .val (.int p1), .val (.int p2), .val (.int ww), .unset, .unset, .unset, .unset, .unset, .unset, .unset, .unset] [(.int ww), (.int (13 : Int32)), (.int (p1 &&& (2147483647 : Int32)))])) _
    refine XS.isub X0.here hx rfl (hb hby at_17) rfl ?_
    show Steps p.tables e below (s₁.setTop (mkF m 18 #[.val (.long q0), .second, .val (.int p0), .val (.int p1), .val (.int p2), .val (.int ww), .unset, .unset, .unset, .unset, .unset, .unset, .unset, .unset] [(.int ((13 : Int32) - ww)), (.int (p1 &&& (2147483647 : Int32)))])) _
    refine iremM X0 hx rfl (hb hby at_18) rfl (by rw [h_ww]; exact own_nz p0) ?_
    show Steps p.tables e below (s₁.setTop (mkF m 19 #[.val (.long q0), .second, .val (.int p0), .val (.int p1), .val (.int p2), .val (.int ww), .unset, .unset, .unset, .unset, .unset, .unset, .unset, .unset] [(.int ((p1 &&& (2147483647 : Int32)) % ((13 : Int32) - ww)))])) _
    refine XS.istore X0.here hx rfl (hb hby at_19) rfl (l' := #[.val (.long q0), .second, .val (.int p0), .val (.int p1), .val (.int p2), .val (.int ww), .val (.int ((p1 &&& (2147483647 : Int32)) % ((13 : Int32) - ww))), .unset, .unset, .unset, .unset, .unset, .unset, .unset]) rfl ?_
    show Steps p.tables e below (s₁.setTop (mkF m 21 #[.val (.long q0), .second, .val (.int p0), .val (.int p1), .val (.int p2), .val (.int ww), .val (.int ((p1 &&& (2147483647 : Int32)) % ((13 : Int32) - ww))), .unset, .unset, .unset, .unset, .unset, .unset, .unset] [])) _
    rw [← h_aa]
    show Steps p.tables e below (s₁.setTop (mkF m 21 #[.val (.long q0), .second, .val (.int p0), .val (.int p1), .val (.int p2), .val (.int ww), .val (.int aa), .unset, .unset, .unset, .unset, .unset, .unset, .unset] [])) _
    refine XS.iload X0.here hx rfl (hb hby at_21) rfl ?_
    show Steps p.tables e below (s₁.setTop (mkF m 23 #[.val (.long q0), .second, .val (.int p0), .val (.int p1), .val (.int p2), .val (.int ww), .val (.int aa), .unset, .unset, .unset, .unset, .unset, .unset, .unset] [(.int p2)])) _
    refine XS.i2b X0.here hx rfl (hb hby at_23) rfl ?_
    show Steps p.tables e below (s₁.setTop (mkF m 24 #[.val (.long q0), .second, .val (.int p0), .val (.int p1), .val (.int p2), .val (.int ww), .val (.int aa), .unset, .unset, .unset, .unset, .unset, .unset, .unset] [(.int p2.toInt8.toInt32)])) _
    refine XS.istore X0.here hx rfl (hb hby at_24) rfl (l' := #[.val (.long q0), .second, .val (.int p0), .val (.int p1), .val (.int p2), .val (.int ww), .val (.int aa), .val (.int p2.toInt8.toInt32), .unset, .unset, .unset, .unset, .unset, .unset]) rfl ?_
    show Steps p.tables e below (s₁.setTop (mkF m 26 #[.val (.long q0), .second, .val (.int p0), .val (.int p1), .val (.int p2), .val (.int ww), .val (.int aa), .val (.int p2.toInt8.toInt32), .unset, .unset, .unset, .unset, .unset, .unset] [])) _
    rw [← h_fl]
    show Steps p.tables e below (s₁.setTop (mkF m 26 #[.val (.long q0), .second, .val (.int p0), .val (.int p1), .val (.int p2), .val (.int ww), .val (.int aa), .val (.int fl), .unset, .unset, .unset, .unset, .unset, .unset] [])) _
    refine XS.bipush X0.here hx rfl (hb hby at_26) ?_
    show Steps p.tables e below (s₁.setTop (mkF m 28 #[.val (.long q0), .second, .val (.int p0), .val (.int p1), .val (.int p2), .val (.int ww), .val (.int aa), .val (.int fl), .unset, .unset, .unset, .unset, .unset, .unset] [(.int (12 : Int32))])) _
    refine st1 _ ?_
    show Steps p.tables e below (T1.setTop (mkF m 30 #[.val (.long q0), .second, .val (.int p0), .val (.int p1), .val (.int p2), .val (.int ww), .val (.int aa), .val (.int fl), .unset, .unset, .unset, .unset, .unset, .unset] [(.ref b1)])) _
    refine XS.dup X1.here hx rfl (hb hby at_30) rfl rfl ?_
    show Steps p.tables e below (T1.setTop (mkF m 31 #[.val (.long q0), .second, .val (.int p0), .val (.int p1), .val (.int p2), .val (.int ww), .val (.int aa), .val (.int fl), .unset, .unset, .unset, .unset, .unset, .unset] [(.ref b1), (.ref b1)])) _
    refine XS.iconst X1.here hx rfl (hb hby at_31) ?_
    show Steps p.tables e below (T1.setTop (mkF m 32 #[.val (.long q0), .second, .val (.int p0), .val (.int p1), .val (.int p2), .val (.int ww), .val (.int aa), .val (.int fl), .unset, .unset, .unset, .unset, .unset, .unset] [(.int (0 : Int32)), (.ref b1), (.ref b1)])) _
    refine XS.iload X1.here hx rfl (hb hby at_32) rfl ?_
    show Steps p.tables e below (T1.setTop (mkF m 34 #[.val (.long q0), .second, .val (.int p0), .val (.int p1), .val (.int p2), .val (.int ww), .val (.int aa), .val (.int fl), .unset, .unset, .unset, .unset, .unset, .unset] [(.int fl), (.int (0 : Int32)), (.ref b1), (.ref b1)])) _
    refine st3 _ ?_
    show Steps p.tables e below (T3.setTop (mkF m 35 #[.val (.long q0), .second, .val (.int p0), .val (.int p1), .val (.int p2), .val (.int ww), .val (.int aa), .val (.int fl), .unset, .unset, .unset, .unset, .unset, .unset] [(.ref b1)])) _
    refine XS.dup X3.here hx rfl (hb hby at_35) rfl rfl ?_
    show Steps p.tables e below (T3.setTop (mkF m 36 #[.val (.long q0), .second, .val (.int p0), .val (.int p1), .val (.int p2), .val (.int ww), .val (.int aa), .val (.int fl), .unset, .unset, .unset, .unset, .unset, .unset] [(.ref b1), (.ref b1)])) _
    refine XS.iconst X3.here hx rfl (hb hby at_36) ?_
    show Steps p.tables e below (T3.setTop (mkF m 37 #[.val (.long q0), .second, .val (.int p0), .val (.int p1), .val (.int p2), .val (.int ww), .val (.int aa), .val (.int fl), .unset, .unset, .unset, .unset, .unset, .unset] [(.int (1 : Int32)), (.ref b1), (.ref b1)])) _
    refine XS.iload X3.here hx rfl (hb hby at_37) rfl ?_
    show Steps p.tables e below (T3.setTop (mkF m 39 #[.val (.long q0), .second, .val (.int p0), .val (.int p1), .val (.int p2), .val (.int ww), .val (.int aa), .val (.int fl), .unset, .unset, .unset, .unset, .unset, .unset] [(.int fl), (.int (1 : Int32)), (.ref b1), (.ref b1)])) _
    refine st5 _ ?_
    show Steps p.tables e below (T5.setTop (mkF m 40 #[.val (.long q0), .second, .val (.int p0), .val (.int p1), .val (.int p2), .val (.int ww), .val (.int aa), .val (.int fl), .unset, .unset, .unset, .unset, .unset, .unset] [(.ref b1)])) _
    refine XS.dup X5.here hx rfl (hb hby at_40) rfl rfl ?_
    show Steps p.tables e below (T5.setTop (mkF m 41 #[.val (.long q0), .second, .val (.int p0), .val (.int p1), .val (.int p2), .val (.int ww), .val (.int aa), .val (.int fl), .unset, .unset, .unset, .unset, .unset, .unset] [(.ref b1), (.ref b1)])) _
    refine XS.iconst X5.here hx rfl (hb hby at_41) ?_
    show Steps p.tables e below (T5.setTop (mkF m 42 #[.val (.long q0), .second, .val (.int p0), .val (.int p1), .val (.int p2), .val (.int ww), .val (.int aa), .val (.int fl), .unset, .unset, .unset, .unset, .unset, .unset] [(.int (2 : Int32)), (.ref b1), (.ref b1)])) _
    refine XS.iload X5.here hx rfl (hb hby at_42) rfl ?_
    show Steps p.tables e below (T5.setTop (mkF m 44 #[.val (.long q0), .second, .val (.int p0), .val (.int p1), .val (.int p2), .val (.int ww), .val (.int aa), .val (.int fl), .unset, .unset, .unset, .unset, .unset, .unset] [(.int fl), (.int (2 : Int32)), (.ref b1), (.ref b1)])) _
    refine st7 _ ?_
    show Steps p.tables e below (T7.setTop (mkF m 45 #[.val (.long q0), .second, .val (.int p0), .val (.int p1), .val (.int p2), .val (.int ww), .val (.int aa), .val (.int fl), .unset, .unset, .unset, .unset, .unset, .unset] [(.ref b1)])) _
    refine XS.dup X7.here hx rfl (hb hby at_45) rfl rfl ?_
    show Steps p.tables e below (T7.setTop (mkF m 46 #[.val (.long q0), .second, .val (.int p0), .val (.int p1), .val (.int p2), .val (.int ww), .val (.int aa), .val (.int fl), .unset, .unset, .unset, .unset, .unset, .unset] [(.ref b1), (.ref b1)])) _
    refine XS.iconst X7.here hx rfl (hb hby at_46) ?_
    show Steps p.tables e below (T7.setTop (mkF m 47 #[.val (.long q0), .second, .val (.int p0), .val (.int p1), .val (.int p2), .val (.int ww), .val (.int aa), .val (.int fl), .unset, .unset, .unset, .unset, .unset, .unset] [(.int (3 : Int32)), (.ref b1), (.ref b1)])) _
    refine XS.iload X7.here hx rfl (hb hby at_47) rfl ?_
    show Steps p.tables e below (T7.setTop (mkF m 49 #[.val (.long q0), .second, .val (.int p0), .val (.int p1), .val (.int p2), .val (.int ww), .val (.int aa), .val (.int fl), .unset, .unset, .unset, .unset, .unset, .unset] [(.int fl), (.int (3 : Int32)), (.ref b1), (.ref b1)])) _
    refine st9 _ ?_
    show Steps p.tables e below (T9.setTop (mkF m 50 #[.val (.long q0), .second, .val (.int p0), .val (.int p1), .val (.int p2), .val (.int ww), .val (.int aa), .val (.int fl), .unset, .unset, .unset, .unset, .unset, .unset] [(.ref b1)])) _
    refine XS.dup X9.here hx rfl (hb hby at_50) rfl rfl ?_
    show Steps p.tables e below (T9.setTop (mkF m 51 #[.val (.long q0), .second, .val (.int p0), .val (.int p1), .val (.int p2), .val (.int ww), .val (.int aa), .val (.int fl), .unset, .unset, .unset, .unset, .unset, .unset] [(.ref b1), (.ref b1)])) _
    refine XS.iconst X9.here hx rfl (hb hby at_51) ?_
    show Steps p.tables e below (T9.setTop (mkF m 52 #[.val (.long q0), .second, .val (.int p0), .val (.int p1), .val (.int p2), .val (.int ww), .val (.int aa), .val (.int fl), .unset, .unset, .unset, .unset, .unset, .unset] [(.int (4 : Int32)), (.ref b1), (.ref b1)])) _
    refine XS.iload X9.here hx rfl (hb hby at_52) rfl ?_
    show Steps p.tables e below (T9.setTop (mkF m 54 #[.val (.long q0), .second, .val (.int p0), .val (.int p1), .val (.int p2), .val (.int ww), .val (.int aa), .val (.int fl), .unset, .unset, .unset, .unset, .unset, .unset] [(.int fl), (.int (4 : Int32)), (.ref b1), (.ref b1)])) _
    refine st11 _ ?_
    show Steps p.tables e below (T11.setTop (mkF m 55 #[.val (.long q0), .second, .val (.int p0), .val (.int p1), .val (.int p2), .val (.int ww), .val (.int aa), .val (.int fl), .unset, .unset, .unset, .unset, .unset, .unset] [(.ref b1)])) _
    refine XS.dup X11.here hx rfl (hb hby at_55) rfl rfl ?_
    show Steps p.tables e below (T11.setTop (mkF m 56 #[.val (.long q0), .second, .val (.int p0), .val (.int p1), .val (.int p2), .val (.int ww), .val (.int aa), .val (.int fl), .unset, .unset, .unset, .unset, .unset, .unset] [(.ref b1), (.ref b1)])) _
    refine XS.iconst X11.here hx rfl (hb hby at_56) ?_
    show Steps p.tables e below (T11.setTop (mkF m 57 #[.val (.long q0), .second, .val (.int p0), .val (.int p1), .val (.int p2), .val (.int ww), .val (.int aa), .val (.int fl), .unset, .unset, .unset, .unset, .unset, .unset] [(.int (5 : Int32)), (.ref b1), (.ref b1)])) _
    refine XS.iload X11.here hx rfl (hb hby at_57) rfl ?_
    show Steps p.tables e below (T11.setTop (mkF m 59 #[.val (.long q0), .second, .val (.int p0), .val (.int p1), .val (.int p2), .val (.int ww), .val (.int aa), .val (.int fl), .unset, .unset, .unset, .unset, .unset, .unset] [(.int fl), (.int (5 : Int32)), (.ref b1), (.ref b1)])) _
    refine st13 _ ?_
    show Steps p.tables e below (T13.setTop (mkF m 60 #[.val (.long q0), .second, .val (.int p0), .val (.int p1), .val (.int p2), .val (.int ww), .val (.int aa), .val (.int fl), .unset, .unset, .unset, .unset, .unset, .unset] [(.ref b1)])) _
    refine XS.dup X13.here hx rfl (hb hby at_60) rfl rfl ?_
    show Steps p.tables e below (T13.setTop (mkF m 61 #[.val (.long q0), .second, .val (.int p0), .val (.int p1), .val (.int p2), .val (.int ww), .val (.int aa), .val (.int fl), .unset, .unset, .unset, .unset, .unset, .unset] [(.ref b1), (.ref b1)])) _
    refine XS.bipush X13.here hx rfl (hb hby at_61) ?_
    show Steps p.tables e below (T13.setTop (mkF m 63 #[.val (.long q0), .second, .val (.int p0), .val (.int p1), .val (.int p2), .val (.int ww), .val (.int aa), .val (.int fl), .unset, .unset, .unset, .unset, .unset, .unset] [(.int (6 : Int32)), (.ref b1), (.ref b1)])) _
    refine XS.iload X13.here hx rfl (hb hby at_63) rfl ?_
    show Steps p.tables e below (T13.setTop (mkF m 65 #[.val (.long q0), .second, .val (.int p0), .val (.int p1), .val (.int p2), .val (.int ww), .val (.int aa), .val (.int fl), .unset, .unset, .unset, .unset, .unset, .unset] [(.int fl), (.int (6 : Int32)), (.ref b1), (.ref b1)])) _
    refine st15 _ ?_
    show Steps p.tables e below (T15.setTop (mkF m 66 #[.val (.long q0), .second, .val (.int p0), .val (.int p1), .val (.int p2), .val (.int ww), .val (.int aa), .val (.int fl), .unset, .unset, .unset, .unset, .unset, .unset] [(.ref b1)])) _
    refine XS.dup X15.here hx rfl (hb hby at_66) rfl rfl ?_
    show Steps p.tables e below (T15.setTop (mkF m 67 #[.val (.long q0), .second, .val (.int p0), .val (.int p1), .val (.int p2), .val (.int ww), .val (.int aa), .val (.int fl), .unset, .unset, .unset, .unset, .unset, .unset] [(.ref b1), (.ref b1)])) _
    refine XS.bipush X15.here hx rfl (hb hby at_67) ?_
    show Steps p.tables e below (T15.setTop (mkF m 69 #[.val (.long q0), .second, .val (.int p0), .val (.int p1), .val (.int p2), .val (.int ww), .val (.int aa), .val (.int fl), .unset, .unset, .unset, .unset, .unset, .unset] [(.int (7 : Int32)), (.ref b1), (.ref b1)])) _
    refine XS.iload X15.here hx rfl (hb hby at_69) rfl ?_
    show Steps p.tables e below (T15.setTop (mkF m 71 #[.val (.long q0), .second, .val (.int p0), .val (.int p1), .val (.int p2), .val (.int ww), .val (.int aa), .val (.int fl), .unset, .unset, .unset, .unset, .unset, .unset] [(.int fl), (.int (7 : Int32)), (.ref b1), (.ref b1)])) _
    refine st17 _ ?_
    show Steps p.tables e below (T17.setTop (mkF m 72 #[.val (.long q0), .second, .val (.int p0), .val (.int p1), .val (.int p2), .val (.int ww), .val (.int aa), .val (.int fl), .unset, .unset, .unset, .unset, .unset, .unset] [(.ref b1)])) _
    refine XS.dup X17.here hx rfl (hb hby at_72) rfl rfl ?_
    show Steps p.tables e below (T17.setTop (mkF m 73 #[.val (.long q0), .second, .val (.int p0), .val (.int p1), .val (.int p2), .val (.int ww), .val (.int aa), .val (.int fl), .unset, .unset, .unset, .unset, .unset, .unset] [(.ref b1), (.ref b1)])) _
    refine XS.bipush X17.here hx rfl (hb hby at_73) ?_
    show Steps p.tables e below (T17.setTop (mkF m 75 #[.val (.long q0), .second, .val (.int p0), .val (.int p1), .val (.int p2), .val (.int ww), .val (.int aa), .val (.int fl), .unset, .unset, .unset, .unset, .unset, .unset] [(.int (8 : Int32)), (.ref b1), (.ref b1)])) _
    refine XS.iload X17.here hx rfl (hb hby at_75) rfl ?_
    show Steps p.tables e below (T17.setTop (mkF m 77 #[.val (.long q0), .second, .val (.int p0), .val (.int p1), .val (.int p2), .val (.int ww), .val (.int aa), .val (.int fl), .unset, .unset, .unset, .unset, .unset, .unset] [(.int fl), (.int (8 : Int32)), (.ref b1), (.ref b1)])) _
    refine st19 _ ?_
    show Steps p.tables e below (T19.setTop (mkF m 78 #[.val (.long q0), .second, .val (.int p0), .val (.int p1), .val (.int p2), .val (.int ww), .val (.int aa), .val (.int fl), .unset, .unset, .unset, .unset, .unset, .unset] [(.ref b1)])) _
    refine XS.dup X19.here hx rfl (hb hby at_78) rfl rfl ?_
    show Steps p.tables e below (T19.setTop (mkF m 79 #[.val (.long q0), .second, .val (.int p0), .val (.int p1), .val (.int p2), .val (.int ww), .val (.int aa), .val (.int fl), .unset, .unset, .unset, .unset, .unset, .unset] [(.ref b1), (.ref b1)])) _
    refine XS.bipush X19.here hx rfl (hb hby at_79) ?_
    show Steps p.tables e below (T19.setTop (mkF m 81 #[.val (.long q0), .second, .val (.int p0), .val (.int p1), .val (.int p2), .val (.int ww), .val (.int aa), .val (.int fl), .unset, .unset, .unset, .unset, .unset, .unset] [(.int (9 : Int32)), (.ref b1), (.ref b1)])) _
    refine XS.iload X19.here hx rfl (hb hby at_81) rfl ?_
    show Steps p.tables e below (T19.setTop (mkF m 83 #[.val (.long q0), .second, .val (.int p0), .val (.int p1), .val (.int p2), .val (.int ww), .val (.int aa), .val (.int fl), .unset, .unset, .unset, .unset, .unset, .unset] [(.int fl), (.int (9 : Int32)), (.ref b1), (.ref b1)])) _
    refine st21 _ ?_
    show Steps p.tables e below (T21.setTop (mkF m 84 #[.val (.long q0), .second, .val (.int p0), .val (.int p1), .val (.int p2), .val (.int ww), .val (.int aa), .val (.int fl), .unset, .unset, .unset, .unset, .unset, .unset] [(.ref b1)])) _
    refine XS.dup X21.here hx rfl (hb hby at_84) rfl rfl ?_
    show Steps p.tables e below (T21.setTop (mkF m 85 #[.val (.long q0), .second, .val (.int p0), .val (.int p1), .val (.int p2), .val (.int ww), .val (.int aa), .val (.int fl), .unset, .unset, .unset, .unset, .unset, .unset] [(.ref b1), (.ref b1)])) _
    refine XS.bipush X21.here hx rfl (hb hby at_85) ?_
    show Steps p.tables e below (T21.setTop (mkF m 87 #[.val (.long q0), .second, .val (.int p0), .val (.int p1), .val (.int p2), .val (.int ww), .val (.int aa), .val (.int fl), .unset, .unset, .unset, .unset, .unset, .unset] [(.int (10 : Int32)), (.ref b1), (.ref b1)])) _
    refine XS.iload X21.here hx rfl (hb hby at_87) rfl ?_
    show Steps p.tables e below (T21.setTop (mkF m 89 #[.val (.long q0), .second, .val (.int p0), .val (.int p1), .val (.int p2), .val (.int ww), .val (.int aa), .val (.int fl), .unset, .unset, .unset, .unset, .unset, .unset] [(.int fl), (.int (10 : Int32)), (.ref b1), (.ref b1)])) _
    refine st23 _ ?_
    show Steps p.tables e below (T23.setTop (mkF m 90 #[.val (.long q0), .second, .val (.int p0), .val (.int p1), .val (.int p2), .val (.int ww), .val (.int aa), .val (.int fl), .unset, .unset, .unset, .unset, .unset, .unset] [(.ref b1)])) _
    refine XS.dup X23.here hx rfl (hb hby at_90) rfl rfl ?_
    show Steps p.tables e below (T23.setTop (mkF m 91 #[.val (.long q0), .second, .val (.int p0), .val (.int p1), .val (.int p2), .val (.int ww), .val (.int aa), .val (.int fl), .unset, .unset, .unset, .unset, .unset, .unset] [(.ref b1), (.ref b1)])) _
    refine XS.bipush X23.here hx rfl (hb hby at_91) ?_
    show Steps p.tables e below (T23.setTop (mkF m 93 #[.val (.long q0), .second, .val (.int p0), .val (.int p1), .val (.int p2), .val (.int ww), .val (.int aa), .val (.int fl), .unset, .unset, .unset, .unset, .unset, .unset] [(.int (11 : Int32)), (.ref b1), (.ref b1)])) _
    refine XS.iload X23.here hx rfl (hb hby at_93) rfl ?_
    show Steps p.tables e below (T23.setTop (mkF m 95 #[.val (.long q0), .second, .val (.int p0), .val (.int p1), .val (.int p2), .val (.int ww), .val (.int aa), .val (.int fl), .unset, .unset, .unset, .unset, .unset, .unset] [(.int fl), (.int (11 : Int32)), (.ref b1), (.ref b1)])) _
    refine st25 _ ?_
    show Steps p.tables e below (T25.setTop (mkF m 96 #[.val (.long q0), .second, .val (.int p0), .val (.int p1), .val (.int p2), .val (.int ww), .val (.int aa), .val (.int fl), .unset, .unset, .unset, .unset, .unset, .unset] [(.ref b1)])) _
    refine XS.astore X25.here hx rfl (hb hby at_96) rfl rfl (l' := #[.val (.long q0), .second, .val (.int p0), .val (.int p1), .val (.int p2), .val (.int ww), .val (.int aa), .val (.int fl), .val (.ref b1), .unset, .unset, .unset, .unset, .unset]) rfl ?_
    show Steps p.tables e below (T25.setTop (mkF m 98 #[.val (.long q0), .second, .val (.int p0), .val (.int p1), .val (.int p2), .val (.int ww), .val (.int aa), .val (.int fl), .val (.ref b1), .unset, .unset, .unset, .unset, .unset] [])) _
    refine XS.aload X25.here hx rfl (hb hby at_98) rfl rfl ?_
    show Steps p.tables e below (T25.setTop (mkF m 100 #[.val (.long q0), .second, .val (.int p0), .val (.int p1), .val (.int p2), .val (.int ww), .val (.int aa), .val (.int fl), .val (.ref b1), .unset, .unset, .unset, .unset, .unset] [(.ref b1)])) _
    refine XS.iload X25.here hx rfl (hb hby at_100) rfl ?_
    show Steps p.tables e below (T25.setTop (mkF m 102 #[.val (.long q0), .second, .val (.int p0), .val (.int p1), .val (.int p2), .val (.int ww), .val (.int aa), .val (.int fl), .val (.ref b1), .unset, .unset, .unset, .unset, .unset] [(.int aa), (.ref b1)])) _
    refine XS.lloadN X25.here hx rfl (hb hby at_102) rfl ?_
    show Steps p.tables e below (T25.setTop (mkF m 103 #[.val (.long q0), .second, .val (.int p0), .val (.int p1), .val (.int p2), .val (.int ww), .val (.int aa), .val (.int fl), .val (.ref b1), .unset, .unset, .unset, .unset, .unset] [(.long q0), (.int aa), (.ref b1)])) _
    refine XS.iload X25.here hx rfl (hb hby at_103) rfl ?_
    show Steps p.tables e below (T25.setTop (mkF m 105 #[.val (.long q0), .second, .val (.int p0), .val (.int p1), .val (.int p2), .val (.int ww), .val (.int aa), .val (.int fl), .val (.ref b1), .unset, .unset, .unset, .unset, .unset] [(.int ww), (.long q0), (.int aa), (.ref b1)])) _
    refine st26 _ ?_
    show Steps p.tables e below (T26.setTop (mkF m 108 #[.val (.long q0), .second, .val (.int p0), .val (.int p1), .val (.int p2), .val (.int ww), .val (.int aa), .val (.int fl), .val (.ref b1), .unset, .unset, .unset, .unset, .unset] [(.int (aa + ww))])) _
    refine XS.istore X26.here hx rfl (hb hby at_108) rfl (l' := #[.val (.long q0), .second, .val (.int p0), .val (.int p1), .val (.int p2), .val (.int ww), .val (.int aa), .val (.int fl), .val (.ref b1), .val (.int (aa + ww)), .unset, .unset, .unset, .unset]) rfl ?_
    show Steps p.tables e below (T26.setTop (mkF m 110 #[.val (.long q0), .second, .val (.int p0), .val (.int p1), .val (.int p2), .val (.int ww), .val (.int aa), .val (.int fl), .val (.ref b1), .val (.int (aa + ww)), .unset, .unset, .unset, .unset] [])) _
    refine XS.iload X26.here hx rfl (hb hby at_110) rfl ?_
    show Steps p.tables e below (T26.setTop (mkF m 112 #[.val (.long q0), .second, .val (.int p0), .val (.int p1), .val (.int p2), .val (.int ww), .val (.int aa), .val (.int fl), .val (.ref b1), .val (.int (aa + ww)), .unset, .unset, .unset, .unset] [(.int (aa + ww))])) _
    refine XS.iload X26.here hx rfl (hb hby at_112) rfl ?_
    show Steps p.tables e below (T26.setTop (mkF m 114 #[.val (.long q0), .second, .val (.int p0), .val (.int p1), .val (.int p2), .val (.int ww), .val (.int aa), .val (.int fl), .val (.ref b1), .val (.int (aa + ww)), .unset, .unset, .unset, .unset] [(.int aa), (.int (aa + ww))])) _
    refine XS.iload X26.here hx rfl (hb hby at_114) rfl ?_
    show Steps p.tables e below (T26.setTop (mkF m 116 #[.val (.long q0), .second, .val (.int p0), .val (.int p1), .val (.int p2), .val (.int ww), .val (.int aa), .val (.int fl), .val (.ref b1), .val (.int (aa + ww)), .unset, .unset, .unset, .unset] [(.int ww), (.int aa), (.int (aa + ww))])) _
    refine XS.iadd X26.here hx rfl (hb hby at_116) rfl ?_
    show Steps p.tables e below (T26.setTop (mkF m 117 #[.val (.long q0), .second, .val (.int p0), .val (.int p1), .val (.int p2), .val (.int ww), .val (.int aa), .val (.int fl), .val (.ref b1), .val (.int (aa + ww)), .unset, .unset, .unset, .unset] [(.int (aa + ww)), (.int (aa + ww))])) _
    refine XS.icmpYes X26.here hx rfl (pc0 := 117) (pc' := 122) rfl (hb hby at_117) rfl (teq (rfl : (aa + ww) = (aa + ww))).1 (by decide) (by decide) ?_
    show Steps p.tables e below (T26.setTop (mkF m 122 #[.val (.long q0), .second, .val (.int p0), .val (.int p1), .val (.int p2), .val (.int ww), .val (.int aa), .val (.int fl), .val (.ref b1), .val (.int (aa + ww)), .unset, .unset, .unset, .unset] [])) _
    refine XS.lconst X26.here hx rfl (hb hby at_122) ?_
    show Steps p.tables e below (T26.setTop (mkF m 123 #[.val (.long q0), .second, .val (.int p0), .val (.int p1), .val (.int p2), .val (.int ww), .val (.int aa), .val (.int fl), .val (.ref b1), .val (.int (aa + ww)), .unset, .unset, .unset, .unset] [(.long (0 : Int64))])) _
    refine XS.lstore X26.here hx rfl (hb hby at_123) rfl (l' := #[.val (.long q0), .second, .val (.int p0), .val (.int p1), .val (.int p2), .val (.int ww), .val (.int aa), .val (.int fl), .val (.ref b1), .val (.int (aa + ww)), .val (.long (0 : Int64)), .second, .unset, .unset]) rfl ?_
    show Steps p.tables e below (T26.setTop (mkF m 125 #[.val (.long q0), .second, .val (.int p0), .val (.int p1), .val (.int p2), .val (.int ww), .val (.int aa), .val (.int fl), .val (.ref b1), .val (.int (aa + ww)), .val (.long (0 : Int64)), .second, .unset, .unset] [])) _
    refine XS.lload X26.here hx rfl (hb hby at_125) rfl ?_
    show Steps p.tables e below (T26.setTop (mkF m 127 #[.val (.long q0), .second, .val (.int p0), .val (.int p1), .val (.int p2), .val (.int ww), .val (.int aa), .val (.int fl), .val (.ref b1), .val (.int (aa + ww)), .val (.long (0 : Int64)), .second, .unset, .unset] [(.long (0 : Int64))])) _
    refine XS.aload X26.here hx rfl (hb hby at_127) rfl rfl ?_
    show Steps p.tables e below (T26.setTop (mkF m 129 #[.val (.long q0), .second, .val (.int p0), .val (.int p1), .val (.int p2), .val (.int ww), .val (.int aa), .val (.int fl), .val (.ref b1), .val (.int (aa + ww)), .val (.long (0 : Int64)), .second, .unset, .unset] [(.ref b1), (.long (0 : Int64))])) _
    refine XS.iload X26.here hx rfl (hb hby at_129) rfl ?_
    show Steps p.tables e below (T26.setTop (mkF m 131 #[.val (.long q0), .second, .val (.int p0), .val (.int p1), .val (.int p2), .val (.int ww), .val (.int aa), .val (.int fl), .val (.ref b1), .val (.int (aa + ww)), .val (.long (0 : Int64)), .second, .unset, .unset] [(.int aa), (.ref b1), (.long (0 : Int64))])) _
    refine XS.iconst X26.here hx rfl (hb hby at_131) ?_
    show Steps p.tables e below (T26.setTop (mkF m 132 #[.val (.long q0), .second, .val (.int p0), .val (.int p1), .val (.int p2), .val (.int ww), .val (.int aa), .val (.int fl), .val (.ref b1), .val (.int (aa + ww)), .val (.long (0 : Int64)), .second, .unset, .unset] [(.int (0 : Int32)), (.int aa), (.ref b1), (.long (0 : Int64))])) _
    refine XS.iload X26.here hx rfl (hb hby at_132) rfl ?_
    show Steps p.tables e below (T26.setTop (mkF m 134 #[.val (.long q0), .second, .val (.int p0), .val (.int p1), .val (.int p2), .val (.int ww), .val (.int aa), .val (.int fl), .val (.ref b1), .val (.int (aa + ww)), .val (.long (0 : Int64)), .second, .unset, .unset] [(.int ww), (.int (0 : Int32)), (.int aa), (.ref b1), (.long (0 : Int64))])) _
    refine st27 _ ?_
    show Steps p.tables e below (T27.setTop (mkF m 137 #[.val (.long q0), .second, .val (.int p0), .val (.int p1), .val (.int p2), .val (.int ww), .val (.int aa), .val (.int fl), .val (.ref b1), .val (.int (aa + ww)), .val (.long (0 : Int64)), .second, .unset, .unset] [(.long (own_acc tb (0 : Int64) aa (0 : Int32) ww))])) _
    refine XS.lstore X27.here hx rfl (hb hby at_137) rfl (l' := #[.val (.long q0), .second, .val (.int p0), .val (.int p1), .val (.int p2), .val (.int ww), .val (.int aa), .val (.int fl), .val (.ref b1), .val (.int (aa + ww)), .val (.long (own_acc tb (0 : Int64) aa (0 : Int32) ww)), .second, .unset, .unset]) rfl ?_
    show Steps p.tables e below (T27.setTop (mkF m 139 #[.val (.long q0), .second, .val (.int p0), .val (.int p1), .val (.int p2), .val (.int ww), .val (.int aa), .val (.int fl), .val (.ref b1), .val (.int (aa + ww)), .val (.long (own_acc tb (0 : Int64) aa (0 : Int32) ww)), .second, .unset, .unset] [])) _
    rw [← h_r1]
    show Steps p.tables e below (T27.setTop (mkF m 139 #[.val (.long q0), .second, .val (.int p0), .val (.int p1), .val (.int p2), .val (.int ww), .val (.int aa), .val (.int fl), .val (.ref b1), .val (.int (aa + ww)), .val (.long r1), .second, .unset, .unset] [])) _
    refine XS.lload X27.here hx rfl (hb hby at_139) rfl ?_
    show Steps p.tables e below (T27.setTop (mkF m 141 #[.val (.long q0), .second, .val (.int p0), .val (.int p1), .val (.int p2), .val (.int ww), .val (.int aa), .val (.int fl), .val (.ref b1), .val (.int (aa + ww)), .val (.long r1), .second, .unset, .unset] [(.long r1)])) _
    refine XS.aload X27.here hx rfl (hb hby at_141) rfl rfl ?_
    show Steps p.tables e below (T27.setTop (mkF m 143 #[.val (.long q0), .second, .val (.int p0), .val (.int p1), .val (.int p2), .val (.int ww), .val (.int aa), .val (.int fl), .val (.ref b1), .val (.int (aa + ww)), .val (.long r1), .second, .unset, .unset] [(.ref b1), (.long r1)])) _
    refine XS.iload X27.here hx rfl (hb hby at_143) rfl ?_
    show Steps p.tables e below (T27.setTop (mkF m 145 #[.val (.long q0), .second, .val (.int p0), .val (.int p1), .val (.int p2), .val (.int ww), .val (.int aa), .val (.int fl), .val (.ref b1), .val (.int (aa + ww)), .val (.long r1), .second, .unset, .unset] [(.int aa), (.ref b1), (.long r1)])) _
    refine XS.iconst X27.here hx rfl (hb hby at_145) ?_
    show Steps p.tables e below (T27.setTop (mkF m 146 #[.val (.long q0), .second, .val (.int p0), .val (.int p1), .val (.int p2), .val (.int ww), .val (.int aa), .val (.int fl), .val (.ref b1), .val (.int (aa + ww)), .val (.long r1), .second, .unset, .unset] [(.int (1 : Int32)), (.int aa), (.ref b1), (.long r1)])) _
    refine XS.iload X27.here hx rfl (hb hby at_146) rfl ?_
    show Steps p.tables e below (T27.setTop (mkF m 148 #[.val (.long q0), .second, .val (.int p0), .val (.int p1), .val (.int p2), .val (.int ww), .val (.int aa), .val (.int fl), .val (.ref b1), .val (.int (aa + ww)), .val (.long r1), .second, .unset, .unset] [(.int ww), (.int (1 : Int32)), (.int aa), (.ref b1), (.long r1)])) _
    refine st28 _ ?_
    show Steps p.tables e below (T28.setTop (mkF m 151 #[.val (.long q0), .second, .val (.int p0), .val (.int p1), .val (.int p2), .val (.int ww), .val (.int aa), .val (.int fl), .val (.ref b1), .val (.int (aa + ww)), .val (.long r1), .second, .unset, .unset] [(.long (own_acc tb r1 aa (1 : Int32) ww))])) _
    refine XS.lstore X28.here hx rfl (hb hby at_151) rfl (l' := #[.val (.long q0), .second, .val (.int p0), .val (.int p1), .val (.int p2), .val (.int ww), .val (.int aa), .val (.int fl), .val (.ref b1), .val (.int (aa + ww)), .val (.long (own_acc tb r1 aa (1 : Int32) ww)), .second, .unset, .unset]) rfl ?_
    show Steps p.tables e below (T28.setTop (mkF m 153 #[.val (.long q0), .second, .val (.int p0), .val (.int p1), .val (.int p2), .val (.int ww), .val (.int aa), .val (.int fl), .val (.ref b1), .val (.int (aa + ww)), .val (.long (own_acc tb r1 aa (1 : Int32) ww)), .second, .unset, .unset] [])) _
    rw [← h_r2]
    show Steps p.tables e below (T28.setTop (mkF m 153 #[.val (.long q0), .second, .val (.int p0), .val (.int p1), .val (.int p2), .val (.int ww), .val (.int aa), .val (.int fl), .val (.ref b1), .val (.int (aa + ww)), .val (.long r2), .second, .unset, .unset] [])) _
    refine XS.lload X28.here hx rfl (hb hby at_153) rfl ?_
    show Steps p.tables e below (T28.setTop (mkF m 155 #[.val (.long q0), .second, .val (.int p0), .val (.int p1), .val (.int p2), .val (.int ww), .val (.int aa), .val (.int fl), .val (.ref b1), .val (.int (aa + ww)), .val (.long r2), .second, .unset, .unset] [(.long r2)])) _
    refine XS.aload X28.here hx rfl (hb hby at_155) rfl rfl ?_
    show Steps p.tables e below (T28.setTop (mkF m 157 #[.val (.long q0), .second, .val (.int p0), .val (.int p1), .val (.int p2), .val (.int ww), .val (.int aa), .val (.int fl), .val (.ref b1), .val (.int (aa + ww)), .val (.long r2), .second, .unset, .unset] [(.ref b1), (.long r2)])) _
    refine XS.iload X28.here hx rfl (hb hby at_157) rfl ?_
    show Steps p.tables e below (T28.setTop (mkF m 159 #[.val (.long q0), .second, .val (.int p0), .val (.int p1), .val (.int p2), .val (.int ww), .val (.int aa), .val (.int fl), .val (.ref b1), .val (.int (aa + ww)), .val (.long r2), .second, .unset, .unset] [(.int aa), (.ref b1), (.long r2)])) _
    refine XS.iconst X28.here hx rfl (hb hby at_159) ?_
    show Steps p.tables e below (T28.setTop (mkF m 160 #[.val (.long q0), .second, .val (.int p0), .val (.int p1), .val (.int p2), .val (.int ww), .val (.int aa), .val (.int fl), .val (.ref b1), .val (.int (aa + ww)), .val (.long r2), .second, .unset, .unset] [(.int (2 : Int32)), (.int aa), (.ref b1), (.long r2)])) _
    refine XS.iload X28.here hx rfl (hb hby at_160) rfl ?_
    show Steps p.tables e below (T28.setTop (mkF m 162 #[.val (.long q0), .second, .val (.int p0), .val (.int p1), .val (.int p2), .val (.int ww), .val (.int aa), .val (.int fl), .val (.ref b1), .val (.int (aa + ww)), .val (.long r2), .second, .unset, .unset] [(.int ww), (.int (2 : Int32)), (.int aa), (.ref b1), (.long r2)])) _
    refine st29 _ ?_
    show Steps p.tables e below (T29.setTop (mkF m 165 #[.val (.long q0), .second, .val (.int p0), .val (.int p1), .val (.int p2), .val (.int ww), .val (.int aa), .val (.int fl), .val (.ref b1), .val (.int (aa + ww)), .val (.long r2), .second, .unset, .unset] [(.long (own_acc tb r2 aa (2 : Int32) ww))])) _
    refine XS.lstore X29.here hx rfl (hb hby at_165) rfl (l' := #[.val (.long q0), .second, .val (.int p0), .val (.int p1), .val (.int p2), .val (.int ww), .val (.int aa), .val (.int fl), .val (.ref b1), .val (.int (aa + ww)), .val (.long (own_acc tb r2 aa (2 : Int32) ww)), .second, .unset, .unset]) rfl ?_
    show Steps p.tables e below (T29.setTop (mkF m 167 #[.val (.long q0), .second, .val (.int p0), .val (.int p1), .val (.int p2), .val (.int ww), .val (.int aa), .val (.int fl), .val (.ref b1), .val (.int (aa + ww)), .val (.long (own_acc tb r2 aa (2 : Int32) ww)), .second, .unset, .unset] [])) _
    rw [← h_r3]
    show Steps p.tables e below (T29.setTop (mkF m 167 #[.val (.long q0), .second, .val (.int p0), .val (.int p1), .val (.int p2), .val (.int ww), .val (.int aa), .val (.int fl), .val (.ref b1), .val (.int (aa + ww)), .val (.long r3), .second, .unset, .unset] [])) _
    refine XS.lload X29.here hx rfl (hb hby at_167) rfl ?_
    show Steps p.tables e below (T29.setTop (mkF m 169 #[.val (.long q0), .second, .val (.int p0), .val (.int p1), .val (.int p2), .val (.int ww), .val (.int aa), .val (.int fl), .val (.ref b1), .val (.int (aa + ww)), .val (.long r3), .second, .unset, .unset] [(.long r3)])) _
    refine XS.aload X29.here hx rfl (hb hby at_169) rfl rfl ?_
    show Steps p.tables e below (T29.setTop (mkF m 171 #[.val (.long q0), .second, .val (.int p0), .val (.int p1), .val (.int p2), .val (.int ww), .val (.int aa), .val (.int fl), .val (.ref b1), .val (.int (aa + ww)), .val (.long r3), .second, .unset, .unset] [(.ref b1), (.long r3)])) _
    refine XS.iload X29.here hx rfl (hb hby at_171) rfl ?_
    show Steps p.tables e below (T29.setTop (mkF m 173 #[.val (.long q0), .second, .val (.int p0), .val (.int p1), .val (.int p2), .val (.int ww), .val (.int aa), .val (.int fl), .val (.ref b1), .val (.int (aa + ww)), .val (.long r3), .second, .unset, .unset] [(.int aa), (.ref b1), (.long r3)])) _
    refine XS.iconst X29.here hx rfl (hb hby at_173) ?_
    show Steps p.tables e below (T29.setTop (mkF m 174 #[.val (.long q0), .second, .val (.int p0), .val (.int p1), .val (.int p2), .val (.int ww), .val (.int aa), .val (.int fl), .val (.ref b1), .val (.int (aa + ww)), .val (.long r3), .second, .unset, .unset] [(.int (3 : Int32)), (.int aa), (.ref b1), (.long r3)])) _
    refine XS.iload X29.here hx rfl (hb hby at_174) rfl ?_
    show Steps p.tables e below (T29.setTop (mkF m 176 #[.val (.long q0), .second, .val (.int p0), .val (.int p1), .val (.int p2), .val (.int ww), .val (.int aa), .val (.int fl), .val (.ref b1), .val (.int (aa + ww)), .val (.long r3), .second, .unset, .unset] [(.int ww), (.int (3 : Int32)), (.int aa), (.ref b1), (.long r3)])) _
    refine st30 _ ?_
    show Steps p.tables e below (T30.setTop (mkF m 179 #[.val (.long q0), .second, .val (.int p0), .val (.int p1), .val (.int p2), .val (.int ww), .val (.int aa), .val (.int fl), .val (.ref b1), .val (.int (aa + ww)), .val (.long r3), .second, .unset, .unset] [(.long (own_acc tb r3 aa (3 : Int32) ww))])) _
    refine XS.lstore X30.here hx rfl (hb hby at_179) rfl (l' := #[.val (.long q0), .second, .val (.int p0), .val (.int p1), .val (.int p2), .val (.int ww), .val (.int aa), .val (.int fl), .val (.ref b1), .val (.int (aa + ww)), .val (.long (own_acc tb r3 aa (3 : Int32) ww)), .second, .unset, .unset]) rfl ?_
    show Steps p.tables e below (T30.setTop (mkF m 181 #[.val (.long q0), .second, .val (.int p0), .val (.int p1), .val (.int p2), .val (.int ww), .val (.int aa), .val (.int fl), .val (.ref b1), .val (.int (aa + ww)), .val (.long (own_acc tb r3 aa (3 : Int32) ww)), .second, .unset, .unset] [])) _
    rw [← h_r4]
    show Steps p.tables e below (T30.setTop (mkF m 181 #[.val (.long q0), .second, .val (.int p0), .val (.int p1), .val (.int p2), .val (.int ww), .val (.int aa), .val (.int fl), .val (.ref b1), .val (.int (aa + ww)), .val (.long r4), .second, .unset, .unset] [])) _
    refine XS.lload X30.here hx rfl (hb hby at_181) rfl ?_
    show Steps p.tables e below (T30.setTop (mkF m 183 #[.val (.long q0), .second, .val (.int p0), .val (.int p1), .val (.int p2), .val (.int ww), .val (.int aa), .val (.int fl), .val (.ref b1), .val (.int (aa + ww)), .val (.long r4), .second, .unset, .unset] [(.long r4)])) _
    refine XS.aload X30.here hx rfl (hb hby at_183) rfl rfl ?_
    show Steps p.tables e below (T30.setTop (mkF m 185 #[.val (.long q0), .second, .val (.int p0), .val (.int p1), .val (.int p2), .val (.int ww), .val (.int aa), .val (.int fl), .val (.ref b1), .val (.int (aa + ww)), .val (.long r4), .second, .unset, .unset] [(.ref b1), (.long r4)])) _
    refine XS.iload X30.here hx rfl (hb hby at_185) rfl ?_
    show Steps p.tables e below (T30.setTop (mkF m 187 #[.val (.long q0), .second, .val (.int p0), .val (.int p1), .val (.int p2), .val (.int ww), .val (.int aa), .val (.int fl), .val (.ref b1), .val (.int (aa + ww)), .val (.long r4), .second, .unset, .unset] [(.int aa), (.ref b1), (.long r4)])) _
    refine XS.iconst X30.here hx rfl (hb hby at_187) ?_
    show Steps p.tables e below (T30.setTop (mkF m 188 #[.val (.long q0), .second, .val (.int p0), .val (.int p1), .val (.int p2), .val (.int ww), .val (.int aa), .val (.int fl), .val (.ref b1), .val (.int (aa + ww)), .val (.long r4), .second, .unset, .unset] [(.int (4 : Int32)), (.int aa), (.ref b1), (.long r4)])) _
    refine XS.iload X30.here hx rfl (hb hby at_188) rfl ?_
    show Steps p.tables e below (T30.setTop (mkF m 190 #[.val (.long q0), .second, .val (.int p0), .val (.int p1), .val (.int p2), .val (.int ww), .val (.int aa), .val (.int fl), .val (.ref b1), .val (.int (aa + ww)), .val (.long r4), .second, .unset, .unset] [(.int ww), (.int (4 : Int32)), (.int aa), (.ref b1), (.long r4)])) _
    refine st31 _ ?_
    show Steps p.tables e below (T31.setTop (mkF m 193 #[.val (.long q0), .second, .val (.int p0), .val (.int p1), .val (.int p2), .val (.int ww), .val (.int aa), .val (.int fl), .val (.ref b1), .val (.int (aa + ww)), .val (.long r4), .second, .unset, .unset] [(.long (own_acc tb r4 aa (4 : Int32) ww))])) _
    refine XS.lstore X31.here hx rfl (hb hby at_193) rfl (l' := #[.val (.long q0), .second, .val (.int p0), .val (.int p1), .val (.int p2), .val (.int ww), .val (.int aa), .val (.int fl), .val (.ref b1), .val (.int (aa + ww)), .val (.long (own_acc tb r4 aa (4 : Int32) ww)), .second, .unset, .unset]) rfl ?_
    show Steps p.tables e below (T31.setTop (mkF m 195 #[.val (.long q0), .second, .val (.int p0), .val (.int p1), .val (.int p2), .val (.int ww), .val (.int aa), .val (.int fl), .val (.ref b1), .val (.int (aa + ww)), .val (.long (own_acc tb r4 aa (4 : Int32) ww)), .second, .unset, .unset] [])) _
    rw [← h_r5]
    show Steps p.tables e below (T31.setTop (mkF m 195 #[.val (.long q0), .second, .val (.int p0), .val (.int p1), .val (.int p2), .val (.int ww), .val (.int aa), .val (.int fl), .val (.ref b1), .val (.int (aa + ww)), .val (.long r5), .second, .unset, .unset] [])) _
    refine XS.lload X31.here hx rfl (hb hby at_195) rfl ?_
    show Steps p.tables e below (T31.setTop (mkF m 197 #[.val (.long q0), .second, .val (.int p0), .val (.int p1), .val (.int p2), .val (.int ww), .val (.int aa), .val (.int fl), .val (.ref b1), .val (.int (aa + ww)), .val (.long r5), .second, .unset, .unset] [(.long r5)])) _
    refine XS.aload X31.here hx rfl (hb hby at_197) rfl rfl ?_
    show Steps p.tables e below (T31.setTop (mkF m 199 #[.val (.long q0), .second, .val (.int p0), .val (.int p1), .val (.int p2), .val (.int ww), .val (.int aa), .val (.int fl), .val (.ref b1), .val (.int (aa + ww)), .val (.long r5), .second, .unset, .unset] [(.ref b1), (.long r5)])) _
    refine XS.iload X31.here hx rfl (hb hby at_199) rfl ?_
    show Steps p.tables e below (T31.setTop (mkF m 201 #[.val (.long q0), .second, .val (.int p0), .val (.int p1), .val (.int p2), .val (.int ww), .val (.int aa), .val (.int fl), .val (.ref b1), .val (.int (aa + ww)), .val (.long r5), .second, .unset, .unset] [(.int aa), (.ref b1), (.long r5)])) _
    refine XS.iconst X31.here hx rfl (hb hby at_201) ?_
    show Steps p.tables e below (T31.setTop (mkF m 202 #[.val (.long q0), .second, .val (.int p0), .val (.int p1), .val (.int p2), .val (.int ww), .val (.int aa), .val (.int fl), .val (.ref b1), .val (.int (aa + ww)), .val (.long r5), .second, .unset, .unset] [(.int (5 : Int32)), (.int aa), (.ref b1), (.long r5)])) _
    refine XS.iload X31.here hx rfl (hb hby at_202) rfl ?_
    show Steps p.tables e below (T31.setTop (mkF m 204 #[.val (.long q0), .second, .val (.int p0), .val (.int p1), .val (.int p2), .val (.int ww), .val (.int aa), .val (.int fl), .val (.ref b1), .val (.int (aa + ww)), .val (.long r5), .second, .unset, .unset] [(.int ww), (.int (5 : Int32)), (.int aa), (.ref b1), (.long r5)])) _
    refine st32 _ ?_
    show Steps p.tables e below (T32.setTop (mkF m 207 #[.val (.long q0), .second, .val (.int p0), .val (.int p1), .val (.int p2), .val (.int ww), .val (.int aa), .val (.int fl), .val (.ref b1), .val (.int (aa + ww)), .val (.long r5), .second, .unset, .unset] [(.long (own_acc tb r5 aa (5 : Int32) ww))])) _
    refine XS.lstore X32.here hx rfl (hb hby at_207) rfl (l' := #[.val (.long q0), .second, .val (.int p0), .val (.int p1), .val (.int p2), .val (.int ww), .val (.int aa), .val (.int fl), .val (.ref b1), .val (.int (aa + ww)), .val (.long (own_acc tb r5 aa (5 : Int32) ww)), .second, .unset, .unset]) rfl ?_
    show Steps p.tables e below (T32.setTop (mkF m 209 #[.val (.long q0), .second, .val (.int p0), .val (.int p1), .val (.int p2), .val (.int ww), .val (.int aa), .val (.int fl), .val (.ref b1), .val (.int (aa + ww)), .val (.long (own_acc tb r5 aa (5 : Int32) ww)), .second, .unset, .unset] [])) _
    rw [← h_r6]
    show Steps p.tables e below (T32.setTop (mkF m 209 #[.val (.long q0), .second, .val (.int p0), .val (.int p1), .val (.int p2), .val (.int ww), .val (.int aa), .val (.int fl), .val (.ref b1), .val (.int (aa + ww)), .val (.long r6), .second, .unset, .unset] [])) _
    refine XS.lload X32.here hx rfl (hb hby at_209) rfl ?_
    show Steps p.tables e below (T32.setTop (mkF m 211 #[.val (.long q0), .second, .val (.int p0), .val (.int p1), .val (.int p2), .val (.int ww), .val (.int aa), .val (.int fl), .val (.ref b1), .val (.int (aa + ww)), .val (.long r6), .second, .unset, .unset] [(.long r6)])) _
    refine XS.aload X32.here hx rfl (hb hby at_211) rfl rfl ?_
    show Steps p.tables e below (T32.setTop (mkF m 213 #[.val (.long q0), .second, .val (.int p0), .val (.int p1), .val (.int p2), .val (.int ww), .val (.int aa), .val (.int fl), .val (.ref b1), .val (.int (aa + ww)), .val (.long r6), .second, .unset, .unset] [(.ref b1), (.long r6)])) _
    refine XS.iload X32.here hx rfl (hb hby at_213) rfl ?_
    show Steps p.tables e below (T32.setTop (mkF m 215 #[.val (.long q0), .second, .val (.int p0), .val (.int p1), .val (.int p2), .val (.int ww), .val (.int aa), .val (.int fl), .val (.ref b1), .val (.int (aa + ww)), .val (.long r6), .second, .unset, .unset] [(.int aa), (.ref b1), (.long r6)])) _
    refine XS.bipush X32.here hx rfl (hb hby at_215) ?_
    show Steps p.tables e below (T32.setTop (mkF m 217 #[.val (.long q0), .second, .val (.int p0), .val (.int p1), .val (.int p2), .val (.int ww), .val (.int aa), .val (.int fl), .val (.ref b1), .val (.int (aa + ww)), .val (.long r6), .second, .unset, .unset] [(.int (6 : Int32)), (.int aa), (.ref b1), (.long r6)])) _
    refine XS.iload X32.here hx rfl (hb hby at_217) rfl ?_
    show Steps p.tables e below (T32.setTop (mkF m 219 #[.val (.long q0), .second, .val (.int p0), .val (.int p1), .val (.int p2), .val (.int ww), .val (.int aa), .val (.int fl), .val (.ref b1), .val (.int (aa + ww)), .val (.long r6), .second, .unset, .unset] [(.int ww), (.int (6 : Int32)), (.int aa), (.ref b1), (.long r6)])) _
    refine st33 _ ?_
    show Steps p.tables e below (T33.setTop (mkF m 222 #[.val (.long q0), .second, .val (.int p0), .val (.int p1), .val (.int p2), .val (.int ww), .val (.int aa), .val (.int fl), .val (.ref b1), .val (.int (aa + ww)), .val (.long r6), .second, .unset, .unset] [(.long (own_acc tb r6 aa (6 : Int32) ww))])) _
    refine XS.lstore X33.here hx rfl (hb hby at_222) rfl (l' := #[.val (.long q0), .second, .val (.int p0), .val (.int p1), .val (.int p2), .val (.int ww), .val (.int aa), .val (.int fl), .val (.ref b1), .val (.int (aa + ww)), .val (.long (own_acc tb r6 aa (6 : Int32) ww)), .second, .unset, .unset]) rfl ?_
    show Steps p.tables e below (T33.setTop (mkF m 224 #[.val (.long q0), .second, .val (.int p0), .val (.int p1), .val (.int p2), .val (.int ww), .val (.int aa), .val (.int fl), .val (.ref b1), .val (.int (aa + ww)), .val (.long (own_acc tb r6 aa (6 : Int32) ww)), .second, .unset, .unset] [])) _
    rw [← h_r7]
    show Steps p.tables e below (T33.setTop (mkF m 224 #[.val (.long q0), .second, .val (.int p0), .val (.int p1), .val (.int p2), .val (.int ww), .val (.int aa), .val (.int fl), .val (.ref b1), .val (.int (aa + ww)), .val (.long r7), .second, .unset, .unset] [])) _
    refine XS.lload X33.here hx rfl (hb hby at_224) rfl ?_
    show Steps p.tables e below (T33.setTop (mkF m 226 #[.val (.long q0), .second, .val (.int p0), .val (.int p1), .val (.int p2), .val (.int ww), .val (.int aa), .val (.int fl), .val (.ref b1), .val (.int (aa + ww)), .val (.long r7), .second, .unset, .unset] [(.long r7)])) _
    refine XS.aload X33.here hx rfl (hb hby at_226) rfl rfl ?_
    show Steps p.tables e below (T33.setTop (mkF m 228 #[.val (.long q0), .second, .val (.int p0), .val (.int p1), .val (.int p2), .val (.int ww), .val (.int aa), .val (.int fl), .val (.ref b1), .val (.int (aa + ww)), .val (.long r7), .second, .unset, .unset] [(.ref b1), (.long r7)])) _
    refine XS.iload X33.here hx rfl (hb hby at_228) rfl ?_
    show Steps p.tables e below (T33.setTop (mkF m 230 #[.val (.long q0), .second, .val (.int p0), .val (.int p1), .val (.int p2), .val (.int ww), .val (.int aa), .val (.int fl), .val (.ref b1), .val (.int (aa + ww)), .val (.long r7), .second, .unset, .unset] [(.int aa), (.ref b1), (.long r7)])) _
    refine XS.bipush X33.here hx rfl (hb hby at_230) ?_
    show Steps p.tables e below (T33.setTop (mkF m 232 #[.val (.long q0), .second, .val (.int p0), .val (.int p1), .val (.int p2), .val (.int ww), .val (.int aa), .val (.int fl), .val (.ref b1), .val (.int (aa + ww)), .val (.long r7), .second, .unset, .unset] [(.int (7 : Int32)), (.int aa), (.ref b1), (.long r7)])) _
    refine XS.iload X33.here hx rfl (hb hby at_232) rfl ?_
    show Steps p.tables e below (T33.setTop (mkF m 234 #[.val (.long q0), .second, .val (.int p0), .val (.int p1), .val (.int p2), .val (.int ww), .val (.int aa), .val (.int fl), .val (.ref b1), .val (.int (aa + ww)), .val (.long r7), .second, .unset, .unset] [(.int ww), (.int (7 : Int32)), (.int aa), (.ref b1), (.long r7)])) _
    refine st34 _ ?_
    show Steps p.tables e below (T34.setTop (mkF m 237 #[.val (.long q0), .second, .val (.int p0), .val (.int p1), .val (.int p2), .val (.int ww), .val (.int aa), .val (.int fl), .val (.ref b1), .val (.int (aa + ww)), .val (.long r7), .second, .unset, .unset] [(.long (own_acc tb r7 aa (7 : Int32) ww))])) _
    refine XS.lstore X34.here hx rfl (hb hby at_237) rfl (l' := #[.val (.long q0), .second, .val (.int p0), .val (.int p1), .val (.int p2), .val (.int ww), .val (.int aa), .val (.int fl), .val (.ref b1), .val (.int (aa + ww)), .val (.long (own_acc tb r7 aa (7 : Int32) ww)), .second, .unset, .unset]) rfl ?_
    show Steps p.tables e below (T34.setTop (mkF m 239 #[.val (.long q0), .second, .val (.int p0), .val (.int p1), .val (.int p2), .val (.int ww), .val (.int aa), .val (.int fl), .val (.ref b1), .val (.int (aa + ww)), .val (.long (own_acc tb r7 aa (7 : Int32) ww)), .second, .unset, .unset] [])) _
    rw [← h_r8]
    show Steps p.tables e below (T34.setTop (mkF m 239 #[.val (.long q0), .second, .val (.int p0), .val (.int p1), .val (.int p2), .val (.int ww), .val (.int aa), .val (.int fl), .val (.ref b1), .val (.int (aa + ww)), .val (.long r8), .second, .unset, .unset] [])) _
    refine XS.iload X34.here hx rfl (hb hby at_239) rfl ?_
    show Steps p.tables e below (T34.setTop (mkF m 241 #[.val (.long q0), .second, .val (.int p0), .val (.int p1), .val (.int p2), .val (.int ww), .val (.int aa), .val (.int fl), .val (.ref b1), .val (.int (aa + ww)), .val (.long r8), .second, .unset, .unset] [(.int ww)])) _
    refine XS.bipush X34.here hx rfl (hb hby at_241) ?_
    exact kt
  by_cases hc243 : ww = (8 : Int32)
  · obtain ⟨_, _, ⟨T36, L36, k36, n36⟩, -, X36, ⟨Lc36, hQ36, l36, y36, z36⟩, st36⟩ := Jvm.LawKit.callS X34 hx (y := (⟨"com/example/fyfo/fyfo/BigEndianPutPinLaw", "untouched", "([BIIIB)Z"⟩ : MethodName)) hown (mvT hZ (hw _ (List.mem_of_getElem? (i := 10) rfl))) (mvT hZ (hw _ (List.mem_of_getElem? (i := 11) rfl))) (mvT hZ (hw _ (List.mem_of_getElem? (i := 8) rfl))) (mvT hZ (hw _ (List.mem_of_getElem? (i := 12) rfl))) (by decide) (backOf (W := 0) (rm_unt l Z a0 hw [] b1 (0 : Int32) aa ww fl tb T26.heap n0 Z26 Vtb (by decide)) hZ (hw _ (List.mem_of_getElem? (i := 12) rfl)) (hw _ (List.mem_of_getElem? (i := 8) rfl)) (by decide) (by decide)) (g := (mkF m 284 #[.val (.long q0), .second, .val (.int p0), .val (.int p1), .val (.int p2), .val (.int ww), .val (.int aa), .val (.int fl), .val (.ref b1), .val (.int (aa + ww)), .val (.long r8), .second, .val (.long q0), .second] [(.int fl), (.int ww), (.int aa), (.int (0 : Int32)), (.ref b1)])) rfl (by rw [hml]; rfl) (argsL := [(.ref b1), (.int (0 : Int32)), (.int aa), (.int ww), (.int fl)]) (rest := []) (lenOf pd_2 rfl) rfl (by show 2 * 0 + _ ≤ _; exact Nat.le_of_eq rfl) (hb hby at_284) (fun _ _ => ⟨rfl, e34, (by decide : 1 + 0 ≤ _), (by decide : 12 + 0 ≤ _)⟩)
    dsimp only [Pt.U, Pt.locs, Pt.cells, Pt.slots] at X36 l36 y36 z36 st36 hQ36
    subst y36 z36
    obtain ⟨rfl, N36q, e36⟩ := hQ36
    have N36 : Fr n0 L36 := by rw [l36]; exact Fr.app N34 N36q
    obtain ⟨_, _, ⟨T37, L37, k37, n37⟩, -, X37, ⟨Lc37, hQ37, l37, y37, z37⟩, st37⟩ := Jvm.LawKit.callS X36 hx (y := (⟨"com/example/fyfo/fyfo/BigEndianPutPinLaw", "untouched", "([BIIIB)Z"⟩ : MethodName)) hown (mvT hZ (hw _ (List.mem_of_getElem? (i := 10) rfl))) (mvT hZ (hw _ (List.mem_of_getElem? (i := 11) rfl))) (mvT hZ (hw _ (List.mem_of_getElem? (i := 8) rfl))) (mvT hZ (hw _ (List.mem_of_getElem? (i := 12) rfl))) (by decide) (backOf (W := 0) (rm_unt l Z a0 hw [] b1 (1 : Int32) aa ww fl tb T26.heap n0 Z26 Vtb (by decide)) hZ (hw _ (List.mem_of_getElem? (i := 12) rfl)) (hw _ (List.mem_of_getElem? (i := 8) rfl)) (by decide) (by decide)) (g := (mkF m 299 #[.val (.long q0), .second, .val (.int p0), .val (.int p1), .val (.int p2), .val (.int ww), .val (.int aa), .val (.int fl), .val (.ref b1), .val (.int (aa + ww)), .val (.long r8), .second, .val (.long q0), .second] [(.int fl), (.int ww), (.int aa), (.int (1 : Int32)), (.ref b1)])) rfl (by rw [hml]; rfl) (argsL := [(.ref b1), (.int (1 : Int32)), (.int aa), (.int ww), (.int fl)]) (rest := []) (lenOf pd_2 rfl) rfl (by show 2 * 0 + _ ≤ _; exact Nat.le_of_eq rfl) (hb hby at_299) (fun _ _ => ⟨rfl, e36, (by decide : 1 + 0 ≤ _), (by decide : 12 + 0 ≤ _)⟩)
    dsimp only [Pt.U, Pt.locs, Pt.cells, Pt.slots] at X37 l37 y37 z37 st37 hQ37
    subst y37 z37
    obtain ⟨rfl, N37q, e37⟩ := hQ37
    have N37 : Fr n0 L37 := by rw [l37]; exact Fr.app N36 N37q
    obtain ⟨_, _, ⟨T38, L38, k38, n38⟩, -, X38, ⟨Lc38, hQ38, l38, y38, z38⟩, st38⟩ := Jvm.LawKit.callS X37 hx (y := (⟨"com/example/fyfo/fyfo/BigEndianPutPinLaw", "untouched", "([BIIIB)Z"⟩ : MethodName)) hown (mvT hZ (hw _ (List.mem_of_getElem? (i := 10) rfl))) (mvT hZ (hw _ (List.mem_of_getElem? (i := 11) rfl))) (mvT hZ (hw _ (List.mem_of_getElem? (i := 8) rfl))) (mvT hZ (hw _ (List.mem_of_getElem? (i := 12) rfl))) (by decide) (backOf (W := 0) (rm_unt l Z a0 hw [] b1 (2 : Int32) aa ww fl tb T26.heap n0 Z26 Vtb (by decide)) hZ (hw _ (List.mem_of_getElem? (i := 12) rfl)) (hw _ (List.mem_of_getElem? (i := 8) rfl)) (by decide) (by decide)) (g := (mkF m 314 #[.val (.long q0), .second, .val (.int p0), .val (.int p1), .val (.int p2), .val (.int ww), .val (.int aa), .val (.int fl), .val (.ref b1), .val (.int (aa + ww)), .val (.long r8), .second, .val (.long q0), .second] [(.int fl), (.int ww), (.int aa), (.int (2 : Int32)), (.ref b1)])) rfl (by rw [hml]; rfl) (argsL := [(.ref b1), (.int (2 : Int32)), (.int aa), (.int ww), (.int fl)]) (rest := []) (lenOf pd_2 rfl) rfl (by show 2 * 0 + _ ≤ _; exact Nat.le_of_eq rfl) (hb hby at_314) (fun _ _ => ⟨rfl, e37, (by decide : 1 + 0 ≤ _), (by decide : 12 + 0 ≤ _)⟩)
    dsimp only [Pt.U, Pt.locs, Pt.cells, Pt.slots] at X38 l38 y38 z38 st38 hQ38
    subst y38 z38
    obtain ⟨rfl, N38q, e38⟩ := hQ38
    have N38 : Fr n0 L38 := by rw [l38]; exact Fr.app N37 N38q
    obtain ⟨_, _, ⟨T39, L39, k39, n39⟩, -, X39, ⟨Lc39, hQ39, l39, y39, z39⟩, st39⟩ := Jvm.LawKit.callS X38 hx (y := (⟨"com/example/fyfo/fyfo/BigEndianPutPinLaw", "untouched", "([BIIIB)Z"⟩ : MethodName)) hown (mvT hZ (hw _ (List.mem_of_getElem? (i := 10) rfl))) (mvT hZ (hw _ (List.mem_of_getElem? (i := 11) rfl))) (mvT hZ (hw _ (List.mem_of_getElem? (i := 8) rfl))) (mvT hZ (hw _ (List.mem_of_getElem? (i := 12) rfl))) (by decide) (backOf (W := 0) (rm_unt l Z a0 hw [] b1 (3 : Int32) aa ww fl tb T26.heap n0 Z26 Vtb (by decide)) hZ (hw _ (List.mem_of_getElem? (i := 12) rfl)) (hw _ (List.mem_of_getElem? (i := 8) rfl)) (by decide) (by decide)) (g := (mkF m 329 #[.val (.long q0), .second, .val (.int p0), .val (.int p1), .val (.int p2), .val (.int ww), .val (.int aa), .val (.int fl), .val (.ref b1), .val (.int (aa + ww)), .val (.long r8), .second, .val (.long q0), .second] [(.int fl), (.int ww), (.int aa), (.int (3 : Int32)), (.ref b1)])) rfl (by rw [hml]; rfl) (argsL := [(.ref b1), (.int (3 : Int32)), (.int aa), (.int ww), (.int fl)]) (rest := []) (lenOf pd_2 rfl) rfl (by show 2 * 0 + _ ≤ _; exact Nat.le_of_eq rfl) (hb hby at_329) (fun _ _ => ⟨rfl, e38, (by decide : 1 + 0 ≤ _), (by decide : 12 + 0 ≤ _)⟩)
    dsimp only [Pt.U, Pt.locs, Pt.cells, Pt.slots] at X39 l39 y39 z39 st39 hQ39
    subst y39 z39
    obtain ⟨rfl, N39q, e39⟩ := hQ39
    have N39 : Fr n0 L39 := by rw [l39]; exact Fr.app N38 N39q
    obtain ⟨_, _, ⟨T40, L40, k40, n40⟩, -, X40, ⟨Lc40, hQ40, l40, y40, z40⟩, st40⟩ := Jvm.LawKit.callS X39 hx (y := (⟨"com/example/fyfo/fyfo/BigEndianPutPinLaw", "untouched", "([BIIIB)Z"⟩ : MethodName)) hown (mvT hZ (hw _ (List.mem_of_getElem? (i := 10) rfl))) (mvT hZ (hw _ (List.mem_of_getElem? (i := 11) rfl))) (mvT hZ (hw _ (List.mem_of_getElem? (i := 8) rfl))) (mvT hZ (hw _ (List.mem_of_getElem? (i := 12) rfl))) (by decide) (backOf (W := 0) (rm_unt l Z a0 hw [] b1 (4 : Int32) aa ww fl tb T26.heap n0 Z26 Vtb (by decide)) hZ (hw _ (List.mem_of_getElem? (i := 12) rfl)) (hw _ (List.mem_of_getElem? (i := 8) rfl)) (by decide) (by decide)) (g := (mkF m 344 #[.val (.long q0), .second, .val (.int p0), .val (.int p1), .val (.int p2), .val (.int ww), .val (.int aa), .val (.int fl), .val (.ref b1), .val (.int (aa + ww)), .val (.long r8), .second, .val (.long q0), .second] [(.int fl), (.int ww), (.int aa), (.int (4 : Int32)), (.ref b1)])) rfl (by rw [hml]; rfl) (argsL := [(.ref b1), (.int (4 : Int32)), (.int aa), (.int ww), (.int fl)]) (rest := []) (lenOf pd_2 rfl) rfl (by show 2 * 0 + _ ≤ _; exact Nat.le_of_eq rfl) (hb hby at_344) (fun _ _ => ⟨rfl, e39, (by decide : 1 + 0 ≤ _), (by decide : 12 + 0 ≤ _)⟩)
    dsimp only [Pt.U, Pt.locs, Pt.cells, Pt.slots] at X40 l40 y40 z40 st40 hQ40
    subst y40 z40
    obtain ⟨rfl, N40q, e40⟩ := hQ40
    have N40 : Fr n0 L40 := by rw [l40]; exact Fr.app N39 N40q
    obtain ⟨_, _, ⟨T41, L41, k41, n41⟩, -, X41, ⟨Lc41, hQ41, l41, y41, z41⟩, st41⟩ := Jvm.LawKit.callS X40 hx (y := (⟨"com/example/fyfo/fyfo/BigEndianPutPinLaw", "untouched", "([BIIIB)Z"⟩ : MethodName)) hown (mvT hZ (hw _ (List.mem_of_getElem? (i := 10) rfl))) (mvT hZ (hw _ (List.mem_of_getElem? (i := 11) rfl))) (mvT hZ (hw _ (List.mem_of_getElem? (i := 8) rfl))) (mvT hZ (hw _ (List.mem_of_getElem? (i := 12) rfl))) (by decide) (backOf (W := 0) (rm_unt l Z a0 hw [] b1 (5 : Int32) aa ww fl tb T26.heap n0 Z26 Vtb (by decide)) hZ (hw _ (List.mem_of_getElem? (i := 12) rfl)) (hw _ (List.mem_of_getElem? (i := 8) rfl)) (by decide) (by decide)) (g := (mkF m 359 #[.val (.long q0), .second, .val (.int p0), .val (.int p1), .val (.int p2), .val (.int ww), .val (.int aa), .val (.int fl), .val (.ref b1), .val (.int (aa + ww)), .val (.long r8), .second, .val (.long q0), .second] [(.int fl), (.int ww), (.int aa), (.int (5 : Int32)), (.ref b1)])) rfl (by rw [hml]; rfl) (argsL := [(.ref b1), (.int (5 : Int32)), (.int aa), (.int ww), (.int fl)]) (rest := []) (lenOf pd_2 rfl) rfl (by show 2 * 0 + _ ≤ _; exact Nat.le_of_eq rfl) (hb hby at_359) (fun _ _ => ⟨rfl, e40, (by decide : 1 + 0 ≤ _), (by decide : 12 + 0 ≤ _)⟩)
    dsimp only [Pt.U, Pt.locs, Pt.cells, Pt.slots] at X41 l41 y41 z41 st41 hQ41
    subst y41 z41
    obtain ⟨rfl, N41q, e41⟩ := hQ41
    have N41 : Fr n0 L41 := by rw [l41]; exact Fr.app N40 N41q
    obtain ⟨_, _, ⟨T42, L42, k42, n42⟩, -, X42, ⟨Lc42, hQ42, l42, y42, z42⟩, st42⟩ := Jvm.LawKit.callS X41 hx (y := (⟨"com/example/fyfo/fyfo/BigEndianPutPinLaw", "untouched", "([BIIIB)Z"⟩ : MethodName)) hown (mvT hZ (hw _ (List.mem_of_getElem? (i := 10) rfl))) (mvT hZ (hw _ (List.mem_of_getElem? (i := 11) rfl))) (mvT hZ (hw _ (List.mem_of_getElem? (i := 8) rfl))) (mvT hZ (hw _ (List.mem_of_getElem? (i := 12) rfl))) (by decide) (backOf (W := 0) (rm_unt l Z a0 hw [] b1 (6 : Int32) aa ww fl tb T26.heap n0 Z26 Vtb (by decide)) hZ (hw _ (List.mem_of_getElem? (i := 12) rfl)) (hw _ (List.mem_of_getElem? (i := 8) rfl)) (by decide) (by decide)) (g := (mkF m 375 #[.val (.long q0), .second, .val (.int p0), .val (.int p1), .val (.int p2), .val (.int ww), .val (.int aa), .val (.int fl), .val (.ref b1), .val (.int (aa + ww)), .val (.long r8), .second, .val (.long q0), .second] [(.int fl), (.int ww), (.int aa), (.int (6 : Int32)), (.ref b1)])) rfl (by rw [hml]; rfl) (argsL := [(.ref b1), (.int (6 : Int32)), (.int aa), (.int ww), (.int fl)]) (rest := []) (lenOf pd_2 rfl) rfl (by show 2 * 0 + _ ≤ _; exact Nat.le_of_eq rfl) (hb hby at_375) (fun _ _ => ⟨rfl, e41, (by decide : 1 + 0 ≤ _), (by decide : 12 + 0 ≤ _)⟩)
    dsimp only [Pt.U, Pt.locs, Pt.cells, Pt.slots] at X42 l42 y42 z42 st42 hQ42
    subst y42 z42
    obtain ⟨rfl, N42q, e42⟩ := hQ42
    have N42 : Fr n0 L42 := by rw [l42]; exact Fr.app N41 N42q
    obtain ⟨_, _, ⟨T43, L43, k43, n43⟩, -, X43, ⟨Lc43, hQ43, l43, y43, z43⟩, st43⟩ := Jvm.LawKit.callS X42 hx (y := (⟨"com/example/fyfo/fyfo/BigEndianPutPinLaw", "untouched", "([BIIIB)Z"⟩ : MethodName)) hown (mvT hZ (hw _ (List.mem_of_getElem? (i := 10) rfl))) (mvT hZ (hw _ (List.mem_of_getElem? (i := 11) rfl))) (mvT hZ (hw _ (List.mem_of_getElem? (i := 8) rfl))) (mvT hZ (hw _ (List.mem_of_getElem? (i := 12) rfl))) (by decide) (backOf (W := 0) (rm_unt l Z a0 hw [] b1 (7 : Int32) aa ww fl tb T26.heap n0 Z26 Vtb (by decide)) hZ (hw _ (List.mem_of_getElem? (i := 12) rfl)) (hw _ (List.mem_of_getElem? (i := 8) rfl)) (by decide) (by decide)) (g := (mkF m 391 #[.val (.long q0), .second, .val (.int p0), .val (.int p1), .val (.int p2), .val (.int ww), .val (.int aa), .val (.int fl), .val (.ref b1), .val (.int (aa + ww)), .val (.long r8), .second, .val (.long q0), .second] [(.int fl), (.int ww), (.int aa), (.int (7 : Int32)), (.ref b1)])) rfl (by rw [hml]; rfl) (argsL := [(.ref b1), (.int (7 : Int32)), (.int aa), (.int ww), (.int fl)]) (rest := []) (lenOf pd_2 rfl) rfl (by show 2 * 0 + _ ≤ _; exact Nat.le_of_eq rfl) (hb hby at_391) (fun _ _ => ⟨rfl, e42, (by decide : 1 + 0 ≤ _), (by decide : 12 + 0 ≤ _)⟩)
    dsimp only [Pt.U, Pt.locs, Pt.cells, Pt.slots] at X43 l43 y43 z43 st43 hQ43
    subst y43 z43
    obtain ⟨rfl, N43q, e43⟩ := hQ43
    have N43 : Fr n0 L43 := by rw [l43]; exact Fr.app N42 N43q
    obtain ⟨_, _, ⟨T44, L44, k44, n44⟩, -, X44, ⟨Lc44, hQ44, l44, y44, z44⟩, st44⟩ := Jvm.LawKit.callS X43 hx (y := (⟨"com/example/fyfo/fyfo/BigEndianPutPinLaw", "untouched", "([BIIIB)Z"⟩ : MethodName)) hown (mvT hZ (hw _ (List.mem_of_getElem? (i := 10) rfl))) (mvT hZ (hw _ (List.mem_of_getElem? (i := 11) rfl))) (mvT hZ (hw _ (List.mem_of_getElem? (i := 8) rfl))) (mvT hZ (hw _ (List.mem_of_getElem? (i := 12) rfl))) (by decide) (backOf (W := 0) (rm_unt l Z a0 hw [] b1 (8 : Int32) aa ww fl tb T26.heap n0 Z26 Vtb (by decide)) hZ (hw _ (List.mem_of_getElem? (i := 12) rfl)) (hw _ (List.mem_of_getElem? (i := 8) rfl)) (by decide) (by decide)) (g := (mkF m 407 #[.val (.long q0), .second, .val (.int p0), .val (.int p1), .val (.int p2), .val (.int ww), .val (.int aa), .val (.int fl), .val (.ref b1), .val (.int (aa + ww)), .val (.long r8), .second, .val (.long q0), .second] [(.int fl), (.int ww), (.int aa), (.int (8 : Int32)), (.ref b1)])) rfl (by rw [hml]; rfl) (argsL := [(.ref b1), (.int (8 : Int32)), (.int aa), (.int ww), (.int fl)]) (rest := []) (lenOf pd_2 rfl) rfl (by show 2 * 0 + _ ≤ _; exact Nat.le_of_eq rfl) (hb hby at_407) (fun _ _ => ⟨rfl, e43, (by decide : 1 + 0 ≤ _), (by decide : 12 + 0 ≤ _)⟩)
    dsimp only [Pt.U, Pt.locs, Pt.cells, Pt.slots] at X44 l44 y44 z44 st44 hQ44
    subst y44 z44
    obtain ⟨rfl, N44q, e44⟩ := hQ44
    have N44 : Fr n0 L44 := by rw [l44]; exact Fr.app N43 N44q
    obtain ⟨_, _, ⟨T45, L45, k45, n45⟩, -, X45, ⟨Lc45, hQ45, l45, y45, z45⟩, st45⟩ := Jvm.LawKit.callS X44 hx (y := (⟨"com/example/fyfo/fyfo/BigEndianPutPinLaw", "untouched", "([BIIIB)Z"⟩ : MethodName)) hown (mvT hZ (hw _ (List.mem_of_getElem? (i := 10) rfl))) (mvT hZ (hw _ (List.mem_of_getElem? (i := 11) rfl))) (mvT hZ (hw _ (List.mem_of_getElem? (i := 8) rfl))) (mvT hZ (hw _ (List.mem_of_getElem? (i := 12) rfl))) (by decide) (backOf (W := 0) (rm_unt l Z a0 hw [] b1 (9 : Int32) aa ww fl tb T26.heap n0 Z26 Vtb (by decide)) hZ (hw _ (List.mem_of_getElem? (i := 12) rfl)) (hw _ (List.mem_of_getElem? (i := 8) rfl)) (by decide) (by decide)) (g := (mkF m 423 #[.val (.long q0), .second, .val (.int p0), .val (.int p1), .val (.int p2), .val (.int ww), .val (.int aa), .val (.int fl), .val (.ref b1), .val (.int (aa + ww)), .val (.long r8), .second, .val (.long q0), .second] [(.int fl), (.int ww), (.int aa), (.int (9 : Int32)), (.ref b1)])) rfl (by rw [hml]; rfl) (argsL := [(.ref b1), (.int (9 : Int32)), (.int aa), (.int ww), (.int fl)]) (rest := []) (lenOf pd_2 rfl) rfl (by show 2 * 0 + _ ≤ _; exact Nat.le_of_eq rfl) (hb hby at_423) (fun _ _ => ⟨rfl, e44, (by decide : 1 + 0 ≤ _), (by decide : 12 + 0 ≤ _)⟩)
    dsimp only [Pt.U, Pt.locs, Pt.cells, Pt.slots] at X45 l45 y45 z45 st45 hQ45
    subst y45 z45
    obtain ⟨rfl, N45q, e45⟩ := hQ45
    have N45 : Fr n0 L45 := by rw [l45]; exact Fr.app N44 N45q
    obtain ⟨_, _, ⟨T46, L46, k46, n46⟩, -, X46, ⟨Lc46, hQ46, l46, y46, z46⟩, st46⟩ := Jvm.LawKit.callS X45 hx (y := (⟨"com/example/fyfo/fyfo/BigEndianPutPinLaw", "untouched", "([BIIIB)Z"⟩ : MethodName)) hown (mvT hZ (hw _ (List.mem_of_getElem? (i := 10) rfl))) (mvT hZ (hw _ (List.mem_of_getElem? (i := 11) rfl))) (mvT hZ (hw _ (List.mem_of_getElem? (i := 8) rfl))) (mvT hZ (hw _ (List.mem_of_getElem? (i := 12) rfl))) (by decide) (backOf (W := 0) (rm_unt l Z a0 hw [] b1 (10 : Int32) aa ww fl tb T26.heap n0 Z26 Vtb (by decide)) hZ (hw _ (List.mem_of_getElem? (i := 12) rfl)) (hw _ (List.mem_of_getElem? (i := 8) rfl)) (by decide) (by decide)) (g := (mkF m 439 #[.val (.long q0), .second, .val (.int p0), .val (.int p1), .val (.int p2), .val (.int ww), .val (.int aa), .val (.int fl), .val (.ref b1), .val (.int (aa + ww)), .val (.long r8), .second, .val (.long q0), .second] [(.int fl), (.int ww), (.int aa), (.int (10 : Int32)), (.ref b1)])) rfl (by rw [hml]; rfl) (argsL := [(.ref b1), (.int (10 : Int32)), (.int aa), (.int ww), (.int fl)]) (rest := []) (lenOf pd_2 rfl) rfl (by show 2 * 0 + _ ≤ _; exact Nat.le_of_eq rfl) (hb hby at_439) (fun _ _ => ⟨rfl, e45, (by decide : 1 + 0 ≤ _), (by decide : 12 + 0 ≤ _)⟩)
    dsimp only [Pt.U, Pt.locs, Pt.cells, Pt.slots] at X46 l46 y46 z46 st46 hQ46
    subst y46 z46
    obtain ⟨rfl, N46q, e46⟩ := hQ46
    have N46 : Fr n0 L46 := by rw [l46]; exact Fr.app N45 N46q
    obtain ⟨_, _, ⟨T47, L47, k47, n47⟩, -, X47, ⟨Lc47, hQ47, l47, y47, z47⟩, st47⟩ := Jvm.LawKit.callS X46 hx (y := (⟨"com/example/fyfo/fyfo/BigEndianPutPinLaw", "untouched", "([BIIIB)Z"⟩ : MethodName)) hown (mvT hZ (hw _ (List.mem_of_getElem? (i := 10) rfl))) (mvT hZ (hw _ (List.mem_of_getElem? (i := 11) rfl))) (mvT hZ (hw _ (List.mem_of_getElem? (i := 8) rfl))) (mvT hZ (hw _ (List.mem_of_getElem? (i := 12) rfl))) (by decide) (backOf (W := 0) (rm_unt l Z a0 hw [] b1 (11 : Int32) aa ww fl tb T26.heap n0 Z26 Vtb (by decide)) hZ (hw _ (List.mem_of_getElem? (i := 12) rfl)) (hw _ (List.mem_of_getElem? (i := 8) rfl)) (by decide) (by decide)) (g := (mkF m 455 #[.val (.long q0), .second, .val (.int p0), .val (.int p1), .val (.int p2), .val (.int ww), .val (.int aa), .val (.int fl), .val (.ref b1), .val (.int (aa + ww)), .val (.long r8), .second, .val (.long q0), .second] [(.int fl), (.int ww), (.int aa), (.int (11 : Int32)), (.ref b1)])) rfl (by rw [hml]; rfl) (argsL := [(.ref b1), (.int (11 : Int32)), (.int aa), (.int ww), (.int fl)]) (rest := []) (lenOf pd_2 rfl) rfl (by show 2 * 0 + _ ≤ _; exact Nat.le_of_eq rfl) (hb hby at_455) (fun _ _ => ⟨rfl, e46, (by decide : 1 + 0 ≤ _), (by decide : 12 + 0 ≤ _)⟩)
    dsimp only [Pt.U, Pt.locs, Pt.cells, Pt.slots] at X47 l47 y47 z47 st47 hQ47
    subst y47 z47
    obtain ⟨rfl, N47q, e47⟩ := hQ47
    have N47 : Fr n0 L47 := by rw [l47]; exact Fr.app N46 N47q
    obtain ⟨fs, hr, hrun, hended, hW, hsame⟩ := X47.leave (v := some (.int (1 : Int32))) (fun h => by rw [Bd.returns] at h; cases h)
    refine ⟨_, _, pre0 _ ?_, hrun, hended, _, _, rfl, ?_, ⟨_, rfl⟩, hW, hsame.mono (by decide) (by decide)⟩
    · refine k35 _ ?_
      show Steps p.tables e below (T34.setTop (mkF m 243 #[.val (.long q0), .second, .val (.int p0), .val (.int p1), .val (.int p2), .val (.int ww), .val (.int aa), .val (.int fl), .val (.ref b1), .val (.int (aa + ww)), .val (.long r8), .second, .unset, .unset] [(.int (8 : Int32)), (.int ww)])) _
      refine XS.icmpNo X34.here hx rfl (hb hby at_243) rfl (teq hc243).2 ?_
      show Steps p.tables e below (T34.setTop (mkF m 246 #[.val (.long q0), .second, .val (.int p0), .val (.int p1), .val (.int p2), .val (.int ww), .val (.int aa), .val (.int fl), .val (.ref b1), .val (.int (aa + ww)), .val (.long r8), .second, .unset, .unset] [])) _
      refine XS.lloadN X34.here hx rfl (hb hby at_246) rfl ?_
      show Steps p.tables e below (T34.setTop (mkF m 247 #[.val (.long q0), .second, .val (.int p0), .val (.int p1), .val (.int p2), .val (.int ww), .val (.int aa), .val (.int fl), .val (.ref b1), .val (.int (aa + ww)), .val (.long r8), .second, .unset, .unset] [(.long q0)])) _
      refine XS.lstore X34.here hx rfl (hb hby at_247) rfl (l' := #[.val (.long q0), .second, .val (.int p0), .val (.int p1), .val (.int p2), .val (.int ww), .val (.int aa), .val (.int fl), .val (.ref b1), .val (.int (aa + ww)), .val (.long r8), .second, .val (.long q0), .second]) rfl ?_
      show Steps p.tables e below (T34.setTop (mkF m 249 #[.val (.long q0), .second, .val (.int p0), .val (.int p1), .val (.int p2), .val (.int ww), .val (.int aa), .val (.int fl), .val (.ref b1), .val (.int (aa + ww)), .val (.long r8), .second, .val (.long q0), .second] [])) _
      refine XS.goto X34.here hx rfl (pc0 := 249) (pc' := 265) rfl (hb hby at_249) (by decide) (by decide) ?_
      show Steps p.tables e below (T34.setTop (mkF m 265 #[.val (.long q0), .second, .val (.int p0), .val (.int p1), .val (.int p2), .val (.int ww), .val (.int aa), .val (.int fl), .val (.ref b1), .val (.int (aa + ww)), .val (.long r8), .second, .val (.long q0), .second] [])) _
      refine XS.lload X34.here hx rfl (hb hby at_265) rfl ?_
      show Steps p.tables e below (T34.setTop (mkF m 267 #[.val (.long q0), .second, .val (.int p0), .val (.int p1), .val (.int p2), .val (.int ww), .val (.int aa), .val (.int fl), .val (.ref b1), .val (.int (aa + ww)), .val (.long r8), .second, .val (.long q0), .second] [(.long r8)])) _
      refine XS.lload X34.here hx rfl (hb hby at_267) rfl ?_
      show Steps p.tables e below (T34.setTop (mkF m 269 #[.val (.long q0), .second, .val (.int p0), .val (.int p1), .val (.int p2), .val (.int ww), .val (.int aa), .val (.int fl), .val (.ref b1), .val (.int (aa + ww)), .val (.long r8), .second, .val (.long q0), .second] [(.long q0), (.long r8)])) _
      refine XS.lcmp X34.here hx rfl (hb hby at_269) rfl ?_
      show Steps p.tables e below (T34.setTop (mkF m 270 #[.val (.long q0), .second, .val (.int p0), .val (.int p1), .val (.int p2), .val (.int ww), .val (.int aa), .val (.int fl), .val (.ref b1), .val (.int (aa + ww)), .val (.long r8), .second, .val (.long q0), .second] [(.int (lcmpW r8 q0))])) _
      refine XS.ifYes X34.here hx rfl (pc0 := 270) (pc' := 275) rfl (hb hby at_270) rfl ((if0 _ _).trans (teq (by rw [h_r8, h_r7, h_r6, h_r5, h_r4, h_r3, h_r2, h_r1, h_tb, h_ww]; exact own_eq8 fl aa p0 q0 (by rw [h_ww] at hc243; exact hc243))).1) (by decide) (by decide) ?_
      show Steps p.tables e below (T34.setTop (mkF m 275 #[.val (.long q0), .second, .val (.int p0), .val (.int p1), .val (.int p2), .val (.int ww), .val (.int aa), .val (.int fl), .val (.ref b1), .val (.int (aa + ww)), .val (.long r8), .second, .val (.long q0), .second] [])) _
      refine XS.aload X34.here hx rfl (hb hby at_275) rfl rfl ?_
      show Steps p.tables e below (T34.setTop (mkF m 277 #[.val (.long q0), .second, .val (.int p0), .val (.int p1), .val (.int p2), .val (.int ww), .val (.int aa), .val (.int fl), .val (.ref b1), .val (.int (aa + ww)), .val (.long r8), .second, .val (.long q0), .second] [(.ref b1)])) _
      refine XS.iconst X34.here hx rfl (hb hby at_277) ?_
      show Steps p.tables e below (T34.setTop (mkF m 278 #[.val (.long q0), .second, .val (.int p0), .val (.int p1), .val (.int p2), .val (.int ww), .val (.int aa), .val (.int fl), .val (.ref b1), .val (.int (aa + ww)), .val (.long r8), .second, .val (.long q0), .second] [(.int (0 : Int32)), (.ref b1)])) _
      refine XS.iload X34.here hx rfl (hb hby at_278) rfl ?_
      show Steps p.tables e below (T34.setTop (mkF m 280 #[.val (.long q0), .second, .val (.int p0), .val (.int p1), .val (.int p2), .val (.int ww), .val (.int aa), .val (.int fl), .val (.ref b1), .val (.int (aa + ww)), .val (.long r8), .second, .val (.long q0), .second] [(.int aa), (.int (0 : Int32)), (.ref b1)])) _
      refine XS.iload X34.here hx rfl (hb hby at_280) rfl ?_
      show Steps p.tables e below (T34.setTop (mkF m 282 #[.val (.long q0), .second, .val (.int p0), .val (.int p1), .val (.int p2), .val (.int ww), .val (.int aa), .val (.int fl), .val (.ref b1), .val (.int (aa + ww)), .val (.long r8), .second, .val (.long q0), .second] [(.int ww), (.int aa), (.int (0 : Int32)), (.ref b1)])) _
      refine XS.iload X34.here hx rfl (hb hby at_282) rfl ?_
      show Steps p.tables e below (T34.setTop (mkF m 284 #[.val (.long q0), .second, .val (.int p0), .val (.int p1), .val (.int p2), .val (.int ww), .val (.int aa), .val (.int fl), .val (.ref b1), .val (.int (aa + ww)), .val (.long r8), .second, .val (.long q0), .second] [(.int fl), (.int ww), (.int aa), (.int (0 : Int32)), (.ref b1)])) _
      refine st36 _ ?_
      show Steps p.tables e below (T36.setTop (mkF m 287 #[.val (.long q0), .second, .val (.int p0), .val (.int p1), .val (.int p2), .val (.int ww), .val (.int aa), .val (.int fl), .val (.ref b1), .val (.int (aa + ww)), .val (.long r8), .second, .val (.long q0), .second] [(.int (own_unt tb (0 : Int32) aa ww fl))])) _
      refine XS.ifNo X36.here hx rfl (hb hby at_287) rfl ((if0 _ _).trans (feq (own_untv h_tb hat hwb ⟨by decide, by decide⟩)).1) ?_
      show Steps p.tables e below (T36.setTop (mkF m 290 #[.val (.long q0), .second, .val (.int p0), .val (.int p1), .val (.int p2), .val (.int ww), .val (.int aa), .val (.int fl), .val (.ref b1), .val (.int (aa + ww)), .val (.long r8), .second, .val (.long q0), .second] [])) _
      refine XS.aload X36.here hx rfl (hb hby at_290) rfl rfl ?_
      show Steps p.tables e below (T36.setTop (mkF m 292 #[.val (.long q0), .second, .val (.int p0), .val (.int p1), .val (.int p2), .val (.int ww), .val (.int aa), .val (.int fl), .val (.ref b1), .val (.int (aa + ww)), .val (.long r8), .second, .val (.long q0), .second] [(.ref b1)])) _
      refine XS.iconst X36.here hx rfl (hb hby at_292) ?_
      show Steps p.tables e below (T36.setTop (mkF m 293 #[.val (.long q0), .second, .val (.int p0), .val (.int p1), .val (.int p2), .val (.int ww), .val (.int aa), .val (.int fl), .val (.ref b1), .val (.int (aa + ww)), .val (.long r8), .second, .val (.long q0), .second] [(.int (1 : Int32)), (.ref b1)])) _
      refine XS.iload X36.here hx rfl (hb hby at_293) rfl ?_
      show Steps p.tables e below (T36.setTop (mkF m 295 #[.val (.long q0), .second, .val (.int p0), .val (.int p1), .val (.int p2), .val (.int ww), .val (.int aa), .val (.int fl), .val (.ref b1), .val (.int (aa + ww)), .val (.long r8), .second, .val (.long q0), .second] [(.int aa), (.int (1 : Int32)), (.ref b1)])) _
      refine XS.iload X36.here hx rfl (hb hby at_295) rfl ?_
      show Steps p.tables e below (T36.setTop (mkF m 297 #[.val (.long q0), .second, .val (.int p0), .val (.int p1), .val (.int p2), .val (.int ww), .val (.int aa), .val (.int fl), .val (.ref b1), .val (.int (aa + ww)), .val (.long r8), .second, .val (.long q0), .second] [(.int ww), (.int aa), (.int (1 : Int32)), (.ref b1)])) _
      refine XS.iload X36.here hx rfl (hb hby at_297) rfl ?_
      show Steps p.tables e below (T36.setTop (mkF m 299 #[.val (.long q0), .second, .val (.int p0), .val (.int p1), .val (.int p2), .val (.int ww), .val (.int aa), .val (.int fl), .val (.ref b1), .val (.int (aa + ww)), .val (.long r8), .second, .val (.long q0), .second] [(.int fl), (.int ww), (.int aa), (.int (1 : Int32)), (.ref b1)])) _
      refine st37 _ ?_
      show Steps p.tables e below (T37.setTop (mkF m 302 #[.val (.long q0), .second, .val (.int p0), .val (.int p1), .val (.int p2), .val (.int ww), .val (.int aa), .val (.int fl), .val (.ref b1), .val (.int (aa + ww)), .val (.long r8), .second, .val (.long q0), .second] [(.int (own_unt tb (1 : Int32) aa ww fl))])) _
      refine XS.ifNo X37.here hx rfl (hb hby at_302) rfl ((if0 _ _).trans (feq (own_untv h_tb hat hwb ⟨by decide, by decide⟩)).1) ?_
      show Steps p.tables e below (T37.setTop (mkF m 305 #[.val (.long q0), .second, .val (.int p0), .val (.int p1), .val (.int p2), .val (.int ww), .val (.int aa), .val (.int fl), .val (.ref b1), .val (.int (aa + ww)), .val (.long r8), .second, .val (.long q0), .second] [])) _
      refine XS.aload X37.here hx rfl (hb hby at_305) rfl rfl ?_
      show Steps p.tables e below (T37.setTop (mkF m 307 #[.val (.long q0), .second, .val (.int p0), .val (.int p1), .val (.int p2), .val (.int ww), .val (.int aa), .val (.int fl), .val (.ref b1), .val (.int (aa + ww)), .val (.long r8), .second, .val (.long q0), .second] [(.ref b1)])) _
      refine XS.iconst X37.here hx rfl (hb hby at_307) ?_
      show Steps p.tables e below (T37.setTop (mkF m 308 #[.val (.long q0), .second, .val (.int p0), .val (.int p1), .val (.int p2), .val (.int ww), .val (.int aa), .val (.int fl), .val (.ref b1), .val (.int (aa + ww)), .val (.long r8), .second, .val (.long q0), .second] [(.int (2 : Int32)), (.ref b1)])) _
      refine XS.iload X37.here hx rfl (hb hby at_308) rfl ?_
      show Steps p.tables e below (T37.setTop (mkF m 310 #[.val (.long q0), .second, .val (.int p0), .val (.int p1), .val (.int p2), .val (.int ww), .val (.int aa), .val (.int fl), .val (.ref b1), .val (.int (aa + ww)), .val (.long r8), .second, .val (.long q0), .second] [(.int aa), (.int (2 : Int32)), (.ref b1)])) _
      refine XS.iload X37.here hx rfl (hb hby at_310) rfl ?_
      show Steps p.tables e below (T37.setTop (mkF m 312 #[.val (.long q0), .second, .val (.int p0), .val (.int p1), .val (.int p2), .val (.int ww), .val (.int aa), .val (.int fl), .val (.ref b1), .val (.int (aa + ww)), .val (.long r8), .second, .val (.long q0), .second] [(.int ww), (.int aa), (.int (2 : Int32)), (.ref b1)])) _
      refine XS.iload X37.here hx rfl (hb hby at_312) rfl ?_
      show Steps p.tables e below (T37.setTop (mkF m 314 #[.val (.long q0), .second, .val (.int p0), .val (.int p1), .val (.int p2), .val (.int ww), .val (.int aa), .val (.int fl), .val (.ref b1), .val (.int (aa + ww)), .val (.long r8), .second, .val (.long q0), .second] [(.int fl), (.int ww), (.int aa), (.int (2 : Int32)), (.ref b1)])) _
      refine st38 _ ?_
      show Steps p.tables e below (T38.setTop (mkF m 317 #[.val (.long q0), .second, .val (.int p0), .val (.int p1), .val (.int p2), .val (.int ww), .val (.int aa), .val (.int fl), .val (.ref b1), .val (.int (aa + ww)), .val (.long r8), .second, .val (.long q0), .second] [(.int (own_unt tb (2 : Int32) aa ww fl))])) _
      refine XS.ifNo X38.here hx rfl (hb hby at_317) rfl ((if0 _ _).trans (feq (own_untv h_tb hat hwb ⟨by decide, by decide⟩)).1) ?_
      show Steps p.tables e below (T38.setTop (mkF m 320 #[.val (.long q0), .second, .val (.int p0), .val (.int p1), .val (.int p2), .val (.int ww), .val (.int aa), .val (.int fl), .val (.ref b1), .val (.int (aa + ww)), .val (.long r8), .second, .val (.long q0), .second] [])) _
      refine XS.aload X38.here hx rfl (hb hby at_320) rfl rfl ?_
      show Steps p.tables e below (T38.setTop (mkF m 322 #[.val (.long q0), .second, .val (.int p0), .val (.int p1), .val (.int p2), .val (.int ww), .val (.int aa), .val (.int fl), .val (.ref b1), .val (.int (aa + ww)), .val (.long r8), .second, .val (.long q0), .second] [(.ref b1)])) _
      refine XS.iconst X38.here hx rfl (hb hby at_322) ?_
      show Steps p.tables e below (T38.setTop (mkF m 323 #[.val (.long q0), .second, .val (.int p0), .val (.int p1), .val (.int p2), .val (.int ww), .val (.int aa), .val (.int fl), .val (.ref b1), .val (.int (aa + ww)), .val (.long r8), .second, .val (.long q0), .second] [(.int (3 : Int32)), (.ref b1)])) _
      refine XS.iload X38.here hx rfl (hb hby at_323) rfl ?_
      show Steps p.tables e below (T38.setTop (mkF m 325 #[.val (.long q0), .second, .val (.int p0), .val (.int p1), .val (.int p2), .val (.int ww), .val (.int aa), .val (.int fl), .val (.ref b1), .val (.int (aa + ww)), .val (.long r8), .second, .val (.long q0), .second] [(.int aa), (.int (3 : Int32)), (.ref b1)])) _
      refine XS.iload X38.here hx rfl (hb hby at_325) rfl ?_
      show Steps p.tables e below (T38.setTop (mkF m 327 #[.val (.long q0), .second, .val (.int p0), .val (.int p1), .val (.int p2), .val (.int ww), .val (.int aa), .val (.int fl), .val (.ref b1), .val (.int (aa + ww)), .val (.long r8), .second, .val (.long q0), .second] [(.int ww), (.int aa), (.int (3 : Int32)), (.ref b1)])) _
      refine XS.iload X38.here hx rfl (hb hby at_327) rfl ?_
      show Steps p.tables e below (T38.setTop (mkF m 329 #[.val (.long q0), .second, .val (.int p0), .val (.int p1), .val (.int p2), .val (.int ww), .val (.int aa), .val (.int fl), .val (.ref b1), .val (.int (aa + ww)), .val (.long r8), .second, .val (.long q0), .second] [(.int fl), (.int ww), (.int aa), (.int (3 : Int32)), (.ref b1)])) _
      refine st39 _ ?_
      show Steps p.tables e below (T39.setTop (mkF m 332 #[.val (.long q0), .second, .val (.int p0), .val (.int p1), .val (.int p2), .val (.int ww), .val (.int aa), .val (.int fl), .val (.ref b1), .val (.int (aa + ww)), .val (.long r8), .second, .val (.long q0), .second] [(.int (own_unt tb (3 : Int32) aa ww fl))])) _
      refine XS.ifNo X39.here hx rfl (hb hby at_332) rfl ((if0 _ _).trans (feq (own_untv h_tb hat hwb ⟨by decide, by decide⟩)).1) ?_
      show Steps p.tables e below (T39.setTop (mkF m 335 #[.val (.long q0), .second, .val (.int p0), .val (.int p1), .val (.int p2), .val (.int ww), .val (.int aa), .val (.int fl), .val (.ref b1), .val (.int (aa + ww)), .val (.long r8), .second, .val (.long q0), .second] [])) _
      refine XS.aload X39.here hx rfl (hb hby at_335) rfl rfl ?_
      show Steps p.tables e below (T39.setTop (mkF m 337 #[.val (.long q0), .second, .val (.int p0), .val (.int p1), .val (.int p2), .val (.int ww), .val (.int aa), .val (.int fl), .val (.ref b1), .val (.int (aa + ww)), .val (.long r8), .second, .val (.long q0), .second] [(.ref b1)])) _
      refine XS.iconst X39.here hx rfl (hb hby at_337) ?_
      show Steps p.tables e below (T39.setTop (mkF m 338 #[.val (.long q0), .second, .val (.int p0), .val (.int p1), .val (.int p2), .val (.int ww), .val (.int aa), .val (.int fl), .val (.ref b1), .val (.int (aa + ww)), .val (.long r8), .second, .val (.long q0), .second] [(.int (4 : Int32)), (.ref b1)])) _
      refine XS.iload X39.here hx rfl (hb hby at_338) rfl ?_
      show Steps p.tables e below (T39.setTop (mkF m 340 #[.val (.long q0), .second, .val (.int p0), .val (.int p1), .val (.int p2), .val (.int ww), .val (.int aa), .val (.int fl), .val (.ref b1), .val (.int (aa + ww)), .val (.long r8), .second, .val (.long q0), .second] [(.int aa), (.int (4 : Int32)), (.ref b1)])) _
      refine XS.iload X39.here hx rfl (hb hby at_340) rfl ?_
      show Steps p.tables e below (T39.setTop (mkF m 342 #[.val (.long q0), .second, .val (.int p0), .val (.int p1), .val (.int p2), .val (.int ww), .val (.int aa), .val (.int fl), .val (.ref b1), .val (.int (aa + ww)), .val (.long r8), .second, .val (.long q0), .second] [(.int ww), (.int aa), (.int (4 : Int32)), (.ref b1)])) _
      refine XS.iload X39.here hx rfl (hb hby at_342) rfl ?_
      show Steps p.tables e below (T39.setTop (mkF m 344 #[.val (.long q0), .second, .val (.int p0), .val (.int p1), .val (.int p2), .val (.int ww), .val (.int aa), .val (.int fl), .val (.ref b1), .val (.int (aa + ww)), .val (.long r8), .second, .val (.long q0), .second] [(.int fl), (.int ww), (.int aa), (.int (4 : Int32)), (.ref b1)])) _
      refine st40 _ ?_
      show Steps p.tables e below (T40.setTop (mkF m 347 #[.val (.long q0), .second, .val (.int p0), .val (.int p1), .val (.int p2), .val (.int ww), .val (.int aa), .val (.int fl), .val (.ref b1), .val (.int (aa + ww)), .val (.long r8), .second, .val (.long q0), .second] [(.int (own_unt tb (4 : Int32) aa ww fl))])) _
      refine XS.ifNo X40.here hx rfl (hb hby at_347) rfl ((if0 _ _).trans (feq (own_untv h_tb hat hwb ⟨by decide, by decide⟩)).1) ?_
      show Steps p.tables e below (T40.setTop (mkF m 350 #[.val (.long q0), .second, .val (.int p0), .val (.int p1), .val (.int p2), .val (.int ww), .val (.int aa), .val (.int fl), .val (.ref b1), .val (.int (aa + ww)), .val (.long r8), .second, .val (.long q0), .second] [])) _
      refine XS.aload X40.here hx rfl (hb hby at_350) rfl rfl ?_
      show Steps p.tables e below (T40.setTop (mkF m 352 #[.val (.long q0), .second, .val (.int p0), .val (.int p1), .val (.int p2), .val (.int ww), .val (.int aa), .val (.int fl), .val (.ref b1), .val (.int (aa + ww)), .val (.long r8), .second, .val (.long q0), .second] [(.ref b1)])) _
      refine XS.iconst X40.here hx rfl (hb hby at_352) ?_
      show Steps p.tables e below (T40.setTop (mkF m 353 #[.val (.long q0), .second, .val (.int p0), .val (.int p1), .val (.int p2), .val (.int ww), .val (.int aa), .val (.int fl), .val (.ref b1), .val (.int (aa + ww)), .val (.long r8), .second, .val (.long q0), .second] [(.int (5 : Int32)), (.ref b1)])) _
      refine XS.iload X40.here hx rfl (hb hby at_353) rfl ?_
      show Steps p.tables e below (T40.setTop (mkF m 355 #[.val (.long q0), .second, .val (.int p0), .val (.int p1), .val (.int p2), .val (.int ww), .val (.int aa), .val (.int fl), .val (.ref b1), .val (.int (aa + ww)), .val (.long r8), .second, .val (.long q0), .second] [(.int aa), (.int (5 : Int32)), (.ref b1)])) _
      refine XS.iload X40.here hx rfl (hb hby at_355) rfl ?_
      show Steps p.tables e below (T40.setTop (mkF m 357 #[.val (.long q0), .second, .val (.int p0), .val (.int p1), .val (.int p2), .val (.int ww), .val (.int aa), .val (.int fl), .val (.ref b1), .val (.int (aa + ww)), .val (.long r8), .second, .val (.long q0), .second] [(.int ww), (.int aa), (.int (5 : Int32)), (.ref b1)])) _
      refine XS.iload X40.here hx rfl (hb hby at_357) rfl ?_
      show Steps p.tables e below (T40.setTop (mkF m 359 #[.val (.long q0), .second, .val (.int p0), .val (.int p1), .val (.int p2), .val (.int ww), .val (.int aa), .val (.int fl), .val (.ref b1), .val (.int (aa + ww)), .val (.long r8), .second, .val (.long q0), .second] [(.int fl), (.int ww), (.int aa), (.int (5 : Int32)), (.ref b1)])) _
      refine st41 _ ?_
      show Steps p.tables e below (T41.setTop (mkF m 362 #[.val (.long q0), .second, .val (.int p0), .val (.int p1), .val (.int p2), .val (.int ww), .val (.int aa), .val (.int fl), .val (.ref b1), .val (.int (aa + ww)), .val (.long r8), .second, .val (.long q0), .second] [(.int (own_unt tb (5 : Int32) aa ww fl))])) _
      refine XS.ifNo X41.here hx rfl (hb hby at_362) rfl ((if0 _ _).trans (feq (own_untv h_tb hat hwb ⟨by decide, by decide⟩)).1) ?_
      show Steps p.tables e below (T41.setTop (mkF m 365 #[.val (.long q0), .second, .val (.int p0), .val (.int p1), .val (.int p2), .val (.int ww), .val (.int aa), .val (.int fl), .val (.ref b1), .val (.int (aa + ww)), .val (.long r8), .second, .val (.long q0), .second] [])) _
      refine XS.aload X41.here hx rfl (hb hby at_365) rfl rfl ?_
      show Steps p.tables e below (T41.setTop (mkF m 367 #[.val (.long q0), .second, .val (.int p0), .val (.int p1), .val (.int p2), .val (.int ww), .val (.int aa), .val (.int fl), .val (.ref b1), .val (.int (aa + ww)), .val (.long r8), .second, .val (.long q0), .second] [(.ref b1)])) _
      refine XS.bipush X41.here hx rfl (hb hby at_367) ?_
      show Steps p.tables e below (T41.setTop (mkF m 369 #[.val (.long q0), .second, .val (.int p0), .val (.int p1), .val (.int p2), .val (.int ww), .val (.int aa), .val (.int fl), .val (.ref b1), .val (.int (aa + ww)), .val (.long r8), .second, .val (.long q0), .second] [(.int (6 : Int32)), (.ref b1)])) _
      refine XS.iload X41.here hx rfl (hb hby at_369) rfl ?_
      show Steps p.tables e below (T41.setTop (mkF m 371 #[.val (.long q0), .second, .val (.int p0), .val (.int p1), .val (.int p2), .val (.int ww), .val (.int aa), .val (.int fl), .val (.ref b1), .val (.int (aa + ww)), .val (.long r8), .second, .val (.long q0), .second] [(.int aa), (.int (6 : Int32)), (.ref b1)])) _
      refine XS.iload X41.here hx rfl (hb hby at_371) rfl ?_
      show Steps p.tables e below (T41.setTop (mkF m 373 #[.val (.long q0), .second, .val (.int p0), .val (.int p1), .val (.int p2), .val (.int ww), .val (.int aa), .val (.int fl), .val (.ref b1), .val (.int (aa + ww)), .val (.long r8), .second, .val (.long q0), .second] [(.int ww), (.int aa), (.int (6 : Int32)), (.ref b1)])) _
      refine XS.iload X41.here hx rfl (hb hby at_373) rfl ?_
      show Steps p.tables e below (T41.setTop (mkF m 375 #[.val (.long q0), .second, .val (.int p0), .val (.int p1), .val (.int p2), .val (.int ww), .val (.int aa), .val (.int fl), .val (.ref b1), .val (.int (aa + ww)), .val (.long r8), .second, .val (.long q0), .second] [(.int fl), (.int ww), (.int aa), (.int (6 : Int32)), (.ref b1)])) _
      refine st42 _ ?_
      show Steps p.tables e below (T42.setTop (mkF m 378 #[.val (.long q0), .second, .val (.int p0), .val (.int p1), .val (.int p2), .val (.int ww), .val (.int aa), .val (.int fl), .val (.ref b1), .val (.int (aa + ww)), .val (.long r8), .second, .val (.long q0), .second] [(.int (own_unt tb (6 : Int32) aa ww fl))])) _
      refine XS.ifNo X42.here hx rfl (hb hby at_378) rfl ((if0 _ _).trans (feq (own_untv h_tb hat hwb ⟨by decide, by decide⟩)).1) ?_
      show Steps p.tables e below (T42.setTop (mkF m 381 #[.val (.long q0), .second, .val (.int p0), .val (.int p1), .val (.int p2), .val (.int ww), .val (.int aa), .val (.int fl), .val (.ref b1), .val (.int (aa + ww)), .val (.long r8), .second, .val (.long q0), .second] [])) _
      refine XS.aload X42.here hx rfl (hb hby at_381) rfl rfl ?_
      show Steps p.tables e below (T42.setTop (mkF m 383 #[.val (.long q0), .second, .val (.int p0), .val (.int p1), .val (.int p2), .val (.int ww), .val (.int aa), .val (.int fl), .val (.ref b1), .val (.int (aa + ww)), .val (.long r8), .second, .val (.long q0), .second] [(.ref b1)])) _
      refine XS.bipush X42.here hx rfl (hb hby at_383) ?_
      show Steps p.tables e below (T42.setTop (mkF m 385 #[.val (.long q0), .second, .val (.int p0), .val (.int p1), .val (.int p2), .val (.int ww), .val (.int aa), .val (.int fl), .val (.ref b1), .val (.int (aa + ww)), .val (.long r8), .second, .val (.long q0), .second] [(.int (7 : Int32)), (.ref b1)])) _
      refine XS.iload X42.here hx rfl (hb hby at_385) rfl ?_
      show Steps p.tables e below (T42.setTop (mkF m 387 #[.val (.long q0), .second, .val (.int p0), .val (.int p1), .val (.int p2), .val (.int ww), .val (.int aa), .val (.int fl), .val (.ref b1), .val (.int (aa + ww)), .val (.long r8), .second, .val (.long q0), .second] [(.int aa), (.int (7 : Int32)), (.ref b1)])) _
      refine XS.iload X42.here hx rfl (hb hby at_387) rfl ?_
      show Steps p.tables e below (T42.setTop (mkF m 389 #[.val (.long q0), .second, .val (.int p0), .val (.int p1), .val (.int p2), .val (.int ww), .val (.int aa), .val (.int fl), .val (.ref b1), .val (.int (aa + ww)), .val (.long r8), .second, .val (.long q0), .second] [(.int ww), (.int aa), (.int (7 : Int32)), (.ref b1)])) _
      refine XS.iload X42.here hx rfl (hb hby at_389) rfl ?_
      show Steps p.tables e below (T42.setTop (mkF m 391 #[.val (.long q0), .second, .val (.int p0), .val (.int p1), .val (.int p2), .val (.int ww), .val (.int aa), .val (.int fl), .val (.ref b1), .val (.int (aa + ww)), .val (.long r8), .second, .val (.long q0), .second] [(.int fl), (.int ww), (.int aa), (.int (7 : Int32)), (.ref b1)])) _
      refine st43 _ ?_
      show Steps p.tables e below (T43.setTop (mkF m 394 #[.val (.long q0), .second, .val (.int p0), .val (.int p1), .val (.int p2), .val (.int ww), .val (.int aa), .val (.int fl), .val (.ref b1), .val (.int (aa + ww)), .val (.long r8), .second, .val (.long q0), .second] [(.int (own_unt tb (7 : Int32) aa ww fl))])) _
      refine XS.ifNo X43.here hx rfl (hb hby at_394) rfl ((if0 _ _).trans (feq (own_untv h_tb hat hwb ⟨by decide, by decide⟩)).1) ?_
      show Steps p.tables e below (T43.setTop (mkF m 397 #[.val (.long q0), .second, .val (.int p0), .val (.int p1), .val (.int p2), .val (.int ww), .val (.int aa), .val (.int fl), .val (.ref b1), .val (.int (aa + ww)), .val (.long r8), .second, .val (.long q0), .second] [])) _
      refine XS.aload X43.here hx rfl (hb hby at_397) rfl rfl ?_
      show Steps p.tables e below (T43.setTop (mkF m 399 #[.val (.long q0), .second, .val (.int p0), .val (.int p1), .val (.int p2), .val (.int ww), .val (.int aa), .val (.int fl), .val (.ref b1), .val (.int (aa + ww)), .val (.long r8), .second, .val (.long q0), .second] [(.ref b1)])) _
      refine XS.bipush X43.here hx rfl (hb hby at_399) ?_
      show Steps p.tables e below (T43.setTop (mkF m 401 #[.val (.long q0), .second, .val (.int p0), .val (.int p1), .val (.int p2), .val (.int ww), .val (.int aa), .val (.int fl), .val (.ref b1), .val (.int (aa + ww)), .val (.long r8), .second, .val (.long q0), .second] [(.int (8 : Int32)), (.ref b1)])) _
      refine XS.iload X43.here hx rfl (hb hby at_401) rfl ?_
      show Steps p.tables e below (T43.setTop (mkF m 403 #[.val (.long q0), .second, .val (.int p0), .val (.int p1), .val (.int p2), .val (.int ww), .val (.int aa), .val (.int fl), .val (.ref b1), .val (.int (aa + ww)), .val (.long r8), .second, .val (.long q0), .second] [(.int aa), (.int (8 : Int32)), (.ref b1)])) _
      refine XS.iload X43.here hx rfl (hb hby at_403) rfl ?_
      show Steps p.tables e below (T43.setTop (mkF m 405 #[.val (.long q0), .second, .val (.int p0), .val (.int p1), .val (.int p2), .val (.int ww), .val (.int aa), .val (.int fl), .val (.ref b1), .val (.int (aa + ww)), .val (.long r8), .second, .val (.long q0), .second] [(.int ww), (.int aa), (.int (8 : Int32)), (.ref b1)])) _
      refine XS.iload X43.here hx rfl (hb hby at_405) rfl ?_
      show Steps p.tables e below (T43.setTop (mkF m 407 #[.val (.long q0), .second, .val (.int p0), .val (.int p1), .val (.int p2), .val (.int ww), .val (.int aa), .val (.int fl), .val (.ref b1), .val (.int (aa + ww)), .val (.long r8), .second, .val (.long q0), .second] [(.int fl), (.int ww), (.int aa), (.int (8 : Int32)), (.ref b1)])) _
      refine st44 _ ?_
      show Steps p.tables e below (T44.setTop (mkF m 410 #[.val (.long q0), .second, .val (.int p0), .val (.int p1), .val (.int p2), .val (.int ww), .val (.int aa), .val (.int fl), .val (.ref b1), .val (.int (aa + ww)), .val (.long r8), .second, .val (.long q0), .second] [(.int (own_unt tb (8 : Int32) aa ww fl))])) _
      refine XS.ifNo X44.here hx rfl (hb hby at_410) rfl ((if0 _ _).trans (feq (own_untv h_tb hat hwb ⟨by decide, by decide⟩)).1) ?_
      show Steps p.tables e below (T44.setTop (mkF m 413 #[.val (.long q0), .second, .val (.int p0), .val (.int p1), .val (.int p2), .val (.int ww), .val (.int aa), .val (.int fl), .val (.ref b1), .val (.int (aa + ww)), .val (.long r8), .second, .val (.long q0), .second] [])) _
      refine XS.aload X44.here hx rfl (hb hby at_413) rfl rfl ?_
      show Steps p.tables e below (T44.setTop (mkF m 415 #[.val (.long q0), .second, .val (.int p0), .val (.int p1), .val (.int p2), .val (.int ww), .val (.int aa), .val (.int fl), .val (.ref b1), .val (.int (aa + ww)), .val (.long r8), .second, .val (.long q0), .second] [(.ref b1)])) _
      refine XS.bipush X44.here hx rfl (hb hby at_415) ?_
      show Steps p.tables e below (T44.setTop (mkF m 417 #[.val (.long q0), .second, .val (.int p0), .val (.int p1), .val (.int p2), .val (.int ww), .val (.int aa), .val (.int fl), .val (.ref b1), .val (.int (aa + ww)), .val (.long r8), .second, .val (.long q0), .second] [(.int (9 : Int32)), (.ref b1)])) _
      refine XS.iload X44.here hx rfl (hb hby at_417) rfl ?_
      show Steps p.tables e below (T44.setTop (mkF m 419 #[.val (.long q0), .second, .val (.int p0), .val (.int p1), .val (.int p2), .val (.int ww), .val (.int aa), .val (.int fl), .val (.ref b1), .val (.int (aa + ww)), .val (.long r8), .second, .val (.long q0), .second] [(.int aa), (.int (9 : Int32)), (.ref b1)])) _
      refine XS.iload X44.here hx rfl (hb hby at_419) rfl ?_
      show Steps p.tables e below (T44.setTop (mkF m 421 #[.val (.long q0), .second, .val (.int p0), .val (.int p1), .val (.int p2), .val (.int ww), .val (.int aa), .val (.int fl), .val (.ref b1), .val (.int (aa + ww)), .val (.long r8), .second, .val (.long q0), .second] [(.int ww), (.int aa), (.int (9 : Int32)), (.ref b1)])) _
      refine XS.iload X44.here hx rfl (hb hby at_421) rfl ?_
      show Steps p.tables e below (T44.setTop (mkF m 423 #[.val (.long q0), .second, .val (.int p0), .val (.int p1), .val (.int p2), .val (.int ww), .val (.int aa), .val (.int fl), .val (.ref b1), .val (.int (aa + ww)), .val (.long r8), .second, .val (.long q0), .second] [(.int fl), (.int ww), (.int aa), (.int (9 : Int32)), (.ref b1)])) _
      refine st45 _ ?_
      show Steps p.tables e below (T45.setTop (mkF m 426 #[.val (.long q0), .second, .val (.int p0), .val (.int p1), .val (.int p2), .val (.int ww), .val (.int aa), .val (.int fl), .val (.ref b1), .val (.int (aa + ww)), .val (.long r8), .second, .val (.long q0), .second] [(.int (own_unt tb (9 : Int32) aa ww fl))])) _
      refine XS.ifNo X45.here hx rfl (hb hby at_426) rfl ((if0 _ _).trans (feq (own_untv h_tb hat hwb ⟨by decide, by decide⟩)).1) ?_
      show Steps p.tables e below (T45.setTop (mkF m 429 #[.val (.long q0), .second, .val (.int p0), .val (.int p1), .val (.int p2), .val (.int ww), .val (.int aa), .val (.int fl), .val (.ref b1), .val (.int (aa + ww)), .val (.long r8), .second, .val (.long q0), .second] [])) _
      refine XS.aload X45.here hx rfl (hb hby at_429) rfl rfl ?_
      show Steps p.tables e below (T45.setTop (mkF m 431 #[.val (.long q0), .second, .val (.int p0), .val (.int p1), .val (.int p2), .val (.int ww), .val (.int aa), .val (.int fl), .val (.ref b1), .val (.int (aa + ww)), .val (.long r8), .second, .val (.long q0), .second] [(.ref b1)])) _
      refine XS.bipush X45.here hx rfl (hb hby at_431) ?_
      show Steps p.tables e below (T45.setTop (mkF m 433 #[.val (.long q0), .second, .val (.int p0), .val (.int p1), .val (.int p2), .val (.int ww), .val (.int aa), .val (.int fl), .val (.ref b1), .val (.int (aa + ww)), .val (.long r8), .second, .val (.long q0), .second] [(.int (10 : Int32)), (.ref b1)])) _
      refine XS.iload X45.here hx rfl (hb hby at_433) rfl ?_
      show Steps p.tables e below (T45.setTop (mkF m 435 #[.val (.long q0), .second, .val (.int p0), .val (.int p1), .val (.int p2), .val (.int ww), .val (.int aa), .val (.int fl), .val (.ref b1), .val (.int (aa + ww)), .val (.long r8), .second, .val (.long q0), .second] [(.int aa), (.int (10 : Int32)), (.ref b1)])) _
      refine XS.iload X45.here hx rfl (hb hby at_435) rfl ?_
      show Steps p.tables e below (T45.setTop (mkF m 437 #[.val (.long q0), .second, .val (.int p0), .val (.int p1), .val (.int p2), .val (.int ww), .val (.int aa), .val (.int fl), .val (.ref b1), .val (.int (aa + ww)), .val (.long r8), .second, .val (.long q0), .second] [(.int ww), (.int aa), (.int (10 : Int32)), (.ref b1)])) _
      refine XS.iload X45.here hx rfl (hb hby at_437) rfl ?_
      show Steps p.tables e below (T45.setTop (mkF m 439 #[.val (.long q0), .second, .val (.int p0), .val (.int p1), .val (.int p2), .val (.int ww), .val (.int aa), .val (.int fl), .val (.ref b1), .val (.int (aa + ww)), .val (.long r8), .second, .val (.long q0), .second] [(.int fl), (.int ww), (.int aa), (.int (10 : Int32)), (.ref b1)])) _
      refine st46 _ ?_
      show Steps p.tables e below (T46.setTop (mkF m 442 #[.val (.long q0), .second, .val (.int p0), .val (.int p1), .val (.int p2), .val (.int ww), .val (.int aa), .val (.int fl), .val (.ref b1), .val (.int (aa + ww)), .val (.long r8), .second, .val (.long q0), .second] [(.int (own_unt tb (10 : Int32) aa ww fl))])) _
      refine XS.ifNo X46.here hx rfl (hb hby at_442) rfl ((if0 _ _).trans (feq (own_untv h_tb hat hwb ⟨by decide, by decide⟩)).1) ?_
      show Steps p.tables e below (T46.setTop (mkF m 445 #[.val (.long q0), .second, .val (.int p0), .val (.int p1), .val (.int p2), .val (.int ww), .val (.int aa), .val (.int fl), .val (.ref b1), .val (.int (aa + ww)), .val (.long r8), .second, .val (.long q0), .second] [])) _
      refine XS.aload X46.here hx rfl (hb hby at_445) rfl rfl ?_
      show Steps p.tables e below (T46.setTop (mkF m 447 #[.val (.long q0), .second, .val (.int p0), .val (.int p1), .val (.int p2), .val (.int ww), .val (.int aa), .val (.int fl), .val (.ref b1), .val (.int (aa + ww)), .val (.long r8), .second, .val (.long q0), .second] [(.ref b1)])) _
      refine XS.bipush X46.here hx rfl (hb hby at_447) ?_
      show Steps p.tables e below (T46.setTop (mkF m 449 #[.val (.long q0), .second, .val (.int p0), .val (.int p1), .val (.int p2), .val (.int ww), .val (.int aa), .val (.int fl), .val (.ref b1), .val (.int (aa + ww)), .val (.long r8), .second, .val (.long q0), .second] [(.int (11 : Int32)), (.ref b1)])) _
      refine XS.iload X46.here hx rfl (hb hby at_449) rfl ?_
      show Steps p.tables e below (T46.setTop (mkF m 451 #[.val (.long q0), .second, .val (.int p0), .val (.int p1), .val (.int p2), .val (.int ww), .val (.int aa), .val (.int fl), .val (.ref b1), .val (.int (aa + ww)), .val (.long r8), .second, .val (.long q0), .second] [(.int aa), (.int (11 : Int32)), (.ref b1)])) _
      refine XS.iload X46.here hx rfl (hb hby at_451) rfl ?_
      show Steps p.tables e below (T46.setTop (mkF m 453 #[.val (.long q0), .second, .val (.int p0), .val (.int p1), .val (.int p2), .val (.int ww), .val (.int aa), .val (.int fl), .val (.ref b1), .val (.int (aa + ww)), .val (.long r8), .second, .val (.long q0), .second] [(.int ww), (.int aa), (.int (11 : Int32)), (.ref b1)])) _
      refine XS.iload X46.here hx rfl (hb hby at_453) rfl ?_
      show Steps p.tables e below (T46.setTop (mkF m 455 #[.val (.long q0), .second, .val (.int p0), .val (.int p1), .val (.int p2), .val (.int ww), .val (.int aa), .val (.int fl), .val (.ref b1), .val (.int (aa + ww)), .val (.long r8), .second, .val (.long q0), .second] [(.int fl), (.int ww), (.int aa), (.int (11 : Int32)), (.ref b1)])) _
      refine st47 _ ?_
      show Steps p.tables e below (T47.setTop (mkF m 458 #[.val (.long q0), .second, .val (.int p0), .val (.int p1), .val (.int p2), .val (.int ww), .val (.int aa), .val (.int fl), .val (.ref b1), .val (.int (aa + ww)), .val (.long r8), .second, .val (.long q0), .second] [(.int (own_unt tb (11 : Int32) aa ww fl))])) _
      refine XS.ifNo X47.here hx rfl (hb hby at_458) rfl ((if0 _ _).trans (feq (own_untv h_tb hat hwb ⟨by decide, by decide⟩)).1) ?_
      show Steps p.tables e below (T47.setTop (mkF m 461 #[.val (.long q0), .second, .val (.int p0), .val (.int p1), .val (.int p2), .val (.int ww), .val (.int aa), .val (.int fl), .val (.ref b1), .val (.int (aa + ww)), .val (.long r8), .second, .val (.long q0), .second] [])) _
      refine XS.iconst X47.here hx rfl (hb hby at_461) ?_
      show Steps p.tables e below (T47.setTop (mkF m 462 #[.val (.long q0), .second, .val (.int p0), .val (.int p1), .val (.int p2), .val (.int ww), .val (.int aa), .val (.int fl), .val (.ref b1), .val (.int (aa + ww)), .val (.long r8), .second, .val (.long q0), .second] [(.int (1 : Int32))])) _
      refine XS.goto X47.here hx rfl (pc0 := 462) (pc' := 466) rfl (hb hby at_462) (by decide) (by decide) ?_
      show Steps p.tables e below (T47.setTop (mkF m 466 #[.val (.long q0), .second, .val (.int p0), .val (.int p1), .val (.int p2), .val (.int ww), .val (.int aa), .val (.int fl), .val (.ref b1), .val (.int (aa + ww)), .val (.long r8), .second, .val (.long q0), .second] [(.int (1 : Int32))])) _
      exact retN X47 hx (t := .boolean) Bd.returns (by simp) (hb hby at_466) hr
    · show Q_rm_law Z q0 p0 p1 p2 h0 n0 _ T47.heap _
      rw [e47]
      exact ⟨rfl, N47, trivial⟩
  · obtain ⟨_, _, ⟨T48, L48, k48, n48⟩, -, X48, ⟨Lc48, hQ48, l48, y48, z48⟩, st48⟩ := Jvm.LawKit.callS X34 hx (y := (⟨"com/example/fyfo/fyfo/BigEndianPutPinLaw", "untouched", "([BIIIB)Z"⟩ : MethodName)) hown (mvT hZ (hw _ (List.mem_of_getElem? (i := 10) rfl))) (mvT hZ (hw _ (List.mem_of_getElem? (i := 11) rfl))) (mvT hZ (hw _ (List.mem_of_getElem? (i := 8) rfl))) (mvT hZ (hw _ (List.mem_of_getElem? (i := 12) rfl))) (by decide) (backOf (W := 0) (rm_unt l Z a0 hw [] b1 (0 : Int32) aa ww fl tb T26.heap n0 Z26 Vtb (by decide)) hZ (hw _ (List.mem_of_getElem? (i := 12) rfl)) (hw _ (List.mem_of_getElem? (i := 8) rfl)) (by decide) (by decide)) (g := (mkF m 284 #[.val (.long q0), .second, .val (.int p0), .val (.int p1), .val (.int p2), .val (.int ww), .val (.int aa), .val (.int fl), .val (.ref b1), .val (.int (aa + ww)), .val (.long r8), .second, .val (.long (q0 &&& (((1 : Int64) <<< (((8 : Int32) * ww) &&& 0x3f).toInt64) - (1 : Int64)))), .second] [(.int fl), (.int ww), (.int aa), (.int (0 : Int32)), (.ref b1)])) rfl (by rw [hml]; rfl) (argsL := [(.ref b1), (.int (0 : Int32)), (.int aa), (.int ww), (.int fl)]) (rest := []) (lenOf pd_2 rfl) rfl (by show 2 * 0 + _ ≤ _; exact Nat.le_of_eq rfl) (hb hby at_284) (fun _ _ => ⟨rfl, e34, (by decide : 1 + 0 ≤ _), (by decide : 12 + 0 ≤ _)⟩)
    dsimp only [Pt.U, Pt.locs, Pt.cells, Pt.slots] at X48 l48 y48 z48 st48 hQ48
    subst y48 z48
    obtain ⟨rfl, N48q, e48⟩ := hQ48
    have N48 : Fr n0 L48 := by rw [l48]; exact Fr.app N34 N48q
    obtain ⟨_, _, ⟨T49, L49, k49, n49⟩, -, X49, ⟨Lc49, hQ49, l49, y49, z49⟩, st49⟩ := Jvm.LawKit.callS X48 hx (y := (⟨"com/example/fyfo/fyfo/BigEndianPutPinLaw", "untouched", "([BIIIB)Z"⟩ : MethodName)) hown (mvT hZ (hw _ (List.mem_of_getElem? (i := 10) rfl))) (mvT hZ (hw _ (List.mem_of_getElem? (i := 11) rfl))) (mvT hZ (hw _ (List.mem_of_getElem? (i := 8) rfl))) (mvT hZ (hw _ (List.mem_of_getElem? (i := 12) rfl))) (by decide) (backOf (W := 0) (rm_unt l Z a0 hw [] b1 (1 : Int32) aa ww fl tb T26.heap n0 Z26 Vtb (by decide)) hZ (hw _ (List.mem_of_getElem? (i := 12) rfl)) (hw _ (List.mem_of_getElem? (i := 8) rfl)) (by decide) (by decide)) (g := (mkF m 299 #[.val (.long q0), .second, .val (.int p0), .val (.int p1), .val (.int p2), .val (.int ww), .val (.int aa), .val (.int fl), .val (.ref b1), .val (.int (aa + ww)), .val (.long r8), .second, .val (.long (q0 &&& (((1 : Int64) <<< (((8 : Int32) * ww) &&& 0x3f).toInt64) - (1 : Int64)))), .second] [(.int fl), (.int ww), (.int aa), (.int (1 : Int32)), (.ref b1)])) rfl (by rw [hml]; rfl) (argsL := [(.ref b1), (.int (1 : Int32)), (.int aa), (.int ww), (.int fl)]) (rest := []) (lenOf pd_2 rfl) rfl (by show 2 * 0 + _ ≤ _; exact Nat.le_of_eq rfl) (hb hby at_299) (fun _ _ => ⟨rfl, e48, (by decide : 1 + 0 ≤ _), (by decide : 12 + 0 ≤ _)⟩)
    dsimp only [Pt.U, Pt.locs, Pt.cells, Pt.slots] at X49 l49 y49 z49 st49 hQ49
    subst y49 z49
    obtain ⟨rfl, N49q, e49⟩ := hQ49
    have N49 : Fr n0 L49 := by rw [l49]; exact Fr.app N48 N49q
    obtain ⟨_, _, ⟨T50, L50, k50, n50⟩, -, X50, ⟨Lc50, hQ50, l50, y50, z50⟩, st50⟩ := Jvm.LawKit.callS X49 hx (y := (⟨"com/example/fyfo/fyfo/BigEndianPutPinLaw", "untouched", "([BIIIB)Z"⟩ : MethodName)) hown (mvT hZ (hw _ (List.mem_of_getElem? (i := 10) rfl))) (mvT hZ (hw _ (List.mem_of_getElem? (i := 11) rfl))) (mvT hZ (hw _ (List.mem_of_getElem? (i := 8) rfl))) (mvT hZ (hw _ (List.mem_of_getElem? (i := 12) rfl))) (by decide) (backOf (W := 0) (rm_unt l Z a0 hw [] b1 (2 : Int32) aa ww fl tb T26.heap n0 Z26 Vtb (by decide)) hZ (hw _ (List.mem_of_getElem? (i := 12) rfl)) (hw _ (List.mem_of_getElem? (i := 8) rfl)) (by decide) (by decide)) (g := (mkF m 314 #[.val (.long q0), .second, .val (.int p0), .val (.int p1), .val (.int p2), .val (.int ww), .val (.int aa), .val (.int fl), .val (.ref b1), .val (.int (aa + ww)), .val (.long r8), .second, .val (.long (q0 &&& (((1 : Int64) <<< (((8 : Int32) * ww) &&& 0x3f).toInt64) - (1 : Int64)))), .second] [(.int fl), (.int ww), (.int aa), (.int (2 : Int32)), (.ref b1)])) rfl (by rw [hml]; rfl) (argsL := [(.ref b1), (.int (2 : Int32)), (.int aa), (.int ww), (.int fl)]) (rest := []) (lenOf pd_2 rfl) rfl (by show 2 * 0 + _ ≤ _; exact Nat.le_of_eq rfl) (hb hby at_314) (fun _ _ => ⟨rfl, e49, (by decide : 1 + 0 ≤ _), (by decide : 12 + 0 ≤ _)⟩)
    dsimp only [Pt.U, Pt.locs, Pt.cells, Pt.slots] at X50 l50 y50 z50 st50 hQ50
    subst y50 z50
    obtain ⟨rfl, N50q, e50⟩ := hQ50
    have N50 : Fr n0 L50 := by rw [l50]; exact Fr.app N49 N50q
    obtain ⟨_, _, ⟨T51, L51, k51, n51⟩, -, X51, ⟨Lc51, hQ51, l51, y51, z51⟩, st51⟩ := Jvm.LawKit.callS X50 hx (y := (⟨"com/example/fyfo/fyfo/BigEndianPutPinLaw", "untouched", "([BIIIB)Z"⟩ : MethodName)) hown (mvT hZ (hw _ (List.mem_of_getElem? (i := 10) rfl))) (mvT hZ (hw _ (List.mem_of_getElem? (i := 11) rfl))) (mvT hZ (hw _ (List.mem_of_getElem? (i := 8) rfl))) (mvT hZ (hw _ (List.mem_of_getElem? (i := 12) rfl))) (by decide) (backOf (W := 0) (rm_unt l Z a0 hw [] b1 (3 : Int32) aa ww fl tb T26.heap n0 Z26 Vtb (by decide)) hZ (hw _ (List.mem_of_getElem? (i := 12) rfl)) (hw _ (List.mem_of_getElem? (i := 8) rfl)) (by decide) (by decide)) (g := (mkF m 329 #[.val (.long q0), .second, .val (.int p0), .val (.int p1), .val (.int p2), .val (.int ww), .val (.int aa), .val (.int fl), .val (.ref b1), .val (.int (aa + ww)), .val (.long r8), .second, .val (.long (q0 &&& (((1 : Int64) <<< (((8 : Int32) * ww) &&& 0x3f).toInt64) - (1 : Int64)))), .second] [(.int fl), (.int ww), (.int aa), (.int (3 : Int32)), (.ref b1)])) rfl (by rw [hml]; rfl) (argsL := [(.ref b1), (.int (3 : Int32)), (.int aa), (.int ww), (.int fl)]) (rest := []) (lenOf pd_2 rfl) rfl (by show 2 * 0 + _ ≤ _; exact Nat.le_of_eq rfl) (hb hby at_329) (fun _ _ => ⟨rfl, e50, (by decide : 1 + 0 ≤ _), (by decide : 12 + 0 ≤ _)⟩)
    dsimp only [Pt.U, Pt.locs, Pt.cells, Pt.slots] at X51 l51 y51 z51 st51 hQ51
    subst y51 z51
    obtain ⟨rfl, N51q, e51⟩ := hQ51
    have N51 : Fr n0 L51 := by rw [l51]; exact Fr.app N50 N51q
    obtain ⟨_, _, ⟨T52, L52, k52, n52⟩, -, X52, ⟨Lc52, hQ52, l52, y52, z52⟩, st52⟩ := Jvm.LawKit.callS X51 hx (y := (⟨"com/example/fyfo/fyfo/BigEndianPutPinLaw", "untouched", "([BIIIB)Z"⟩ : MethodName)) hown (mvT hZ (hw _ (List.mem_of_getElem? (i := 10) rfl))) (mvT hZ (hw _ (List.mem_of_getElem? (i := 11) rfl))) (mvT hZ (hw _ (List.mem_of_getElem? (i := 8) rfl))) (mvT hZ (hw _ (List.mem_of_getElem? (i := 12) rfl))) (by decide) (backOf (W := 0) (rm_unt l Z a0 hw [] b1 (4 : Int32) aa ww fl tb T26.heap n0 Z26 Vtb (by decide)) hZ (hw _ (List.mem_of_getElem? (i := 12) rfl)) (hw _ (List.mem_of_getElem? (i := 8) rfl)) (by decide) (by decide)) (g := (mkF m 344 #[.val (.long q0), .second, .val (.int p0), .val (.int p1), .val (.int p2), .val (.int ww), .val (.int aa), .val (.int fl), .val (.ref b1), .val (.int (aa + ww)), .val (.long r8), .second, .val (.long (q0 &&& (((1 : Int64) <<< (((8 : Int32) * ww) &&& 0x3f).toInt64) - (1 : Int64)))), .second] [(.int fl), (.int ww), (.int aa), (.int (4 : Int32)), (.ref b1)])) rfl (by rw [hml]; rfl) (argsL := [(.ref b1), (.int (4 : Int32)), (.int aa), (.int ww), (.int fl)]) (rest := []) (lenOf pd_2 rfl) rfl (by show 2 * 0 + _ ≤ _; exact Nat.le_of_eq rfl) (hb hby at_344) (fun _ _ => ⟨rfl, e51, (by decide : 1 + 0 ≤ _), (by decide : 12 + 0 ≤ _)⟩)
    dsimp only [Pt.U, Pt.locs, Pt.cells, Pt.slots] at X52 l52 y52 z52 st52 hQ52
    subst y52 z52
    obtain ⟨rfl, N52q, e52⟩ := hQ52
    have N52 : Fr n0 L52 := by rw [l52]; exact Fr.app N51 N52q
    obtain ⟨_, _, ⟨T53, L53, k53, n53⟩, -, X53, ⟨Lc53, hQ53, l53, y53, z53⟩, st53⟩ := Jvm.LawKit.callS X52 hx (y := (⟨"com/example/fyfo/fyfo/BigEndianPutPinLaw", "untouched", "([BIIIB)Z"⟩ : MethodName)) hown (mvT hZ (hw _ (List.mem_of_getElem? (i := 10) rfl))) (mvT hZ (hw _ (List.mem_of_getElem? (i := 11) rfl))) (mvT hZ (hw _ (List.mem_of_getElem? (i := 8) rfl))) (mvT hZ (hw _ (List.mem_of_getElem? (i := 12) rfl))) (by decide) (backOf (W := 0) (rm_unt l Z a0 hw [] b1 (5 : Int32) aa ww fl tb T26.heap n0 Z26 Vtb (by decide)) hZ (hw _ (List.mem_of_getElem? (i := 12) rfl)) (hw _ (List.mem_of_getElem? (i := 8) rfl)) (by decide) (by decide)) (g := (mkF m 359 #[.val (.long q0), .second, .val (.int p0), .val (.int p1), .val (.int p2), .val (.int ww), .val (.int aa), .val (.int fl), .val (.ref b1), .val (.int (aa + ww)), .val (.long r8), .second, .val (.long (q0 &&& (((1 : Int64) <<< (((8 : Int32) * ww) &&& 0x3f).toInt64) - (1 : Int64)))), .second] [(.int fl), (.int ww), (.int aa), (.int (5 : Int32)), (.ref b1)])) rfl (by rw [hml]; rfl) (argsL := [(.ref b1), (.int (5 : Int32)), (.int aa), (.int ww), (.int fl)]) (rest := []) (lenOf pd_2 rfl) rfl (by show 2 * 0 + _ ≤ _; exact Nat.le_of_eq rfl) (hb hby at_359) (fun _ _ => ⟨rfl, e52, (by decide : 1 + 0 ≤ _), (by decide : 12 + 0 ≤ _)⟩)
    dsimp only [Pt.U, Pt.locs, Pt.cells, Pt.slots] at X53 l53 y53 z53 st53 hQ53
    subst y53 z53
    obtain ⟨rfl, N53q, e53⟩ := hQ53
    have N53 : Fr n0 L53 := by rw [l53]; exact Fr.app N52 N53q
    obtain ⟨_, _, ⟨T54, L54, k54, n54⟩, -, X54, ⟨Lc54, hQ54, l54, y54, z54⟩, st54⟩ := Jvm.LawKit.callS X53 hx (y := (⟨"com/example/fyfo/fyfo/BigEndianPutPinLaw", "untouched", "([BIIIB)Z"⟩ : MethodName)) hown (mvT hZ (hw _ (List.mem_of_getElem? (i := 10) rfl))) (mvT hZ (hw _ (List.mem_of_getElem? (i := 11) rfl))) (mvT hZ (hw _ (List.mem_of_getElem? (i := 8) rfl))) (mvT hZ (hw _ (List.mem_of_getElem? (i := 12) rfl))) (by decide) (backOf (W := 0) (rm_unt l Z a0 hw [] b1 (6 : Int32) aa ww fl tb T26.heap n0 Z26 Vtb (by decide)) hZ (hw _ (List.mem_of_getElem? (i := 12) rfl)) (hw _ (List.mem_of_getElem? (i := 8) rfl)) (by decide) (by decide)) (g := (mkF m 375 #[.val (.long q0), .second, .val (.int p0), .val (.int p1), .val (.int p2), .val (.int ww), .val (.int aa), .val (.int fl), .val (.ref b1), .val (.int (aa + ww)), .val (.long r8), .second, .val (.long (q0 &&& (((1 : Int64) <<< (((8 : Int32) * ww) &&& 0x3f).toInt64) - (1 : Int64)))), .second] [(.int fl), (.int ww), (.int aa), (.int (6 : Int32)), (.ref b1)])) rfl (by rw [hml]; rfl) (argsL := [(.ref b1), (.int (6 : Int32)), (.int aa), (.int ww), (.int fl)]) (rest := []) (lenOf pd_2 rfl) rfl (by show 2 * 0 + _ ≤ _; exact Nat.le_of_eq rfl) (hb hby at_375) (fun _ _ => ⟨rfl, e53, (by decide : 1 + 0 ≤ _), (by decide : 12 + 0 ≤ _)⟩)
    dsimp only [Pt.U, Pt.locs, Pt.cells, Pt.slots] at X54 l54 y54 z54 st54 hQ54
    subst y54 z54
    obtain ⟨rfl, N54q, e54⟩ := hQ54
    have N54 : Fr n0 L54 := by rw [l54]; exact Fr.app N53 N54q
    obtain ⟨_, _, ⟨T55, L55, k55, n55⟩, -, X55, ⟨Lc55, hQ55, l55, y55, z55⟩, st55⟩ := Jvm.LawKit.callS X54 hx (y := (⟨"com/example/fyfo/fyfo/BigEndianPutPinLaw", "untouched", "([BIIIB)Z"⟩ : MethodName)) hown (mvT hZ (hw _ (List.mem_of_getElem? (i := 10) rfl))) (mvT hZ (hw _ (List.mem_of_getElem? (i := 11) rfl))) (mvT hZ (hw _ (List.mem_of_getElem? (i := 8) rfl))) (mvT hZ (hw _ (List.mem_of_getElem? (i := 12) rfl))) (by decide) (backOf (W := 0) (rm_unt l Z a0 hw [] b1 (7 : Int32) aa ww fl tb T26.heap n0 Z26 Vtb (by decide)) hZ (hw _ (List.mem_of_getElem? (i := 12) rfl)) (hw _ (List.mem_of_getElem? (i := 8) rfl)) (by decide) (by decide)) (g := (mkF m 391 #[.val (.long q0), .second, .val (.int p0), .val (.int p1), .val (.int p2), .val (.int ww), .val (.int aa), .val (.int fl), .val (.ref b1), .val (.int (aa + ww)), .val (.long r8), .second, .val (.long (q0 &&& (((1 : Int64) <<< (((8 : Int32) * ww) &&& 0x3f).toInt64) - (1 : Int64)))), .second] [(.int fl), (.int ww), (.int aa), (.int (7 : Int32)), (.ref b1)])) rfl (by rw [hml]; rfl) (argsL := [(.ref b1), (.int (7 : Int32)), (.int aa), (.int ww), (.int fl)]) (rest := []) (lenOf pd_2 rfl) rfl (by show 2 * 0 + _ ≤ _; exact Nat.le_of_eq rfl) (hb hby at_391) (fun _ _ => ⟨rfl, e54, (by decide : 1 + 0 ≤ _), (by decide : 12 + 0 ≤ _)⟩)
    dsimp only [Pt.U, Pt.locs, Pt.cells, Pt.slots] at X55 l55 y55 z55 st55 hQ55
    subst y55 z55
    obtain ⟨rfl, N55q, e55⟩ := hQ55
    have N55 : Fr n0 L55 := by rw [l55]; exact Fr.app N54 N55q
    obtain ⟨_, _, ⟨T56, L56, k56, n56⟩, -, X56, ⟨Lc56, hQ56, l56, y56, z56⟩, st56⟩ := Jvm.LawKit.callS X55 hx (y := (⟨"com/example/fyfo/fyfo/BigEndianPutPinLaw", "untouched", "([BIIIB)Z"⟩ : MethodName)) hown (mvT hZ (hw _ (List.mem_of_getElem? (i := 10) rfl))) (mvT hZ (hw _ (List.mem_of_getElem? (i := 11) rfl))) (mvT hZ (hw _ (List.mem_of_getElem? (i := 8) rfl))) (mvT hZ (hw _ (List.mem_of_getElem? (i := 12) rfl))) (by decide) (backOf (W := 0) (rm_unt l Z a0 hw [] b1 (8 : Int32) aa ww fl tb T26.heap n0 Z26 Vtb (by decide)) hZ (hw _ (List.mem_of_getElem? (i := 12) rfl)) (hw _ (List.mem_of_getElem? (i := 8) rfl)) (by decide) (by decide)) (g := (mkF m 407 #[.val (.long q0), .second, .val (.int p0), .val (.int p1), .val (.int p2), .val (.int ww), .val (.int aa), .val (.int fl), .val (.ref b1), .val (.int (aa + ww)), .val (.long r8), .second, .val (.long (q0 &&& (((1 : Int64) <<< (((8 : Int32) * ww) &&& 0x3f).toInt64) - (1 : Int64)))), .second] [(.int fl), (.int ww), (.int aa), (.int (8 : Int32)), (.ref b1)])) rfl (by rw [hml]; rfl) (argsL := [(.ref b1), (.int (8 : Int32)), (.int aa), (.int ww), (.int fl)]) (rest := []) (lenOf pd_2 rfl) rfl (by show 2 * 0 + _ ≤ _; exact Nat.le_of_eq rfl) (hb hby at_407) (fun _ _ => ⟨rfl, e55, (by decide : 1 + 0 ≤ _), (by decide : 12 + 0 ≤ _)⟩)
    dsimp only [Pt.U, Pt.locs, Pt.cells, Pt.slots] at X56 l56 y56 z56 st56 hQ56
    subst y56 z56
    obtain ⟨rfl, N56q, e56⟩ := hQ56
    have N56 : Fr n0 L56 := by rw [l56]; exact Fr.app N55 N56q
    obtain ⟨_, _, ⟨T57, L57, k57, n57⟩, -, X57, ⟨Lc57, hQ57, l57, y57, z57⟩, st57⟩ := Jvm.LawKit.callS X56 hx (y := (⟨"com/example/fyfo/fyfo/BigEndianPutPinLaw", "untouched", "([BIIIB)Z"⟩ : MethodName)) hown (mvT hZ (hw _ (List.mem_of_getElem? (i := 10) rfl))) (mvT hZ (hw _ (List.mem_of_getElem? (i := 11) rfl))) (mvT hZ (hw _ (List.mem_of_getElem? (i := 8) rfl))) (mvT hZ (hw _ (List.mem_of_getElem? (i := 12) rfl))) (by decide) (backOf (W := 0) (rm_unt l Z a0 hw [] b1 (9 : Int32) aa ww fl tb T26.heap n0 Z26 Vtb (by decide)) hZ (hw _ (List.mem_of_getElem? (i := 12) rfl)) (hw _ (List.mem_of_getElem? (i := 8) rfl)) (by decide) (by decide)) (g := (mkF m 423 #[.val (.long q0), .second, .val (.int p0), .val (.int p1), .val (.int p2), .val (.int ww), .val (.int aa), .val (.int fl), .val (.ref b1), .val (.int (aa + ww)), .val (.long r8), .second, .val (.long (q0 &&& (((1 : Int64) <<< (((8 : Int32) * ww) &&& 0x3f).toInt64) - (1 : Int64)))), .second] [(.int fl), (.int ww), (.int aa), (.int (9 : Int32)), (.ref b1)])) rfl (by rw [hml]; rfl) (argsL := [(.ref b1), (.int (9 : Int32)), (.int aa), (.int ww), (.int fl)]) (rest := []) (lenOf pd_2 rfl) rfl (by show 2 * 0 + _ ≤ _; exact Nat.le_of_eq rfl) (hb hby at_423) (fun _ _ => ⟨rfl, e56, (by decide : 1 + 0 ≤ _), (by decide : 12 + 0 ≤ _)⟩)
    dsimp only [Pt.U, Pt.locs, Pt.cells, Pt.slots] at X57 l57 y57 z57 st57 hQ57
    subst y57 z57
    obtain ⟨rfl, N57q, e57⟩ := hQ57
    have N57 : Fr n0 L57 := by rw [l57]; exact Fr.app N56 N57q
    obtain ⟨_, _, ⟨T58, L58, k58, n58⟩, -, X58, ⟨Lc58, hQ58, l58, y58, z58⟩, st58⟩ := Jvm.LawKit.callS X57 hx (y := (⟨"com/example/fyfo/fyfo/BigEndianPutPinLaw", "untouched", "([BIIIB)Z"⟩ : MethodName)) hown (mvT hZ (hw _ (List.mem_of_getElem? (i := 10) rfl))) (mvT hZ (hw _ (List.mem_of_getElem? (i := 11) rfl))) (mvT hZ (hw _ (List.mem_of_getElem? (i := 8) rfl))) (mvT hZ (hw _ (List.mem_of_getElem? (i := 12) rfl))) (by decide) (backOf (W := 0) (rm_unt l Z a0 hw [] b1 (10 : Int32) aa ww fl tb T26.heap n0 Z26 Vtb (by decide)) hZ (hw _ (List.mem_of_getElem? (i := 12) rfl)) (hw _ (List.mem_of_getElem? (i := 8) rfl)) (by decide) (by decide)) (g := (mkF m 439 #[.val (.long q0), .second, .val (.int p0), .val (.int p1), .val (.int p2), .val (.int ww), .val (.int aa), .val (.int fl), .val (.ref b1), .val (.int (aa + ww)), .val (.long r8), .second, .val (.long (q0 &&& (((1 : Int64) <<< (((8 : Int32) * ww) &&& 0x3f).toInt64) - (1 : Int64)))), .second] [(.int fl), (.int ww), (.int aa), (.int (10 : Int32)), (.ref b1)])) rfl (by rw [hml]; rfl) (argsL := [(.ref b1), (.int (10 : Int32)), (.int aa), (.int ww), (.int fl)]) (rest := []) (lenOf pd_2 rfl) rfl (by show 2 * 0 + _ ≤ _; exact Nat.le_of_eq rfl) (hb hby at_439) (fun _ _ => ⟨rfl, e57, (by decide : 1 + 0 ≤ _), (by decide : 12 + 0 ≤ _)⟩)
    dsimp only [Pt.U, Pt.locs, Pt.cells, Pt.slots] at X58 l58 y58 z58 st58 hQ58
    subst y58 z58
    obtain ⟨rfl, N58q, e58⟩ := hQ58
    have N58 : Fr n0 L58 := by rw [l58]; exact Fr.app N57 N58q
    obtain ⟨_, _, ⟨T59, L59, k59, n59⟩, -, X59, ⟨Lc59, hQ59, l59, y59, z59⟩, st59⟩ := Jvm.LawKit.callS X58 hx (y := (⟨"com/example/fyfo/fyfo/BigEndianPutPinLaw", "untouched", "([BIIIB)Z"⟩ : MethodName)) hown (mvT hZ (hw _ (List.mem_of_getElem? (i := 10) rfl))) (mvT hZ (hw _ (List.mem_of_getElem? (i := 11) rfl))) (mvT hZ (hw _ (List.mem_of_getElem? (i := 8) rfl))) (mvT hZ (hw _ (List.mem_of_getElem? (i := 12) rfl))) (by decide) (backOf (W := 0) (rm_unt l Z a0 hw [] b1 (11 : Int32) aa ww fl tb T26.heap n0 Z26 Vtb (by decide)) hZ (hw _ (List.mem_of_getElem? (i := 12) rfl)) (hw _ (List.mem_of_getElem? (i := 8) rfl)) (by decide) (by decide)) (g := (mkF m 455 #[.val (.long q0), .second, .val (.int p0), .val (.int p1), .val (.int p2), .val (.int ww), .val (.int aa), .val (.int fl), .val (.ref b1), .val (.int (aa + ww)), .val (.long r8), .second, .val (.long (q0 &&& (((1 : Int64) <<< (((8 : Int32) * ww) &&& 0x3f).toInt64) - (1 : Int64)))), .second] [(.int fl), (.int ww), (.int aa), (.int (11 : Int32)), (.ref b1)])) rfl (by rw [hml]; rfl) (argsL := [(.ref b1), (.int (11 : Int32)), (.int aa), (.int ww), (.int fl)]) (rest := []) (lenOf pd_2 rfl) rfl (by show 2 * 0 + _ ≤ _; exact Nat.le_of_eq rfl) (hb hby at_455) (fun _ _ => ⟨rfl, e58, (by decide : 1 + 0 ≤ _), (by decide : 12 + 0 ≤ _)⟩)
    dsimp only [Pt.U, Pt.locs, Pt.cells, Pt.slots] at X59 l59 y59 z59 st59 hQ59
    subst y59 z59
    obtain ⟨rfl, N59q, e59⟩ := hQ59
    have N59 : Fr n0 L59 := by rw [l59]; exact Fr.app N58 N59q
    obtain ⟨fs, hr, hrun, hended, hW, hsame⟩ := X59.leave (v := some (.int (1 : Int32))) (fun h => by rw [Bd.returns] at h; cases h)
    refine ⟨_, _, pre0 _ ?_, hrun, hended, _, _, rfl, ?_, ⟨_, rfl⟩, hW, hsame.mono (by decide) (by decide)⟩
    · refine k35 _ ?_
      show Steps p.tables e below (T34.setTop (mkF m 243 #[.val (.long q0), .second, .val (.int p0), .val (.int p1), .val (.int p2), .val (.int ww), .val (.int aa), .val (.int fl), .val (.ref b1), .val (.int (aa + ww)), .val (.long r8), .second, .unset, .unset] [(.int (8 : Int32)), (.int ww)])) _
      refine XS.icmpYes X34.here hx rfl (pc0 := 243) (pc' := 252) rfl (hb hby at_243) rfl (feq hc243).2 (by decide) (by decide) ?_
      show Steps p.tables e below (T34.setTop (mkF m 252 #[.val (.long q0), .second, .val (.int p0), .val (.int p1), .val (.int p2), .val (.int ww), .val (.int aa), .val (.int fl), .val (.ref b1), .val (.int (aa + ww)), .val (.long r8), .second, .unset, .unset] [])) _
      refine XS.lloadN X34.here hx rfl (hb hby at_252) rfl ?_
      show Steps p.tables e below (T34.setTop (mkF m 253 #[.val (.long q0), .second, .val (.int p0), .val (.int p1), .val (.int p2), .val (.int ww), .val (.int aa), .val (.int fl), .val (.ref b1), .val (.int (aa + ww)), .val (.long r8), .second, .unset, .unset] [(.long q0)])) _
      refine XS.lconst X34.here hx rfl (hb hby at_253) ?_
      show Steps p.tables e below (T34.setTop (mkF m 254 #[.val (.long q0), .second, .val (.int p0), .val (.int p1), .val (.int p2), .val (.int ww), .val (.int aa), .val (.int fl), .val (.ref b1), .val (.int (aa + ww)), .val (.long r8), .second, .unset, .unset] [(.long (1 : Int64)), (.long q0)])) _
      refine XS.bipush X34.here hx rfl (hb hby at_254) ?_
      show Steps p.tables e below (T34.setTop (mkF m 256 #[.val (.long q0), .second, .val (.int p0), .val (.int p1), .val (.int p2), .val (.int ww), .val (.int aa), .val (.int fl), .val (.ref b1), .val (.int (aa + ww)), .val (.long r8), .second, .unset, .unset] [(.int (8 : Int32)), (.long (1 : Int64)), (.long q0)])) _
      refine XS.iload X34.here hx rfl (hb hby at_256) rfl ?_
      show Steps p.tables e below (T34.setTop (mkF m 258 #[.val (.long q0), .second, .val (.int p0), .val (.int p1), .val (.int p2), .val (.int ww), .val (.int aa), .val (.int fl), .val (.ref b1), .val (.int (aa + ww)), .val (.long r8), .second, .unset, .unset] [(.int ww), (.int (8 : Int32)), (.long (1 : Int64)), (.long q0)])) _
      refine XS.imul X34.here hx rfl (hb hby at_258) rfl ?_
      show Steps p.tables e below (T34.setTop (mkF m 259 #[.val (.long q0), .second, .val (.int p0), .val (.int p1), .val (.int p2), .val (.int ww), .val (.int aa), .val (.int fl), .val (.ref b1), .val (.int (aa + ww)), .val (.long r8), .second, .unset, .unset] [(.int ((8 : Int32) * ww)), (.long (1 : Int64)), (.long q0)])) _
      refine XS.lshl X34.here hx rfl (hb hby at_259) rfl ?_
      show Steps p.tables e below (T34.setTop (mkF m 260 #[.val (.long q0), .second, .val (.int p0), .val (.int p1), .val (.int p2), .val (.int ww), .val (.int aa), .val (.int fl), .val (.ref b1), .val (.int (aa + ww)), .val (.long r8), .second, .unset, .unset] [(.long ((1 : Int64) <<< (((8 : Int32) * ww) &&& 0x3f).toInt64)), (.long q0)])) _
      refine XS.lconst X34.here hx rfl (hb hby at_260) ?_
      show Steps p.tables e below (T34.setTop (mkF m 261 #[.val (.long q0), .second, .val (.int p0), .val (.int p1), .val (.int p2), .val (.int ww), .val (.int aa), .val (.int fl), .val (.ref b1), .val (.int (aa + ww)), .val (.long r8), .second, .unset, .unset] [(.long (1 : Int64)), (.long ((1 : Int64) <<< (((8 : Int32) * ww) &&& 0x3f).toInt64)), (.long q0)])) _
      refine XS.lsub X34.here hx rfl (hb hby at_261) rfl ?_
      show Steps p.tables e below (T34.setTop (mkF m 262 #[.val (.long q0), .second, .val (.int p0), .val (.int p1), .val (.int p2), .val (.int ww), .val (.int aa), .val (.int fl), .val (.ref b1), .val (.int (aa + ww)), .val (.long r8), .second, .unset, .unset] [(.long (((1 : Int64) <<< (((8 : Int32) * ww) &&& 0x3f).toInt64) - (1 : Int64))), (.long q0)])) _
      refine XS.land X34.here hx rfl (hb hby at_262) rfl ?_
      show Steps p.tables e below (T34.setTop (mkF m 263 #[.val (.long q0), .second, .val (.int p0), .val (.int p1), .val (.int p2), .val (.int ww), .val (.int aa), .val (.int fl), .val (.ref b1), .val (.int (aa + ww)), .val (.long r8), .second, .unset, .unset] [(.long (q0 &&& (((1 : Int64) <<< (((8 : Int32) * ww) &&& 0x3f).toInt64) - (1 : Int64))))])) _
      refine XS.lstore X34.here hx rfl (hb hby at_263) rfl (l' := #[.val (.long q0), .second, .val (.int p0), .val (.int p1), .val (.int p2), .val (.int ww), .val (.int aa), .val (.int fl), .val (.ref b1), .val (.int (aa + ww)), .val (.long r8), .second, .val (.long (q0 &&& (((1 : Int64) <<< (((8 : Int32) * ww) &&& 0x3f).toInt64) - (1 : Int64)))), .second]) rfl ?_
      show Steps p.tables e below (T34.setTop (mkF m 265 #[.val (.long q0), .second, .val (.int p0), .val (.int p1), .val (.int p2), .val (.int ww), .val (.int aa), .val (.int fl), .val (.ref b1), .val (.int (aa + ww)), .val (.long r8), .second, .val (.long (q0 &&& (((1 : Int64) <<< (((8 : Int32) * ww) &&& 0x3f).toInt64) - (1 : Int64)))), .second] [])) _
      refine XS.lload X34.here hx rfl (hb hby at_265) rfl ?_
      show Steps p.tables e below (T34.setTop (mkF m 267 #[.val (.long q0), .second, .val (.int p0), .val (.int p1), .val (.int p2), .val (.int ww), .val (.int aa), .val (.int fl), .val (.ref b1), .val (.int (aa + ww)), .val (.long r8), .second, .val (.long (q0 &&& (((1 : Int64) <<< (((8 : Int32) * ww) &&& 0x3f).toInt64) - (1 : Int64)))), .second] [(.long r8)])) _
      refine XS.lload X34.here hx rfl (hb hby at_267) rfl ?_
      show Steps p.tables e below (T34.setTop (mkF m 269 #[.val (.long q0), .second, .val (.int p0), .val (.int p1), .val (.int p2), .val (.int ww), .val (.int aa), .val (.int fl), .val (.ref b1), .val (.int (aa + ww)), .val (.long r8), .second, .val (.long (q0 &&& (((1 : Int64) <<< (((8 : Int32) * ww) &&& 0x3f).toInt64) - (1 : Int64)))), .second] [(.long (q0 &&& (((1 : Int64) <<< (((8 : Int32) * ww) &&& 0x3f).toInt64) - (1 : Int64)))), (.long r8)])) _
      refine XS.lcmp X34.here hx rfl (hb hby at_269) rfl ?_
      show Steps p.tables e below (T34.setTop (mkF m 270 #[.val (.long q0), .second, .val (.int p0), .val (.int p1), .val (.int p2), .val (.int ww), .val (.int aa), .val (.int fl), .val (.ref b1), .val (.int (aa + ww)), .val (.long r8), .second, .val (.long (q0 &&& (((1 : Int64) <<< (((8 : Int32) * ww) &&& 0x3f).toInt64) - (1 : Int64)))), .second] [(.int (lcmpW r8 (q0 &&& (((1 : Int64) <<< (((8 : Int32) * ww) &&& 0x3f).toInt64) - (1 : Int64)))))])) _
      refine XS.ifYes X34.here hx rfl (pc0 := 270) (pc' := 275) rfl (hb hby at_270) rfl ((if0 _ _).trans (teq (by rw [h_r8, h_r7, h_r6, h_r5, h_r4, h_r3, h_r2, h_r1, h_tb, h_ww]; exact own_eq7 fl aa p0 q0 (by rw [h_ww] at hc243; exact hc243))).1) (by decide) (by decide) ?_
      show Steps p.tables e below (T34.setTop (mkF m 275 #[.val (.long q0), .second, .val (.int p0), .val (.int p1), .val (.int p2), .val (.int ww), .val (.int aa), .val (.int fl), .val (.ref b1), .val (.int (aa + ww)), .val (.long r8), .second, .val (.long (q0 &&& (((1 : Int64) <<< (((8 : Int32) * ww) &&& 0x3f).toInt64) - (1 : Int64)))), .second] [])) _
      refine XS.aload X34.here hx rfl (hb hby at_275) rfl rfl ?_
      show Steps p.tables e below (T34.setTop (mkF m 277 #[.val (.long q0), .second, .val (.int p0), .val (.int p1), .val (.int p2), .val (.int ww), .val (.int aa), .val (.int fl), .val (.ref b1), .val (.int (aa + ww)), .val (.long r8), .second, .val (.long (q0 &&& (((1 : Int64) <<< (((8 : Int32) * ww) &&& 0x3f).toInt64) - (1 : Int64)))), .second] [(.ref b1)])) _
      refine XS.iconst X34.here hx rfl (hb hby at_277) ?_
      show Steps p.tables e below (T34.setTop (mkF m 278 #[.val (.long q0), .second, .val (.int p0), .val (.int p1), .val (.int p2), .val (.int ww), .val (.int aa), .val (.int fl), .val (.ref b1), .val (.int (aa + ww)), .val (.long r8), .second, .val (.long (q0 &&& (((1 : Int64) <<< (((8 : Int32) * ww) &&& 0x3f).toInt64) - (1 : Int64)))), .second] [(.int (0 : Int32)), (.ref b1)])) _
      refine XS.iload X34.here hx rfl (hb hby at_278) rfl ?_
      show Steps p.tables e below (T34.setTop (mkF m 280 #[.val (.long q0), .second, .val (.int p0), .val (.int p1), .val (.int p2), .val (.int ww), .val (.int aa), .val (.int fl), .val (.ref b1), .val (.int (aa + ww)), .val (.long r8), .second, .val (.long (q0 &&& (((1 : Int64) <<< (((8 : Int32) * ww) &&& 0x3f).toInt64) - (1 : Int64)))), .second] [(.int aa), (.int (0 : Int32)), (.ref b1)])) _
      refine XS.iload X34.here hx rfl (hb hby at_280) rfl ?_
      show Steps p.tables e below (T34.setTop (mkF m 282 #[.val (.long q0), .second, .val (.int p0), .val (.int p1), .val (.int p2), .val (.int ww), .val (.int aa), .val (.int fl), .val (.ref b1), .val (.int (aa + ww)), .val (.long r8), .second, .val (.long (q0 &&& (((1 : Int64) <<< (((8 : Int32) * ww) &&& 0x3f).toInt64) - (1 : Int64)))), .second] [(.int ww), (.int aa), (.int (0 : Int32)), (.ref b1)])) _
      refine XS.iload X34.here hx rfl (hb hby at_282) rfl ?_
      show Steps p.tables e below (T34.setTop (mkF m 284 #[.val (.long q0), .second, .val (.int p0), .val (.int p1), .val (.int p2), .val (.int ww), .val (.int aa), .val (.int fl), .val (.ref b1), .val (.int (aa + ww)), .val (.long r8), .second, .val (.long (q0 &&& (((1 : Int64) <<< (((8 : Int32) * ww) &&& 0x3f).toInt64) - (1 : Int64)))), .second] [(.int fl), (.int ww), (.int aa), (.int (0 : Int32)), (.ref b1)])) _
      refine st48 _ ?_
      show Steps p.tables e below (T48.setTop (mkF m 287 #[.val (.long q0), .second, .val (.int p0), .val (.int p1), .val (.int p2), .val (.int ww), .val (.int aa), .val (.int fl), .val (.ref b1), .val (.int (aa + ww)), .val (.long r8), .second, .val (.long (q0 &&& (((1 : Int64) <<< (((8 : Int32) * ww) &&& 0x3f).toInt64) - (1 : Int64)))), .second] [(.int (own_unt tb (0 : Int32) aa ww fl))])) _
      refine XS.ifNo X48.here hx rfl (hb hby at_287) rfl ((if0 _ _).trans (feq (own_untv h_tb hat hwb ⟨by decide, by decide⟩)).1) ?_
      show Steps p.tables e below (T48.setTop (mkF m 290 #[.val (.long q0), .second, .val (.int p0), .val (.int p1), .val (.int p2), .val (.int ww), .val (.int aa), .val (.int fl), .val (.ref b1), .val (.int (aa + ww)), .val (.long r8), .second, .val (.long (q0 &&& (((1 : Int64) <<< (((8 : Int32) * ww) &&& 0x3f).toInt64) - (1 : Int64)))), .second] [])) _
      refine XS.aload X48.here hx rfl (hb hby at_290) rfl rfl ?_
      show Steps p.tables e below (T48.setTop (mkF m 292 #[.val (.long q0), .second, .val (.int p0), .val (.int p1), .val (.int p2), .val (.int ww), .val (.int aa), .val (.int fl), .val (.ref b1), .val (.int (aa + ww)), .val (.long r8), .second, .val (.long (q0 &&& (((1 : Int64) <<< (((8 : Int32) * ww) &&& 0x3f).toInt64) - (1 : Int64)))), .second] [(.ref b1)])) _
      refine XS.iconst X48.here hx rfl (hb hby at_292) ?_
      show Steps p.tables e below (T48.setTop (mkF m 293 #[.val (.long q0), .second, .val (.int p0), .val (.int p1), .val (.int p2), .val (.int ww), .val (.int aa), .val (.int fl), .val (.ref b1), .val (.int (aa + ww)), .val (.long r8), .second, .val (.long (q0 &&& (((1 : Int64) <<< (((8 : Int32) * ww) &&& 0x3f).toInt64) - (1 : Int64)))), .second] [(.int (1 : Int32)), (.ref b1)])) _
      refine XS.iload X48.here hx rfl (hb hby at_293) rfl ?_
      show Steps p.tables e below (T48.setTop (mkF m 295 #[.val (.long q0), .second, .val (.int p0), .val (.int p1), .val (.int p2), .val (.int ww), .val (.int aa), .val (.int fl), .val (.ref b1), .val (.int (aa + ww)), .val (.long r8), .second, .val (.long (q0 &&& (((1 : Int64) <<< (((8 : Int32) * ww) &&& 0x3f).toInt64) - (1 : Int64)))), .second] [(.int aa), (.int (1 : Int32)), (.ref b1)])) _
      refine XS.iload X48.here hx rfl (hb hby at_295) rfl ?_
      show Steps p.tables e below (T48.setTop (mkF m 297 #[.val (.long q0), .second, .val (.int p0), .val (.int p1), .val (.int p2), .val (.int ww), .val (.int aa), .val (.int fl), .val (.ref b1), .val (.int (aa + ww)), .val (.long r8), .second, .val (.long (q0 &&& (((1 : Int64) <<< (((8 : Int32) * ww) &&& 0x3f).toInt64) - (1 : Int64)))), .second] [(.int ww), (.int aa), (.int (1 : Int32)), (.ref b1)])) _
      refine XS.iload X48.here hx rfl (hb hby at_297) rfl ?_
      show Steps p.tables e below (T48.setTop (mkF m 299 #[.val (.long q0), .second, .val (.int p0), .val (.int p1), .val (.int p2), .val (.int ww), .val (.int aa), .val (.int fl), .val (.ref b1), .val (.int (aa + ww)), .val (.long r8), .second, .val (.long (q0 &&& (((1 : Int64) <<< (((8 : Int32) * ww) &&& 0x3f).toInt64) - (1 : Int64)))), .second] [(.int fl), (.int ww), (.int aa), (.int (1 : Int32)), (.ref b1)])) _
      refine st49 _ ?_
      show Steps p.tables e below (T49.setTop (mkF m 302 #[.val (.long q0), .second, .val (.int p0), .val (.int p1), .val (.int p2), .val (.int ww), .val (.int aa), .val (.int fl), .val (.ref b1), .val (.int (aa + ww)), .val (.long r8), .second, .val (.long (q0 &&& (((1 : Int64) <<< (((8 : Int32) * ww) &&& 0x3f).toInt64) - (1 : Int64)))), .second] [(.int (own_unt tb (1 : Int32) aa ww fl))])) _
      refine XS.ifNo X49.here hx rfl (hb hby at_302) rfl ((if0 _ _).trans (feq (own_untv h_tb hat hwb ⟨by decide, by decide⟩)).1) ?_
      show Steps p.tables e below (T49.setTop (mkF m 305 #[.val (.long q0), .second, .val (.int p0), .val (.int p1), .val (.int p2), .val (.int ww), .val (.int aa), .val (.int fl), .val (.ref b1), .val (.int (aa + ww)), .val (.long r8), .second, .val (.long (q0 &&& (((1 : Int64) <<< (((8 : Int32) * ww) &&& 0x3f).toInt64) - (1 : Int64)))), .second] [])) _
      refine XS.aload X49.here hx rfl (hb hby at_305) rfl rfl ?_
      show Steps p.tables e below (T49.setTop (mkF m 307 #[.val (.long q0), .second, .val (.int p0), .val (.int p1), .val (.int p2), .val (.int ww), .val (.int aa), .val (.int fl), .val (.ref b1), .val (.int (aa + ww)), .val (.long r8), .second, .val (.long (q0 &&& (((1 : Int64) <<< (((8 : Int32) * ww) &&& 0x3f).toInt64) - (1 : Int64)))), .second] [(.ref b1)])) _
      refine XS.iconst X49.here hx rfl (hb hby at_307) ?_
      show Steps p.tables e below (T49.setTop (mkF m 308 #[.val (.long q0), .second, .val (.int p0), .val (.int p1), .val (.int p2), .val (.int ww), .val (.int aa), .val (.int fl), .val (.ref b1), .val (.int (aa + ww)), .val (.long r8), .second, .val (.long (q0 &&& (((1 : Int64) <<< (((8 : Int32) * ww) &&& 0x3f).toInt64) - (1 : Int64)))), .second] [(.int (2 : Int32)), (.ref b1)])) _
      refine XS.iload X49.here hx rfl (hb hby at_308) rfl ?_
      show Steps p.tables e below (T49.setTop (mkF m 310 #[.val (.long q0), .second, .val (.int p0), .val (.int p1), .val (.int p2), .val (.int ww), .val (.int aa), .val (.int fl), .val (.ref b1), .val (.int (aa + ww)), .val (.long r8), .second, .val (.long (q0 &&& (((1 : Int64) <<< (((8 : Int32) * ww) &&& 0x3f).toInt64) - (1 : Int64)))), .second] [(.int aa), (.int (2 : Int32)), (.ref b1)])) _
      refine XS.iload X49.here hx rfl (hb hby at_310) rfl ?_
      show Steps p.tables e below (T49.setTop (mkF m 312 #[.val (.long q0), .second, .val (.int p0), .val (.int p1), .val (.int p2), .val (.int ww), .val (.int aa), .val (.int fl), .val (.ref b1), .val (.int (aa + ww)), .val (.long r8), .second, .val (.long (q0 &&& (((1 : Int64) <<< (((8 : Int32) * ww) &&& 0x3f).toInt64) - (1 : Int64)))), .second] [(.int ww), (.int aa), (.int (2 : Int32)), (.ref b1)])) _
      refine XS.iload X49.here hx rfl (hb hby at_312) rfl ?_
      show Steps p.tables e below (T49.setTop (mkF m 314 #[.val (.long q0), .second, .val (.int p0), .val (.int p1), .val (.int p2), .val (.int ww), .val (.int aa), .val (.int fl), .val (.ref b1), .val (.int (aa + ww)), .val (.long r8), .second, .val (.long (q0 &&& (((1 : Int64) <<< (((8 : Int32) * ww) &&& 0x3f).toInt64) - (1 : Int64)))), .second] [(.int fl), (.int ww), (.int aa), (.int (2 : Int32)), (.ref b1)])) _
      refine st50 _ ?_
      show Steps p.tables e below (T50.setTop (mkF m 317 #[.val (.long q0), .second, .val (.int p0), .val (.int p1), .val (.int p2), .val (.int ww), .val (.int aa), .val (.int fl), .val (.ref b1), .val (.int (aa + ww)), .val (.long r8), .second, .val (.long (q0 &&& (((1 : Int64) <<< (((8 : Int32) * ww) &&& 0x3f).toInt64) - (1 : Int64)))), .second] [(.int (own_unt tb (2 : Int32) aa ww fl))])) _
      refine XS.ifNo X50.here hx rfl (hb hby at_317) rfl ((if0 _ _).trans (feq (own_untv h_tb hat hwb ⟨by decide, by decide⟩)).1) ?_
      show Steps p.tables e below (T50.setTop (mkF m 320 #[.val (.long q0), .second, .val (.int p0), .val (.int p1), .val (.int p2), .val (.int ww), .val (.int aa), .val (.int fl), .val (.ref b1), .val (.int (aa + ww)), .val (.long r8), .second, .val (.long (q0 &&& (((1 : Int64) <<< (((8 : Int32) * ww) &&& 0x3f).toInt64) - (1 : Int64)))), .second] [])) _
      refine XS.aload X50.here hx rfl (hb hby at_320) rfl rfl ?_
      show Steps p.tables e below (T50.setTop (mkF m 322 #[.val (.long q0), .second, .val (.int p0), .val (.int p1), .val (.int p2), .val (.int ww), .val (.int aa), .val (.int fl), .val (.ref b1), .val (.int (aa + ww)), .val (.long r8), .second, .val (.long (q0 &&& (((1 : Int64) <<< (((8 : Int32) * ww) &&& 0x3f).toInt64) - (1 : Int64)))), .second] [(.ref b1)])) _
      refine XS.iconst X50.here hx rfl (hb hby at_322) ?_
      show Steps p.tables e below (T50.setTop (mkF m 323 #[.val (.long q0), .second, .val (.int p0), .val (.int p1), .val (.int p2), .val (.int ww), .val (.int aa), .val (.int fl), .val (.ref b1), .val (.int (aa + ww)), .val (.long r8), .second, .val (.long (q0 &&& (((1 : Int64) <<< (((8 : Int32) * ww) &&& 0x3f).toInt64) - (1 : Int64)))), .second] [(.int (3 : Int32)), (.ref b1)])) _
      refine XS.iload X50.here hx rfl (hb hby at_323) rfl ?_
      show Steps p.tables e below (T50.setTop (mkF m 325 #[.val (.long q0), .second, .val (.int p0), .val (.int p1), .val (.int p2), .val (.int ww), .val (.int aa), .val (.int fl), .val (.ref b1), .val (.int (aa + ww)), .val (.long r8), .second, .val (.long (q0 &&& (((1 : Int64) <<< (((8 : Int32) * ww) &&& 0x3f).toInt64) - (1 : Int64)))), .second] [(.int aa), (.int (3 : Int32)), (.ref b1)])) _
      refine XS.iload X50.here hx rfl (hb hby at_325) rfl ?_
      show Steps p.tables e below (T50.setTop (mkF m 327 #[.val (.long q0), .second, .val (.int p0), .val (.int p1), .val (.int p2), .val (.int ww), .val (.int aa), .val (.int fl), .val (.ref b1), .val (.int (aa + ww)), .val (.long r8), .second, .val (.long (q0 &&& (((1 : Int64) <<< (((8 : Int32) * ww) &&& 0x3f).toInt64) - (1 : Int64)))), .second] [(.int ww), (.int aa), (.int (3 : Int32)), (.ref b1)])) _
      refine XS.iload X50.here hx rfl (hb hby at_327) rfl ?_
      show Steps p.tables e below (T50.setTop (mkF m 329 #[.val (.long q0), .second, .val (.int p0), .val (.int p1), .val (.int p2), .val (.int ww), .val (.int aa), .val (.int fl), .val (.ref b1), .val (.int (aa + ww)), .val (.long r8), .second, .val (.long (q0 &&& (((1 : Int64) <<< (((8 : Int32) * ww) &&& 0x3f).toInt64) - (1 : Int64)))), .second] [(.int fl), (.int ww), (.int aa), (.int (3 : Int32)), (.ref b1)])) _
      refine st51 _ ?_
      show Steps p.tables e below (T51.setTop (mkF m 332 #[.val (.long q0), .second, .val (.int p0), .val (.int p1), .val (.int p2), .val (.int ww), .val (.int aa), .val (.int fl), .val (.ref b1), .val (.int (aa + ww)), .val (.long r8), .second, .val (.long (q0 &&& (((1 : Int64) <<< (((8 : Int32) * ww) &&& 0x3f).toInt64) - (1 : Int64)))), .second] [(.int (own_unt tb (3 : Int32) aa ww fl))])) _
      refine XS.ifNo X51.here hx rfl (hb hby at_332) rfl ((if0 _ _).trans (feq (own_untv h_tb hat hwb ⟨by decide, by decide⟩)).1) ?_
      show Steps p.tables e below (T51.setTop (mkF m 335 #[.val (.long q0), .second, .val (.int p0), .val (.int p1), .val (.int p2), .val (.int ww), .val (.int aa), .val (.int fl), .val (.ref b1), .val (.int (aa + ww)), .val (.long r8), .second, .val (.long (q0 &&& (((1 : Int64) <<< (((8 : Int32) * ww) &&& 0x3f).toInt64) - (1 : Int64)))), .second] [])) _
      refine XS.aload X51.here hx rfl (hb hby at_335) rfl rfl ?_
      show Steps p.tables e below (T51.setTop (mkF m 337 #[.val (.long q0), .second, .val (.int p0), .val (.int p1), .val (.int p2), .val (.int ww), .val (.int aa), .val (.int fl), .val (.ref b1), .val (.int (aa + ww)), .val (.long r8), .second, .val (.long (q0 &&& (((1 : Int64) <<< (((8 : Int32) * ww) &&& 0x3f).toInt64) - (1 : Int64)))), .second] [(.ref b1)])) _
      refine XS.iconst X51.here hx rfl (hb hby at_337) ?_
      show Steps p.tables e below (T51.setTop (mkF m 338 #[.val (.long q0), .second, .val (.int p0), .val (.int p1), .val (.int p2), .val (.int ww), .val (.int aa), .val (.int fl), .val (.ref b1), .val (.int (aa + ww)), .val (.long r8), .second, .val (.long (q0 &&& (((1 : Int64) <<< (((8 : Int32) * ww) &&& 0x3f).toInt64) - (1 : Int64)))), .second] [(.int (4 : Int32)), (.ref b1)])) _
      refine XS.iload X51.here hx rfl (hb hby at_338) rfl ?_
      show Steps p.tables e below (T51.setTop (mkF m 340 #[.val (.long q0), .second, .val (.int p0), .val (.int p1), .val (.int p2), .val (.int ww), .val (.int aa), .val (.int fl), .val (.ref b1), .val (.int (aa + ww)), .val (.long r8), .second, .val (.long (q0 &&& (((1 : Int64) <<< (((8 : Int32) * ww) &&& 0x3f).toInt64) - (1 : Int64)))), .second] [(.int aa), (.int (4 : Int32)), (.ref b1)])) _
      refine XS.iload X51.here hx rfl (hb hby at_340) rfl ?_
      show Steps p.tables e below (T51.setTop (mkF m 342 #[.val (.long q0), .second, .val (.int p0), .val (.int p1), .val (.int p2), .val (.int ww), .val (.int aa), .val (.int fl), .val (.ref b1), .val (.int (aa + ww)), .val (.long r8), .second, .val (.long (q0 &&& (((1 : Int64) <<< (((8 : Int32) * ww) &&& 0x3f).toInt64) - (1 : Int64)))), .second] [(.int ww), (.int aa), (.int (4 : Int32)), (.ref b1)])) _
      refine XS.iload X51.here hx rfl (hb hby at_342) rfl ?_
      show Steps p.tables e below (T51.setTop (mkF m 344 #[.val (.long q0), .second, .val (.int p0), .val (.int p1), .val (.int p2), .val (.int ww), .val (.int aa), .val (.int fl), .val (.ref b1), .val (.int (aa + ww)), .val (.long r8), .second, .val (.long (q0 &&& (((1 : Int64) <<< (((8 : Int32) * ww) &&& 0x3f).toInt64) - (1 : Int64)))), .second] [(.int fl), (.int ww), (.int aa), (.int (4 : Int32)), (.ref b1)])) _
      refine st52 _ ?_
      show Steps p.tables e below (T52.setTop (mkF m 347 #[.val (.long q0), .second, .val (.int p0), .val (.int p1), .val (.int p2), .val (.int ww), .val (.int aa), .val (.int fl), .val (.ref b1), .val (.int (aa + ww)), .val (.long r8), .second, .val (.long (q0 &&& (((1 : Int64) <<< (((8 : Int32) * ww) &&& 0x3f).toInt64) - (1 : Int64)))), .second] [(.int (own_unt tb (4 : Int32) aa ww fl))])) _
      refine XS.ifNo X52.here hx rfl (hb hby at_347) rfl ((if0 _ _).trans (feq (own_untv h_tb hat hwb ⟨by decide, by decide⟩)).1) ?_
      show Steps p.tables e below (T52.setTop (mkF m 350 #[.val (.long q0), .second, .val (.int p0), .val (.int p1), .val (.int p2), .val (.int ww), .val (.int aa), .val (.int fl), .val (.ref b1), .val (.int (aa + ww)), .val (.long r8), .second, .val (.long (q0 &&& (((1 : Int64) <<< (((8 : Int32) * ww) &&& 0x3f).toInt64) - (1 : Int64)))), .second] [])) _
      refine XS.aload X52.here hx rfl (hb hby at_350) rfl rfl ?_
      show Steps p.tables e below (T52.setTop (mkF m 352 #[.val (.long q0), .second, .val (.int p0), .val (.int p1), .val (.int p2), .val (.int ww), .val (.int aa), .val (.int fl), .val (.ref b1), .val (.int (aa + ww)), .val (.long r8), .second, .val (.long (q0 &&& (((1 : Int64) <<< (((8 : Int32) * ww) &&& 0x3f).toInt64) - (1 : Int64)))), .second] [(.ref b1)])) _
      refine XS.iconst X52.here hx rfl (hb hby at_352) ?_
      show Steps p.tables e below (T52.setTop (mkF m 353 #[.val (.long q0), .second, .val (.int p0), .val (.int p1), .val (.int p2), .val (.int ww), .val (.int aa), .val (.int fl), .val (.ref b1), .val (.int (aa + ww)), .val (.long r8), .second, .val (.long (q0 &&& (((1 : Int64) <<< (((8 : Int32) * ww) &&& 0x3f).toInt64) - (1 : Int64)))), .second] [(.int (5 : Int32)), (.ref b1)])) _
      refine XS.iload X52.here hx rfl (hb hby at_353) rfl ?_
      show Steps p.tables e below (T52.setTop (mkF m 355 #[.val (.long q0), .second, .val (.int p0), .val (.int p1), .val (.int p2), .val (.int ww), .val (.int aa), .val (.int fl), .val (.ref b1), .val (.int (aa + ww)), .val (.long r8), .second, .val (.long (q0 &&& (((1 : Int64) <<< (((8 : Int32) * ww) &&& 0x3f).toInt64) - (1 : Int64)))), .second] [(.int aa), (.int (5 : Int32)), (.ref b1)])) _
      refine XS.iload X52.here hx rfl (hb hby at_355) rfl ?_
      show Steps p.tables e below (T52.setTop (mkF m 357 #[.val (.long q0), .second, .val (.int p0), .val (.int p1), .val (.int p2), .val (.int ww), .val (.int aa), .val (.int fl), .val (.ref b1), .val (.int (aa + ww)), .val (.long r8), .second, .val (.long (q0 &&& (((1 : Int64) <<< (((8 : Int32) * ww) &&& 0x3f).toInt64) - (1 : Int64)))), .second] [(.int ww), (.int aa), (.int (5 : Int32)), (.ref b1)])) _
      refine XS.iload X52.here hx rfl (hb hby at_357) rfl ?_
      show Steps p.tables e below (T52.setTop (mkF m 359 #[.val (.long q0), .second, .val (.int p0), .val (.int p1), .val (.int p2), .val (.int ww), .val (.int aa), .val (.int fl), .val (.ref b1), .val (.int (aa + ww)), .val (.long r8), .second, .val (.long (q0 &&& (((1 : Int64) <<< (((8 : Int32) * ww) &&& 0x3f).toInt64) - (1 : Int64)))), .second] [(.int fl), (.int ww), (.int aa), (.int (5 : Int32)), (.ref b1)])) _
      refine st53 _ ?_
      show Steps p.tables e below (T53.setTop (mkF m 362 #[.val (.long q0), .second, .val (.int p0), .val (.int p1), .val (.int p2), .val (.int ww), .val (.int aa), .val (.int fl), .val (.ref b1), .val (.int (aa + ww)), .val (.long r8), .second, .val (.long (q0 &&& (((1 : Int64) <<< (((8 : Int32) * ww) &&& 0x3f).toInt64) - (1 : Int64)))), .second] [(.int (own_unt tb (5 : Int32) aa ww fl))])) _
      refine XS.ifNo X53.here hx rfl (hb hby at_362) rfl ((if0 _ _).trans (feq (own_untv h_tb hat hwb ⟨by decide, by decide⟩)).1) ?_
      show Steps p.tables e below (T53.setTop (mkF m 365 #[.val (.long q0), .second, .val (.int p0), .val (.int p1), .val (.int p2), .val (.int ww), .val (.int aa), .val (.int fl), .val (.ref b1), .val (.int (aa + ww)), .val (.long r8), .second, .val (.long (q0 &&& (((1 : Int64) <<< (((8 : Int32) * ww) &&& 0x3f).toInt64) - (1 : Int64)))), .second] [])) _
      refine XS.aload X53.here hx rfl (hb hby at_365) rfl rfl ?_
      show Steps p.tables e below (T53.setTop (mkF m 367 #[.val (.long q0), .second, .val (.int p0), .val (.int p1), .val (.int p2), .val (.int ww), .val (.int aa), .val (.int fl), .val (.ref b1), .val (.int (aa + ww)), .val (.long r8), .second, .val (.long (q0 &&& (((1 : Int64) <<< (((8 : Int32) * ww) &&& 0x3f).toInt64) - (1 : Int64)))), .second] [(.ref b1)])) _
      refine XS.bipush X53.here hx rfl (hb hby at_367) ?_
      show Steps p.tables e below (T53.setTop (mkF m 369 #[.val (.long q0), .second, .val (.int p0), .val (.int p1), .val (.int p2), .val (.int ww), .val (.int aa), .val (.int fl), .val (.ref b1), .val (.int (aa + ww)), .val (.long r8), .second, .val (.long (q0 &&& (((1 : Int64) <<< (((8 : Int32) * ww) &&& 0x3f).toInt64) - (1 : Int64)))), .second] [(.int (6 : Int32)), (.ref b1)])) _
      refine XS.iload X53.here hx rfl (hb hby at_369) rfl ?_
      show Steps p.tables e below (T53.setTop (mkF m 371 #[.val (.long q0), .second, .val (.int p0), .val (.int p1), .val (.int p2), .val (.int ww), .val (.int aa), .val (.int fl), .val (.ref b1), .val (.int (aa + ww)), .val (.long r8), .second, .val (.long (q0 &&& (((1 : Int64) <<< (((8 : Int32) * ww) &&& 0x3f).toInt64) - (1 : Int64)))), .second] [(.int aa), (.int (6 : Int32)), (.ref b1)])) _
      refine XS.iload X53.here hx rfl (hb hby at_371) rfl ?_
      show Steps p.tables e below (T53.setTop (mkF m 373 #[.val (.long q0), .second, .val (.int p0), .val (.int p1), .val (.int p2), .val (.int ww), .val (.int aa), .val (.int fl), .val (.ref b1), .val (.int (aa + ww)), .val (.long r8), .second, .val (.long (q0 &&& (((1 : Int64) <<< (((8 : Int32) * ww) &&& 0x3f).toInt64) - (1 : Int64)))), .second] [(.int ww), (.int aa), (.int (6 : Int32)), (.ref b1)])) _
      refine XS.iload X53.here hx rfl (hb hby at_373) rfl ?_
      show Steps p.tables e below (T53.setTop (mkF m 375 #[.val (.long q0), .second, .val (.int p0), .val (.int p1), .val (.int p2), .val (.int ww), .val (.int aa), .val (.int fl), .val (.ref b1), .val (.int (aa + ww)), .val (.long r8), .second, .val (.long (q0 &&& (((1 : Int64) <<< (((8 : Int32) * ww) &&& 0x3f).toInt64) - (1 : Int64)))), .second] [(.int fl), (.int ww), (.int aa), (.int (6 : Int32)), (.ref b1)])) _
      refine st54 _ ?_
      show Steps p.tables e below (T54.setTop (mkF m 378 #[.val (.long q0), .second, .val (.int p0), .val (.int p1), .val (.int p2), .val (.int ww), .val (.int aa), .val (.int fl), .val (.ref b1), .val (.int (aa + ww)), .val (.long r8), .second, .val (.long (q0 &&& (((1 : Int64) <<< (((8 : Int32) * ww) &&& 0x3f).toInt64) - (1 : Int64)))), .second] [(.int (own_unt tb (6 : Int32) aa ww fl))])) _
      refine XS.ifNo X54.here hx rfl (hb hby at_378) rfl ((if0 _ _).trans (feq (own_untv h_tb hat hwb ⟨by decide, by decide⟩)).1) ?_
      show Steps p.tables e below (T54.setTop (mkF m 381 #[.val (.long q0), .second, .val (.int p0), .val (.int p1), .val (.int p2), .val (.int ww), .val (.int aa), .val (.int fl), .val (.ref b1), .val (.int (aa + ww)), .val (.long r8), .second, .val (.long (q0 &&& (((1 : Int64) <<< (((8 : Int32) * ww) &&& 0x3f).toInt64) - (1 : Int64)))), .second] [])) _
      refine XS.aload X54.here hx rfl (hb hby at_381) rfl rfl ?_
      show Steps p.tables e below (T54.setTop (mkF m 383 #[.val (.long q0), .second, .val (.int p0), .val (.int p1), .val (.int p2), .val (.int ww), .val (.int aa), .val (.int fl), .val (.ref b1), .val (.int (aa + ww)), .val (.long r8), .second, .val (.long (q0 &&& (((1 : Int64) <<< (((8 : Int32) * ww) &&& 0x3f).toInt64) - (1 : Int64)))), .second] [(.ref b1)])) _
      refine XS.bipush X54.here hx rfl (hb hby at_383) ?_
      show Steps p.tables e below (T54.setTop (mkF m 385 #[.val (.long q0), .second, .val (.int p0), .val (.int p1), .val (.int p2), .val (.int ww), .val (.int aa), .val (.int fl), .val (.ref b1), .val (.int (aa + ww)), .val (.long r8), .second, .val (.long (q0 &&& (((1 : Int64) <<< (((8 : Int32) * ww) &&& 0x3f).toInt64) - (1 : Int64)))), .second] [(.int (7 : Int32)), (.ref b1)])) _
      refine XS.iload X54.here hx rfl (hb hby at_385) rfl ?_
      show Steps p.tables e below (T54.setTop (mkF m 387 #[.val (.long q0), .second, .val (.int p0), .val (.int p1), .val (.int p2), .val (.int ww), .val (.int aa), .val (.int fl), .val (.ref b1), .val (.int (aa + ww)), .val (.long r8), .second, .val (.long (q0 &&& (((1 : Int64) <<< (((8 : Int32) * ww) &&& 0x3f).toInt64) - (1 : Int64)))), .second] [(.int aa), (.int (7 : Int32)), (.ref b1)])) _
      refine XS.iload X54.here hx rfl (hb hby at_387) rfl ?_
      show Steps p.tables e below (T54.setTop (mkF m 389 #[.val (.long q0), .second, .val (.int p0), .val (.int p1), .val (.int p2), .val (.int ww), .val (.int aa), .val (.int fl), .val (.ref b1), .val (.int (aa + ww)), .val (.long r8), .second, .val (.long (q0 &&& (((1 : Int64) <<< (((8 : Int32) * ww) &&& 0x3f).toInt64) - (1 : Int64)))), .second] [(.int ww), (.int aa), (.int (7 : Int32)), (.ref b1)])) _
      refine XS.iload X54.here hx rfl (hb hby at_389) rfl ?_
      show Steps p.tables e below (T54.setTop (mkF m 391 #[.val (.long q0), .second, .val (.int p0), .val (.int p1), .val (.int p2), .val (.int ww), .val (.int aa), .val (.int fl), .val (.ref b1), .val (.int (aa + ww)), .val (.long r8), .second, .val (.long (q0 &&& (((1 : Int64) <<< (((8 : Int32) * ww) &&& 0x3f).toInt64) - (1 : Int64)))), .second] [(.int fl), (.int ww), (.int aa), (.int (7 : Int32)), (.ref b1)])) _
      refine st55 _ ?_
      show Steps p.tables e below (T55.setTop (mkF m 394 #[.val (.long q0), .second, .val (.int p0), .val (.int p1), .val (.int p2), .val (.int ww), .val (.int aa), .val (.int fl), .val (.ref b1), .val (.int (aa + ww)), .val (.long r8), .second, .val (.long (q0 &&& (((1 : Int64) <<< (((8 : Int32) * ww) &&& 0x3f).toInt64) - (1 : Int64)))), .second] [(.int (own_unt tb (7 : Int32) aa ww fl))])) _
      refine XS.ifNo X55.here hx rfl (hb hby at_394) rfl ((if0 _ _).trans (feq (own_untv h_tb hat hwb ⟨by decide, by decide⟩)).1) ?_
      show Steps p.tables e below (T55.setTop (mkF m 397 #[.val (.long q0), .second, .val (.int p0), .val (.int p1), .val (.int p2), .val (.int ww), .val (.int aa), .val (.int fl), .val (.ref b1), .val (.int (aa + ww)), .val (.long r8), .second, .val (.long (q0 &&& (((1 : Int64) <<< (((8 : Int32) * ww) &&& 0x3f).toInt64) - (1 : Int64)))), .second] [])) _
      refine XS.aload X55.here hx rfl (hb hby at_397) rfl rfl ?_
      show Steps p.tables e below (T55.setTop (mkF m 399 #[.val (.long q0), .second, .val (.int p0), .val (.int p1), .val (.int p2), .val (.int ww), .val (.int aa), .val (.int fl), .val (.ref b1), .val (.int (aa + ww)), .val (.long r8), .second, .val (.long (q0 &&& (((1 : Int64) <<< (((8 : Int32) * ww) &&& 0x3f).toInt64) - (1 : Int64)))), .second] [(.ref b1)])) _
      refine XS.bipush X55.here hx rfl (hb hby at_399) ?_
      show Steps p.tables e below (T55.setTop (mkF m 401 #[.val (.long q0), .second, .val (.int p0), .val (.int p1), .val (.int p2), .val (.int ww), .val (.int aa), .val (.int fl), .val (.ref b1), .val (.int (aa + ww)), .val (.long r8), .second, .val (.long (q0 &&& (((1 : Int64) <<< (((8 : Int32) * ww) &&& 0x3f).toInt64) - (1 : Int64)))), .second] [(.int (8 : Int32)), (.ref b1)])) _
      refine XS.iload X55.here hx rfl (hb hby at_401) rfl ?_
      show Steps p.tables e below (T55.setTop (mkF m 403 #[.val (.long q0), .second, .val (.int p0), .val (.int p1), .val (.int p2), .val (.int ww), .val (.int aa), .val (.int fl), .val (.ref b1), .val (.int (aa + ww)), .val (.long r8), .second, .val (.long (q0 &&& (((1 : Int64) <<< (((8 : Int32) * ww) &&& 0x3f).toInt64) - (1 : Int64)))), .second] [(.int aa), (.int (8 : Int32)), (.ref b1)])) _
      refine XS.iload X55.here hx rfl (hb hby at_403) rfl ?_
      show Steps p.tables e below (T55.setTop (mkF m 405 #[.val (.long q0), .second, .val (.int p0), .val (.int p1), .val (.int p2), .val (.int ww), .val (.int aa), .val (.int fl), .val (.ref b1), .val (.int (aa + ww)), .val (.long r8), .second, .val (.long (q0 &&& (((1 : Int64) <<< (((8 : Int32) * ww) &&& 0x3f).toInt64) - (1 : Int64)))), .second] [(.int ww), (.int aa), (.int (8 : Int32)), (.ref b1)])) _
      refine XS.iload X55.here hx rfl (hb hby at_405) rfl ?_
      show Steps p.tables e below (T55.setTop (mkF m 407 #[.val (.long q0), .second, .val (.int p0), .val (.int p1), .val (.int p2), .val (.int ww), .val (.int aa), .val (.int fl), .val (.ref b1), .val (.int (aa + ww)), .val (.long r8), .second, .val (.long (q0 &&& (((1 : Int64) <<< (((8 : Int32) * ww) &&& 0x3f).toInt64) - (1 : Int64)))), .second] [(.int fl), (.int ww), (.int aa), (.int (8 : Int32)), (.ref b1)])) _
      refine st56 _ ?_
      show Steps p.tables e below (T56.setTop (mkF m 410 #[.val (.long q0), .second, .val (.int p0), .val (.int p1), .val (.int p2), .val (.int ww), .val (.int aa), .val (.int fl), .val (.ref b1), .val (.int (aa + ww)), .val (.long r8), .second, .val (.long (q0 &&& (((1 : Int64) <<< (((8 : Int32) * ww) &&& 0x3f).toInt64) - (1 : Int64)))), .second] [(.int (own_unt tb (8 : Int32) aa ww fl))])) _
      refine XS.ifNo X56.here hx rfl (hb hby at_410) rfl ((if0 _ _).trans (feq (own_untv h_tb hat hwb ⟨by decide, by decide⟩)).1) ?_
      show Steps p.tables e below (T56.setTop (mkF m 413 #[.val (.long q0), .second, .val (.int p0), .val (.int p1), .val (.int p2), .val (.int ww), .val (.int aa), .val (.int fl), .val (.ref b1), .val (.int (aa + ww)), .val (.long r8), .second, .val (.long (q0 &&& (((1 : Int64) <<< (((8 : Int32) * ww) &&& 0x3f).toInt64) - (1 : Int64)))), .second] [])) _
      refine XS.aload X56.here hx rfl (hb hby at_413) rfl rfl ?_
      show Steps p.tables e below (T56.setTop (mkF m 415 #[.val (.long q0), .second, .val (.int p0), .val (.int p1), .val (.int p2), .val (.int ww), .val (.int aa), .val (.int fl), .val (.ref b1), .val (.int (aa + ww)), .val (.long r8), .second, .val (.long (q0 &&& (((1 : Int64) <<< (((8 : Int32) * ww) &&& 0x3f).toInt64) - (1 : Int64)))), .second] [(.ref b1)])) _
      refine XS.bipush X56.here hx rfl (hb hby at_415) ?_
      show Steps p.tables e below (T56.setTop (mkF m 417 #[.val (.long q0), .second, .val (.int p0), .val (.int p1), .val (.int p2), .val (.int ww), .val (.int aa), .val (.int fl), .val (.ref b1), .val (.int (aa + ww)), .val (.long r8), .second, .val (.long (q0 &&& (((1 : Int64) <<< (((8 : Int32) * ww) &&& 0x3f).toInt64) - (1 : Int64)))), .second] [(.int (9 : Int32)), (.ref b1)])) _
      refine XS.iload X56.here hx rfl (hb hby at_417) rfl ?_
      show Steps p.tables e below (T56.setTop (mkF m 419 #[.val (.long q0), .second, .val (.int p0), .val (.int p1), .val (.int p2), .val (.int ww), .val (.int aa), .val (.int fl), .val (.ref b1), .val (.int (aa + ww)), .val (.long r8), .second, .val (.long (q0 &&& (((1 : Int64) <<< (((8 : Int32) * ww) &&& 0x3f).toInt64) - (1 : Int64)))), .second] [(.int aa), (.int (9 : Int32)), (.ref b1)])) _
      refine XS.iload X56.here hx rfl (hb hby at_419) rfl ?_
      show Steps p.tables e below (T56.setTop (mkF m 421 #[.val (.long q0), .second, .val (.int p0), .val (.int p1), .val (.int p2), .val (.int ww), .val (.int aa), .val (.int fl), .val (.ref b1), .val (.int (aa + ww)), .val (.long r8), .second, .val (.long (q0 &&& (((1 : Int64) <<< (((8 : Int32) * ww) &&& 0x3f).toInt64) - (1 : Int64)))), .second] [(.int ww), (.int aa), (.int (9 : Int32)), (.ref b1)])) _
      refine XS.iload X56.here hx rfl (hb hby at_421) rfl ?_
      show Steps p.tables e below (T56.setTop (mkF m 423 #[.val (.long q0), .second, .val (.int p0), .val (.int p1), .val (.int p2), .val (.int ww), .val (.int aa), .val (.int fl), .val (.ref b1), .val (.int (aa + ww)), .val (.long r8), .second, .val (.long (q0 &&& (((1 : Int64) <<< (((8 : Int32) * ww) &&& 0x3f).toInt64) - (1 : Int64)))), .second] [(.int fl), (.int ww), (.int aa), (.int (9 : Int32)), (.ref b1)])) _
      refine st57 _ ?_
      show Steps p.tables e below (T57.setTop (mkF m 426 #[.val (.long q0), .second, .val (.int p0), .val (.int p1), .val (.int p2), .val (.int ww), .val (.int aa), .val (.int fl), .val (.ref b1), .val (.int (aa + ww)), .val (.long r8), .second, .val (.long (q0 &&& (((1 : Int64) <<< (((8 : Int32) * ww) &&& 0x3f).toInt64) - (1 : Int64)))), .second] [(.int (own_unt tb (9 : Int32) aa ww fl))])) _
      refine XS.ifNo X57.here hx rfl (hb hby at_426) rfl ((if0 _ _).trans (feq (own_untv h_tb hat hwb ⟨by decide, by decide⟩)).1) ?_
      show Steps p.tables e below (T57.setTop (mkF m 429 #[.val (.long q0), .second, .val (.int p0), .val (.int p1), .val (.int p2), .val (.int ww), .val (.int aa), .val (.int fl), .val (.ref b1), .val (.int (aa + ww)), .val (.long r8), .second, .val (.long (q0 &&& (((1 : Int64) <<< (((8 : Int32) * ww) &&& 0x3f).toInt64) - (1 : Int64)))), .second] [])) _
      refine XS.aload X57.here hx rfl (hb hby at_429) rfl rfl ?_
      show Steps p.tables e below (T57.setTop (mkF m 431 #[.val (.long q0), .second, .val (.int p0), .val (.int p1), .val (.int p2), .val (.int ww), .val (.int aa), .val (.int fl), .val (.ref b1), .val (.int (aa + ww)), .val (.long r8), .second, .val (.long (q0 &&& (((1 : Int64) <<< (((8 : Int32) * ww) &&& 0x3f).toInt64) - (1 : Int64)))), .second] [(.ref b1)])) _
      refine XS.bipush X57.here hx rfl (hb hby at_431) ?_
      show Steps p.tables e below (T57.setTop (mkF m 433 #[.val (.long q0), .second, .val (.int p0), .val (.int p1), .val (.int p2), .val (.int ww), .val (.int aa), .val (.int fl), .val (.ref b1), .val (.int (aa + ww)), .val (.long r8), .second, .val (.long (q0 &&& (((1 : Int64) <<< (((8 : Int32) * ww) &&& 0x3f).toInt64) - (1 : Int64)))), .second] [(.int (10 : Int32)), (.ref b1)])) _
      refine XS.iload X57.here hx rfl (hb hby at_433) rfl ?_
      show Steps p.tables e below (T57.setTop (mkF m 435 #[.val (.long q0), .second, .val (.int p0), .val (.int p1), .val (.int p2), .val (.int ww), .val (.int aa), .val (.int fl), .val (.ref b1), .val (.int (aa + ww)), .val (.long r8), .second, .val (.long (q0 &&& (((1 : Int64) <<< (((8 : Int32) * ww) &&& 0x3f).toInt64) - (1 : Int64)))), .second] [(.int aa), (.int (10 : Int32)), (.ref b1)])) _
      refine XS.iload X57.here hx rfl (hb hby at_435) rfl ?_
      show Steps p.tables e below (T57.setTop (mkF m 437 #[.val (.long q0), .second, .val (.int p0), .val (.int p1), .val (.int p2), .val (.int ww), .val (.int aa), .val (.int fl), .val (.ref b1), .val (.int (aa + ww)), .val (.long r8), .second, .val (.long (q0 &&& (((1 : Int64) <<< (((8 : Int32) * ww) &&& 0x3f).toInt64) - (1 : Int64)))), .second] [(.int ww), (.int aa), (.int (10 : Int32)), (.ref b1)])) _
      refine XS.iload X57.here hx rfl (hb hby at_437) rfl ?_
      show Steps p.tables e below (T57.setTop (mkF m 439 #[.val (.long q0), .second, .val (.int p0), .val (.int p1), .val (.int p2), .val (.int ww), .val (.int aa), .val (.int fl), .val (.ref b1), .val (.int (aa + ww)), .val (.long r8), .second, .val (.long (q0 &&& (((1 : Int64) <<< (((8 : Int32) * ww) &&& 0x3f).toInt64) - (1 : Int64)))), .second] [(.int fl), (.int ww), (.int aa), (.int (10 : Int32)), (.ref b1)])) _
      refine st58 _ ?_
      show Steps p.tables e below (T58.setTop (mkF m 442 #[.val (.long q0), .second, .val (.int p0), .val (.int p1), .val (.int p2), .val (.int ww), .val (.int aa), .val (.int fl), .val (.ref b1), .val (.int (aa + ww)), .val (.long r8), .second, .val (.long (q0 &&& (((1 : Int64) <<< (((8 : Int32) * ww) &&& 0x3f).toInt64) - (1 : Int64)))), .second] [(.int (own_unt tb (10 : Int32) aa ww fl))])) _
      refine XS.ifNo X58.here hx rfl (hb hby at_442) rfl ((if0 _ _).trans (feq (own_untv h_tb hat hwb ⟨by decide, by decide⟩)).1) ?_
      show Steps p.tables e below (T58.setTop (mkF m 445 #[.val (.long q0), .second, .val (.int p0), .val (.int p1), .val (.int p2), .val (.int ww), .val (.int aa), .val (.int fl), .val (.ref b1), .val (.int (aa + ww)), .val (.long r8), .second, .val (.long (q0 &&& (((1 : Int64) <<< (((8 : Int32) * ww) &&& 0x3f).toInt64) - (1 : Int64)))), .second] [])) _
      refine XS.aload X58.here hx rfl (hb hby at_445) rfl rfl ?_
      show Steps p.tables e below (T58.setTop (mkF m 447 #[.val (.long q0), .second, .val (.int p0), .val (.int p1), .val (.int p2), .val (.int ww), .val (.int aa), .val (.int fl), .val (.ref b1), .val (.int (aa + ww)), .val (.long r8), .second, .val (.long (q0 &&& (((1 : Int64) <<< (((8 : Int32) * ww) &&& 0x3f).toInt64) - (1 : Int64)))), .second] [(.ref b1)])) _
      refine XS.bipush X58.here hx rfl (hb hby at_447) ?_
      show Steps p.tables e below (T58.setTop (mkF m 449 #[.val (.long q0), .second, .val (.int p0), .val (.int p1), .val (.int p2), .val (.int ww), .val (.int aa), .val (.int fl), .val (.ref b1), .val (.int (aa + ww)), .val (.long r8), .second, .val (.long (q0 &&& (((1 : Int64) <<< (((8 : Int32) * ww) &&& 0x3f).toInt64) - (1 : Int64)))), .second] [(.int (11 : Int32)), (.ref b1)])) _
      refine XS.iload X58.here hx rfl (hb hby at_449) rfl ?_
      show Steps p.tables e below (T58.setTop (mkF m 451 #[.val (.long q0), .second, .val (.int p0), .val (.int p1), .val (.int p2), .val (.int ww), .val (.int aa), .val (.int fl), .val (.ref b1), .val (.int (aa + ww)), .val (.long r8), .second, .val (.long (q0 &&& (((1 : Int64) <<< (((8 : Int32) * ww) &&& 0x3f).toInt64) - (1 : Int64)))), .second] [(.int aa), (.int (11 : Int32)), (.ref b1)])) _
      refine XS.iload X58.here hx rfl (hb hby at_451) rfl ?_
      show Steps p.tables e below (T58.setTop (mkF m 453 #[.val (.long q0), .second, .val (.int p0), .val (.int p1), .val (.int p2), .val (.int ww), .val (.int aa), .val (.int fl), .val (.ref b1), .val (.int (aa + ww)), .val (.long r8), .second, .val (.long (q0 &&& (((1 : Int64) <<< (((8 : Int32) * ww) &&& 0x3f).toInt64) - (1 : Int64)))), .second] [(.int ww), (.int aa), (.int (11 : Int32)), (.ref b1)])) _
      refine XS.iload X58.here hx rfl (hb hby at_453) rfl ?_
      show Steps p.tables e below (T58.setTop (mkF m 455 #[.val (.long q0), .second, .val (.int p0), .val (.int p1), .val (.int p2), .val (.int ww), .val (.int aa), .val (.int fl), .val (.ref b1), .val (.int (aa + ww)), .val (.long r8), .second, .val (.long (q0 &&& (((1 : Int64) <<< (((8 : Int32) * ww) &&& 0x3f).toInt64) - (1 : Int64)))), .second] [(.int fl), (.int ww), (.int aa), (.int (11 : Int32)), (.ref b1)])) _
      refine st59 _ ?_
      show Steps p.tables e below (T59.setTop (mkF m 458 #[.val (.long q0), .second, .val (.int p0), .val (.int p1), .val (.int p2), .val (.int ww), .val (.int aa), .val (.int fl), .val (.ref b1), .val (.int (aa + ww)), .val (.long r8), .second, .val (.long (q0 &&& (((1 : Int64) <<< (((8 : Int32) * ww) &&& 0x3f).toInt64) - (1 : Int64)))), .second] [(.int (own_unt tb (11 : Int32) aa ww fl))])) _
      refine XS.ifNo X59.here hx rfl (hb hby at_458) rfl ((if0 _ _).trans (feq (own_untv h_tb hat hwb ⟨by decide, by decide⟩)).1) ?_
      show Steps p.tables e below (T59.setTop (mkF m 461 #[.val (.long q0), .second, .val (.int p0), .val (.int p1), .val (.int p2), .val (.int ww), .val (.int aa), .val (.int fl), .val (.ref b1), .val (.int (aa + ww)), .val (.long r8), .second, .val (.long (q0 &&& (((1 : Int64) <<< (((8 : Int32) * ww) &&& 0x3f).toInt64) - (1 : Int64)))), .second] [])) _
      refine XS.iconst X59.here hx rfl (hb hby at_461) ?_
      show Steps p.tables e below (T59.setTop (mkF m 462 #[.val (.long q0), .second, .val (.int p0), .val (.int p1), .val (.int p2), .val (.int ww), .val (.int aa), .val (.int fl), .val (.ref b1), .val (.int (aa + ww)), .val (.long r8), .second, .val (.long (q0 &&& (((1 : Int64) <<< (((8 : Int32) * ww) &&& 0x3f).toInt64) - (1 : Int64)))), .second] [(.int (1 : Int32))])) _
      refine XS.goto X59.here hx rfl (pc0 := 462) (pc' := 466) rfl (hb hby at_462) (by decide) (by decide) ?_
      show Steps p.tables e below (T59.setTop (mkF m 466 #[.val (.long q0), .second, .val (.int p0), .val (.int p1), .val (.int p2), .val (.int ww), .val (.int aa), .val (.int fl), .val (.ref b1), .val (.int (aa + ww)), .val (.long r8), .second, .val (.long (q0 &&& (((1 : Int64) <<< (((8 : Int32) * ww) &&& 0x3f).toInt64) - (1 : Int64)))), .second] [(.int (1 : Int32))])) _
      exact retN X59 hx (t := .boolean) Bd.returns (by simp) (hb hby at_466) hr
    · show Q_rm_law Z q0 p0 p1 p2 h0 n0 _ T59.heap _
      rw [e59]
      exact ⟨rfl, N59, trivial⟩
set_option maxRecDepth 65536 in
set_option maxHeartbeats 40000000 in
theorem comes_1 {Post : Tables → Env → Array Value → State → Outcome → State → Prop} (hpost : ∀ tb e args s v u, (limb_1_1.after args s (.returned v) u = true ∧ limb_1_2.after args s (.returned v) u = true ∧ True) → FrameEnd s (.returned v) u (Jvm.fieldLocs frame_1_writes args s ++ Jvm.arrayLocs frame_1_arrays args s ++ Jvm.staticLocs frame_1_statics s) 16 128 → Post tb e args s (.returned v) u) :
    ArmFor flags0 classFile x code maxLocals ret World_1 tables_1 room_1 Calls_1 rest_1 Pre_1 Post := by
  intro l hfl _ _ p e ha hc hk s m args below hf hA hF happ hP
  obtain ⟨hcalls, hrest, hpre⟩ := hP
  obtain ⟨-, -, -, hnamed, -, -, -, hat⟩ := (Spec.applies_iff hf).mp happ
  obtain ⟨hg, hn⟩ := and_e (Cond.before_iff.mp (show (Jvm.Cond.and given_1 narrow_1).before args s = true from hpre))
  obtain ⟨hcnt, hgv0⟩ := and_e hg
  obtain ⟨hg0, hgv1⟩ := and_e hgv0
  obtain ⟨hg1, hgv2⟩ := and_e hgv1
  obtain ⟨hg2, hgv3⟩ := and_e hgv2
  have hg3 := hgv3
  obtain ⟨w0, w1, w2, w3, rfl⟩ : ∃ w0 w1 w2 w3 : Value, args = #[w0, w1, w2, w3] := by
    have hs : args.size = 4 := by simpa [Cond.value, given_1] using hcnt
    obtain ⟨L⟩ := args
    match L, hs with
    | [w0, w1, w2, w3], _ => exact ⟨w0, w1, w2, w3, rfl⟩
  have hw := fun d (hd : d ∈ tables_1) => atoms_spec (ws := Jvm.Cond.code x code maxLocals ret :: tables_1) hat d (List.mem_cons_of_mem _ hd)
  have hfit : Fit s := fun {y c} hc i hi => by
    obtain ⟨ha, rfl⟩ := Array.getElem?_eq_some_iff.mp hc
    have q := List.all_eq_true.mp ((Array.all_eq_true_iff_forall_mem.mp hF) _ (Array.getElem_mem ha)) i (List.mem_range.mpr hi)
    simpa [Array.getElem?_eq_getElem hi] using q
  obtain ⟨i0, ei0⟩ := isL_v hg0
  obtain rfl : w0 = (.long i0) := Option.some.inj ei0
  obtain ⟨i1, ei1⟩ := is_v hg1
  obtain rfl : w1 = (.int i1) := Option.some.inj ei1
  obtain ⟨i2, ei2⟩ := is_v hg2
  obtain rfl : w2 = (.int i2) := Option.some.inj ei2
  obtain ⟨i3, ei3⟩ := is_v hg3
  obtain rfl : w3 = (.int i3) := Option.some.inj ei3
  obtain ⟨n, o, h1, h2, h3, _, L, rfl, hQL, hq⟩ := rm_law l s _ hw tables_1 i0 i1 i2 i3  s.heap s.heap.size (Nat.le_refl _)  p e ha hc hk s m _ below hf ((Spec.applies_iff_loose hf).mp happ).1 ⟨rfl, State.Warmed39.refl s, rfl⟩ trivial
  obtain ⟨rfl, N, -⟩ := hQL
  refine ⟨n, _, h1, h2, h3, hpost _ _ _ _ _ _ ⟨Cond.after_iff.mpr rfl, Cond.after_iff.mpr (eq_i res_at (Term.int_eval (1)) rfl), trivial⟩ ⟨hq.1, hq.2.1, (hq.2.2.sift fun y hy => Or.inr (N y hy)).mono (by decide) (by decide)⟩⟩
theorem main_1_1 : Claimed_1_1 := comes_1 fun _ _ _ _ _ _ h hF => ⟨h.1, hF⟩
theorem main_1_2 : Claimed_1_2 := comes_1 fun _ _ _ _ _ _ h hF => ⟨h.2.1, hF⟩
end Jvm.Pilot.@@N@@
namespace Jvm.Pilot.@@N@@
open Jvm Jvm.ClassFile Sem Op Lib Jvm.Free Jvm.Stand Jvm.Pilot.@@N@@.Jvm.D
/-! MADE BY PROGRAM (witnessworld.py) out of the Statement's table words and the real class files: 9 classes; the members and pool entries that the words name. The judged class is class 1, her method 1. -/
namespace start1
open Jvm.ClassFile
def u (s : String) : CpInfo := .utf8 (stringToUtf16 s)
/-- a pool by its gaps: so many unusable entries, then the entry; so many at the end -/
def gap : Nat → List CpInfo → List CpInfo
  | 0, r => r
  | n + 1, r => .unusable :: gap n r
def poolList (es : List (Nat × CpInfo)) (last : Nat) : List CpInfo := es.foldr (fun e r => gap e.1 (e.2 :: r)) (gap last [])
def pool (es : List (Nat × CpInfo)) (last : Nat) : Array CpInfo := ⟨poolList es last⟩
def fileOf (pool : Array CpInfo) (this : Nat) (attrs : Array Attribute := #[]) (ms : Array MethodInfo := #[]) (fl : Nat := 33) (sup : Nat := 0) (ifs : Array Nat := #[]) (fds : Array FieldInfo := #[]) : ClassFile where
  minorVersion := 0
  majorVersion := 65
  constantPool := pool
  accessFlags := fl
  thisClass := this
  superClass := sup
  interfaces := ifs
  fields := fds
  methods := ms
  attributes := attrs
def plain (name : String) (sup : Option ClassId) : Class where
  name := name
  kind := .ordinary
  loader := none
  accessFlags := 33
  super := sup
  interfaces := #[]
  cf := none
  fields := #[]
  methods := #[]
  instanceTypes := #[]
  staticTypes := #[]
  resolved := #[]
  callSites := []
  init := .initialized
  statics := none
  mirror := none

def pool0 : Array CpInfo := pool [(5, u "<init>"), (0, u "()V"), (1, .class_ 10), (1, u "java/lang/Object")] 113

def k0m0 : Method := { name := "<init>", desc := "()V", sig := { parameters := [], returnType := none }, accessFlags := 1, code := none }
/-- java/lang/Object -/
def k0 : Class := { plain "java/lang/Object" none with
  accessFlags := 33
  interfaces := #[]
  cf := some (fileOf pool0 8 #[] #[{ accessFlags := 1, nameIndex := 5, descriptorIndex := 6, attributes := #[] }] 33 0 #[] #[])
  fields := #[]
  methods := #[k0m0]
  instanceTypes := #[]
  staticTypes := #[]
  resolved := Array.replicate 124 none
  statics := none }

def pool1 : Array CpInfo := pool [(2, .class_ 4), (1, u "java/lang/Object"), (0, u "<init>"), (0, u "()V"), (0, .integer 2147483647), (0, .methodref 9 10), (0, .class_ 11), (0, .nameAndType 12 13), (0, u "com/example/fyfo/fyfo/BigEndian"), (0, u "put"), (0, u "([BIJI)I"), (0, .methodref 15 16), (0, .class_ 17), (0, .nameAndType 18 19), (0, u "com/example/fyfo/fyfo/BigEndianPutPinLaw"), (0, u "acc"), (0, u "(J[BIII)J"), (0, .methodref 15 21), (0, .nameAndType 22 23), (0, u "untouched"), (0, u "([BIIIB)Z"), (2, u "law"), (0, u "(JIII)Z")] 5

def k1m0 : Method := { name := "<init>", desc := "()V", sig := { parameters := [], returnType := none }, accessFlags := 2, code := none }
def k1c1 : Code := { maxStack := 6, maxLocals := 14, code := code, exceptionTable := #[], attributes := #[] }
def k1m1 : Method := { name := "law", desc := "(JIII)Z", sig := { parameters := [.long, .int, .int, .int], returnType := some .boolean }, accessFlags := 9, code := some k1c1 }
def k1c2 : Code := { maxStack := 5, maxLocals := 6, code := method_3_code, exceptionTable := #[], attributes := #[] }
def k1m2 : Method := { name := "acc", desc := "(J[BIII)J", sig := { parameters := [.long, (.array .byte), .int, .int, .int], returnType := some .long }, accessFlags := 10, code := some k1c2 }
def k1c3 : Code := { maxStack := 3, maxLocals := 5, code := method_4_code, exceptionTable := #[], attributes := #[] }
def k1m3 : Method := { name := "untouched", desc := "([BIIIB)Z", sig := { parameters := [(.array .byte), .int, .int, .int, .byte], returnType := some .boolean }, accessFlags := 10, code := some k1c3 }
/-- com/example/fyfo/fyfo/BigEndianPutPinLaw -/
def k1 : Class := { plain "com/example/fyfo/fyfo/BigEndianPutPinLaw" (some 0) with
  accessFlags := 49
  interfaces := #[]
  cf := some (fileOf pool1 15 #[] #[{ accessFlags := 2, nameIndex := 5, descriptorIndex := 6, attributes := #[] }, { accessFlags := 9, nameIndex := 26, descriptorIndex := 27, attributes := #[] }, { accessFlags := 10, nameIndex := 18, descriptorIndex := 19, attributes := #[] }, { accessFlags := 10, nameIndex := 22, descriptorIndex := 23, attributes := #[] }] 49 2 #[] #[])
  fields := #[]
  methods := #[k1m0, k1m1, k1m2, k1m3]
  instanceTypes := #[]
  staticTypes := #[]
  resolved := Array.replicate 33 none
  statics := none }

def pool2 : Array CpInfo := pool [(2, .class_ 4), (1, u "java/lang/Object"), (0, u "<init>"), (0, u "()V"), (2, .class_ 10), (0, u "com/example/fyfo/fyfo/BigEndian"), (2, u "put"), (0, u "([BIJI)I")] 3

def k2m0 : Method := { name := "<init>", desc := "()V", sig := { parameters := [], returnType := none }, accessFlags := 2, code := none }
def k2c1 : Code := { maxStack := 7, maxLocals := 6, code := prog_1_method_2_code, exceptionTable := #[], attributes := #[] }
def k2m1 : Method := { name := "put", desc := "([BIJI)I", sig := { parameters := [(.array .byte), .int, .long, .int], returnType := some .int }, accessFlags := 8, code := some k2c1 }
/-- com/example/fyfo/fyfo/BigEndian -/
def k2 : Class := { plain "com/example/fyfo/fyfo/BigEndian" (some 0) with
  accessFlags := 48
  interfaces := #[]
  cf := some (fileOf pool2 9 #[] #[{ accessFlags := 2, nameIndex := 5, descriptorIndex := 6, attributes := #[] }, { accessFlags := 8, nameIndex := 13, descriptorIndex := 14, attributes := #[] }] 48 2 #[] #[])
  fields := #[]
  methods := #[k2m0, k2m1]
  instanceTypes := #[]
  staticTypes := #[]
  resolved := Array.replicate 18 none
  statics := none }

def pool3 : Array CpInfo := pool [(1, u "java/lang/Cloneable"), (0, .class_ 1), (0, u "java/lang/Object"), (0, .class_ 3)] 3

/-- java/lang/Cloneable -/
def k3 : Class := { plain "java/lang/Cloneable" (some 0) with
  accessFlags := 1537
  interfaces := #[]
  cf := some (fileOf pool3 2 #[] #[] 1537 4 #[] #[])
  fields := #[]
  methods := #[]
  instanceTypes := #[]
  staticTypes := #[]
  resolved := Array.replicate 8 none
  statics := none }

def pool4 : Array CpInfo := pool [(1, u "java/io/Serializable"), (0, .class_ 1), (0, u "java/lang/Object"), (0, .class_ 3)] 3

/-- java/io/Serializable -/
def k4 : Class := { plain "java/io/Serializable" (some 0) with
  accessFlags := 1537
  interfaces := #[]
  cf := some (fileOf pool4 2 #[] #[] 1537 4 #[] #[])
  fields := #[]
  methods := #[]
  instanceTypes := #[]
  staticTypes := #[]
  resolved := Array.replicate 8 none
  statics := none }

/-- the primitive byte -/
def k5 : Class := { plain "byte" none with kind := .primitive 'B', accessFlags := 0x411 }
/-- [B -/
def k6 : Class := { plain "[B" (some 0) with kind := .array 5 .byte, interfaces := #[3, 4], accessFlags := 1041 }

/-- the primitive int -/
def k7 : Class := { plain "int" none with kind := .primitive 'I', accessFlags := 0x411 }
/-- [I -/
def k8 : Class := { plain "[I" (some 0) with kind := .array 7 .int, interfaces := #[3, 4], accessFlags := 1041 }

def heap : Heap := #[]
def classes : Array Class := #[k0, k1, k2, k3, k4, k5, k6, k7, k8]
def interned : List (Array UInt16 × Addr) := []
def slotsUsed : Nat := 0
def theMethod : MethodId := ⟨1, 1⟩
def args0 : Array Value := #[.long 5, .int 5, .int 5, .int 5]
def aboutOver (below : List Frame) : State where
  vm := { classes := classes, interned := interned.toArray }
  heap := heap
  slotsUsed := slotsUsed
  threads := #[{ frames := .invoking theMethod args0 :: below }]
def below0 : List Frame := [.native { method := ⟨0, 0⟩, args := #[] }]
def about1 : State := aboutOver below0
def p0 : Program := .bare "" "" ""
def e0 : Env := launch0.env 0 0 0
theorem w_frames : about1.frames = Frame.invoking theMethod args0 :: below0 := rfl
set_option maxRecDepth 65536 in
theorem w_args : argsFit about1.vm theMethod args0 = true := by decide +kernel
set_option maxRecDepth 65536 in
theorem w_heap : heapFits about1 = true := by decide +kernel
set_option maxRecDepth 65536 in
theorem w_runnable : about1.curStatus? = some .runnable := by decide +kernel
set_option maxRecDepth 65536 in
theorem w_alone : about1.alone = true := by decide +kernel
set_option maxRecDepth 65536 in
theorem w_named : about1.methodNamed? x = some theMethod := by decide +kernel
set_option maxRecDepth 65536 in
theorem w_hears : about1.hears theMethod below0 = true := by decide +kernel
set_option maxRecDepth 65536 in
theorem w_ripe : about1.ripe theMethod args0 below0 = true := by decide +kernel
theorem w_running : about1.status = .running := rfl
set_option maxRecDepth 65536 in
theorem w_room : about1.hasRoom e0.platform room_1 = true :=
  launch0.hasRoom_least _ room_1 (by decide +kernel) (by decide +kernel) (by decide +kernel) (by decide +kernel) (by decide +kernel) (by decide +kernel)
theorem allAtoms_all (ts : List Jvm.Cond) (a : Array Jvm.Value) (st : Jvm.State) : (allAtoms ts).before a st = ts.all (fun c => c.before a st) := by
  induction ts with
  | nil => rfl
  | cons c t ih =>
    show (Jvm.Cond.and c (allAtoms t)).before a st = _
    rw [Jvm.Cond.before_and, ih, List.all_cons]
def words1 : List Jvm.Cond := Jvm.Cond.code x code maxLocals ret :: tables_1
/-- a 'code' word, met by the world's own term for the bytes: nothing is compared byte by byte -/
theorem code_word {y : MethodName} {bytes : ByteArray} {mx : Nat} {rt : Option FieldType} {a : Array Value} {s : State} {m : MethodId} {meth : Method} {c : Code} (h1 : s.methodNamed? y = some m) (h2 : s.vm.method? m = some meth) (h3 : meth.code = some c) (h4 : c.code = bytes)
    (h5 : (c.maxLocals == mx && c.exceptionTable.isEmpty && decide (c.maxStack ≤ mostOperands) && decide (meth.sig.returnType = rt) && !meth.locks && decide (parseMethodDescriptor y.desc = some meth.sig)) = true) : (Jvm.Cond.code y bytes mx rt).before a s = true := by
  simp only [Bool.and_eq_true, beq_iff_eq, Bool.not_eq_true', decide_eq_true_eq] at h5
  obtain ⟨⟨⟨⟨⟨g1, g2⟩, g3⟩, g4⟩, g5⟩, g6⟩ := h5
  simp [Cond.before, Cond.holds, Cond.value, h1, h2, h3, h4, g1, g2, g3, g4, g5, g6]
def isCode : Jvm.Cond → Bool
  | .code _ _ _ _ => true
  | _ => false
theorem all_split {L : List Jvm.Cond} {P : Jvm.Cond → Bool} (h1 : L.all (fun c => isCode c || P c) = true) (h2 : ∀ c ∈ L.filter isCode, P c = true) : L.all P = true := by
  refine List.all_eq_true.mpr fun c hc => ?_
  have h := List.all_eq_true.mp h1 c hc
  rcases Bool.eq_false_or_eq_true (isCode c) with hi | hi
  · exact h2 c (List.mem_filter.mpr ⟨hc, hi⟩)
  · simpa [hi] using h
set_option maxRecDepth 65536 in
theorem w_c0 : (Jvm.Cond.code x code maxLocals ret).before args0 about1 = true := code_word (m := ⟨1, 1⟩) (meth := k1m1) (c := k1c1) (by decide +kernel) rfl rfl rfl (by decide +kernel)
set_option maxRecDepth 65536 in
theorem w_c1 : (Jvm.Cond.code ({ cls := "com/example/fyfo/fyfo/BigEndian", name := "put", desc := "([BIJI)I" } : Jvm.MethodName) prog_1_method_2_code (6 : Nat) (Option.some Jvm.ClassFile.FieldType.int)).before args0 about1 = true := code_word (m := ⟨2, 1⟩) (meth := k2m1) (c := k2c1) (by decide +kernel) rfl rfl rfl (by decide +kernel)
set_option maxRecDepth 65536 in
theorem w_c2 : (Jvm.Cond.code ({ cls := "com/example/fyfo/fyfo/BigEndianPutPinLaw", name := "acc", desc := "(J[BIII)J" } : Jvm.MethodName) method_3_code (6 : Nat) (Option.some Jvm.ClassFile.FieldType.long)).before args0 about1 = true := code_word (m := ⟨1, 2⟩) (meth := k1m2) (c := k1c2) (by decide +kernel) rfl rfl rfl (by decide +kernel)
set_option maxRecDepth 65536 in
theorem w_c3 : (Jvm.Cond.code ({ cls := "com/example/fyfo/fyfo/BigEndianPutPinLaw", name := "untouched", desc := "([BIIIB)Z" } : Jvm.MethodName) method_4_code (5 : Nat) (Option.some Jvm.ClassFile.FieldType.boolean)).before args0 about1 = true := code_word (m := ⟨1, 3⟩) (meth := k1m3) (c := k1c3) (by decide +kernel) rfl rfl rfl (by decide +kernel)
def codes1 : List Jvm.Cond := [Jvm.Cond.code x code maxLocals ret, Jvm.Cond.code ({ cls := "com/example/fyfo/fyfo/BigEndian", name := "put", desc := "([BIJI)I" } : Jvm.MethodName) prog_1_method_2_code (6 : Nat) (Option.some Jvm.ClassFile.FieldType.int), Jvm.Cond.code ({ cls := "com/example/fyfo/fyfo/BigEndianPutPinLaw", name := "acc", desc := "(J[BIII)J" } : Jvm.MethodName) method_3_code (6 : Nat) (Option.some Jvm.ClassFile.FieldType.long), Jvm.Cond.code ({ cls := "com/example/fyfo/fyfo/BigEndianPutPinLaw", name := "untouched", desc := "([BIIIB)Z" } : Jvm.MethodName) method_4_code (5 : Nat) (Option.some Jvm.ClassFile.FieldType.boolean)]
set_option maxRecDepth 65536 in
theorem codes_eq : words1.filter isCode = codes1 := rfl
theorem w_codes : ∀ c ∈ words1.filter isCode, c.before args0 about1 = true := by
  rw [codes_eq]
  intro c hc
  simp only [codes1, List.mem_cons, List.not_mem_nil, or_false] at hc
  rcases hc with rfl | rfl | rfl | rfl
  · exact w_c0
  · exact w_c1
  · exact w_c2
  · exact w_c3
set_option maxRecDepth 65536 in
theorem w_t1 : words1.all (fun c => isCode c || c.before args0 about1) = true := by decide +kernel
theorem w_tables : (allAtoms (Jvm.Cond.code x code maxLocals ret :: tables_1)).before args0 about1 = true := by
  rw [allAtoms_all]
  show words1.all (fun c => c.before args0 about1) = true
  refine all_split ?_ w_codes
  rw [w_t1]
set_option maxRecDepth 65536 in
theorem w_case : (Jvm.Cond.and given_1 narrow_1).before args0 about1 = true := by decide +kernel
theorem w_applies : (headSpec (Jvm.Cond.code x code maxLocals ret :: tables_1) room_1).applies x e0.platform about1 = true :=
  (Spec.applies_iff w_frames).mpr ⟨w_running, w_runnable, w_alone, w_named, w_hears, w_ripe, w_room, w_tables⟩
theorem atStart : AtStart classFile x code maxLocals ret World_1 tables_1 room_1 Calls_1 rest_1 Pre_1 launch0 p0 e0 about1 theMethod args0 below0 :=
  ⟨lists_1, trivial, launch0.admits_env _ _ _, launch0.least_env, fairChoices_fair.cas, fairChoices_fair.clock, w_frames, w_args, w_heap, w_applies, trivial, trivial, w_case⟩
end start1
theorem witness_1 : WitnessClaimed_1 := ⟨start1.p0, start1.e0, start1.about1, start1.theMethod, start1.args0, start1.below0, start1.atStart⟩
end Jvm.Pilot.@@N@@
