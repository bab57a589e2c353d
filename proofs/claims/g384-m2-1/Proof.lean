import JvmDerived
import JvmDerived.Pilot.@@N@@Statement
import JvmDerived.Pilot.@@N@@Code
set_option linter.unusedVariables false
set_option linter.unusedSimpArgs false
@@BLOCK:NumsL.lean.txt@@
namespace Jvm.RoadKit
open Sem ClassFile Op Lib Jvm.Stand Jvm.Free Jvm.LawKit
section New
variable {p : Program} {l : Launch} {e : Env} {R : Room} {s : State} {m : MethodId} {args : Array Value} {below : List Frame} {meth : Method} {c : Code} {T : State} {locs : List Loc} {cells slots : Nat}
theorem retI (X : Stand p l e R s m args below meth c T locs cells slots) (hx : p.tables.exec = Jvm.exec) {pc : Nat} {Ls : Array Slot} {z : Int32} {rest : List Value} (hret : meth.sig.returnType = some .int) (hd : decode c.code pc = .ok (.ireturn, 1)) {fs : List Frame}
    (hl : ∀ (f : JFrame) (acts : List Action), f.method = m → f.locked = none → f.entered = [] → (doReturn e (T.setTop f) acts (some (.int z))).1 = T.setFrames fs) : Steps p.tables e below (T.setTop (mkF m pc Ls (.int z :: rest))) (T.setFrames fs) := by
  have hm' : T.vm.method? m = some meth := X.method'
  have hn : narrow .int (.int z) = .int z := rfl
  show Steps p.tables e below (T.setTop { method := m, pc := pc, locals := Ls, stack := _ :: rest, locked := none }) _
  jvm_step X.here [X.here.top, hx, hd, hm', hret, hn]
  first | (intro acts; rw [hl _ acts rfl rfl rfl]) | rw [hl _ _ rfl rfl rfl]
  exact Steps.refl _
end New
end Jvm.RoadKit
/- laws to paste: Road.backV (cut by pick.py; bodies as the Statement names them) -/
namespace Jvm.Pilot.@@N@@
namespace StrChars
open Jvm Sem ClassFile Op Lib Jvm.Stand Jvm.Free.XT Jvm.Free.ALB Jvm.Free.JM Jvm.Free
open Jvm.Lib.Cold (StaticIs)
/-- a char array whose places are chars -/
def Ch (a : Addr) (A : Cell) (U : State) : Prop := Arr .char a A U ∧ Typed .char A
theorem Ch.mv {a : Addr} {A : Cell} {U U' : State} (h : Ch a A U) (hal : U.vm.Alike U'.vm) (hh : U'.heap = U.heap) : Ch a A U' := ⟨h.1.mv hal hh, h.2⟩
theorem Ch.keep {a : Addr} {A : Cell} {U U' : State} (h : Ch a A U) (hal : U.vm.Alike U'.vm) (hk : U'.heap[a]? = some A) : Ch a A U' := ⟨h.1.keep hal hk, h.2⟩
/-- what place i of a char[]'s cell holds -/
def cv (A : Cell) (i : Nat) : Int32 := match A.slots[i]? with | some (.int x) => x | _ => 0
theorem Ch.get {a : Addr} {A : Cell} {U : State} (h : Ch a A U) {i : Nat} (hi : i < A.slots.size) : A.slots[i]? = some (.int (cv A i)) := by
  have e := Array.getElem?_eq_getElem hi
  have f := h.2 i _ e
  unfold cv; rw [e]
  generalize A.slots[i] = v at f
  cases v <;> simp [fits] at f ⊢
/-- the byte that i2b leaves of a char -/
def lo8 (x : Int32) : Int32 := x.toInt8.toInt32
theorem fits_lo8 (y : Int32) : fits .byte (.int (lo8 y)) = true := by
  have h1 := y.toInt8.le_toInt
  have h2 := y.toInt8.toInt_lt
  simp only [lo8, fits, Bool.and_eq_true, decide_eq_true_eq, Int32.le_iff_toInt_le, Int8.toInt_toInt32, show (-128 : Int32).toInt = -128 from by decide, show (127 : Int32).toInt = 127 from by decide]
  omega
/-- A' is A but that each place j of lo .. hi - 1 holds f j -/
def Laid (A A' : Cell) (lo hi : Nat) (f : Nat → Value) : Prop := A'.cls = A.cls ∧ A'.vm = A.vm ∧ A'.slots.size = A.slots.size ∧ ∀ i, A'.slots[i]? = if lo ≤ i ∧ i < hi then some (f i) else A.slots[i]?
theorem Laid.zero (A : Cell) (lo : Nat) (f : Nat → Value) : Laid A A lo (lo + 0) f := ⟨rfl, rfl, rfl, fun i => by rw [if_neg (by omega)]⟩
theorem Laid.step {A Ak : Cell} {lo k : Nat} {f : Nat → Value} {v : Value} (h : Laid A Ak lo k f) (hlo : lo ≤ k) (hk : k < Ak.slots.size) (hv : v = f k) : Laid A (Ak.setSlot k v) lo (k + 1) f := by
  refine ⟨h.1, h.2.1, by simpa [Cell.setSlot] using h.2.2.1, fun i => ?_⟩
  by_cases e : k = i
  · subst e; rw [Cell.slots_setSlot_self v hk, if_pos (by omega), hv]
  · rw [Cell.slots_setSlot_ne v e, h.2.2.2 i]
    by_cases q : lo ≤ i ∧ i < k
    · rw [if_pos q, if_pos (by omega)]
    · rw [if_neg q, if_neg (by omega)]
def U16 : String := "java/lang/StringUTF16"
namespace Cmp5
def yN : MethodName := ⟨"java/lang/StringUTF16", "compress", "([CI[BII)I"⟩
abbrev yB : ByteArray := jdk_52_method_21_code
theorem d0 : decode yB 0 = .ok (.iconst 0, 1) := by decide +kernel
theorem d1 : decode yB 1 = .ok (.istore 5, 2) := by decide +kernel
theorem d3 : decode yB 3 = .ok (.iload 5, 2) := by decide +kernel
theorem d5 : decode yB 5 = .ok (.iload 4, 2) := by decide +kernel
theorem d7 : decode yB 7 = .ok (.if_icmp (.ge) 37, 3) := by decide +kernel
theorem d10 : decode yB 10 = .ok (.aload_n 0, 1) := by decide +kernel
theorem d11 : decode yB 11 = .ok (.iload_n 1, 1) := by decide +kernel
theorem d12 : decode yB 12 = .ok (.caload, 1) := by decide +kernel
theorem d13 : decode yB 13 = .ok (.istore 6, 2) := by decide +kernel
theorem d15 : decode yB 15 = .ok (.iload 6, 2) := by decide +kernel
theorem d17 : decode yB 17 = .ok (.sipush 255, 3) := by decide +kernel
theorem d20 : decode yB 20 = .ok (.if_icmp (.le) 6, 3) := by decide +kernel
theorem d26 : decode yB 26 = .ok (.aload_n 2, 1) := by decide +kernel
theorem d27 : decode yB 27 = .ok (.iload_n 3, 1) := by decide +kernel
theorem d28 : decode yB 28 = .ok (.iload 6, 2) := by decide +kernel
theorem d30 : decode yB 30 = .ok (.i2b, 1) := by decide +kernel
theorem d31 : decode yB 31 = .ok (.bastore, 1) := by decide +kernel
theorem d32 : decode yB 32 = .ok (.iinc 1 1, 3) := by decide +kernel
theorem d35 : decode yB 35 = .ok (.iinc 3 1, 3) := by decide +kernel
theorem d38 : decode yB 38 = .ok (.iinc 5 1, 3) := by decide +kernel
theorem d41 : decode yB 41 = .ok (.goto (-38), 3) := by decide +kernel
theorem d44 : decode yB 44 = .ok (.iload 4, 2) := by decide +kernel
theorem d46 : decode yB 46 = .ok (.ireturn, 1) := by decide +kernel
def site : List Cond := []
def tab : Cond := tabOf yN yB 7 (some .int) site
def P (b : Addr) (A : Cell) (d : Addr) (B : Cell) (o q len : Nat) (args : Array Value) (s : State) : Prop := args = #[.ref b, .int (Int32.ofNat o), .ref d, .int (Int32.ofNat q), .int (Int32.ofNat len)] ∧ Ch b A s ∧ Arr .byte d B s ∧ b ≠ d ∧ o + len ≤ A.slots.size ∧ q + len ≤ B.slots.size ∧ ∀ i, i < len → ¬ 255 < cv A (o + i)
def E (b : Addr) (A : Cell) (d : Addr) (B : Cell) (o q len : Nat) (r : Option Value) (s u : State) : Prop := r = some (.int (Int32.ofNat len)) ∧ ∃ B', Put d B' s u ∧ Laid B B' q (q + len) (fun j => Value.int (lo8 (cv A (o + (j - q)))))
/-- no char of the range above 255: len; the places written hold each char's low byte -/
theorem law (l : Launch) (b : Addr) (A : Cell) (d : Addr) (B : Cell) (o q len : Nat) : Law l yN 5 5 0 0 yB 7 (some .int) site (P b A d B o q len) (E b A d B o q len) (copyLocs d q len) 0 0 := by
  refine Law.of_walk (plainFor_of_name (by decide +kernel)) (by decide +kernel) (by decide +kernel) (by decide) (fun _ _ h => by rw [h.1]; rfl) (fun _ U U' hal hh h => ⟨h.1, h.2.1.mv hal hh, h.2.2.1.mv hal hh, h.2.2.2⟩) (fun r U U' V V' h1 hal h2 h => ⟨h.1, h.2.elim fun B' q => ⟨B', q.1.mv h1 h2, q.2⟩⟩) ?_
  intro p e s m args below meth c s₁ X0 hexec hbytes hml hret hlk hnm hown hh0 W hP
  obtain ⟨rfl, hA, hB, hne, l1, l2, hp⟩ := hP
  have c1 : Steps p.tables e below (s₁.setTop (entryFrame m #[.ref b, .int (Int32.ofNat o), .ref d, .int (Int32.ofNat q), .int (Int32.ofNat len)] 7)) (s₁.setTop (mkF m 0 #[.val (.ref b), .val (.int (Int32.ofNat o)), .val (.ref d), .val (.int (Int32.ofNat q)), .val (.int (Int32.ofNat len)), .unset, .unset] [])) := entry rfl
  have hA0 := hA.1.mv X0.warmed.alike hh0
  have hB0 := hB.mv X0.warmed.alike hh0
  have a31 := hA.1.2.2.2
  have c2 : Steps p.tables e below (s₁.setTop (entryFrame m #[.ref b, .int (Int32.ofNat o), .ref d, .int (Int32.ofNat q), .int (Int32.ofNat len)] 7)) (s₁.setTop (mkF m 3 #[.val (.ref b), .val (.int (Int32.ofNat o)), .val (.ref d), .val (.int (Int32.ofNat q)), .val (.int (Int32.ofNat len)), .val (.int 0), .unset] [])) := c1.trans (by
    refine iconstV X0.here hexec rfl 0 (hb hbytes d0) (by decide) ?_
    refine XS.istore X0.here hexec rfl (hb hbytes d1) rfl rfl ?_
    exact Steps.refl _)
  have loop : ∀ (r i : Nat), i + r = len → ∀ (z : Slot), (z = .unset ∨ ∃ w, z = .val w ∧ w.category = 1) → ∀ (Tl : State) (Bk : Cell), Stand p l e { frames := 0, locals := 0, cells := 0, slots := 0 } s m #[.ref b, .int (Int32.ofNat o), .ref d, .int (Int32.ofNat q), .int (Int32.ofNat len)] below meth c Tl ([] ++ copyLocs d q i) 0 0 → Put d Bk s₁ Tl → Laid B Bk q (q + i) (fun j => Value.int (lo8 (cv A (o + (j - q))))) →
      Steps p.tables e below (s₁.setTop (entryFrame m #[.ref b, .int (Int32.ofNat o), .ref d, .int (Int32.ofNat q), .int (Int32.ofNat len)] 7)) (Tl.setTop (mkF m 3 #[.val (.ref b), .val (.int (Int32.ofNat (o + i))), .val (.ref d), .val (.int (Int32.ofNat (q + i))), .val (.int (Int32.ofNat len)), .val (.int (Int32.ofNat i)), z] [])) → ∃ (T' : State) (B' : Cell) (z' : Slot), Stand p l e { frames := 0, locals := 0, cells := 0, slots := 0 } s m #[.ref b, .int (Int32.ofNat o), .ref d, .int (Int32.ofNat q), .int (Int32.ofNat len)] below meth c T' ([] ++ copyLocs d q len) 0 0 ∧ Put d B' s₁ T' ∧ Laid B B' q (q + len) (fun j => Value.int (lo8 (cv A (o + (j - q))))) ∧
      Steps p.tables e below (s₁.setTop (entryFrame m #[.ref b, .int (Int32.ofNat o), .ref d, .int (Int32.ofNat q), .int (Int32.ofNat len)] 7)) (T'.setTop (mkF m 3 #[.val (.ref b), .val (.int (Int32.ofNat (o + len))), .val (.ref d), .val (.int (Int32.ofNat (q + len))), .val (.int (Int32.ofNat len)), .val (.int (Int32.ofNat len)), z'] [])) := by
    intro r
    induction r with
    | zero =>
      intro i hi z hz Tl Bk Xl pl fl cl
      have hil : i = len := by omega
      rw [hil] at Xl fl cl
      exact ⟨Tl, Bk, z, Xl, pl, fl, cl⟩
    | succ r ih =>
      intro i hi z hz Tl Bk Xl pl fl cl
      have all := X0.warmed.alike.symm.trans Xl.warmed.alike
      have hAl := hA0.keep all (pl.other hne hA0.1)
      have hBk := hB0.like all pl.1 fl.1 fl.2.1 fl.2.2.1
      have hlt : q + i < Bk.slots.size := by rw [fl.2.2.1]; omega
      have c3 : Steps p.tables e below (s₁.setTop (entryFrame m #[.ref b, .int (Int32.ofNat o), .ref d, .int (Int32.ofNat q), .int (Int32.ofNat len)] 7)) (Tl.setTop (mkF m 12 #[.val (.ref b), .val (.int (Int32.ofNat (o + i))), .val (.ref d), .val (.int (Int32.ofNat (q + i))), .val (.int (Int32.ofNat len)), .val (.int (Int32.ofNat i)), z] [.int (Int32.ofNat (o + i)), .ref b])) := cl.trans (by
        refine XS.iload Xl.here hexec rfl (hb hbytes d3) rfl ?_
        refine XS.iload Xl.here hexec rfl (hb hbytes d5) rfl ?_
        refine XS.icmpNo Xl.here hexec rfl (hb hbytes d7) rfl (ii_ge_f (lt32 (by omega) (by omega))) ?_
        refine XS.aloadN Xl.here hexec rfl (hb hbytes d10) rfl rfl ?_
        refine XS.iloadN Xl.here hexec rfl (hb hbytes d11) rfl ?_
        exact Steps.refl _)
      have c4 : Steps p.tables e below (s₁.setTop (entryFrame m #[.ref b, .int (Int32.ofNat o), .ref d, .int (Int32.ofNat q), .int (Int32.ofNat len)] 7)) (Tl.setTop (mkF m 13 #[.val (.ref b), .val (.int (Int32.ofNat (o + i))), .val (.ref d), .val (.int (Int32.ofNat (q + i))), .val (.int (Int32.ofNat len)), .val (.int (Int32.ofNat i)), z] [.int (cv A (o + i))])) := c3.trans (by
        refine Xl.aget hexec hAl rfl (hA.get (i := o + i) (by omega)) rfl rfl (hb hbytes d12) ?_
        exact Steps.refl _)
      have c5 : Steps p.tables e below (s₁.setTop (entryFrame m #[.ref b, .int (Int32.ofNat o), .ref d, .int (Int32.ofNat q), .int (Int32.ofNat len)] 7)) (Tl.setTop (mkF m 15 #[.val (.ref b), .val (.int (Int32.ofNat (o + i))), .val (.ref d), .val (.int (Int32.ofNat (q + i))), .val (.int (Int32.ofNat len)), .val (.int (Int32.ofNat i)), .val (.int (cv A (o + i)))] [])) := c4.trans (by
        refine XS.istoreS Xl.here hexec rfl (hb hbytes d13) rfl rfl hz ?_
        exact Steps.refl _)
      have c6 : Steps p.tables e below (s₁.setTop (entryFrame m #[.ref b, .int (Int32.ofNat o), .ref d, .int (Int32.ofNat q), .int (Int32.ofNat len)] 7)) (Tl.setTop (mkF m 31 #[.val (.ref b), .val (.int (Int32.ofNat (o + i))), .val (.ref d), .val (.int (Int32.ofNat (q + i))), .val (.int (Int32.ofNat len)), .val (.int (Int32.ofNat i)), .val (.int (cv A (o + i)))] [.int (lo8 (cv A (o + i))), .int (Int32.ofNat (q + i)), .ref d])) := c5.trans (by
        refine XS.iload Xl.here hexec rfl (hb hbytes d15) rfl ?_
        refine sipushV Xl.here hexec rfl 255 (hb hbytes d17) (by decide) ?_
        refine XS.icmpYes Xl.here hexec rfl (pc0 := 20) rfl (hb hbytes d20) rfl (ii_le_t (hp i (by omega))) (by decide) rfl ?_
        refine XS.aloadN Xl.here hexec rfl (hb hbytes d26) rfl rfl ?_
        refine XS.iloadN Xl.here hexec rfl (hb hbytes d27) rfl ?_
        refine XS.iload Xl.here hexec rfl (hb hbytes d28) rfl ?_
        refine i2b Xl.here hexec rfl (hb hbytes d30) rfl ?_
        exact Steps.refl _)
      obtain ⟨T7, X7, p7, st7⟩ := Xl.aput hexec hBk rfl hlt rfl (fits_lo8 (cv A (o + i))) (g := (mkF m 31 #[.val (.ref b), .val (.int (Int32.ofNat (o + i))), .val (.ref d), .val (.int (Int32.ofNat (q + i))), .val (.int (Int32.ofNat len)), .val (.int (Int32.ofNat i)), .val (.int (cv A (o + i)))] [.int (lo8 (cv A (o + i))), .int (Int32.ofNat (q + i)), .ref d])) rfl (rest := []) rfl (hb hbytes d31)
      have c8 : Steps p.tables e below (s₁.setTop (entryFrame m #[.ref b, .int (Int32.ofNat o), .ref d, .int (Int32.ofNat q), .int (Int32.ofNat len)] 7)) (T7.setTop (mkF m 32 #[.val (.ref b), .val (.int (Int32.ofNat (o + i))), .val (.ref d), .val (.int (Int32.ofNat (q + i))), .val (.int (Int32.ofNat len)), .val (.int (Int32.ofNat i)), .val (.int (cv A (o + i)))] [])) := c6.trans (st7 _ (Steps.refl _))
      have c9 : Steps p.tables e below (s₁.setTop (entryFrame m #[.ref b, .int (Int32.ofNat o), .ref d, .int (Int32.ofNat q), .int (Int32.ofNat len)] 7)) (T7.setTop (mkF m 3 #[.val (.ref b), .val (.int (Int32.ofNat (o + i) + 1)), .val (.ref d), .val (.int (Int32.ofNat (q + i) + 1)), .val (.int (Int32.ofNat len)), .val (.int (Int32.ofNat i + 1)), .val (.int (cv A (o + i)))] [])) := c8.trans (by
        refine iincV X7.here hexec rfl 1 (hb hbytes d32) (by decide) rfl rfl ?_
        refine iincV X7.here hexec rfl 1 (hb hbytes d35) (by decide) rfl rfl ?_
        refine iincV X7.here hexec rfl 1 (hb hbytes d38) (by decide) rfl rfl ?_
        refine XS.goto X7.here hexec rfl (pc0 := 41) rfl (hb hbytes d41) (by decide) rfl ?_
        exact Steps.refl _)
      have c10 : Steps p.tables e below (s₁.setTop (entryFrame m #[.ref b, .int (Int32.ofNat o), .ref d, .int (Int32.ofNat q), .int (Int32.ofNat len)] 7)) (T7.setTop (mkF m 3 #[.val (.ref b), .val (.int (Int32.ofNat (o + (i + 1)))), .val (.ref d), .val (.int (Int32.ofNat (q + (i + 1)))), .val (.int (Int32.ofNat len)), .val (.int (Int32.ofNat (i + 1))), .val (.int (cv A (o + i)))] [])) := by
        have := c9
        rw [succ32, succ32, succ32] at this
        exact this
      exact ih (i + 1) (by omega) _ (Or.inr ⟨_, rfl, rfl⟩) T7 _ (by rw [copyLocs_step, ← List.append_assoc]; exact X7) (pl.trans p7) (fl.step (by omega) hlt (by simp)) c10
  obtain ⟨T9, B9, z9, X9, p9, f9, g9⟩ := loop len 0 (by omega) .unset (Or.inl rfl) s₁ B (by simpa [copyLocs] using X0) ⟨hB0.1, fun _ _ => rfl, rfl⟩ (Laid.zero _ _ _) c2
  have c11 : Steps p.tables e below (s₁.setTop (entryFrame m #[.ref b, .int (Int32.ofNat o), .ref d, .int (Int32.ofNat q), .int (Int32.ofNat len)] 7)) (T9.setTop (mkF m 46 #[.val (.ref b), .val (.int (Int32.ofNat (o + len))), .val (.ref d), .val (.int (Int32.ofNat (q + len))), .val (.int (Int32.ofNat len)), .val (.int (Int32.ofNat len)), z9] [.int (Int32.ofNat len)])) := g9.trans (by
    refine XS.iload X9.here hexec rfl (hb hbytes d3) rfl ?_
    refine XS.iload X9.here hexec rfl (hb hbytes d5) rfl ?_
    refine XS.icmpYes X9.here hexec rfl (pc0 := 7) rfl (hb hbytes d7) rfl (ii_ge_t (nlt32 (by omega) (Nat.le_refl _))) (by decide) rfl ?_
    refine XS.iload X9.here hexec rfl (hb hbytes d44) rfl ?_
    exact Steps.refl _)
  exact ⟨T9, some (.int (Int32.ofNat len)), _, _, _, X9, by simp, rfl, rfl, (fun h => by cases h), ⟨rfl, B9, p9.from hh0, f9⟩, fun fs hl => c11.trans (X9.ireturnOut hexec hret rfl (Or.inl rfl) (hb hbytes d46) hl)⟩
end Cmp5
namespace Cmp3
def yN : MethodName := ⟨"java/lang/StringUTF16", "compress", "([CII)[B"⟩
abbrev yB : ByteArray := jdk_52_method_16_code
theorem d0 : decode yB 0 = .ok (.iload_n 2, 1) := by decide +kernel
theorem d1 : decode yB 1 = .ok (.newarray .byte, 2) := by decide +kernel
theorem d3 : decode yB 3 = .ok (.astore_n 3, 1) := by decide +kernel
theorem d4 : decode yB 4 = .ok (.aload_n 0, 1) := by decide +kernel
theorem d5 : decode yB 5 = .ok (.iload_n 1, 1) := by decide +kernel
theorem d6 : decode yB 6 = .ok (.aload_n 3, 1) := by decide +kernel
theorem d7 : decode yB 7 = .ok (.iconst 0, 1) := by decide +kernel
theorem d8 : decode yB 8 = .ok (.iload_n 2, 1) := by decide +kernel
theorem d9 : decode yB 9 = .ok (.invokestatic 115, 3) := by decide +kernel
theorem d12 : decode yB 12 = .ok (.istore 4, 2) := by decide +kernel
theorem d14 : decode yB 14 = .ok (.iload 4, 2) := by decide +kernel
theorem d16 : decode yB 16 = .ok (.iload_n 2, 1) := by decide +kernel
theorem d17 : decode yB 17 = .ok (.if_icmp (.eq) 40, 3) := by decide +kernel
theorem d57 : decode yB 57 = .ok (.aload_n 3, 1) := by decide +kernel
theorem d58 : decode yB 58 = .ok (.areturn, 1) := by decide +kernel
def site : List Cond := [.arrayClass .byte, Cmp5.tab] ++ staticW U16 115 Cmp5.yN
def tab : Cond := tabOf yN yB 6 (some (.array .byte)) site
def P (b : Addr) (A : Cell) (o len : Nat) (args : Array Value) (s : State) : Prop := args = #[.ref b, .int (Int32.ofNat o), .int (Int32.ofNat len)] ∧ Ch b A s ∧ o + len ≤ A.slots.size ∧ len ≤ 536870912 ∧ ∀ i, i < len → ¬ 255 < cv A (o + i)
def E (b : Addr) (A : Cell) (o len : Nat) (r : Option Value) (s u : State) : Prop := NewArr .byte "[B" len (fun j => .int (lo8 (cv A (o + j)))) r s u ∧ u.heap.size = s.heap.size + 1
/-- no char of the range above 255: a new byte[] of their low bytes -/
theorem law (l : Launch) (b : Addr) (A : Cell) (o len : Nat) : Law l yN 3 3 1 18 yB 6 (some (.array .byte)) site (P b A o len) (E b A o len) [] 1 len := by
  refine Law.of_walk (plainFor_of_name (by decide +kernel)) (by decide +kernel) (by decide +kernel) (by decide) (fun _ _ h => by rw [h.1]; rfl) (fun _ U U' hal hh h => ⟨h.1, h.2.1.mv hal hh, h.2.2⟩) (fun r U U' V V' h1 hal h2 h => ⟨NewArr.mv r U U' V V' h1 hal h2 h.1, by rw [h1, h2]; exact h.2⟩) ?_
  intro p e s m args below meth c s₁ X0 hexec hbytes hml hret hlk hnm hown hh0 W hP
  obtain ⟨rfl, hA, l1, l2, hp⟩ := hP
  have a31 := hA.1.2.2.2
  have c1 : Steps p.tables e below (s₁.setTop (entryFrame m #[.ref b, .int (Int32.ofNat o), .int (Int32.ofNat len)] 6)) (s₁.setTop (mkF m 0 #[.val (.ref b), .val (.int (Int32.ofNat o)), .val (.int (Int32.ofNat len)), .unset, .unset, .unset] [])) := entry rfl
  have c2 : Steps p.tables e below (s₁.setTop (entryFrame m #[.ref b, .int (Int32.ofNat o), .int (Int32.ofNat len)] 6)) (s₁.setTop (mkF m 1 #[.val (.ref b), .val (.int (Int32.ofNat o)), .val (.int (Int32.ofNat len)), .unset, .unset, .unset] [.int (Int32.ofNat len)])) := c1.trans (by
    refine XS.iloadN X0.here hexec rfl (hb hbytes d0) rfl ?_
    exact Steps.refl _)
  obtain ⟨T3, B3, X3, ba3, bs3, bv3, bh3, bf3, st3⟩ := X0.anew hexec (atype := .byte) (wk W (.arrayClass .byte)) rfl (by show len * 1 ≤ _; omega) (by omega) (g := (mkF m 1 #[.val (.ref b), .val (.int (Int32.ofNat o)), .val (.int (Int32.ofNat len)), .unset, .unset, .unset] [.int (Int32.ofNat len)])) rfl (hb hbytes d1) (rest := []) rfl (Nat.le_refl _) (by show 0 + len ≤ len; omega)
  rw [hh0] at ba3 st3
  have kp3 : XT.Kept s T3 := (XT.Kept.of_eq hh0).push bh3
  have hA3 := hA.keep X3.warmed.alike (kp3 _ _ hA.1.1)
  have hne : b ≠ s.heap.size := hA.1.ne
  have c4 : Steps p.tables e below (s₁.setTop (entryFrame m #[.ref b, .int (Int32.ofNat o), .int (Int32.ofNat len)] 6)) (T3.setTop (mkF m 3 #[.val (.ref b), .val (.int (Int32.ofNat o)), .val (.int (Int32.ofNat len)), .unset, .unset, .unset] [.ref s.heap.size])) := c2.trans (st3 _ (Steps.refl _))
  have c5 : Steps p.tables e below (s₁.setTop (entryFrame m #[.ref b, .int (Int32.ofNat o), .int (Int32.ofNat len)] 6)) (T3.setTop (mkF m 9 #[.val (.ref b), .val (.int (Int32.ofNat o)), .val (.int (Int32.ofNat len)), .val (.ref s.heap.size), .unset, .unset] [.int (Int32.ofNat len), .int 0, .ref s.heap.size, .int (Int32.ofNat o), .ref b])) := c4.trans (by
    refine XS.astoreN X3.here hexec rfl (hb hbytes d3) rfl rfl rfl ?_
    refine XS.aloadN X3.here hexec rfl (hb hbytes d4) rfl rfl ?_
    refine XS.iloadN X3.here hexec rfl (hb hbytes d5) rfl ?_
    refine XS.aloadN X3.here hexec rfl (hb hbytes d6) rfl rfl ?_
    refine iconstV X3.here hexec rfl 0 (hb hbytes d7) (by decide) ?_
    refine XS.iloadN X3.here hexec rfl (hb hbytes d8) rfl ?_
    exact Steps.refl _)
  obtain ⟨v6, T6, X6, E6, g6⟩ := X3.callS hexec (Cmp5.law l b A s.heap.size B3 o 0 len) hown (wks W (staticW U16 115 Cmp5.yN)) (wk W Cmp5.tab) (W := 0) (Nat.le_of_ble_eq_true rfl) (Nat.le_of_ble_eq_true rfl) (Nat.le_refl _) (by show 0 + len + 0 ≤ len; omega) (g := (mkF m 9 #[.val (.ref b), .val (.int (Int32.ofNat o)), .val (.int (Int32.ofNat len)), .val (.ref s.heap.size), .unset, .unset] [.int (Int32.ofNat len), .int (Int32.ofNat 0), .ref s.heap.size, .int (Int32.ofNat o), .ref b])) rfl (by rw [hml]; rfl) c5 (argsL := [.ref b, .int (Int32.ofNat o), .ref s.heap.size, .int (Int32.ofNat 0), .int (Int32.ofNat len)]) (rest := []) rfl rfl (by show 2 * 0 + 0 ≤ _; decide) (hb hbytes d9) (⟨rfl, hA3, ba3, hne, l1, by rw [bs3]; simp, hp⟩)
  obtain ⟨rfl, B6, p6, f6⟩ := E6
  have c7 : Steps p.tables e below (s₁.setTop (entryFrame m #[.ref b, .int (Int32.ofNat o), .int (Int32.ofNat len)] 6)) (T6.setTop (mkF m 12 #[.val (.ref b), .val (.int (Int32.ofNat o)), .val (.int (Int32.ofNat len)), .val (.ref s.heap.size), .unset, .unset] [.int (Int32.ofNat len)])) := g6
  have c8 : Steps p.tables e below (s₁.setTop (entryFrame m #[.ref b, .int (Int32.ofNat o), .int (Int32.ofNat len)] 6)) (T6.setTop (mkF m 58 #[.val (.ref b), .val (.int (Int32.ofNat o)), .val (.int (Int32.ofNat len)), .val (.ref s.heap.size), .val (.int (Int32.ofNat len)), .unset] [.ref s.heap.size])) := c7.trans (by
    refine XS.istore X6.here hexec rfl (hb hbytes d12) rfl rfl ?_
    refine XS.iload X6.here hexec rfl (hb hbytes d14) rfl ?_
    refine XS.iloadN X6.here hexec rfl (hb hbytes d16) rfl ?_
    refine XS.icmpYes X6.here hexec rfl (pc0 := 17) rfl (hb hbytes d17) rfl (ii_eq_t rfl) (by decide) rfl ?_
    refine XS.aloadN X6.here hexec rfl (hb hbytes d57) rfl rfl ?_
    exact Steps.refl _)
  have X8 := X6.wide (L' := []) (cells' := 1) (slots' := len) (fun x hx hlt => by
    simp only [List.nil_append, copyLocs, List.mem_map, List.mem_range] at hx
    obtain ⟨i, -, rfl⟩ := hx
    exact absurd hlt (Nat.lt_irrefl _)) (Nat.le_refl _) (by omega)
  exact ⟨T6, some (.ref s.heap.size), _, _, _, X8, rfl, rfl, rfl, (fun h => by cases h), ⟨⟨rfl, B6, ba3.like (X3.warmed.alike.symm.trans X6.warmed.alike) p6.1 f6.1 f6.2.1 f6.2.2.1, f6.2.1.trans bv3, by rw [X6.warmed.alike.findClass, f6.1]; exact bf3, by rw [f6.2.2.1, bs3]; simp, fun j hj => by rw [f6.2.2.2 j, if_pos (by omega)]; rfl, kp3.put p6 (Nat.le_refl _)⟩, by rw [p6.2.2, bh3, hh0]; simp⟩, fun fs hl => c8.trans (X8.areturnOut hexec rfl hret rfl (hb hbytes d58) hl)⟩
end Cmp3
namespace CodL
def yN : MethodName := ⟨"java/lang/StringUTF16", "coderFromArrayLen", "([BI)B"⟩
abbrev yB : ByteArray := jdk_52_method_15_code
theorem d0 : decode yB 0 = .ok (.iload_n 1, 1) := by decide +kernel
theorem d1 : decode yB 1 = .ok (.aload_n 0, 1) := by decide +kernel
theorem d2 : decode yB 2 = .ok (.arraylength, 1) := by decide +kernel
theorem d3 : decode yB 3 = .ok (.isub, 1) := by decide +kernel
theorem d4 : decode yB 4 = .ok (.bipush 31, 2) := by decide +kernel
theorem d6 : decode yB 6 = .ok (.iushr, 1) := by decide +kernel
theorem d7 : decode yB 7 = .ok (.i2b, 1) := by decide +kernel
theorem d8 : decode yB 8 = .ok (.ireturn, 1) := by decide +kernel
def site : List Cond := []
def tab : Cond := tabOf yN yB 2 (some .byte) site
def P (d : Addr) (B : Cell) (args : Array Value) (s : State) : Prop := args = #[.ref d, .int (Int32.ofNat B.slots.size)] ∧ Arr .byte d B s
def E (r : Option Value) (s u : State) : Prop := XT.PureE (some (.int 0)) r s u
/-- an array as long as the number of chars: LATIN1 -/
theorem law (l : Launch) (d : Addr) (B : Cell) : Law l yN 2 2 0 0 yB 2 (some .byte) site (P d B) E [] 0 0 := by
  refine Law.of_walk (plainFor_of_name (by decide +kernel)) (by decide +kernel) (by decide +kernel) (by decide) (fun _ _ h => by rw [h.1]; rfl) (fun _ U U' hal hh h => ⟨h.1, h.2.mv hal hh⟩) (fun r U U' V V' h1 hal h2 h => XT.PureE.mv r U U' V V' h1 hal h2 h) ?_
  intro p e s m args below meth c s₁ X0 hexec hbytes hml hret hlk hnm hown hh0 W hP
  obtain ⟨rfl, hB⟩ := hP
  have hB0 := hB.mv X0.warmed.alike hh0
  have c1 : Steps p.tables e below (s₁.setTop (entryFrame m #[.ref d, .int (Int32.ofNat B.slots.size)] 2)) (s₁.setTop (mkF m 0 #[.val (.ref d), .val (.int (Int32.ofNat B.slots.size))] [])) := entry rfl
  have c2 : Steps p.tables e below (s₁.setTop (entryFrame m #[.ref d, .int (Int32.ofNat B.slots.size)] 2)) (s₁.setTop (mkF m 2 #[.val (.ref d), .val (.int (Int32.ofNat B.slots.size))] [.ref d, .int (Int32.ofNat B.slots.size)])) := c1.trans (by
    refine XS.iloadN X0.here hexec rfl (hb hbytes d0) rfl ?_
    refine XS.aloadN X0.here hexec rfl (hb hbytes d1) rfl rfl ?_
    exact Steps.refl _)
  have c3 : Steps p.tables e below (s₁.setTop (entryFrame m #[.ref d, .int (Int32.ofNat B.slots.size)] 2)) (s₁.setTop (mkF m 8 #[.val (.ref d), .val (.int (Int32.ofNat B.slots.size))] [.int (lo8 (ushr (Int32.ofNat B.slots.size - Int32.ofNat B.slots.size) 31))])) := c2.trans (by
    refine X0.alen hexec hB0 rfl rfl (hb hbytes d2) ?_
    refine XS.isub X0.here hexec rfl (hb hbytes d3) rfl ?_
    refine bipushV X0.here hexec rfl 31 (hb hbytes d4) (by decide) ?_
    refine iushr X0.here hexec rfl (hb hbytes d6) rfl ?_
    refine i2b X0.here hexec rfl (hb hbytes d7) rfl ?_
    exact Steps.refl _)
  have e0 : lo8 (ushr (Int32.ofNat B.slots.size - Int32.ofNat B.slots.size) 31) = 0 := by rw [Int32.sub_self]; decide
  rw [e0] at c3
  exact ⟨s₁, some (.int 0), _, _, _, X0, rfl, rfl, rfl, (fun h => by cases h), ⟨rfl, hh0⟩, fun fs hl => c3.trans (X0.ireturnOut hexec hret rfl (Or.inr (Or.inr (Or.inl rfl))) (hb hbytes d8) hl)⟩
end CodL
/-- the String at a is Latin-1 over a new byte[] (the heap's one new cell): the low bytes of the len chars of A from o on; every cell but a is kept -/
def Got (a : Addr) (D : Cell) (fV fC : Field) (A : Cell) (o len : Nat) (r : Option Value) (s u : State) : Prop := r = none ∧ ∃ D' V : Cell, Blank "java/lang/String" a D' u ∧ Same D D' [fV.slot, fC.slot] ∧ D'.slots[fV.slot]? = some (.ref s.heap.size) ∧ D'.slots[fC.slot]? = some (.int 0) ∧ Arr .byte s.heap.size V u ∧ V.vm = .none ∧ u.vm.findClass "[B" = some V.cls ∧ V.slots.size = len ∧ (∀ j, j < len → V.slots[j]? = some (.int (lo8 (cv A (o + j))))) ∧ (∀ (y : Addr) (c : Cell), y ≠ a → s.heap[y]? = some c → u.heap[y]? = some c) ∧ u.heap.size = s.heap.size + 1
theorem Got.mv {a : Addr} {D A : Cell} {fV fC : Field} {o len : Nat} : ∀ r (U U' V V' : State), U'.heap = U.heap → V.vm.Alike V'.vm → V'.heap = V.heap → Got a D fV fC A o len r U V → Got a D fV fC A o len r U' V' :=
  fun r U U' V V' h1 hal h2 ⟨e0, D', X, a1, a2, a3, a4, a5, a6, a7, a8, a9, a10, a11⟩ => ⟨e0, D', X, a1.mv hal h2, a2, by rw [h1]; exact a3, a4, by rw [h1]; exact a5.mv hal h2, a6, by rw [hal.findClass]; exact a7, a8, a9, by rw [h1, h2]; exact a10, by rw [h1, h2]; exact a11⟩
namespace New4
def yN : MethodName := ⟨"java/lang/String", "<init>", "([CIILjava/lang/Void;)V"⟩
abbrev yB : ByteArray := jdk_42_method_149_code
theorem d0 : decode yB 0 = .ok (.aload_n 0, 1) := by decide +kernel
theorem d1 : decode yB 1 = .ok (.invokespecial 1, 3) := by decide +kernel
theorem d4 : decode yB 4 = .ok (.iload_n 3, 1) := by decide +kernel
theorem d5 : decode yB 5 = .ok (.ifCond (.ne) 22, 3) := by decide +kernel
theorem d27 : decode yB 27 = .ok (.getstatic 38, 3) := by decide +kernel
theorem d30 : decode yB 30 = .ok (.ifCond (.eq) 28, 3) := by decide +kernel
theorem d33 : decode yB 33 = .ok (.aload_n 1, 1) := by decide +kernel
theorem d34 : decode yB 34 = .ok (.iload_n 2, 1) := by decide +kernel
theorem d35 : decode yB 35 = .ok (.iload_n 3, 1) := by decide +kernel
theorem d36 : decode yB 36 = .ok (.invokestatic 177, 3) := by decide +kernel
theorem d39 : decode yB 39 = .ok (.astore 5, 2) := by decide +kernel
theorem d41 : decode yB 41 = .ok (.aload_n 0, 1) := by decide +kernel
theorem d42 : decode yB 42 = .ok (.aload 5, 2) := by decide +kernel
theorem d44 : decode yB 44 = .ok (.iload_n 3, 1) := by decide +kernel
theorem d45 : decode yB 45 = .ok (.invokestatic 47, 3) := by decide +kernel
theorem d48 : decode yB 48 = .ok (.putfield 15, 3) := by decide +kernel
theorem d51 : decode yB 51 = .ok (.aload_n 0, 1) := by decide +kernel
theorem d52 : decode yB 52 = .ok (.aload 5, 2) := by decide +kernel
theorem d54 : decode yB 54 = .ok (.putfield 9, 3) := by decide +kernel
theorem d57 : decode yB 57 = .ok (.return_, 1) := by decide +kernel
def site : List Cond := [.fieldLink "java/lang/String" 38 "java/lang/String" "COMPACT_STRINGS" "Z", Cmp3.tab, CodL.tab, .laysFinal "java/lang/String" "java/lang/String" "value" "[B", .fieldLink "java/lang/String" 9 "java/lang/String" "value" "[B", .laysFinal "java/lang/String" "java/lang/String" "coder" "B", .fieldLink "java/lang/String" 15 "java/lang/String" "coder" "B"] ++ objW "java/lang/String" 1 ++ staticW "java/lang/String" 177 Cmp3.yN ++ staticW "java/lang/String" 47 CodL.yN
def tab : Cond := tabOf yN yB 6 none site
def P (a : Addr) (D : Cell) (fV fC : Field) (b : Addr) (A : Cell) (z : Int32) (o len : Nat) (args : Array Value) (s : State) : Prop := args = #[.ref a, .ref b, .int (Int32.ofNat o), .int (Int32.ofNat len), .null] ∧ Blank "java/lang/String" a D s ∧ Found "java/lang/String" "value" "[B" fV s ∧ Found "java/lang/String" "coder" "B" fC s ∧ Ch b A s ∧ StaticIs s "java/lang/String" "COMPACT_STRINGS" "Z" (.int z) ∧ ¬ z = 0 ∧ 0 < len ∧ o + len ≤ A.slots.size ∧ len ≤ 536870912 ∧ ∀ i, i < len → ¬ 255 < cv A (o + i)
def E (a : Addr) (D : Cell) (fV fC : Field) (A : Cell) (o len : Nat) (r : Option Value) (s u : State) : Prop := Got a D fV fC A o len r s u
/-- len > 0, no char of the range above 255: a Latin-1 String of their low bytes -/
theorem law (l : Launch) (a : Addr) (D : Cell) (fV fC : Field) (b : Addr) (A : Cell) (z : Int32) (o len : Nat) : Law l yN 5 4 2 35 yB 6 none site (P a D fV fC b A z o len) (E a D fV fC A o len) [⟨a, fC.slot⟩, ⟨a, fV.slot⟩] 1 len := by
  refine Law.of_walk (plainFor_of_name (by decide +kernel)) (by decide +kernel) (by decide +kernel) (by decide) (fun _ _ h => by rw [h.1]; rfl) (fun _ U U' hal hh h => ⟨h.1, h.2.1.mv hal hh, h.2.2.1.al hal, h.2.2.2.1.al hal, h.2.2.2.2.1.mv hal hh, h.2.2.2.2.2.1.there hal hh, h.2.2.2.2.2.2⟩) (fun r U U' V V' h1 hal h2 h => Got.mv r U U' V V' h1 hal h2 h) ?_
  intro p e s m args below meth c s₁ X0 hexec hbytes hml hret hlk hnm hown hh0 W hP
  obtain ⟨rfl, hB, f1, f2, hA, s1, hz, l0, l1, l2, hp⟩ := hP
  have a31 := hA.1.2.2.2
  have c1 : Steps p.tables e below (s₁.setTop (entryFrame m #[.ref a, .ref b, .int (Int32.ofNat o), .int (Int32.ofNat len), .null] 6)) (s₁.setTop (mkF m 0 #[.val (.ref a), .val (.ref b), .val (.int (Int32.ofNat o)), .val (.int (Int32.ofNat len)), .val .null, .unset] [])) := entry rfl
  have c2 : Steps p.tables e below (s₁.setTop (entryFrame m #[.ref a, .ref b, .int (Int32.ofNat o), .int (Int32.ofNat len), .null] 6)) (s₁.setTop (mkF m 1 #[.val (.ref a), .val (.ref b), .val (.int (Int32.ofNat o)), .val (.int (Int32.ofNat len)), .val .null, .unset] [.ref a])) := c1.trans (by
    refine XS.aloadN X0.here hexec rfl (hb hbytes d0) rfl rfl ?_
    exact Steps.refl _)
  obtain ⟨T3, X3, q3, st3⟩ := X0.oinit hexec hown (wks W (objW "java/lang/String" 1)) (g := (mkF m 1 #[.val (.ref a), .val (.ref b), .val (.int (Int32.ofNat o)), .val (.int (Int32.ofNat len)), .val .null, .unset] [.ref a])) rfl (by rw [hml]; rfl) (rest := []) rfl (hb hbytes d1) (W := 0) (by show 2 * 0 + 0 ≤ _; decide) (Nat.le_of_ble_eq_true rfl) (Nat.le_of_ble_eq_true rfl)
  have hh3 := q3.trans hh0
  have c4 : Steps p.tables e below (s₁.setTop (entryFrame m #[.ref a, .ref b, .int (Int32.ofNat o), .int (Int32.ofNat len), .null] 6)) (T3.setTop (mkF m 27 #[.val (.ref a), .val (.ref b), .val (.int (Int32.ofNat o)), .val (.int (Int32.ofNat len)), .val .null, .unset] [])) := (c2.trans (st3 _ (Steps.refl _))).trans (by
    refine XS.iloadN X3.here hexec rfl (hb hbytes d4) rfl ?_
    refine XS.ifYes X3.here hexec rfl (pc0 := 5) rfl (hb hbytes d5) rfl (i0_ne_t (nz32 (by omega) l0)) (by decide) rfl ?_
    exact Steps.refl _)
  obtain ⟨T5, X5, q5, st5⟩ := X3.sget hexec hown (wk W (.fieldLink "java/lang/String" 38 "java/lang/String" "COMPACT_STRINGS" "Z")) s1 (fun _ _ h => by rw [hh3]; exact h) (g := (mkF m 27 #[.val (.ref a), .val (.ref b), .val (.int (Int32.ofNat o)), .val (.int (Int32.ofNat len)), .val .null, .unset] [])) rfl (hb hbytes d27)
  have hh5 := q5.trans hh3
  have c6 : Steps p.tables e below (s₁.setTop (entryFrame m #[.ref a, .ref b, .int (Int32.ofNat o), .int (Int32.ofNat len), .null] 6)) (T5.setTop (mkF m 30 #[.val (.ref a), .val (.ref b), .val (.int (Int32.ofNat o)), .val (.int (Int32.ofNat len)), .val .null, .unset] [.int z])) := c4.trans (st5 _ (Steps.refl _))
  have c7 : Steps p.tables e below (s₁.setTop (entryFrame m #[.ref a, .ref b, .int (Int32.ofNat o), .int (Int32.ofNat len), .null] 6)) (T5.setTop (mkF m 36 #[.val (.ref a), .val (.ref b), .val (.int (Int32.ofNat o)), .val (.int (Int32.ofNat len)), .val .null, .unset] [.int (Int32.ofNat len), .int (Int32.ofNat o), .ref b])) := c6.trans (by
    refine XS.ifNo X5.here hexec rfl (hb hbytes d30) rfl (i0_eq_f hz) ?_
    refine XS.aloadN X5.here hexec rfl (hb hbytes d33) rfl rfl ?_
    refine XS.iloadN X5.here hexec rfl (hb hbytes d34) rfl ?_
    refine XS.iloadN X5.here hexec rfl (hb hbytes d35) rfl ?_
    exact Steps.refl _)
  obtain ⟨v8, T8, X8, E8, g8⟩ := X5.callS hexec (Cmp3.law l b A o len) hown (wks W (staticW "java/lang/String" 177 Cmp3.yN)) (wk W Cmp3.tab) (W := 0) (Nat.le_of_ble_eq_true rfl) (Nat.le_of_ble_eq_true rfl) (Nat.le_refl _) (by show 0 + len ≤ len; omega) (g := (mkF m 36 #[.val (.ref a), .val (.ref b), .val (.int (Int32.ofNat o)), .val (.int (Int32.ofNat len)), .val .null, .unset] [.int (Int32.ofNat len), .int (Int32.ofNat o), .ref b])) rfl (by rw [hml]; rfl) c7 (argsL := [.ref b, .int (Int32.ofNat o), .int (Int32.ofNat len)]) (rest := []) rfl rfl (by show 2 * 0 + 0 ≤ _; decide) (hb hbytes d36) (⟨rfl, hA.mv X5.warmed.alike hh5, l1, l2, hp⟩)
  obtain ⟨e8, z8⟩ := E8
  obtain ⟨rfl, N, n1, n2, n3, n4, n5, n6⟩ := NewArr.mv _ T5 s _ _ hh5.symm (Vm.Alike.refl _) rfl e8
  rw [hh5] at z8
  have hB1 := hB.keep X8.warmed.alike (n6 _ _ hB.1)
  have hne : s.heap.size ≠ a := (Nat.ne_of_lt (Array.getElem?_eq_some_iff.mp hB.1).1).symm
  have c9 : Steps p.tables e below (s₁.setTop (entryFrame m #[.ref a, .ref b, .int (Int32.ofNat o), .int (Int32.ofNat len), .null] 6)) (T8.setTop (mkF m 39 #[.val (.ref a), .val (.ref b), .val (.int (Int32.ofNat o)), .val (.int (Int32.ofNat len)), .val .null, .unset] [.ref s.heap.size])) := g8
  have c10 : Steps p.tables e below (s₁.setTop (entryFrame m #[.ref a, .ref b, .int (Int32.ofNat o), .int (Int32.ofNat len), .null] 6)) (T8.setTop (mkF m 45 #[.val (.ref a), .val (.ref b), .val (.int (Int32.ofNat o)), .val (.int (Int32.ofNat len)), .val .null, .val (.ref s.heap.size)] [.int (Int32.ofNat N.slots.size), .ref s.heap.size, .ref a])) := by
    have hc : Steps p.tables e below (s₁.setTop (entryFrame m #[.ref a, .ref b, .int (Int32.ofNat o), .int (Int32.ofNat len), .null] 6)) (T8.setTop (mkF m 45 #[.val (.ref a), .val (.ref b), .val (.int (Int32.ofNat o)), .val (.int (Int32.ofNat len)), .val .null, .val (.ref s.heap.size)] [.int (Int32.ofNat len), .ref s.heap.size, .ref a])) := c9.trans (by
      refine XS.astore X8.here hexec rfl (hb hbytes d39) rfl rfl rfl ?_
      refine XS.aloadN X8.here hexec rfl (hb hbytes d41) rfl rfl ?_
      refine XS.aload X8.here hexec rfl (hb hbytes d42) rfl rfl ?_
      refine XS.iloadN X8.here hexec rfl (hb hbytes d44) rfl ?_
      exact Steps.refl _)
    rw [n4]; exact hc
  obtain ⟨v11, T11, X11, E11, g11⟩ := X8.callS hexec (CodL.law l s.heap.size N) hown (wks W (staticW "java/lang/String" 47 CodL.yN)) (wk W CodL.tab) (W := 1) (Nat.le_of_ble_eq_true rfl) (Nat.le_of_ble_eq_true rfl) (Nat.le_refl _) (by show 0 + len + 0 ≤ len; omega) (g := (mkF m 45 #[.val (.ref a), .val (.ref b), .val (.int (Int32.ofNat o)), .val (.int (Int32.ofNat len)), .val .null, .val (.ref s.heap.size)] [.int (Int32.ofNat N.slots.size), .ref s.heap.size, .ref a])) rfl (by rw [hml]; rfl) c10 (argsL := [.ref s.heap.size, .int (Int32.ofNat N.slots.size)]) (rest := [.ref a]) rfl rfl (by show 2 * 0 + (1 + 0) ≤ _; decide) (hb hbytes d45) (⟨rfl, n1⟩)
  obtain ⟨rfl, q11⟩ := E11
  have hB11 := hB1.mv (X8.warmed.alike.symm.trans X11.warmed.alike) q11
  have c12 : Steps p.tables e below (s₁.setTop (entryFrame m #[.ref a, .ref b, .int (Int32.ofNat o), .int (Int32.ofNat len), .null] 6)) (T11.setTop (mkF m 48 #[.val (.ref a), .val (.ref b), .val (.int (Int32.ofNat o)), .val (.int (Int32.ofNat len)), .val .null, .val (.ref s.heap.size)] [.int 0, .ref a])) := g11
  obtain ⟨T13, X13, p13, bl13, sl13, st13⟩ := X11.finit hexec hown (wk W (.fieldLink "java/lang/String" 15 "java/lang/String" "coder" "B")) (Or.inr ⟨_, (wk W (.laysFinal "java/lang/String" "java/lang/String" "coder" "B"))⟩) (Or.inl ⟨rfl, hnm⟩) f2 (Or.inl rfl) hB11 (t := .byte) (by decide +kernel) rfl (g := (mkF m 48 #[.val (.ref a), .val (.ref b), .val (.int (Int32.ofNat o)), .val (.int (Int32.ofNat len)), .val .null, .val (.ref s.heap.size)] [.int 0, .ref a])) rfl (rest := []) rfl (hb hbytes d48)
  have c14 : Steps p.tables e below (s₁.setTop (entryFrame m #[.ref a, .ref b, .int (Int32.ofNat o), .int (Int32.ofNat len), .null] 6)) (T13.setTop (mkF m 54 #[.val (.ref a), .val (.ref b), .val (.int (Int32.ofNat o)), .val (.int (Int32.ofNat len)), .val .null, .val (.ref s.heap.size)] [.ref s.heap.size, .ref a])) := (c12.trans (st13 _ (Steps.refl _))).trans (by
    refine XS.aloadN X13.here hexec rfl (hb hbytes d51) rfl rfl ?_
    refine XS.aload X13.here hexec rfl (hb hbytes d52) rfl rfl ?_
    exact Steps.refl _)
  obtain ⟨T15, X15, p15, bl15, sl15, st15⟩ := X13.finit hexec hown (wk W (.fieldLink "java/lang/String" 9 "java/lang/String" "value" "[B")) (Or.inr ⟨_, (wk W (.laysFinal "java/lang/String" "java/lang/String" "value" "[B"))⟩) (Or.inl ⟨rfl, hnm⟩) f1 (Or.inl rfl) bl13 (t := (.array .byte)) (by decide +kernel) rfl (g := (mkF m 54 #[.val (.ref a), .val (.ref b), .val (.int (Int32.ofNat o)), .val (.int (Int32.ofNat len)), .val .null, .val (.ref s.heap.size)] [.ref s.heap.size, .ref a])) rfl (rest := []) rfl (hb hbytes d54)
  have c16 : Steps p.tables e below (s₁.setTop (entryFrame m #[.ref a, .ref b, .int (Int32.ofNat o), .int (Int32.ofNat len), .null] 6)) (T15.setTop (mkF m 57 #[.val (.ref a), .val (.ref b), .val (.int (Int32.ofNat o)), .val (.int (Int32.ofNat len)), .val .null, .val (.ref s.heap.size)] [])) := c14.trans (st15 _ (Steps.refl _))
  have ap := apart (Or.inr ⟨_, (wk W (.laysFinal "java/lang/String" "java/lang/String" "value" "[B"))⟩) (Or.inr ⟨_, (wk W (.laysFinal "java/lang/String" "java/lang/String" "coder" "B"))⟩) f1 f2 (t₁ := .array .byte) (t₂ := .byte) (by decide +kernel) (by decide +kernel) (by decide)
  have al := X8.warmed.alike.symm.trans X15.warmed.alike
  have n7 : T11.heap[s.heap.size]? = some N := by rw [q11]; exact n1.1
  exact ⟨T15, none, _, _, _, X15, by simp, rfl, by omega, (fun _ => rfl), ⟨rfl, _, N, bl15, ((Same.refl D _).set _ (by simp)).set _ (by simp), sl15, (Cell.slots_setSlot_ne _ ap).trans sl13, n1.keep al (p15.other hne (p13.other hne n7)), n2, by rw [al.findClass]; exact n3, n4, n5, fun y c h1 h2 => p15.other h1 (p13.other h1 (by rw [q11]; exact n6 y c h2)), by rw [p15.2.2, p13.2.2, q11]; exact z8⟩, fun fs hl => c16.trans (X15.returnOut hexec hret (hb hbytes d57) hl)⟩
end New4
namespace New1
def yN : MethodName := ⟨"java/lang/String", "<init>", "([C)V"⟩
abbrev yB : ByteArray := jdk_42_method_3_code
theorem d0 : decode yB 0 = .ok (.aload_n 0, 1) := by decide +kernel
theorem d1 : decode yB 1 = .ok (.aload_n 1, 1) := by decide +kernel
theorem d2 : decode yB 2 = .ok (.iconst 0, 1) := by decide +kernel
theorem d3 : decode yB 3 = .ok (.aload_n 1, 1) := by decide +kernel
theorem d4 : decode yB 4 = .ok (.arraylength, 1) := by decide +kernel
theorem d5 : decode yB 5 = .ok (.aconst_null, 1) := by decide +kernel
theorem d6 : decode yB 6 = .ok (.invokespecial 27, 3) := by decide +kernel
theorem d9 : decode yB 9 = .ok (.return_, 1) := by decide +kernel
def site : List Cond := [New4.tab] ++ initW "java/lang/String" 27 New4.yN
def tab : Cond := tabOf yN yB 2 none site
def P (a : Addr) (D : Cell) (fV fC : Field) (b : Addr) (A : Cell) (z : Int32) (args : Array Value) (s : State) : Prop := args = #[.ref a, .ref b] ∧ Blank "java/lang/String" a D s ∧ Found "java/lang/String" "value" "[B" fV s ∧ Found "java/lang/String" "coder" "B" fC s ∧ Ch b A s ∧ StaticIs s "java/lang/String" "COMPACT_STRINGS" "Z" (.int z) ∧ ¬ z = 0 ∧ 0 < A.slots.size ∧ A.slots.size ≤ 536870912 ∧ ∀ i, i < A.slots.size → ¬ 255 < cv A i
def E (a : Addr) (D : Cell) (fV fC : Field) (A : Cell) (r : Option Value) (s u : State) : Prop := Got a D fV fC A 0 A.slots.size r s u
/-- new String(chars), not empty, no char above 255: a Latin-1 String of their low bytes -/
theorem law (l : Launch) (a : Addr) (D : Cell) (fV fC : Field) (b : Addr) (A : Cell) (z : Int32) : Law l yN 2 1 3 52 yB 2 none site (P a D fV fC b A z) (E a D fV fC A) [⟨a, fC.slot⟩, ⟨a, fV.slot⟩] 1 A.slots.size := by
  refine Law.of_walk (plainFor_of_name (by decide +kernel)) (by decide +kernel) (by decide +kernel) (by decide) (fun _ _ h => by rw [h.1]; rfl) (fun _ U U' hal hh h => ⟨h.1, h.2.1.mv hal hh, h.2.2.1.al hal, h.2.2.2.1.al hal, h.2.2.2.2.1.mv hal hh, h.2.2.2.2.2.1.there hal hh, h.2.2.2.2.2.2⟩) (fun r U U' V V' h1 hal h2 h => Got.mv r U U' V V' h1 hal h2 h) ?_
  intro p e s m args below meth c s₁ X0 hexec hbytes hml hret hlk hnm hown hh0 W hP
  obtain ⟨rfl, hB, f1, f2, hA, s1, hz, l0, l2, hp⟩ := hP
  have c1 : Steps p.tables e below (s₁.setTop (entryFrame m #[.ref a, .ref b] 2)) (s₁.setTop (mkF m 0 #[.val (.ref a), .val (.ref b)] [])) := entry rfl
  have c2 : Steps p.tables e below (s₁.setTop (entryFrame m #[.ref a, .ref b] 2)) (s₁.setTop (mkF m 6 #[.val (.ref a), .val (.ref b)] [.null, .int (Int32.ofNat A.slots.size), .int 0, .ref b, .ref a])) := c1.trans (by
    refine XS.aloadN X0.here hexec rfl (hb hbytes d0) rfl rfl ?_
    refine XS.aloadN X0.here hexec rfl (hb hbytes d1) rfl rfl ?_
    refine iconstV X0.here hexec rfl 0 (hb hbytes d2) (by decide) ?_
    refine XS.aloadN X0.here hexec rfl (hb hbytes d3) rfl rfl ?_
    refine X0.alen hexec (hA.1.mv X0.warmed.alike hh0) rfl rfl (hb hbytes d4) ?_
    refine XS.aconstNull X0.here hexec rfl (hb hbytes d5) ?_
    exact Steps.refl _)
  obtain ⟨v3, T3, X3, E3, g3⟩ := X0.callN hexec (New4.law l a D fV fC b A z 0 A.slots.size) rfl hown (wks W (initW "java/lang/String" 27 New4.yN)) (W New4.tab (by simp only [site, List.mem_cons, List.mem_append, true_or, or_true])) (W := 0) (Nat.le_of_ble_eq_true rfl) (Nat.le_of_ble_eq_true rfl) (Nat.le_refl _) (by show 0 + A.slots.size ≤ A.slots.size; omega) (g := (mkF m 6 #[.val (.ref a), .val (.ref b)] [.null, .int (Int32.ofNat A.slots.size), .int (Int32.ofNat 0), .ref b, .ref a])) rfl (by rw [hml]; rfl) c2 (argsL := [.ref b, .int (Int32.ofNat 0), .int (Int32.ofNat A.slots.size), .null]) (rest := []) rfl rfl (by show 2 * 0 + 0 ≤ _; decide) (hb hbytes d6) (⟨rfl, hB.mv X0.warmed.alike hh0, f1.al X0.warmed.alike, f2.al X0.warmed.alike, hA.mv X0.warmed.alike hh0, s1.there X0.warmed.alike hh0, hz, l0, by omega, l2, fun i hi => by rw [Nat.zero_add]; exact hp i hi⟩)
  have e0 := Got.mv _ s₁ s _ _ hh0.symm (Vm.Alike.refl _) rfl E3
  obtain rfl := e0.1
  have c4 : Steps p.tables e below (s₁.setTop (entryFrame m #[.ref a, .ref b] 2)) (T3.setTop (mkF m 9 #[.val (.ref a), .val (.ref b)] [])) := g3
  exact ⟨T3, none, _, _, _, X3, by simp, rfl, by omega, (fun _ => rfl), e0, fun fs hl => c4.trans (X3.returnOut hexec hret (hb hbytes d9) hl)⟩
theorem pays {l : Launch} {R : Room} {p : Program} {e : Env} {below : List Frame} {s : State} {sargs : Array Value} {len W : Nat} (a : Addr) (D : Cell) (fV fC : Field) (b : Addr) (A : Cell) (z : Int32) (htab : tab.before sargs s = true) (hfr : 4 ≤ R.frames) (hlo : W + 65 ≤ R.locals) :
    Back l R p e below s sargs yN len W (fun A₁ a₁ => A₁.cells + 1 ≤ R.cells ∧ A₁.slots + A.slots.size ≤ R.slots ∧ P a D fV fC b A z a₁ A₁.U) (fun A₁ _ v₁ B₁ => E a D fV fC A v₁ A₁.U B₁.U ∧ B₁.locs = A₁.locs ++ [⟨a, fC.slot⟩, ⟨a, fV.slot⟩] ∧ B₁.cells = A₁.cells + 1 ∧ B₁.slots = A₁.slots + A.slots.size) :=
  (law l a D fV fC b A z).pays htab hfr (by omega)
end New1
end StrChars
namespace StrChars.Road
open Jvm Sem ClassFile Op Lib Jvm.Stand Jvm.Free Jvm.Free.XT
open Jvm.Lib.Cold (StaticIs)
abbrev ST : String := "java/lang/String"
/-- every table word that New1's law asks, flat -/
abbrev words : List Jvm.Cond := [.code New1.yN New1.yB 2 none, .initialized ST, .methodLink ST 27 New4.yN, .instanceMethod New4.yN,
  .code New4.yN New4.yB 6 none, .fieldLink ST 38 ST "COMPACT_STRINGS" "Z", .laysFinal ST ST "value" "[B", .fieldLink ST 9 ST "value" "[B", .laysFinal ST ST "coder" "B", .fieldLink ST 15 ST "coder" "B",
  .methodLink ST 1 Lib.objectInit, .instanceMethod Lib.objectInit, .code Lib.objectInit ⟨#[0xb1]⟩ 1 none, .methodLink ST 177 Cmp3.yN, .static Cmp3.yN, .methodLink ST 47 CodL.yN, .static CodL.yN,
  .code Cmp3.yN Cmp3.yB 6 (some (.array .byte)), .initialized U16, .arrayClass .byte, .methodLink U16 115 Cmp5.yN, .static Cmp5.yN, .code Cmp5.yN Cmp5.yB 7 (some .int), .code CodL.yN CodL.yB 2 (some .byte)]
theorem tab_of {a : Array Value} {s : State} (h : ∀ w ∈ words, w.before a s = true) : New1.tab.before a s = true := by
  have h5 : Cmp5.tab.before a s = true := unparts (wk h (.code Cmp5.yN Cmp5.yB 7 (some .int))) (wks h (.initialized Cmp5.yN.cls :: Cmp5.site))
  have hc : CodL.tab.before a s = true := unparts (wk h (.code CodL.yN CodL.yB 2 (some .byte))) (wks h (.initialized CodL.yN.cls :: CodL.site))
  have q5 : ∀ w ∈ Cmp5.tab :: words, w.before a s = true := fun w hw => (List.mem_cons.mp hw).elim (fun e => e ▸ h5) (h w)
  have h3 : Cmp3.tab.before a s = true := unparts (wk q5 (.code Cmp3.yN Cmp3.yB 6 (some (.array .byte)))) (wks q5 (.initialized Cmp3.yN.cls :: Cmp3.site))
  have q3 : ∀ w ∈ Cmp3.tab :: CodL.tab :: words, w.before a s = true := fun w hw => (List.mem_cons.mp hw).elim (fun e => e ▸ h3) fun hw => (List.mem_cons.mp hw).elim (fun e => e ▸ hc) (h w)
  have h4 : New4.tab.before a s = true := unparts (wk q3 (.code New4.yN New4.yB 6 none)) (wks q3 (.initialized New4.yN.cls :: New4.site))
  have q4 : ∀ w ∈ New4.tab :: words, w.before a s = true := fun w hw => (List.mem_cons.mp hw).elim (fun e => e ▸ h4) (h w)
  exact unparts (wk q4 (.code New1.yN New1.yB 2 none)) (wks q4 (.initialized New1.yN.cls :: New1.site))
/-- the words ride from the start Z to the walk's own state -/
theorem moved {Z s : State} {a0 args : Array Value} (hZ : Z.Warmed39 s.vm) (hw : ∀ d ∈ words, d.before a0 Z = true) : ∀ d ∈ words, d.before args s = true := fun d hd => by
  have q := hw d hd
  have t : ∀ d ∈ words, d = .arrayClass .byte ∨ (d.onTables && d.keepsFace) = true := by decide +kernel
  rcases t d hd with rfl | t
  · exact RoadKit.mvA hZ q
  · exact RoadKit.mv hZ q t
/-- WHAT COMES BACK, over the tables of the start Z: h the heap at the call, h' behind it -/
def Q (Z : State) (x : Addr) (A : Cell) (h : Heap) (v : Option Value) (h' : Heap) (L : List Loc) : Prop := v = none ∧ (∀ y ∈ L, y.base = x) ∧ RoadKit.Keep h h' [x] ∧ h'.size = h.size + 1 ∧ RoadKit.Exa Z h' x ST ∧ RoadKit.Fld Z h' x ST "value" "[B" (.ref h.size) ∧ RoadKit.Fld Z h' x ST "coder" "B" (.int 0) ∧
  (∃ V : Cell, RoadKit.Arr Z h' h.size V .byte ∧ V.vm = .none ∧ Z.vm.findClass "[B" = some V.cls ∧ V.slots.size = A.slots.size ∧ ∀ j, j < A.slots.size → V.slots[j]? = some (.int (lo8 (cv A j)))) ∧
  ∀ (O n d : String) (w : Value), RoadKit.Fld Z h x O n d w → RoadKit.slotOf Z O n d ≠ RoadKit.slotOf Z ST "value" "[B" → RoadKit.slotOf Z O n d ≠ RoadKit.slotOf Z ST "coder" "B" → RoadKit.Fld Z h' x O n d w
/-- **new String(chars) AT A CALL, IN THE ROAD'S FORM**: for specialBack behind newO: x the fresh String, b the char[] with the cell A -/
theorem back {p : Program} {l : Launch} {e : Env} {R : Room} {s : State} {args : Array Value} {below : List Frame} {len W : Nat} {Z : State} {a0 : Array Value} {h : Heap} (hZ : Z.Warmed39 s.vm) (hw : ∀ d ∈ words, d.before a0 Z = true) {kI : Nat} (wi : (Jvm.Cond.instantiable ST kI).before a0 Z = true)
    {x b : Addr} {A : Cell} {z : Int32} {v0 c0 : Value} (E : RoadKit.Exa Z h x ST) (V : RoadKit.Fld Z h x ST "value" "[B" v0) (C : RoadKit.Fld Z h x ST "coder" "B" c0) (K : RoadKit.Arr Z h b A .char) (hty : Typed .char A) (S : RoadKit.Sta Z h ST "COMPACT_STRINGS" "Z" (.int z)) (hz : ¬ z = 0)
    (l0 : 0 < A.slots.size) (l2 : A.slots.size ≤ 536870912) (hp : ∀ i, i < A.slots.size → ¬ 255 < cv A i) (hfr : 4 ≤ R.frames) (hlo : W + 65 ≤ R.locals) :
    Back l R p e below s args New1.yN len W (fun P a => a = #[.ref x, .ref b] ∧ P.U.heap = h ∧ P.cells + 1 ≤ R.cells ∧ P.slots + A.slots.size ≤ R.slots)
      (fun P _ v B => ∃ L, Q Z x A h v B.U.heap L ∧ B.locs = P.locs ++ L ∧ B.cells = P.cells + 1 ∧ B.slots = P.slots + A.slots.size) := by
  intro m meth c P g ig mk a X hg hsize hdg hW hn hp'
  obtain ⟨rfl, rfl, r1, r2⟩ := hp'
  have al : Z.vm.Alike P.U.vm := hZ.alike.trans X.warmed.alike
  obtain ⟨D, cfV, kV, iV, fV, hD, gV, stV, knV, obV, asV, slV⟩ := id V
  obtain ⟨D', cfC, kC, iC, fC, hD', gC, stC, -, -, asC, slC⟩ := id C
  cases hD.symm.trans hD'
  obtain ⟨D2, kD, e1, e2, e3, e4, e5⟩ := id E
  cases hD.symm.trans e1
  obtain ⟨c2, k2, i1, i2, i3, -⟩ := Cond.instantiable_spec wi
  cases e2.symm.trans i1
  cases e3.symm.trans i2
  obtain ⟨kU, u1, u2⟩ := al.2.2 _ _ e3
  have hB : Blank ST x D P.U := ⟨hD, ⟨knV, fun q hq => by rw [hq] at obV; cases obV⟩, by rw [al.findClass]; exact e2, kU, u1, by rw [u2]; exact i3, by rw [u2]; exact e5 i3⟩
  have F1 : Found ST "value" "[B" fV P.U := ⟨SBG.found_only al ⟨cfV, kV, iV, gV⟩, stV⟩
  have F2 : Found ST "coder" "B" fC P.U := ⟨SBG.found_only al ⟨cfC, kC, iC, gC⟩, stC⟩
  have hA : Ch b A P.U := ⟨⟨K.1, State.isArrayOf_alike al K.2.1, K.2.2, by omega⟩, hty⟩
  have hS : StaticIs P.U ST "COMPACT_STRINGS" "Z" (.int z) := by
    obtain ⟨cfS, iS, kS, fS, st, cS, t1, t2, t3, t4, t5, t6, t7⟩ := S
    exact StaticIs.there (s := { Z with heap := P.U.heap }) ⟨cfS, iS, kS, fS, st, cS, t1, t2, t3, t4, t5, (fun q => by rw [q] at t6; cases t6), t7⟩ al rfl
  obtain ⟨v, B, X', ⟨⟨hv, E', V', q1, q2, q3, q4, q5, q6, q7, q8, q9, q10, q11⟩, hl, hc, hs⟩, st⟩ := New1.pays x D fV fC b A z (tab_of (moved hZ hw)) hfr hlo m meth c P g ig mk _ X hg hsize hdg hW hn ⟨r1, r2, rfl, hB, F1, F2, hA, hS, hz, l0, l2, hp⟩
  have al' : Z.vm.Alike B.U.vm := hZ.alike.trans X'.warmed.alike
  have hsz : E'.slots.size = D.slots.size := by
    obtain ⟨-, -, -, kB, w1, w2, w3⟩ := q1
    obtain ⟨kB', y1, y2⟩ := al'.2.2 _ _ e3
    rw [q2.2.1] at w1
    cases w1.symm.trans y1
    rw [w3, e5 i3, y2]
  refine ⟨v, B, X', ⟨_, ⟨hv, ?_, ⟨by omega, fun y cy hy hn' => q10 y cy (by simpa using hn') hy, fun y cy hy => ?_⟩, q11, ⟨E', _, q1.1, by rw [q2.2.1]; exact e2, by rw [q2.2.1]; exact e3, by rw [q2.1]; exact obV, fun _ => by rw [hsz]; exact e5 i3⟩,
    ⟨E', cfV, kV, iV, fV, q1.1, gV, stV, by rw [q2.1]; exact knV, by rw [q2.1]; exact obV, by rw [q2.2.1]; exact asV, q3⟩, ⟨E', cfC, kC, iC, fC, q1.1, gC, stC, by rw [q2.1]; exact knV, by rw [q2.1]; exact obV, by rw [q2.2.1]; exact asC, q4⟩,
    ⟨V', ⟨q5.1, State.isArrayOf_alike al'.symm q5.2.1, q5.2.2.1⟩, q6, by rw [← al'.findClass]; exact q7, q8, fun j hj => by have := q9 j hj; rwa [Nat.zero_add] at this⟩, fun O n d w F n1 n2 => ?_⟩, hl, hc, hs⟩, st⟩
  · intro y hy
    simp only [List.mem_cons, List.not_mem_nil, or_false] at hy
    rcases hy with rfl | rfl <;> rfl
  · by_cases q : y = x
    · subst q
      cases hD.symm.trans hy
      exact ⟨E', q1.1, q2.2.1, q2.1, hsz⟩
    · exact ⟨cy, q10 y cy q hy, rfl, rfl, rfl⟩
  · obtain ⟨D3, cf, k, i, f, g1, g2, g3, g4, g5, g6, g7⟩ := F
    cases hD.symm.trans g1
    simp only [RoadKit.slotOf, g2, gV, gC, Option.map_some, Option.getD_some] at n1 n2
    exact ⟨E', cf, k, i, f, q1.1, g2, g3, by rw [q2.1]; exact g4, by rw [q2.1]; exact g5, by rw [q2.2.1]; exact g6, by rw [q2.2.2 f.slot (by simp [n1, n2])]; exact g7⟩
end StrChars.Road
namespace StrChars.Road
open Jvm Sem ClassFile Op Lib Jvm.Stand Jvm.Free Jvm.Free.XT
/-- WHAT COMES BACK, the byte[] as a list of values -/
def QA (Z : State) (x : Addr) (zn : Int32) (cs : List Int32) (h : Heap) (v : Option Value) (h' : Heap) (L : List Loc) : Prop := v = none ∧ (∀ y ∈ L, y.base = x) ∧ RoadKit.Keep h h' [x] ∧ h'.size = h.size + 1 ∧ RoadKit.Exa Z h' x ST ∧ RoadKit.Fld Z h' x ST "value" "[B" (.ref h.size) ∧ RoadKit.Fld Z h' x ST "coder" "B" (.int 0) ∧
  (∃ kb, Z.vm.findClass "[B" = some kb ∧ RoadKit.Arv Z h' h.size kb .byte zn (cs.map fun c => .int (lo8 c)) (.int 0)) ∧
  ∀ (O n d : String) (w : Value), RoadKit.Fld Z h x O n d w → RoadKit.slotOf Z O n d ≠ RoadKit.slotOf Z ST "value" "[B" → RoadKit.slotOf Z O n d ≠ RoadKit.slotOf Z ST "coder" "B" → RoadKit.Fld Z h' x O n d w
/-- **new String(chars) AT A CALL, THE ARRAYS AS LISTS**: the char[] at b holds cs, not empty, no char above 255 -/
theorem backArv {p : Program} {l : Launch} {e : Env} {R : Room} {s : State} {args : Array Value} {below : List Frame} {len W : Nat} {Z : State} {a0 : Array Value} {h : Heap} (hZ : Z.Warmed39 s.vm) (hw : ∀ d ∈ words, d.before a0 Z = true) {kI : Nat} (wi : (Jvm.Cond.instantiable ST kI).before a0 Z = true)
    {x b : Addr} {k : ClassId} {zn z : Int32} {cs : List Int32} {dv v0 c0 : Value} (E : RoadKit.Exa Z h x ST) (V : RoadKit.Fld Z h x ST "value" "[B" v0) (C : RoadKit.Fld Z h x ST "coder" "B" c0) (K : RoadKit.Arv Z h b k .char zn (cs.map Value.int) dv) (S : RoadKit.Sta Z h ST "COMPACT_STRINGS" "Z" (.int z)) (hz : ¬ z = 0)
    (hlen : zn.toNatClampNeg = cs.length) (h0 : 0 < cs.length) (hbig : cs.length ≤ 536870912) (hall : ∀ c ∈ cs, ¬ 255 < c) (hfr : 4 ≤ R.frames) (hlo : W + 65 ≤ R.locals) :
    Back l R p e below s args New1.yN len W (fun P a => a = #[.ref x, .ref b] ∧ P.U.heap = h ∧ P.cells + 1 ≤ R.cells ∧ P.slots + cs.length ≤ R.slots)
      (fun P _ v B => ∃ L, QA Z x zn cs h v B.U.heap L ∧ B.locs = P.locs ++ L ∧ B.cells = P.cells + 1 ∧ B.slots = P.slots + cs.length) := by
  obtain ⟨A, K1, K2, K3, K4, K5, K6⟩ := K
  have e : A.slots.size = cs.length := K3.trans hlen
  have hat : ∀ (i : Nat) (hi : i < cs.length), A.slots[i]? = some (.int cs[i]) := fun i hi => by rw [K5 i (by omega)]; simp [List.getD_eq_getElem?_getD, hi]
  have hcv : ∀ (i : Nat) (hi : i < cs.length), cv A i = cs[i] := fun i hi => by unfold cv; rw [hat i hi]
  have hty : Typed .char A := fun i v hv => by
    have hi : i < A.slots.size := (Array.getElem?_eq_some_iff.mp hv).1
    have q := K5 i hi
    rw [hv] at q
    rw [Option.some.inj q]
    exact K6 i hi
  refine Back.mono (back hZ hw wi E V C K1 hty S hz (by omega) (by omega) (fun i hi => by rw [hcv i (by omega)]; exact hall _ (List.getElem_mem _)) hfr hlo) (fun P a hp => ⟨hp.1, hp.2.1, hp.2.2.1, by rw [e]; exact hp.2.2.2⟩) (fun P a v B hp hq => ?_)
  obtain ⟨L, ⟨q1, q2, q3, q4, q5, q6, q7, ⟨V', v1, v2, v3, v4, v5⟩, q9⟩, hl, hc, hs⟩ := hq
  refine ⟨L, ⟨q1, q2, q3, q4, q5, q6, q7, ⟨V'.cls, v3, V', v1, rfl, by rw [v4, e, hlen], K4, fun i hi => ?_, fun i hi => ?_⟩, q9⟩, hl, hc, by rw [hs, e]⟩
  · have hi' : i < cs.length := by omega
    rw [v5 i (by omega), hcv i hi']; simp [List.getD_eq_getElem?_getD, hi']
  · have hi' : i < cs.length := by omega
    simp only [List.getD_eq_getElem?_getD, List.getElem?_map, List.getElem?_eq_getElem hi', Option.map_some, Option.getD_some]
    exact fits_lo8 _
end StrChars.Road
namespace StrChars.Road
open Jvm Sem ClassFile Op Lib Jvm.Stand Jvm.Free Jvm.Free.XT
/-- WHAT COMES BACK, in the writer's own shape -/
def QV (Z : State) (x : Addr) (N : Int32) (bs : List Int32) (h : Heap) (n0 : Nat) (v : Option Value) (h' : Heap) (L : List Loc) : Prop := v = none ∧ RoadKit.Fr n0 L ∧ RoadKit.Keep h h' [x] ∧ RoadKit.Exa Z h' x ST ∧ RoadKit.Fld Z h' x ST "coder" "B" (.int 0) ∧
  ∃ (t : Addr) (kb : ClassId), n0 ≤ t ∧ h.size ≤ t ∧ ¬ t = x ∧ RoadKit.Fld Z h' x ST "value" "[B" (.ref t) ∧ RoadKit.Arv Z h' t kb .byte N (bs.map Value.int) (.int 0)
/-- **new String(chars) AT A CALL, FOR THE WRITER**: a char[] of n known ints, each 0 to 255 -/
theorem backV {p : Program} {l : Launch} {e : Env} {R : Room} {s : State} {args : Array Value} {below : List Frame} {len W : Nat} {Z : State} {a0 : Array Value} {h : Heap} (hZ : Z.Warmed39 s.vm) (hw : ∀ d ∈ words, d.before a0 Z = true) {kI : Nat} (wi : (Jvm.Cond.instantiable ST kI).before a0 Z = true)
    {x b : Addr} {kC : ClassId} {cs bs : List Int32} {d v0 c0 : Value} {z N : Int32} {n n0 : Nat} (hx0 : n0 ≤ x) (hh0 : n0 ≤ h.size) (E : RoadKit.Exa Z h x ST) (V : RoadKit.Fld Z h x ST "value" "[B" v0) (C : RoadKit.Fld Z h x ST "coder" "B" c0) (K : RoadKit.Arv Z h b kC .char N (cs.map Value.int) d) (S : RoadKit.Sta Z h ST "COMPACT_STRINGS" "Z" (.int z)) (hz : ¬ z = 0)
    (hn : cs.length = n) (hN : N = Int32.ofNat n) (l0 : 0 < n) (l2 : n ≤ 4000) (hp : ∀ c ∈ cs, ¬ c < 0 ∧ ¬ (255 : Int32) < c) (hb : bs = cs.map (fun c => c.toInt8.toInt32)) (hfr : 4 ≤ R.frames) (hlo : W + 65 ≤ R.locals) :
    Back l R p e below s args (⟨"java/lang/String", "<init>", "([C)V"⟩ : MethodName) len W (fun P a => a = #[.ref x, .ref b] ∧ P.U.heap = h ∧ P.cells + 1 ≤ R.cells ∧ P.slots + n ≤ R.slots)
      (fun P _ v B => ∃ L, QV Z x N bs h n0 v B.U.heap L ∧ B.locs = P.locs ++ L ∧ B.cells = P.cells + 1 ∧ B.slots = P.slots + n) := by
  subst hn hN hb
  refine Back.mono (backArv hZ hw wi E V C K S hz (n32 (by omega)) l0 (by omega) (fun c hc => (hp c hc).2) hfr hlo) (fun P a hp => hp) (fun P a v B hp hq => ?_)
  obtain ⟨L, ⟨q1, q2, q3, q4, q5, q6, q7, ⟨kb, v1, v2⟩, q9⟩, hl, hc, hs⟩ := hq
  exact ⟨L, ⟨q1, fun y hy => by rw [q2 y hy]; exact hx0, q3, q5, q7, h.size, kb, hh0, Nat.le_refl _, Nat.ne_of_gt E.lt, q6, by rw [List.map_map]; exact v2⟩, hl, hc, hs⟩
end StrChars.Road
end Jvm.Pilot.@@N@@

namespace Jvm.Pilot.@@N@@
open Jvm Jvm.ClassFile Sem Op Lib Jvm.Free Jvm.Stand Jvm.LawKit Jvm.RoadKit Bundle Jvm.Pilot.@@N@@.Jvm.D
theorem own_ch (x : Int32) : ¬ (nar .char ((x &&& (255 : Int32)).toUInt32.toUInt16.toUInt32.toInt32)) < 0 ∧ ¬ (255 : Int32) < (nar .char ((x &&& (255 : Int32)).toUInt32.toUInt16.toUInt32.toInt32)) := by
  have e1 : nar .char ((x &&& (255 : Int32)).toUInt32.toUInt16.toUInt32.toInt32) = x &&& 255 := by
    rw [i2c_mask]; exact i2c_mask x
  have e : (x &&& (255 : Int32)).toInt = x.toInt % 2 ^ 8 := Jvm.Kit.i32_mask x 255 (k := 8) (by decide) (by decide)
  have h1 := Int.emod_nonneg x.toInt (show (2 ^ 8 : Int) ≠ 0 by decide)
  have h2 := Int.emod_lt_of_pos x.toInt (show (0 : Int) < 2 ^ 8 by decide)
  have e0 : (0 : Int32).toInt = 0 := rfl
  have e255 : (255 : Int32).toInt = 255 := rfl
  rw [e1, Int32.lt_iff_toInt_lt, Int32.lt_iff_toInt_lt, e, e0, e255]; omega
def own_pick (p : Int32) (a0 a1 a2 a3 : Addr) : Addr := if (p &&& (3 : Int32)) = 0 then a0 else if (p &&& (3 : Int32)) = 1 then a1 else if (p &&& (3 : Int32)) = 2 then a2 else a3
theorem own_lc0 (x : Int64) : lcmpW x x = 0 := by rw [lcW]; exact (lc_eq x x).mpr rfl
theorem d7_0 : decode method_2_code 0 = .ok (.iload_n 0, 1) := by decide +kernel
theorem d7_1 : decode method_2_code 1 = .ok (.iconst 3, 1) := by decide +kernel
theorem d7_2 : decode method_2_code 2 = .ok (.iand, 1) := by decide +kernel
theorem d7_3 : decode method_2_code 3 = .ok (.istore_n 1, 1) := by decide +kernel
theorem d7_4 : decode method_2_code 4 = .ok (.iload_n 1, 1) := by decide +kernel
theorem d7_5 : decode method_2_code 5 = .ok (.ifCond .ne 7, 3) := by decide +kernel
theorem d7_8 : decode method_2_code 8 = .ok (.getstatic 7, 3) := by decide +kernel
theorem d7_11 : decode method_2_code 11 = .ok (.areturn, 1) := by decide +kernel
theorem d7_12 : decode method_2_code 12 = .ok (.iload_n 1, 1) := by decide +kernel
theorem d7_13 : decode method_2_code 13 = .ok (.iconst 1, 1) := by decide +kernel
theorem d7_14 : decode method_2_code 14 = .ok (.if_icmp .ne 7, 3) := by decide +kernel
theorem d7_17 : decode method_2_code 17 = .ok (.getstatic 13, 3) := by decide +kernel
theorem d7_20 : decode method_2_code 20 = .ok (.areturn, 1) := by decide +kernel
theorem d7_21 : decode method_2_code 21 = .ok (.iload_n 1, 1) := by decide +kernel
theorem d7_22 : decode method_2_code 22 = .ok (.iconst 2, 1) := by decide +kernel
theorem d7_23 : decode method_2_code 23 = .ok (.if_icmp .ne 7, 3) := by decide +kernel
theorem d7_26 : decode method_2_code 26 = .ok (.getstatic 16, 3) := by decide +kernel
theorem d7_29 : decode method_2_code 29 = .ok (.areturn, 1) := by decide +kernel
theorem d7_30 : decode method_2_code 30 = .ok (.getstatic 19, 3) := by decide +kernel
theorem d7_33 : decode method_2_code 33 = .ok (.areturn, 1) := by decide +kernel
theorem pn_0 : plainName "com/example/fyfo/fyfo/JobWithStatusPinLaw" = true := by first | (simp [plainName, overriddenIn]; done) | decide +kernel
theorem ef_7 (m : MethodId) (x0 : Int32) : entryFrame m #[(.int x0)] 2 = mkF m 0 #[.val (.int x0), .unset] [] := by first | (simp [entryFrame, mkF, argsToLocals, Value.category]; done) | rfl
def Q_rm_pick (Z : State) (p0 : Int32) (w_PLANNED : Addr) (w_TRIGGERED : Addr) (w_EXECUTED : Addr) (w_FAILED : Addr) (h0 : Heap) (n0 : Nat) (v : Option Value) (h : Heap) (L : List Loc) : Prop := v = some (.ref (own_pick p0 w_PLANNED w_TRIGGERED w_EXECUTED w_FAILED)) ∧ Fr n0 L ∧ h = h0
set_option maxRecDepth 65536 in
set_option maxHeartbeats 40000000 in
theorem rm_pick (l : Launch) (Z : State) (a0 : Array Value) (hw : ∀ d ∈ tables_1, d.before a0 Z = true) (ws : List Jvm.Cond) (p0 : Int32) (w_PLANNED : Addr) (w_TRIGGERED : Addr) (w_EXECUTED : Addr) (w_FAILED : Addr) (h0 : Heap) (n0 : Nat) (Z0 : n0 ≤ h0.size) (S_PLANNED : Sta Z h0 "com/example/fyfo/fyfo/JobStatus" "PLANNED" "Lcom/example/fyfo/fyfo/JobStatus;" (.ref w_PLANNED)) (S_TRIGGERED : Sta Z h0 "com/example/fyfo/fyfo/JobStatus" "TRIGGERED" "Lcom/example/fyfo/fyfo/JobStatus;" (.ref w_TRIGGERED)) (S_EXECUTED : Sta Z h0 "com/example/fyfo/fyfo/JobStatus" "EXECUTED" "Lcom/example/fyfo/fyfo/JobStatus;" (.ref w_EXECUTED)) (S_FAILED : Sta Z h0 "com/example/fyfo/fyfo/JobStatus" "FAILED" "Lcom/example/fyfo/fyfo/JobStatus;" (.ref w_FAILED)) :
    MetFree l (⟨"com/example/fyfo/fyfo/JobWithStatusPinLaw", "pick", "(I)Lcom/example/fyfo/fyfo/JobStatus;"⟩ : MethodName) (head1 (Jvm.Cond.code (⟨"com/example/fyfo/fyfo/JobWithStatusPinLaw", "pick", "(I)Lcom/example/fyfo/fyfo/JobStatus;"⟩ : MethodName) method_2_code 2 (some (.object "com/example/fyfo/fyfo/JobStatus")) :: ws) ({ frames := 0, cells := 0, slots := 0, locals := 0 } : Room)) (fun a U => a = #[(.int p0)] ∧ Z.Warmed39 U.vm ∧ U.heap = h0) (fun _ _ _ _ _ => True) (fun _ U o U' => ∃ v L, o = .returned v ∧ Q_rm_pick Z p0 w_PLANNED w_TRIGGERED w_EXECUTED w_FAILED h0 n0 v U'.heap L ∧ FrameEnd U o U' L ({ frames := 0, cells := 0, slots := 0, locals := 0 } : Room).cells ({ frames := 0, cells := 0, slots := 0, locals := 0 } : Room).slots) := by
  refine MetFree.of_bodySF (plainFor_of_name pn_0) hisR ?_
  intro p e s m args below meth c s₁ Bd hml0 hP hK
  obtain ⟨rfl, hZ, hh⟩ := hP
  have hx := Bd.exec
  have hby := Bd.bytes
  have hml : c.maxLocals = 2 := hml0
  have hown : s.vm.findClass "com/example/fyfo/fyfo/JobWithStatusPinLaw" = some m.cls := findClass_of_methodNamed Bd.named
  have hnm := (name_of_methodNamed Bd.named Bd.method).1
  have X0 : Stand p l e ({ frames := 0, cells := 0, slots := 0, locals := 0 } : Room) s m #[(.int p0)] below meth c s₁ [] 0 0 := Stand.of_body Bd
  have e0 : s₁.heap = h0 := by rw [← hh, Bd.state]; rfl
  have N0 := Fr.nil n0
  have pre0 : ∀ t, Steps p.tables e below (s₁.setTop (mkF m 0 #[.val (.int p0), .unset] [])) t → Steps p.tables e below (s₁.setTop (entryFrame m #[(.int p0)] 2)) t := fun t k => castTop (ef_7 m p0) k
  have k1 : ∀ target, Steps p.tables e below (s₁.setTop (mkF m 5 #[.val (.int p0), .val (.int (p0 &&& (3 : Int32)))] [(.int (p0 &&& (3 : Int32)))])) target → Steps p.tables e below (s₁.setTop (mkF m 0 #[.val (.int p0), .unset] [])) target := by
    intro target kt
    show Steps p.tables e below (s₁.setTop (mkF m 0 #[.val (.int p0), .unset] [])) _
    refine XS.iloadN X0.here hx rfl (hb hby d7_0) rfl ?_
    show Steps p.tables e below (s₁.setTop (mkF m 1 #[.val (.int p0), .unset] [(.int p0)])) _
    refine XS.iconst X0.here hx rfl (hb hby d7_1) ?_
    show Steps p.tables e below (s₁.setTop (mkF m 2 #[.val (.int p0), .unset] [(.int (3 : Int32)), (.int p0)])) _
    refine XS.iand X0.here hx rfl (hb hby d7_2) rfl ?_
    show Steps p.tables e below (s₁.setTop (mkF m 3 #[.val (.int p0), .unset] [(.int (p0 &&& (3 : Int32)))])) _
    refine XS.istoreN X0.here hx rfl (hb hby d7_3) rfl (l' := #[.val (.int p0), .val (.int (p0 &&& (3 : Int32)))]) rfl ?_
    show Steps p.tables e below (s₁.setTop (mkF m 4 #[.val (.int p0), .val (.int (p0 &&& (3 : Int32)))] [])) _
    refine XS.iloadN X0.here hx rfl (hb hby d7_4) rfl ?_
    exact kt
  by_cases hc5 : (p0 &&& (3 : Int32)) = (0 : Int32)
  · obtain ⟨T2, X2, e2, st2⟩ := getS2 X0 hx hZ hown (host := "") (Or.inl (hw _ (List.mem_of_getElem? (i := 37) rfl))) Via.refl e0 S_PLANNED (g := (mkF m 8 #[.val (.int p0), .val (.int (p0 &&& (3 : Int32)))] [])) rfl (hb hby d7_8)
    obtain ⟨fs, hr, hrun, hended, hW, hsame⟩ := X2.leave (v := some (.ref w_PLANNED)) (fun h => by rw [Bd.returns] at h; cases h)
    refine ⟨_, _, pre0 _ ?_, hrun, hended, _, _, rfl, ?_, ⟨_, rfl⟩, hW, hsame.mono (by decide) (by decide)⟩
    · refine k1 _ ?_
      show Steps p.tables e below (s₁.setTop (mkF m 5 #[.val (.int p0), .val (.int (p0 &&& (3 : Int32)))] [(.int (p0 &&& (3 : Int32)))])) _
      refine XS.ifNo X0.here hx rfl (hb hby d7_5) rfl ((if0 _ _).trans (teq hc5).2) ?_
      show Steps p.tables e below (s₁.setTop (mkF m 8 #[.val (.int p0), .val (.int (p0 &&& (3 : Int32)))] [])) _
      refine st2 _ ?_
      show Steps p.tables e below (T2.setTop (mkF m 11 #[.val (.int p0), .val (.int (p0 &&& (3 : Int32)))] [(.ref w_PLANNED)])) _
      exact retOut X2 hx Bd.returns (by rfl) (Or.inr (Or.inr (Or.inr (Or.inr ⟨rfl, rfl, rfl⟩)))) (hb hby d7_11) hr
    · show Q_rm_pick Z p0 w_PLANNED w_TRIGGERED w_EXECUTED w_FAILED h0 n0 _ T2.heap _
      rw [e2]
      exact ⟨(by simp [own_pick, hc5]), N0, rfl⟩
  · have k3 : ∀ target, Steps p.tables e below (s₁.setTop (mkF m 14 #[.val (.int p0), .val (.int (p0 &&& (3 : Int32)))] [(.int (1 : Int32)), (.int (p0 &&& (3 : Int32)))])) target → Steps p.tables e below (s₁.setTop (mkF m 0 #[.val (.int p0), .unset] [])) target := by
      intro target kt
      refine k1 _ ?_
      show Steps p.tables e below (s₁.setTop (mkF m 5 #[.val (.int p0), .val (.int (p0 &&& (3 : Int32)))] [(.int (p0 &&& (3 : Int32)))])) _
      refine XS.ifYes X0.here hx rfl (pc0 := 5) (pc' := 12) rfl (hb hby d7_5) rfl ((if0 _ _).trans (feq hc5).2) (by decide) (by decide) ?_
      show Steps p.tables e below (s₁.setTop (mkF m 12 #[.val (.int p0), .val (.int (p0 &&& (3 : Int32)))] [])) _
      refine XS.iloadN X0.here hx rfl (hb hby d7_12) rfl ?_
      show Steps p.tables e below (s₁.setTop (mkF m 13 #[.val (.int p0), .val (.int (p0 &&& (3 : Int32)))] [(.int (p0 &&& (3 : Int32)))])) _
      refine XS.iconst X0.here hx rfl (hb hby d7_13) ?_
      exact kt
    by_cases hc14 : (p0 &&& (3 : Int32)) = (1 : Int32)
    · obtain ⟨T4, X4, e4, st4⟩ := getS2 X0 hx hZ hown (host := "") (Or.inl (hw _ (List.mem_of_getElem? (i := 34) rfl))) Via.refl e0 S_TRIGGERED (g := (mkF m 17 #[.val (.int p0), .val (.int (p0 &&& (3 : Int32)))] [])) rfl (hb hby d7_17)
      obtain ⟨fs, hr, hrun, hended, hW, hsame⟩ := X4.leave (v := some (.ref w_TRIGGERED)) (fun h => by rw [Bd.returns] at h; cases h)
      refine ⟨_, _, pre0 _ ?_, hrun, hended, _, _, rfl, ?_, ⟨_, rfl⟩, hW, hsame.mono (by decide) (by decide)⟩
      · refine k3 _ ?_
        show Steps p.tables e below (s₁.setTop (mkF m 14 #[.val (.int p0), .val (.int (p0 &&& (3 : Int32)))] [(.int (1 : Int32)), (.int (p0 &&& (3 : Int32)))])) _
        refine XS.icmpNo X0.here hx rfl (hb hby d7_14) rfl (teq hc14).2 ?_
        show Steps p.tables e below (s₁.setTop (mkF m 17 #[.val (.int p0), .val (.int (p0 &&& (3 : Int32)))] [])) _
        refine st4 _ ?_
        show Steps p.tables e below (T4.setTop (mkF m 20 #[.val (.int p0), .val (.int (p0 &&& (3 : Int32)))] [(.ref w_TRIGGERED)])) _
        exact retOut X4 hx Bd.returns (by rfl) (Or.inr (Or.inr (Or.inr (Or.inr ⟨rfl, rfl, rfl⟩)))) (hb hby d7_20) hr
      · show Q_rm_pick Z p0 w_PLANNED w_TRIGGERED w_EXECUTED w_FAILED h0 n0 _ T4.heap _
        rw [e4]
        exact ⟨(by simp [own_pick, hc5, hc14]), N0, rfl⟩
    · have k5 : ∀ target, Steps p.tables e below (s₁.setTop (mkF m 23 #[.val (.int p0), .val (.int (p0 &&& (3 : Int32)))] [(.int (2 : Int32)), (.int (p0 &&& (3 : Int32)))])) target → Steps p.tables e below (s₁.setTop (mkF m 0 #[.val (.int p0), .unset] [])) target := by
        intro target kt
        refine k3 _ ?_
        show Steps p.tables e below (s₁.setTop (mkF m 14 #[.val (.int p0), .val (.int (p0 &&& (3 : Int32)))] [(.int (1 : Int32)), (.int (p0 &&& (3 : Int32)))])) _
        refine XS.icmpYes X0.here hx rfl (pc0 := 14) (pc' := 21) rfl (hb hby d7_14) rfl (feq hc14).2 (by decide) (by decide) ?_
        show Steps p.tables e below (s₁.setTop (mkF m 21 #[.val (.int p0), .val (.int (p0 &&& (3 : Int32)))] [])) _
        refine XS.iloadN X0.here hx rfl (hb hby d7_21) rfl ?_
        show Steps p.tables e below (s₁.setTop (mkF m 22 #[.val (.int p0), .val (.int (p0 &&& (3 : Int32)))] [(.int (p0 &&& (3 : Int32)))])) _
        refine XS.iconst X0.here hx rfl (hb hby d7_22) ?_
        exact kt
      by_cases hc23 : (p0 &&& (3 : Int32)) = (2 : Int32)
      · obtain ⟨T6, X6, e6, st6⟩ := getS2 X0 hx hZ hown (host := "") (Or.inl (hw _ (List.mem_of_getElem? (i := 94) rfl))) Via.refl e0 S_EXECUTED (g := (mkF m 26 #[.val (.int p0), .val (.int (p0 &&& (3 : Int32)))] [])) rfl (hb hby d7_26)
        obtain ⟨fs, hr, hrun, hended, hW, hsame⟩ := X6.leave (v := some (.ref w_EXECUTED)) (fun h => by rw [Bd.returns] at h; cases h)
        refine ⟨_, _, pre0 _ ?_, hrun, hended, _, _, rfl, ?_, ⟨_, rfl⟩, hW, hsame.mono (by decide) (by decide)⟩
        · refine k5 _ ?_
          show Steps p.tables e below (s₁.setTop (mkF m 23 #[.val (.int p0), .val (.int (p0 &&& (3 : Int32)))] [(.int (2 : Int32)), (.int (p0 &&& (3 : Int32)))])) _
          refine XS.icmpNo X0.here hx rfl (hb hby d7_23) rfl (teq hc23).2 ?_
          show Steps p.tables e below (s₁.setTop (mkF m 26 #[.val (.int p0), .val (.int (p0 &&& (3 : Int32)))] [])) _
          refine st6 _ ?_
          show Steps p.tables e below (T6.setTop (mkF m 29 #[.val (.int p0), .val (.int (p0 &&& (3 : Int32)))] [(.ref w_EXECUTED)])) _
          exact retOut X6 hx Bd.returns (by rfl) (Or.inr (Or.inr (Or.inr (Or.inr ⟨rfl, rfl, rfl⟩)))) (hb hby d7_29) hr
        · show Q_rm_pick Z p0 w_PLANNED w_TRIGGERED w_EXECUTED w_FAILED h0 n0 _ T6.heap _
          rw [e6]
          exact ⟨(by simp [own_pick, hc5, hc14, hc23]), N0, rfl⟩
      · obtain ⟨T7, X7, e7, st7⟩ := getS2 X0 hx hZ hown (host := "") (Or.inl (hw _ (List.mem_of_getElem? (i := 92) rfl))) Via.refl e0 S_FAILED (g := (mkF m 30 #[.val (.int p0), .val (.int (p0 &&& (3 : Int32)))] [])) rfl (hb hby d7_30)
        obtain ⟨fs, hr, hrun, hended, hW, hsame⟩ := X7.leave (v := some (.ref w_FAILED)) (fun h => by rw [Bd.returns] at h; cases h)
        refine ⟨_, _, pre0 _ ?_, hrun, hended, _, _, rfl, ?_, ⟨_, rfl⟩, hW, hsame.mono (by decide) (by decide)⟩
        · refine k5 _ ?_
          show Steps p.tables e below (s₁.setTop (mkF m 23 #[.val (.int p0), .val (.int (p0 &&& (3 : Int32)))] [(.int (2 : Int32)), (.int (p0 &&& (3 : Int32)))])) _
          refine XS.icmpYes X0.here hx rfl (pc0 := 23) (pc' := 30) rfl (hb hby d7_23) rfl (feq hc23).2 (by decide) (by decide) ?_
          show Steps p.tables e below (s₁.setTop (mkF m 30 #[.val (.int p0), .val (.int (p0 &&& (3 : Int32)))] [])) _
          refine st7 _ ?_
          show Steps p.tables e below (T7.setTop (mkF m 33 #[.val (.int p0), .val (.int (p0 &&& (3 : Int32)))] [(.ref w_FAILED)])) _
          exact retOut X7 hx Bd.returns (by rfl) (Or.inr (Or.inr (Or.inr (Or.inr ⟨rfl, rfl, rfl⟩)))) (hb hby d7_33) hr
        · show Q_rm_pick Z p0 w_PLANNED w_TRIGGERED w_EXECUTED w_FAILED h0 n0 _ T7.heap _
          rw [e7]
          exact ⟨(by simp [own_pick, hc5, hc14, hc23]), N0, rfl⟩
theorem d9_0 : decode jdk_30_method_1_code 0 = .ok (.aload_n 0, 1) := by decide +kernel
theorem d9_1 : decode jdk_30_method_1_code 1 = .ok (.invokespecial 1, 3) := by decide +kernel
theorem d9_4 : decode jdk_30_method_1_code 4 = .ok (.return_, 1) := by decide +kernel
theorem pn_1 : plainName "java/lang/Record" = true := by first | (simp [plainName, overriddenIn]; done) | decide +kernel
theorem ef_9 (m : MethodId) (x0 : Addr) : entryFrame m #[(.ref x0)] 1 = mkF m 0 #[.val (.ref x0)] [] := by first | (simp [entryFrame, mkF, argsToLocals, Value.category]; done) | rfl
def Q_rm_rec (Z : State) (a0x : Addr) (h0 : Heap) (n0 : Nat) (v : Option Value) (h : Heap) (L : List Loc) : Prop := v = none ∧ Fr n0 L ∧ h = h0
set_option maxRecDepth 65536 in
set_option maxHeartbeats 40000000 in
theorem rm_rec (l : Launch) (Z : State) (a0 : Array Value) (hw : ∀ d ∈ tables_1, d.before a0 Z = true) (ws : List Jvm.Cond) (a0x : Addr) (h0 : Heap) (n0 : Nat) (Z0 : n0 ≤ h0.size)  :
    MetFree l (⟨"java/lang/Record", "<init>", "()V"⟩ : MethodName) (head1 (Jvm.Cond.code (⟨"java/lang/Record", "<init>", "()V"⟩ : MethodName) jdk_30_method_1_code 1 none :: ws) ({ frames := 1, cells := 0, slots := 0, locals := 12 } : Room)) (fun a U => a = #[(.ref a0x)] ∧ Z.Warmed39 U.vm ∧ U.heap = h0) (fun _ _ _ _ _ => True) (fun _ U o U' => ∃ v L, o = .returned v ∧ Q_rm_rec Z a0x h0 n0 v U'.heap L ∧ FrameEnd U o U' L ({ frames := 1, cells := 0, slots := 0, locals := 12 } : Room).cells ({ frames := 1, cells := 0, slots := 0, locals := 12 } : Room).slots) := by
  refine MetFree.of_bodySF (plainFor_of_name pn_1) hisR ?_
  intro p e s m args below meth c s₁ Bd hml0 hP hK
  obtain ⟨rfl, hZ, hh⟩ := hP
  have hx := Bd.exec
  have hby := Bd.bytes
  have hml : c.maxLocals = 1 := hml0
  have hown : s.vm.findClass "java/lang/Record" = some m.cls := findClass_of_methodNamed Bd.named
  have hnm := (name_of_methodNamed Bd.named Bd.method).1
  have X0 : Stand p l e ({ frames := 1, cells := 0, slots := 0, locals := 12 } : Room) s m #[(.ref a0x)] below meth c s₁ [] 0 0 := Stand.of_body Bd
  have e0 : s₁.heap = h0 := by rw [← hh, Bd.state]; rfl
  have N0 := Fr.nil n0
  have pre0 : ∀ t, Steps p.tables e below (s₁.setTop (mkF m 0 #[.val (.ref a0x)] [])) t → Steps p.tables e below (s₁.setTop (entryFrame m #[(.ref a0x)] 1)) t := fun t k => castTop (ef_9 m a0x) k
  obtain ⟨T1, X1, e1, st1⟩ := initO X0 hx hZ hown (hw _ (List.mem_of_getElem? (i := 50) rfl)) (hw _ (List.mem_of_getElem? (i := 12) rfl)) (hw _ (List.mem_of_getElem? (i := 13) rfl)) e0 (g := (mkF m 1 #[.val (.ref a0x)] [(.ref a0x)])) rfl (by rw [hml]; rfl) rfl (hb hby d9_1) (by decide) (W := 0) (by show 2 * 0 + _ ≤ _; exact Nat.le_of_eq rfl) (by decide)
  obtain ⟨fs, hr, hrun, hended, hW, hsame⟩ := X1.leave (v := none) (fun _ => rfl)
  refine ⟨_, _, pre0 _ ?_, hrun, hended, _, _, rfl, ?_, ⟨_, rfl⟩, hW, hsame.mono (by decide) (by decide)⟩
  · show Steps p.tables e below (s₁.setTop (mkF m 0 #[.val (.ref a0x)] [])) _
    refine XS.aloadN X0.here hx rfl (hb hby d9_0) rfl rfl ?_
    show Steps p.tables e below (s₁.setTop (mkF m 1 #[.val (.ref a0x)] [(.ref a0x)])) _
    refine st1 _ ?_
    show Steps p.tables e below (T1.setTop (mkF m 4 #[.val (.ref a0x)] [])) _
    exact X1.returnOut hx Bd.returns (hb hby d9_4) hr
  · show Q_rm_rec Z a0x h0 n0 _ T1.heap _
    rw [e1]
    exact ⟨rfl, N0, rfl⟩
theorem d10_0 : decode jdk_31_method_11_code 0 = .ok (.aload_n 0, 1) := by decide +kernel
theorem d10_1 : decode jdk_31_method_11_code 1 = .ok (.ifnonnull 12, 3) := by decide +kernel
theorem d10_13 : decode jdk_31_method_11_code 13 = .ok (.aload_n 0, 1) := by decide +kernel
theorem d10_14 : decode jdk_31_method_11_code 14 = .ok (.areturn, 1) := by decide +kernel
theorem pn_2 : plainName "java/util/Objects" = true := by first | (simp [plainName, overriddenIn]; done) | decide +kernel
theorem ef_10 (m : MethodId) (x0 : Addr) (x1 : Addr) : entryFrame m #[(.ref x0), (.ref x1)] 2 = mkF m 0 #[.val (.ref x0), .val (.ref x1)] [] := by first | (simp [entryFrame, mkF, argsToLocals, Value.category]; done) | rfl
def Q_rm_nn (Z : State) (a1x : Addr) (s0x : Addr) (h0 : Heap) (n0 : Nat) (v : Option Value) (h : Heap) (L : List Loc) : Prop := v = some (.ref a1x) ∧ Fr n0 L ∧ h = h0
set_option maxRecDepth 65536 in
set_option maxHeartbeats 40000000 in
theorem rm_nn (l : Launch) (Z : State) (a0 : Array Value) (hw : ∀ d ∈ tables_1, d.before a0 Z = true) (ws : List Jvm.Cond) (a1x : Addr) (s0x : Addr) (h0 : Heap) (n0 : Nat) (Z0 : n0 ≤ h0.size)  :
    MetFree l (⟨"java/util/Objects", "requireNonNull", "(Ljava/lang/Object;Ljava/lang/String;)Ljava/lang/Object;"⟩ : MethodName) (head1 (Jvm.Cond.code (⟨"java/util/Objects", "requireNonNull", "(Ljava/lang/Object;Ljava/lang/String;)Ljava/lang/Object;"⟩ : MethodName) jdk_31_method_11_code 2 (some (.object "java/lang/Object")) :: ws) ({ frames := 0, cells := 0, slots := 0, locals := 0 } : Room)) (fun a U => a = #[(.ref a1x), (.ref s0x)] ∧ Z.Warmed39 U.vm ∧ U.heap = h0) (fun _ _ _ _ _ => True) (fun _ U o U' => ∃ v L, o = .returned v ∧ Q_rm_nn Z a1x s0x h0 n0 v U'.heap L ∧ FrameEnd U o U' L ({ frames := 0, cells := 0, slots := 0, locals := 0 } : Room).cells ({ frames := 0, cells := 0, slots := 0, locals := 0 } : Room).slots) := by
  refine MetFree.of_bodySF (plainFor_of_name pn_2) hisR ?_
  intro p e s m args below meth c s₁ Bd hml0 hP hK
  obtain ⟨rfl, hZ, hh⟩ := hP
  have hx := Bd.exec
  have hby := Bd.bytes
  have hml : c.maxLocals = 2 := hml0
  have hown : s.vm.findClass "java/util/Objects" = some m.cls := findClass_of_methodNamed Bd.named
  have hnm := (name_of_methodNamed Bd.named Bd.method).1
  have X0 : Stand p l e ({ frames := 0, cells := 0, slots := 0, locals := 0 } : Room) s m #[(.ref a1x), (.ref s0x)] below meth c s₁ [] 0 0 := Stand.of_body Bd
  have e0 : s₁.heap = h0 := by rw [← hh, Bd.state]; rfl
  have N0 := Fr.nil n0
  have pre0 : ∀ t, Steps p.tables e below (s₁.setTop (mkF m 0 #[.val (.ref a1x), .val (.ref s0x)] [])) t → Steps p.tables e below (s₁.setTop (entryFrame m #[(.ref a1x), (.ref s0x)] 2)) t := fun t k => castTop (ef_10 m a1x s0x) k
  obtain ⟨fs, hr, hrun, hended, hW, hsame⟩ := X0.leave (v := some (.ref a1x)) (fun h => by rw [Bd.returns] at h; cases h)
  refine ⟨_, _, pre0 _ ?_, hrun, hended, _, _, rfl, ?_, ⟨_, rfl⟩, hW, hsame.mono (by decide) (by decide)⟩
  · show Steps p.tables e below (s₁.setTop (mkF m 0 #[.val (.ref a1x), .val (.ref s0x)] [])) _
    refine XS.aloadN X0.here hx rfl (hb hby d10_0) rfl rfl ?_
    show Steps p.tables e below (s₁.setTop (mkF m 1 #[.val (.ref a1x), .val (.ref s0x)] [(.ref a1x)])) _
    refine XS.ifnonnullYes X0.here hx rfl (pc0 := 1) (pc' := 13) rfl (hb hby d10_1) rfl (by decide) (by decide) ?_
    show Steps p.tables e below (s₁.setTop (mkF m 13 #[.val (.ref a1x), .val (.ref s0x)] [])) _
    refine XS.aloadN X0.here hx rfl (hb hby d10_13) rfl rfl ?_
    show Steps p.tables e below (s₁.setTop (mkF m 14 #[.val (.ref a1x), .val (.ref s0x)] [(.ref a1x)])) _
    exact retOut X0 hx Bd.returns (by rfl) (Or.inr (Or.inr (Or.inr (Or.inr ⟨rfl, rfl, rfl⟩)))) (hb hby d10_14) hr
  · show Q_rm_nn Z a1x s0x h0 n0 _ s₁.heap _
    rw [e0]
    exact ⟨rfl, N0, rfl⟩
theorem d8_0 : decode prog_10_method_1_code 0 = .ok (.aload_n 0, 1) := by decide +kernel
theorem d8_1 : decode prog_10_method_1_code 1 = .ok (.invokespecial 1, 3) := by decide +kernel
theorem pd_0 : parseMethodDescriptor "()V" = some ⟨[], none⟩ := by decide +kernel
theorem d8_4 : decode prog_10_method_1_code 4 = .ok (.aload_n 1, 1) := by decide +kernel
theorem d8_5 : decode prog_10_method_1_code 5 = .ok (.ldc 7, 2) := by decide +kernel
theorem d8_7 : decode prog_10_method_1_code 7 = .ok (.invokestatic 9, 3) := by decide +kernel
theorem pd_1 : parseMethodDescriptor "(Ljava/lang/Object;Ljava/lang/String;)Ljava/lang/Object;" = some ⟨[(.object "java/lang/Object"), (.object "java/lang/String")], some (.object "java/lang/Object")⟩ := by decide +kernel
theorem d8_10 : decode prog_10_method_1_code 10 = .ok (.pop, 1) := by decide +kernel
theorem d8_11 : decode prog_10_method_1_code 11 = .ok (.aload 4, 2) := by decide +kernel
theorem d8_13 : decode prog_10_method_1_code 13 = .ok (.ldc 15, 2) := by decide +kernel
theorem d8_15 : decode prog_10_method_1_code 15 = .ok (.invokestatic 9, 3) := by decide +kernel
theorem d8_18 : decode prog_10_method_1_code 18 = .ok (.pop, 1) := by decide +kernel
theorem d8_19 : decode prog_10_method_1_code 19 = .ok (.aload_n 0, 1) := by decide +kernel
theorem d8_20 : decode prog_10_method_1_code 20 = .ok (.aload_n 1, 1) := by decide +kernel
theorem d8_21 : decode prog_10_method_1_code 21 = .ok (.putfield 17, 3) := by decide +kernel
theorem d8_24 : decode prog_10_method_1_code 24 = .ok (.aload_n 0, 1) := by decide +kernel
theorem d8_25 : decode prog_10_method_1_code 25 = .ok (.lload_n 2, 1) := by decide +kernel
theorem d8_26 : decode prog_10_method_1_code 26 = .ok (.putfield 22, 3) := by decide +kernel
theorem d8_29 : decode prog_10_method_1_code 29 = .ok (.aload_n 0, 1) := by decide +kernel
theorem d8_30 : decode prog_10_method_1_code 30 = .ok (.aload 4, 2) := by decide +kernel
theorem d8_32 : decode prog_10_method_1_code 32 = .ok (.putfield 26, 3) := by decide +kernel
theorem d8_35 : decode prog_10_method_1_code 35 = .ok (.return_, 1) := by decide +kernel
theorem pn_3 : plainName "com/example/fyfo/fyfo/Job" = true := by first | (simp [plainName, overriddenIn]; done) | decide +kernel
theorem ef_8 (m : MethodId) (x0 : Addr) (x1 : Addr) (x2 : Int64) (x3 : Addr) : entryFrame m #[(.ref x0), (.ref x1), (.long x2), (.ref x3)] 5 = mkF m 0 #[.val (.ref x0), .val (.ref x1), .val (.long x2), .second, .val (.ref x3)] [] := by first | (simp [entryFrame, mkF, argsToLocals, Value.category]; done) | rfl
def Q_rm_job (Z : State) (a0x : Addr) (a1x : Addr) (q1 : Int64) (a2x : Addr) (h0 : Heap) (n0 : Nat) (v : Option Value) (h : Heap) (L : List Loc) : Prop := v = none ∧ Fr n0 L ∧ Keep h0 h [a0x] ∧ Fld Z h a0x "com/example/fyfo/fyfo/Job" "id" "Ljava/lang/String;" (.ref a1x) ∧ Fld Z h a0x "com/example/fyfo/fyfo/Job" "executionNanos" "J" (.long q1) ∧ Fld Z h a0x "com/example/fyfo/fyfo/Job" "status" "Lcom/example/fyfo/fyfo/JobStatus;" (.ref a2x)
set_option maxRecDepth 65536 in
set_option maxHeartbeats 40000000 in
theorem rm_job (l : Launch) (Z : State) (a0 : Array Value) (hw : ∀ d ∈ tables_1, d.before a0 Z = true) (ws : List Jvm.Cond) (a0x : Addr) (a1x : Addr) (q1 : Int64) (a2x : Addr) (h0 : Heap) (n0 : Nat) (Z0 : n0 ≤ h0.size) (E0x : Exa Z h0 a0x "com/example/fyfo/fyfo/Job") (F0x0 : Fld Z h0 a0x "com/example/fyfo/fyfo/Job" "id" "Ljava/lang/String;" .null) (F0x1 : Fld Z h0 a0x "com/example/fyfo/fyfo/Job" "executionNanos" "J" (.long (0 : Int64))) (F0x2 : Fld Z h0 a0x "com/example/fyfo/fyfo/Job" "status" "Lcom/example/fyfo/fyfo/JobStatus;" .null) (g0x : n0 ≤ a0x) :
    MetFree l (⟨"com/example/fyfo/fyfo/Job", "<init>", "(Ljava/lang/String;JLcom/example/fyfo/fyfo/JobStatus;)V"⟩ : MethodName) (head1 (Jvm.Cond.code (⟨"com/example/fyfo/fyfo/Job", "<init>", "(Ljava/lang/String;JLcom/example/fyfo/fyfo/JobStatus;)V"⟩ : MethodName) prog_10_method_1_code 5 none :: ws) ({ frames := 2, cells := 4, slots := 40, locals := 24 } : Room)) (fun a U => a = #[(.ref a0x), (.ref a1x), (.long q1), (.ref a2x)] ∧ Z.Warmed39 U.vm ∧ U.heap = h0) (fun _ _ _ _ _ => True) (fun _ U o U' => ∃ v L, o = .returned v ∧ Q_rm_job Z a0x a1x q1 a2x h0 n0 v U'.heap L ∧ ReturnedEndW U o U' L ({ frames := 2, cells := 4, slots := 40, locals := 24 } : Room).cells ({ frames := 2, cells := 4, slots := 40, locals := 24 } : Room).slots) := by
  refine MetFree.of_bodySF (plainFor_of_name pn_3) hisR ?_
  intro p e s m args below meth c s₁ Bd hml0 hP hK
  obtain ⟨rfl, hZ, hh⟩ := hP
  have hx := Bd.exec
  have hby := Bd.bytes
  have hml : c.maxLocals = 5 := hml0
  have hown : s.vm.findClass "com/example/fyfo/fyfo/Job" = some m.cls := findClass_of_methodNamed Bd.named
  have hnm := (name_of_methodNamed Bd.named Bd.method).1
  have X0 : Stand p l e ({ frames := 2, cells := 4, slots := 40, locals := 24 } : Room) (s.setVm s.vm) m #[(.ref a0x), (.ref a1x), (.long q1), (.ref a2x)] below meth c s₁ [] 0 0 := Stand.of_body Bd
  have e0 : s₁.heap = h0 := by rw [← hh, Bd.state]; rfl
  have N0 := Fr.nil n0
  have hS0 : s.Since s.vm s.heap.size := (State.WarmedH.refl s).since _
  have hk0 : s.heap.size ≤ h0.size := Nat.le_of_eq (congrArg Array.size hh)
  have wS : ∀ a ∈ Bundle.stringAtoms, a.before a0 Z = true := by
    intro a ha
    simp only [Bundle.stringAtoms, List.mem_cons, List.not_mem_nil, or_false] at ha
    rcases ha with rfl | rfl | rfl | rfl | rfl | rfl | rfl <;> first | exact hw _ (List.mem_of_getElem? (i := 3) rfl) | exact hw _ (List.mem_of_getElem? (i := 2) rfl) | exact hw _ (List.mem_of_getElem? (i := 19) rfl) | exact hw _ (List.mem_of_getElem? (i := 29) rfl) | exact hw _ (List.mem_of_getElem? (i := 27) rfl) | exact hw _ (List.mem_of_getElem? (i := 52) rfl) | exact hw _ (List.mem_of_getElem? (i := 53) rfl)
  have K0 : Keep h0 h0 [a0x] := Keep.refl h0 [a0x]
  have pre0 : ∀ t, Steps p.tables e below (s₁.setTop (mkF m 0 #[.val (.ref a0x), .val (.ref a1x), .val (.long q1), .second, .val (.ref a2x)] [])) t → Steps p.tables e below (s₁.setTop (entryFrame m #[(.ref a0x), (.ref a1x), (.long q1), (.ref a2x)] 5)) t := fun t k => castTop (ef_8 m a0x a1x q1 a2x) k
  obtain ⟨_, _, ⟨T1, L1, k1, n1⟩, -, X1, ⟨Lc1, hQ1, l1, y1, z1⟩, st1⟩ := X0.specialBack hx (y := (⟨"java/lang/Record", "<init>", "()V"⟩ : MethodName)) rfl hown (mvT hZ (hw _ (List.mem_of_getElem? (i := 45) rfl))) (mvT hZ (hw _ (List.mem_of_getElem? (i := 46) rfl))) (mvT hZ (hw _ (List.mem_of_getElem? (i := 49) rfl))) (by decide) (backOf (W := 0) (rm_rec l Z a0 hw [] a0x h0 n0 Z0) hZ (hw _ (List.mem_of_getElem? (i := 49) rfl)) (hw _ (List.mem_of_getElem? (i := 48) rfl)) (by decide) (by decide)) (g := (mkF m 1 #[.val (.ref a0x), .val (.ref a1x), .val (.long q1), .second, .val (.ref a2x)] [(.ref a0x)])) rfl (by rw [hml]; rfl) (Steps.refl _) (a := a0x) (argsL := []) (rest := []) (lenOf pd_0 rfl) rfl (by show 2 * 0 + _ ≤ _; exact Nat.le_of_eq rfl) (hb hby d8_1) (fun _ _ => ⟨rfl, e0, (by decide : 0 + 0 ≤ _), (by decide : 0 + 0 ≤ _)⟩)
  dsimp only [Pt.U, Pt.locs, Pt.cells, Pt.slots] at X1 l1 y1 z1 st1 hQ1
  subst l1 y1 z1
  obtain ⟨rfl, N1q, e1⟩ := hQ1
  have N1 := Fr.app N0 N1q
  obtain ⟨ax2, T2, h2, kk2, X2, e2, E2, hS2, hk2, hZ2, hown2, st2⟩ := ldcS X1 hx hZ hown (hw _ (List.mem_of_getElem? (i := 51) rfl)) wS e1 hS0 hk0 (g := (mkF m 5 #[.val (.ref a0x), .val (.ref a1x), .val (.long q1), .second, .val (.ref a2x)] [(.ref a1x)])) rfl (hb hby d8_5) (n := 8) (by decide) (by decide) (by decide) (by decide)
  have E0x_2 : Exa Z h2 a0x "com/example/fyfo/fyfo/Job" := E0x.ext E2
  have F0x0_2 : Fld Z h2 a0x "com/example/fyfo/fyfo/Job" "id" "Ljava/lang/String;" .null := F0x0.ext E2
  have F0x1_2 : Fld Z h2 a0x "com/example/fyfo/fyfo/Job" "executionNanos" "J" (.long (0 : Int64)) := F0x1.ext E2
  have F0x2_2 : Fld Z h2 a0x "com/example/fyfo/fyfo/Job" "status" "Lcom/example/fyfo/fyfo/JobStatus;" .null := F0x2.ext E2
  have Z2 : n0 ≤ h2.size := Nat.le_trans Z0 E2.1
  have K2 : Keep h0 h2 [a0x] := K0.ext E2
  obtain ⟨_, _, ⟨T3, L3, k3, n3⟩, -, X3, ⟨Lc3, hQ3, l3, y3, z3⟩, st3⟩ := Jvm.LawKit.callS X2 hx (y := (⟨"java/util/Objects", "requireNonNull", "(Ljava/lang/Object;Ljava/lang/String;)Ljava/lang/Object;"⟩ : MethodName)) hown2 (mvT hZ2 (hw _ (List.mem_of_getElem? (i := 54) rfl))) (mvT hZ2 (hw _ (List.mem_of_getElem? (i := 55) rfl))) (mvT hZ2 (hw _ (List.mem_of_getElem? (i := 56) rfl))) (mvT hZ2 (hw _ (List.mem_of_getElem? (i := 57) rfl))) (by decide) (backOf (W := 0) (rm_nn l Z a0 hw [] a1x ax2 h2 n0 Z2) hZ2 (hw _ (List.mem_of_getElem? (i := 57) rfl)) (hw _ (List.mem_of_getElem? (i := 56) rfl)) (by decide) (by decide)) (g := (mkF m 7 #[.val (.ref a0x), .val (.ref a1x), .val (.long q1), .second, .val (.ref a2x)] [(.ref ax2), (.ref a1x)])) rfl (by rw [hml]; rfl) (argsL := [(.ref a1x), (.ref ax2)]) (rest := []) (lenOf pd_1 rfl) rfl (by show 2 * 0 + _ ≤ _; exact Nat.le_of_eq rfl) (hb hby d8_7) (fun _ _ => ⟨rfl, e2, (by decide : 2 + 0 ≤ _), (by decide : 12 + 0 ≤ _)⟩)
  dsimp only [Pt.U, Pt.locs, Pt.cells, Pt.slots] at X3 l3 y3 z3 st3 hQ3
  subst l3 y3 z3
  obtain ⟨rfl, N3q, e3⟩ := hQ3
  have N3 := Fr.app N1 N3q
  obtain ⟨ax4, T4, h4, kk4, X4, e4, E4, hS4, hk4, hZ4, hown4, st4⟩ := ldcS X3 hx hZ2 hown2 (hw _ (List.mem_of_getElem? (i := 58) rfl)) wS e3 hS2 hk2 (g := (mkF m 13 #[.val (.ref a0x), .val (.ref a1x), .val (.long q1), .second, .val (.ref a2x)] [(.ref a2x)])) rfl (hb hby d8_13) (n := 24) (by decide) (by decide) (by decide) (by decide)
  have E0x_4 : Exa Z h4 a0x "com/example/fyfo/fyfo/Job" := E0x_2.ext E4
  have F0x0_4 : Fld Z h4 a0x "com/example/fyfo/fyfo/Job" "id" "Ljava/lang/String;" .null := F0x0_2.ext E4
  have F0x1_4 : Fld Z h4 a0x "com/example/fyfo/fyfo/Job" "executionNanos" "J" (.long (0 : Int64)) := F0x1_2.ext E4
  have F0x2_4 : Fld Z h4 a0x "com/example/fyfo/fyfo/Job" "status" "Lcom/example/fyfo/fyfo/JobStatus;" .null := F0x2_2.ext E4
  have Z4 : n0 ≤ h4.size := Nat.le_trans Z2 E4.1
  have K4 : Keep h0 h4 [a0x] := K2.ext E4
  obtain ⟨_, _, ⟨T5, L5, k5, n5⟩, -, X5, ⟨Lc5, hQ5, l5, y5, z5⟩, st5⟩ := Jvm.LawKit.callS X4 hx (y := (⟨"java/util/Objects", "requireNonNull", "(Ljava/lang/Object;Ljava/lang/String;)Ljava/lang/Object;"⟩ : MethodName)) hown4 (mvT hZ4 (hw _ (List.mem_of_getElem? (i := 54) rfl))) (mvT hZ4 (hw _ (List.mem_of_getElem? (i := 55) rfl))) (mvT hZ4 (hw _ (List.mem_of_getElem? (i := 56) rfl))) (mvT hZ4 (hw _ (List.mem_of_getElem? (i := 57) rfl))) (by decide) (backOf (W := 0) (rm_nn l Z a0 hw [] a2x ax4 h4 n0 Z4) hZ4 (hw _ (List.mem_of_getElem? (i := 57) rfl)) (hw _ (List.mem_of_getElem? (i := 56) rfl)) (by decide) (by decide)) (g := (mkF m 15 #[.val (.ref a0x), .val (.ref a1x), .val (.long q1), .second, .val (.ref a2x)] [(.ref ax4), (.ref a2x)])) rfl (by rw [hml]; rfl) (argsL := [(.ref a2x), (.ref ax4)]) (rest := []) (lenOf pd_1 rfl) rfl (by show 2 * 0 + _ ≤ _; exact Nat.le_of_eq rfl) (hb hby d8_15) (fun _ _ => ⟨rfl, e4, (by decide : 4 + 0 ≤ _), (by decide : 40 + 0 ≤ _)⟩)
  dsimp only [Pt.U, Pt.locs, Pt.cells, Pt.slots] at X5 l5 y5 z5 st5 hQ5
  subst l5 y5 z5
  obtain ⟨rfl, N5q, e5⟩ := hQ5
  have N5 := Fr.app N3 N5q
  obtain ⟨T6, h6, X6, e6, W6, st6⟩ := putF X5 hx hZ4 hown4 (host := "") (Or.inl (hw _ (List.mem_of_getElem? (i := 59) rfl))) Via.refl e5 F0x0_4 E0x_4 (Or.inr ⟨(hw _ (List.mem_of_getElem? (i := 60) rfl)), rfl, hnm⟩) (hw _ (List.mem_of_getElem? (i := 40) rfl)) (ty := (.object "java/lang/String")) (by decide) rfl rfl (g := (mkF m 21 #[.val (.ref a0x), .val (.ref a1x), .val (.long q1), .second, .val (.ref a2x)] [(.ref a1x), (.ref a0x)])) rfl rfl (hb hby d8_21)
  have N6 := Fr.snoc X6 N5 g0x
  have Fw6 : Fld Z h6 a0x "com/example/fyfo/fyfo/Job" "id" "Ljava/lang/String;" (.ref a1x) := F0x0_4.same W6
  have E0x_6 : Exa Z h6 a0x "com/example/fyfo/fyfo/Job" := E0x_4.wr W6
  have F0x1_6 : Fld Z h6 a0x "com/example/fyfo/fyfo/Job" "executionNanos" "J" (.long (0 : Int64)) := F0x1_4.other W6 (Or.inr (slot_ne (Or.inr (hw _ (List.mem_of_getElem? (i := 62) rfl))) (Or.inr (hw _ (List.mem_of_getElem? (i := 60) rfl))) (by decide) (t := .long) (t' := (.object "java/lang/String")) (by decide) (by decide)))
  have F0x2_6 : Fld Z h6 a0x "com/example/fyfo/fyfo/Job" "status" "Lcom/example/fyfo/fyfo/JobStatus;" .null := F0x2_4.other W6 (Or.inr (slot_ne (Or.inr (hw _ (List.mem_of_getElem? (i := 64) rfl))) (Or.inr (hw _ (List.mem_of_getElem? (i := 60) rfl))) (by decide) (t := (.object "com/example/fyfo/fyfo/JobStatus")) (t' := (.object "java/lang/String")) (by decide) (by decide)))
  have hk6' : _ ≤ h6.size := Nat.le_trans hk4 (Keep.of_wr W6).1
  have Z6 : n0 ≤ h6.size := Nat.le_trans Z4 (Keep.of_wr W6).1
  have K6 : Keep h0 h6 [a0x] := K4.wr W6 (Or.inl (List.mem_of_getElem? (i := 0) rfl))
  obtain ⟨T7, h7, X7, e7, W7, st7⟩ := putF X6 hx hZ4 hown4 (host := "") (Or.inl (hw _ (List.mem_of_getElem? (i := 61) rfl))) Via.refl e6 F0x1_6 E0x_6 (Or.inr ⟨(hw _ (List.mem_of_getElem? (i := 62) rfl)), rfl, hnm⟩) (hw _ (List.mem_of_getElem? (i := 40) rfl)) (ty := .long) (by decide) rfl rfl (g := (mkF m 26 #[.val (.ref a0x), .val (.ref a1x), .val (.long q1), .second, .val (.ref a2x)] [(.long q1), (.ref a0x)])) rfl rfl (hb hby d8_26)
  have N7 := Fr.snoc X7 N6 g0x
  have Fw7 : Fld Z h7 a0x "com/example/fyfo/fyfo/Job" "executionNanos" "J" (.long q1) := F0x1_6.same W7
  have E0x_7 : Exa Z h7 a0x "com/example/fyfo/fyfo/Job" := E0x_6.wr W7
  have F0x2_7 : Fld Z h7 a0x "com/example/fyfo/fyfo/Job" "status" "Lcom/example/fyfo/fyfo/JobStatus;" .null := F0x2_6.other W7 (Or.inr (slot_ne (Or.inr (hw _ (List.mem_of_getElem? (i := 64) rfl))) (Or.inr (hw _ (List.mem_of_getElem? (i := 62) rfl))) (by decide) (t := (.object "com/example/fyfo/fyfo/JobStatus")) (t' := .long) (by decide) (by decide)))
  have Fw6_7 : Fld Z h7 a0x "com/example/fyfo/fyfo/Job" "id" "Ljava/lang/String;" (.ref a1x) := Fw6.other W7 (Or.inr (slot_ne (Or.inr (hw _ (List.mem_of_getElem? (i := 60) rfl))) (Or.inr (hw _ (List.mem_of_getElem? (i := 62) rfl))) (by decide) (t := (.object "java/lang/String")) (t' := .long) (by decide) (by decide)))
  have hk7' : _ ≤ h7.size := Nat.le_trans hk6' (Keep.of_wr W7).1
  have Z7 : n0 ≤ h7.size := Nat.le_trans Z6 (Keep.of_wr W7).1
  have K7 : Keep h0 h7 [a0x] := K6.wr W7 (Or.inl (List.mem_of_getElem? (i := 0) rfl))
  obtain ⟨T8, h8, X8, e8, W8, st8⟩ := putF X7 hx hZ4 hown4 (host := "") (Or.inl (hw _ (List.mem_of_getElem? (i := 63) rfl))) Via.refl e7 F0x2_7 E0x_7 (Or.inr ⟨(hw _ (List.mem_of_getElem? (i := 64) rfl)), rfl, hnm⟩) (hw _ (List.mem_of_getElem? (i := 40) rfl)) (ty := (.object "com/example/fyfo/fyfo/JobStatus")) (by decide) rfl rfl (g := (mkF m 32 #[.val (.ref a0x), .val (.ref a1x), .val (.long q1), .second, .val (.ref a2x)] [(.ref a2x), (.ref a0x)])) rfl rfl (hb hby d8_32)
  have N8 := Fr.snoc X8 N7 g0x
  have Fw8 : Fld Z h8 a0x "com/example/fyfo/fyfo/Job" "status" "Lcom/example/fyfo/fyfo/JobStatus;" (.ref a2x) := F0x2_7.same W8
  have E0x_8 : Exa Z h8 a0x "com/example/fyfo/fyfo/Job" := E0x_7.wr W8
  have Fw6_8 : Fld Z h8 a0x "com/example/fyfo/fyfo/Job" "id" "Ljava/lang/String;" (.ref a1x) := Fw6_7.other W8 (Or.inr (slot_ne (Or.inr (hw _ (List.mem_of_getElem? (i := 60) rfl))) (Or.inr (hw _ (List.mem_of_getElem? (i := 64) rfl))) (by decide) (t := (.object "java/lang/String")) (t' := (.object "com/example/fyfo/fyfo/JobStatus")) (by decide) (by decide)))
  have Fw7_8 : Fld Z h8 a0x "com/example/fyfo/fyfo/Job" "executionNanos" "J" (.long q1) := Fw7.other W8 (Or.inr (slot_ne (Or.inr (hw _ (List.mem_of_getElem? (i := 62) rfl))) (Or.inr (hw _ (List.mem_of_getElem? (i := 64) rfl))) (by decide) (t := .long) (t' := (.object "com/example/fyfo/fyfo/JobStatus")) (by decide) (by decide)))
  have hk8' : _ ≤ h8.size := Nat.le_trans hk7' (Keep.of_wr W8).1
  have Z8 : n0 ≤ h8.size := Nat.le_trans Z7 (Keep.of_wr W8).1
  have K8 : Keep h0 h8 [a0x] := K7.wr W8 (Or.inl (List.mem_of_getElem? (i := 0) rfl))
  obtain ⟨fs, hr, hrun, hended, hREW⟩ := X8.leaveW hS4 (by first | exact hk8' | (rw [e8]; exact hk8')) (v := none) (fun _ => rfl)
  refine ⟨_, _, pre0 _ ?_, hrun, hended, _, _, rfl, ?_, hREW.1, hREW.2.1, hREW.2.2.1, hREW.2.2.2.mono (by decide) (by decide)⟩
  · show Steps p.tables e below (s₁.setTop (mkF m 0 #[.val (.ref a0x), .val (.ref a1x), .val (.long q1), .second, .val (.ref a2x)] [])) _
    refine XS.aloadN X0.here hx rfl (hb hby d8_0) rfl rfl ?_
    show Steps p.tables e below (s₁.setTop (mkF m 1 #[.val (.ref a0x), .val (.ref a1x), .val (.long q1), .second, .val (.ref a2x)] [(.ref a0x)])) _
    refine st1.trans ?_
    show Steps p.tables e below (T1.setTop (mkF m 4 #[.val (.ref a0x), .val (.ref a1x), .val (.long q1), .second, .val (.ref a2x)] [])) _
    refine XS.aloadN X1.here hx rfl (hb hby d8_4) rfl rfl ?_
    show Steps p.tables e below (T1.setTop (mkF m 5 #[.val (.ref a0x), .val (.ref a1x), .val (.long q1), .second, .val (.ref a2x)] [(.ref a1x)])) _
    refine st2 _ ?_
    show Steps p.tables e below (T2.setTop (mkF m 7 #[.val (.ref a0x), .val (.ref a1x), .val (.long q1), .second, .val (.ref a2x)] [(.ref ax2), (.ref a1x)])) _
    refine st3 _ ?_
    show Steps p.tables e below (T3.setTop (mkF m 10 #[.val (.ref a0x), .val (.ref a1x), .val (.long q1), .second, .val (.ref a2x)] [(.ref a1x)])) _
    refine XS.pop X3.here hx rfl (hb hby d8_10) rfl rfl ?_
    show Steps p.tables e below (T3.setTop (mkF m 11 #[.val (.ref a0x), .val (.ref a1x), .val (.long q1), .second, .val (.ref a2x)] [])) _
    refine XS.aload X3.here hx rfl (hb hby d8_11) rfl rfl ?_
    show Steps p.tables e below (T3.setTop (mkF m 13 #[.val (.ref a0x), .val (.ref a1x), .val (.long q1), .second, .val (.ref a2x)] [(.ref a2x)])) _
    refine st4 _ ?_
    show Steps p.tables e below (T4.setTop (mkF m 15 #[.val (.ref a0x), .val (.ref a1x), .val (.long q1), .second, .val (.ref a2x)] [(.ref ax4), (.ref a2x)])) _
    refine st5 _ ?_
    show Steps p.tables e below (T5.setTop (mkF m 18 #[.val (.ref a0x), .val (.ref a1x), .val (.long q1), .second, .val (.ref a2x)] [(.ref a2x)])) _
    refine XS.pop X5.here hx rfl (hb hby d8_18) rfl rfl ?_
    show Steps p.tables e below (T5.setTop (mkF m 19 #[.val (.ref a0x), .val (.ref a1x), .val (.long q1), .second, .val (.ref a2x)] [])) _
    refine XS.aloadN X5.here hx rfl (hb hby d8_19) rfl rfl ?_
    show Steps p.tables e below (T5.setTop (mkF m 20 #[.val (.ref a0x), .val (.ref a1x), .val (.long q1), .second, .val (.ref a2x)] [(.ref a0x)])) _
    refine XS.aloadN X5.here hx rfl (hb hby d8_20) rfl rfl ?_
    show Steps p.tables e below (T5.setTop (mkF m 21 #[.val (.ref a0x), .val (.ref a1x), .val (.long q1), .second, .val (.ref a2x)] [(.ref a1x), (.ref a0x)])) _
    refine st6 _ ?_
    show Steps p.tables e below (T6.setTop (mkF m 24 #[.val (.ref a0x), .val (.ref a1x), .val (.long q1), .second, .val (.ref a2x)] [])) _
    refine XS.aloadN X6.here hx rfl (hb hby d8_24) rfl rfl ?_
    show Steps p.tables e below (T6.setTop (mkF m 25 #[.val (.ref a0x), .val (.ref a1x), .val (.long q1), .second, .val (.ref a2x)] [(.ref a0x)])) _
    refine XS.lloadN X6.here hx rfl (hb hby d8_25) rfl ?_
    show Steps p.tables e below (T6.setTop (mkF m 26 #[.val (.ref a0x), .val (.ref a1x), .val (.long q1), .second, .val (.ref a2x)] [(.long q1), (.ref a0x)])) _
    refine st7 _ ?_
    show Steps p.tables e below (T7.setTop (mkF m 29 #[.val (.ref a0x), .val (.ref a1x), .val (.long q1), .second, .val (.ref a2x)] [])) _
    refine XS.aloadN X7.here hx rfl (hb hby d8_29) rfl rfl ?_
    show Steps p.tables e below (T7.setTop (mkF m 30 #[.val (.ref a0x), .val (.ref a1x), .val (.long q1), .second, .val (.ref a2x)] [(.ref a0x)])) _
    refine XS.aload X7.here hx rfl (hb hby d8_30) rfl rfl ?_
    show Steps p.tables e below (T7.setTop (mkF m 32 #[.val (.ref a0x), .val (.ref a1x), .val (.long q1), .second, .val (.ref a2x)] [(.ref a2x), (.ref a0x)])) _
    refine st8 _ ?_
    show Steps p.tables e below (T8.setTop (mkF m 35 #[.val (.ref a0x), .val (.ref a1x), .val (.long q1), .second, .val (.ref a2x)] [])) _
    exact X8.returnOut hx Bd.returns (hb hby d8_35) hr
  · show Q_rm_job Z a0x a1x q1 a2x h0 n0 _ T8.heap _
    rw [e8]
    exact ⟨rfl, N8, K8, Fw6_8, Fw7_8, Fw8⟩
theorem d11_0 : decode prog_10_method_2_code 0 = .ok (.new 18, 3) := by decide +kernel
theorem d11_3 : decode prog_10_method_2_code 3 = .ok (.dup, 1) := by decide +kernel
theorem d11_4 : decode prog_10_method_2_code 4 = .ok (.aload_n 0, 1) := by decide +kernel
theorem d11_5 : decode prog_10_method_2_code 5 = .ok (.getfield 17, 3) := by decide +kernel
theorem d11_8 : decode prog_10_method_2_code 8 = .ok (.aload_n 0, 1) := by decide +kernel
theorem d11_9 : decode prog_10_method_2_code 9 = .ok (.getfield 22, 3) := by decide +kernel
theorem d11_12 : decode prog_10_method_2_code 12 = .ok (.aload_n 1, 1) := by decide +kernel
theorem d11_13 : decode prog_10_method_2_code 13 = .ok (.invokespecial 29, 3) := by decide +kernel
theorem pd_2 : parseMethodDescriptor "(Ljava/lang/String;JLcom/example/fyfo/fyfo/JobStatus;)V" = some ⟨[(.object "java/lang/String"), .long, (.object "com/example/fyfo/fyfo/JobStatus")], none⟩ := by decide +kernel
theorem d11_16 : decode prog_10_method_2_code 16 = .ok (.areturn, 1) := by decide +kernel
theorem ef_11 (m : MethodId) (x0 : Addr) (x1 : Addr) : entryFrame m #[(.ref x0), (.ref x1)] 2 = mkF m 0 #[.val (.ref x0), .val (.ref x1)] [] := by first | (simp [entryFrame, mkF, argsToLocals, Value.category]; done) | rfl
def Q_rm_with (Z : State) (a0x : Addr) (a2x : Addr) (i1x : Addr) (q1 : Int64) (h0 : Heap) (n0 : Nat) (v : Option Value) (h : Heap) (L : List Loc) : Prop := ∃ bq : Addr, v = some (.ref bq) ∧ Fr n0 L ∧ Keep h0 h [] ∧ n0 ≤ bq ∧ h0.size ≤ bq ∧ Exa Z h bq "com/example/fyfo/fyfo/Job" ∧ Fld Z h bq "com/example/fyfo/fyfo/Job" "id" "Ljava/lang/String;" (.ref i1x) ∧ Fld Z h bq "com/example/fyfo/fyfo/Job" "executionNanos" "J" (.long q1) ∧ Fld Z h bq "com/example/fyfo/fyfo/Job" "status" "Lcom/example/fyfo/fyfo/JobStatus;" (.ref a2x)
set_option maxRecDepth 65536 in
set_option maxHeartbeats 40000000 in
theorem rm_with (l : Launch) (Z : State) (a0 : Array Value) (hw : ∀ d ∈ tables_1, d.before a0 Z = true) (ws : List Jvm.Cond) (a0x : Addr) (a2x : Addr) (i1x : Addr) (q1 : Int64) (h0 : Heap) (n0 : Nat) (Z0 : n0 ≤ h0.size) (F0x : Fld Z h0 a0x "com/example/fyfo/fyfo/Job" "id" "Ljava/lang/String;" (.ref i1x)) (F1x : Fld Z h0 a0x "com/example/fyfo/fyfo/Job" "executionNanos" "J" (.long q1)) :
    MetFree l (⟨"com/example/fyfo/fyfo/Job", "withStatus", "(Lcom/example/fyfo/fyfo/JobStatus;)Lcom/example/fyfo/fyfo/Job;"⟩ : MethodName) (head1 (Jvm.Cond.code (⟨"com/example/fyfo/fyfo/Job", "withStatus", "(Lcom/example/fyfo/fyfo/JobStatus;)Lcom/example/fyfo/fyfo/Job;"⟩ : MethodName) prog_10_method_2_code 2 (some (.object "com/example/fyfo/fyfo/Job")) :: ws) ({ frames := 3, cells := 5, slots := 43, locals := 41 } : Room)) (fun a U => a = #[(.ref a0x), (.ref a2x)] ∧ Z.Warmed39 U.vm ∧ U.heap = h0) (fun _ _ _ _ _ => True) (fun _ U o U' => ∃ v L, o = .returned v ∧ Q_rm_with Z a0x a2x i1x q1 h0 n0 v U'.heap L ∧ ReturnedEndW U o U' L ({ frames := 3, cells := 5, slots := 43, locals := 41 } : Room).cells ({ frames := 3, cells := 5, slots := 43, locals := 41 } : Room).slots) := by
  refine MetFree.of_bodySF (plainFor_of_name pn_3) hisR ?_
  intro p e s m args below meth c s₁ Bd hml0 hP hK
  obtain ⟨rfl, hZ, hh⟩ := hP
  have hx := Bd.exec
  have hby := Bd.bytes
  have hml : c.maxLocals = 2 := hml0
  have hown : s.vm.findClass "com/example/fyfo/fyfo/Job" = some m.cls := findClass_of_methodNamed Bd.named
  have hnm := (name_of_methodNamed Bd.named Bd.method).1
  have X0 : Stand p l e ({ frames := 3, cells := 5, slots := 43, locals := 41 } : Room) (s.setVm s.vm) m #[(.ref a0x), (.ref a2x)] below meth c s₁ [] 0 0 := Stand.of_body Bd
  have e0 : s₁.heap = h0 := by rw [← hh, Bd.state]; rfl
  have N0 := Fr.nil n0
  have hS0 : s.Since s.vm s.heap.size := (State.WarmedH.refl s).since _
  have hk0 : s.heap.size ≤ h0.size := Nat.le_of_eq (congrArg Array.size hh)
  have wS : ∀ a ∈ Bundle.stringAtoms, a.before a0 Z = true := by
    intro a ha
    simp only [Bundle.stringAtoms, List.mem_cons, List.not_mem_nil, or_false] at ha
    rcases ha with rfl | rfl | rfl | rfl | rfl | rfl | rfl <;> first | exact hw _ (List.mem_of_getElem? (i := 3) rfl) | exact hw _ (List.mem_of_getElem? (i := 2) rfl) | exact hw _ (List.mem_of_getElem? (i := 19) rfl) | exact hw _ (List.mem_of_getElem? (i := 29) rfl) | exact hw _ (List.mem_of_getElem? (i := 27) rfl) | exact hw _ (List.mem_of_getElem? (i := 52) rfl) | exact hw _ (List.mem_of_getElem? (i := 53) rfl)
  have K0 : Keep h0 h0 [] := Keep.refl h0 []
  have pre0 : ∀ t, Steps p.tables e below (s₁.setTop (mkF m 0 #[.val (.ref a0x), .val (.ref a2x)] [])) t → Steps p.tables e below (s₁.setTop (entryFrame m #[(.ref a0x), (.ref a2x)] 2)) t := fun t k => castTop (ef_11 m a0x a2x) k
  obtain ⟨T1, h1, X1, e1, E1, A1, D1, -, st1⟩ := newO X0 hx hZ hown (hw _ (List.mem_of_getElem? (i := 70) rfl)) (hw _ (List.mem_of_getElem? (i := 40) rfl)) (hw _ (List.mem_of_getElem? (i := 41) rfl)) e0 (g := (mkF m 0 #[.val (.ref a0x), .val (.ref a2x)] [])) rfl (hb hby d11_0) (by decide) (by decide)
  obtain ⟨b1, g1⟩ : ∃ z, z = h0.size := ⟨_, rfl⟩
  rw [← g1] at A1 D1 st1
  have ne_a0x_b1 : a0x ≠ b1 := Nat.ne_of_lt (Nat.lt_of_lt_of_le F0x.lt (Nat.le_of_eq g1.symm))
  have g_b1 : n0 ≤ b1 := Nat.le_trans Z0 (Nat.le_of_eq g1.symm)
  have sz_b1 : h0.size ≤ b1 := Nat.le_trans K0.1 (Nat.le_of_eq g1.symm)
  have F0x_1 : Fld Z h1 a0x "com/example/fyfo/fyfo/Job" "id" "Ljava/lang/String;" (.ref i1x) := F0x.ext E1
  have F1x_1 : Fld Z h1 a0x "com/example/fyfo/fyfo/Job" "executionNanos" "J" (.long q1) := F1x.ext E1
  have hk1' : _ ≤ h1.size := Nat.le_trans hk0 E1.1
  have Z1 : n0 ≤ h1.size := Nat.le_trans Z0 E1.1
  have K1 : Keep h0 h1 [] := K0.ext E1
  have F_id_b1 : Fld Z h1 b1 "com/example/fyfo/fyfo/Job" "id" "Ljava/lang/String;" .null := D1 (Or.inr (hw _ (List.mem_of_getElem? (i := 60) rfl))) (ty := (.object "java/lang/String")) (by decide)
  have F_executionNanos_b1 : Fld Z h1 b1 "com/example/fyfo/fyfo/Job" "executionNanos" "J" (.long (0 : Int64)) := D1 (Or.inr (hw _ (List.mem_of_getElem? (i := 62) rfl))) (ty := .long) (by decide)
  have F_status_b1 : Fld Z h1 b1 "com/example/fyfo/fyfo/Job" "status" "Lcom/example/fyfo/fyfo/JobStatus;" .null := D1 (Or.inr (hw _ (List.mem_of_getElem? (i := 64) rfl))) (ty := (.object "com/example/fyfo/fyfo/JobStatus")) (by decide)
  obtain ⟨T2, X2, e2, st2⟩ := getF X1 hx hZ hown (host := "") (Or.inl (hw _ (List.mem_of_getElem? (i := 59) rfl))) Via.refl e1 F0x_1 (g := (mkF m 5 #[.val (.ref a0x), .val (.ref a2x)] [(.ref a0x), (.ref b1), (.ref b1)])) rfl rfl (hb hby d11_5)
  obtain ⟨T3, X3, e3, st3⟩ := getF X2 hx hZ hown (host := "") (Or.inl (hw _ (List.mem_of_getElem? (i := 61) rfl))) Via.refl e2 F1x_1 (g := (mkF m 9 #[.val (.ref a0x), .val (.ref a2x)] [(.ref a0x), (.ref i1x), (.ref b1), (.ref b1)])) rfl rfl (hb hby d11_9)
  obtain ⟨_, _, ⟨T4, L4, k4, n4⟩, -, X4, hSq4, gr4, ⟨Lc4, hQ4, l4, y4, z4⟩, st4⟩ := X3.specialBackS hx (y := (⟨"com/example/fyfo/fyfo/Job", "<init>", "(Ljava/lang/String;JLcom/example/fyfo/fyfo/JobStatus;)V"⟩ : MethodName)) rfl hown (mvT hZ (hw _ (List.mem_of_getElem? (i := 71) rfl))) (mvT hZ (hw _ (List.mem_of_getElem? (i := 43) rfl))) (mvT hZ (hw _ (List.mem_of_getElem? (i := 44) rfl))) (by decide) (backOfS (W := 1) (rm_job l Z a0 hw [] b1 i1x q1 a2x h1 n0 Z1 A1 F_id_b1 F_executionNanos_b1 F_status_b1 g_b1) hZ (hw _ (List.mem_of_getElem? (i := 44) rfl)) (hw _ (List.mem_of_getElem? (i := 41) rfl)) (by decide) (by decide)) (g := (mkF m 13 #[.val (.ref a0x), .val (.ref a2x)] [(.ref a2x), (.long q1), (.ref i1x), (.ref b1), (.ref b1)])) rfl (by rw [hml]; rfl) (Steps.refl _) (a := b1) (argsL := [(.ref i1x), (.long q1), (.ref a2x)]) (rest := [(.ref b1)]) (lenOf pd_2 rfl) rfl (by show 2 * 0 + _ ≤ _; exact Nat.le_of_eq rfl) (hb hby d11_13) (fun _ _ => ⟨rfl, e3, (by decide : 1 + 4 ≤ _), (by decide : 3 + 40 ≤ _)⟩)
  dsimp only [Pt.U, Pt.locs, Pt.cells, Pt.slots] at X4 l4 y4 z4 st4 hQ4 hSq4 gr4
  subst l4 y4 z4
  obtain ⟨rfl, N4q, x4c0, x4c1, x4c2, x4c3⟩ := hQ4
  have N4 := Fr.app N0 N4q
  have F0x_4 : Fld Z T4.heap a0x "com/example/fyfo/fyfo/Job" "id" "Ljava/lang/String;" (.ref i1x) := F0x_1.keep x4c0 (ninS ne_a0x_b1 nin0)
  have F1x_4 : Fld Z T4.heap a0x "com/example/fyfo/fyfo/Job" "executionNanos" "J" (.long q1) := F1x_1.keep x4c0 (ninS ne_a0x_b1 nin0)
  have A1_4 : Exa Z T4.heap b1 "com/example/fyfo/fyfo/Job" := A1.keep x4c0
  have hk4' : _ ≤ T4.heap.size := Nat.le_trans hk1' x4c0.1
  have Z4 : n0 ≤ T4.heap.size := Nat.le_trans Z1 x4c0.1
  have K4 : Keep h0 T4.heap [] := K1.trans x4c0 (allS (P := fun x => x ∈ [] ∨ h0.size ≤ x) (Or.inr sz_b1) all0)
  have X4b : Stand p l e ({ frames := 3, cells := 5, slots := 43, locals := 41 } : Room) (s.setVm T4.vm) m #[(.ref a0x), (.ref a2x)] below meth c T4 _ _ _ := X4
  have hS4 : s.Since T4.vm T4.heap.size := foldS hS0 (T := T3) (by first | exact hk1' | (rw [e3]; exact hk1')) hSq4 gr4
  have hZ4 : Z.Warmed39 (s.setVm T4.vm).vm := State.Warmed39.trans (t := s.setVm s.vm) hZ hSq4.1
  have hown4 : (s.setVm T4.vm).vm.findClass "com/example/fyfo/fyfo/Job" = some m.cls := by rw [show (s.setVm T4.vm).vm = T4.vm from rfl, hSq4.1.alike.findClass]; exact hown
  have hk4 := Nat.le_refl T4.heap.size
  obtain ⟨fs, hr, hrun, hended, hREW⟩ := X4b.leaveW hS4 (by first | exact hk4 | (rw [rfl]; exact hk4)) (v := some (.ref b1)) (fun h => by rw [Bd.returns] at h; cases h)
  refine ⟨_, _, pre0 _ ?_, hrun, hended, _, _, rfl, ?_, hREW.1, hREW.2.1, hREW.2.2.1, hREW.2.2.2.mono (by decide) (by decide)⟩
  · show Steps p.tables e below (s₁.setTop (mkF m 0 #[.val (.ref a0x), .val (.ref a2x)] [])) _
    refine st1 _ ?_
    show Steps p.tables e below (T1.setTop (mkF m 3 #[.val (.ref a0x), .val (.ref a2x)] [(.ref b1)])) _
    refine XS.dup X1.here hx rfl (hb hby d11_3) rfl rfl ?_
    show Steps p.tables e below (T1.setTop (mkF m 4 #[.val (.ref a0x), .val (.ref a2x)] [(.ref b1), (.ref b1)])) _
    refine XS.aloadN X1.here hx rfl (hb hby d11_4) rfl rfl ?_
    show Steps p.tables e below (T1.setTop (mkF m 5 #[.val (.ref a0x), .val (.ref a2x)] [(.ref a0x), (.ref b1), (.ref b1)])) _
    refine st2 _ ?_
    show Steps p.tables e below (T2.setTop (mkF m 8 #[.val (.ref a0x), .val (.ref a2x)] [(.ref i1x), (.ref b1), (.ref b1)])) _
    refine XS.aloadN X2.here hx rfl (hb hby d11_8) rfl rfl ?_
    show Steps p.tables e below (T2.setTop (mkF m 9 #[.val (.ref a0x), .val (.ref a2x)] [(.ref a0x), (.ref i1x), (.ref b1), (.ref b1)])) _
    refine st3 _ ?_
    show Steps p.tables e below (T3.setTop (mkF m 12 #[.val (.ref a0x), .val (.ref a2x)] [(.long q1), (.ref i1x), (.ref b1), (.ref b1)])) _
    refine XS.aloadN X3.here hx rfl (hb hby d11_12) rfl rfl ?_
    show Steps p.tables e below (T3.setTop (mkF m 13 #[.val (.ref a0x), .val (.ref a2x)] [(.ref a2x), (.long q1), (.ref i1x), (.ref b1), (.ref b1)])) _
    refine st4.trans ?_
    show Steps p.tables e below (T4.setTop (mkF m 16 #[.val (.ref a0x), .val (.ref a2x)] [(.ref b1)])) _
    exact retOut X4b hx Bd.returns (by rfl) (Or.inr (Or.inr (Or.inr (Or.inr ⟨rfl, rfl, rfl⟩)))) (hb hby d11_16) hr
  · show Q_rm_with Z a0x a2x i1x q1 h0 n0 _ T4.heap _
    exact ⟨b1, rfl, N4, K4, g_b1, sz_b1, A1_4, x4c1, x4c2, x4c3⟩
theorem d12_0 : decode prog_10_method_6_code 0 = .ok (.aload_n 0, 1) := by decide +kernel
theorem d12_1 : decode prog_10_method_6_code 1 = .ok (.getfield 17, 3) := by decide +kernel
theorem d12_4 : decode prog_10_method_6_code 4 = .ok (.areturn, 1) := by decide +kernel
theorem ef_12 (m : MethodId) (x0 : Addr) : entryFrame m #[(.ref x0)] 1 = mkF m 0 #[.val (.ref x0)] [] := by first | (simp [entryFrame, mkF, argsToLocals, Value.category]; done) | rfl
def Q_rm_id (Z : State) (a0x : Addr) (v1x : Addr) (h0 : Heap) (n0 : Nat) (v : Option Value) (h : Heap) (L : List Loc) : Prop := v = some (.ref v1x) ∧ Fr n0 L ∧ h = h0
set_option maxRecDepth 65536 in
set_option maxHeartbeats 40000000 in
theorem rm_id (l : Launch) (Z : State) (a0 : Array Value) (hw : ∀ d ∈ tables_1, d.before a0 Z = true) (ws : List Jvm.Cond) (a0x : Addr) (v1x : Addr) (h0 : Heap) (n0 : Nat) (Z0 : n0 ≤ h0.size) (F0x : Fld Z h0 a0x "com/example/fyfo/fyfo/Job" "id" "Ljava/lang/String;" (.ref v1x)) :
    MetFree l (⟨"com/example/fyfo/fyfo/Job", "id", "()Ljava/lang/String;"⟩ : MethodName) (head1 (Jvm.Cond.code (⟨"com/example/fyfo/fyfo/Job", "id", "()Ljava/lang/String;"⟩ : MethodName) prog_10_method_6_code 1 (some (.object "java/lang/String")) :: ws) ({ frames := 0, cells := 0, slots := 0, locals := 0 } : Room)) (fun a U => a = #[(.ref a0x)] ∧ Z.Warmed39 U.vm ∧ U.heap = h0) (fun _ _ _ _ _ => True) (fun _ U o U' => ∃ v L, o = .returned v ∧ Q_rm_id Z a0x v1x h0 n0 v U'.heap L ∧ FrameEnd U o U' L ({ frames := 0, cells := 0, slots := 0, locals := 0 } : Room).cells ({ frames := 0, cells := 0, slots := 0, locals := 0 } : Room).slots) := by
  refine MetFree.of_bodySF (plainFor_of_name pn_3) hisR ?_
  intro p e s m args below meth c s₁ Bd hml0 hP hK
  obtain ⟨rfl, hZ, hh⟩ := hP
  have hx := Bd.exec
  have hby := Bd.bytes
  have hml : c.maxLocals = 1 := hml0
  have hown : s.vm.findClass "com/example/fyfo/fyfo/Job" = some m.cls := findClass_of_methodNamed Bd.named
  have hnm := (name_of_methodNamed Bd.named Bd.method).1
  have X0 : Stand p l e ({ frames := 0, cells := 0, slots := 0, locals := 0 } : Room) s m #[(.ref a0x)] below meth c s₁ [] 0 0 := Stand.of_body Bd
  have e0 : s₁.heap = h0 := by rw [← hh, Bd.state]; rfl
  have N0 := Fr.nil n0
  have pre0 : ∀ t, Steps p.tables e below (s₁.setTop (mkF m 0 #[.val (.ref a0x)] [])) t → Steps p.tables e below (s₁.setTop (entryFrame m #[(.ref a0x)] 1)) t := fun t k => castTop (ef_12 m a0x) k
  obtain ⟨T1, X1, e1, st1⟩ := getF X0 hx hZ hown (host := "") (Or.inl (hw _ (List.mem_of_getElem? (i := 59) rfl))) Via.refl e0 F0x (g := (mkF m 1 #[.val (.ref a0x)] [(.ref a0x)])) rfl rfl (hb hby d12_1)
  obtain ⟨fs, hr, hrun, hended, hW, hsame⟩ := X1.leave (v := some (.ref v1x)) (fun h => by rw [Bd.returns] at h; cases h)
  refine ⟨_, _, pre0 _ ?_, hrun, hended, _, _, rfl, ?_, ⟨_, rfl⟩, hW, hsame.mono (by decide) (by decide)⟩
  · show Steps p.tables e below (s₁.setTop (mkF m 0 #[.val (.ref a0x)] [])) _
    refine XS.aloadN X0.here hx rfl (hb hby d12_0) rfl rfl ?_
    show Steps p.tables e below (s₁.setTop (mkF m 1 #[.val (.ref a0x)] [(.ref a0x)])) _
    refine st1 _ ?_
    show Steps p.tables e below (T1.setTop (mkF m 4 #[.val (.ref a0x)] [(.ref v1x)])) _
    exact retOut X1 hx Bd.returns (by rfl) (Or.inr (Or.inr (Or.inr (Or.inr ⟨rfl, rfl, rfl⟩)))) (hb hby d12_4) hr
  · show Q_rm_id Z a0x v1x h0 n0 _ T1.heap _
    rw [e1]
    exact ⟨rfl, N0, rfl⟩
theorem d14_0 : decode prog_10_method_7_code 0 = .ok (.aload_n 0, 1) := by decide +kernel
theorem d14_1 : decode prog_10_method_7_code 1 = .ok (.getfield 22, 3) := by decide +kernel
theorem d14_4 : decode prog_10_method_7_code 4 = .ok (.lreturn, 1) := by decide +kernel
theorem ef_14 (m : MethodId) (x0 : Addr) : entryFrame m #[(.ref x0)] 1 = mkF m 0 #[.val (.ref x0)] [] := by first | (simp [entryFrame, mkF, argsToLocals, Value.category]; done) | rfl
def Q_rm_nanos (Z : State) (a0x : Addr) (v1x : Int64) (h0 : Heap) (n0 : Nat) (v : Option Value) (h : Heap) (L : List Loc) : Prop := v = some (.long v1x) ∧ Fr n0 L ∧ h = h0
set_option maxRecDepth 65536 in
set_option maxHeartbeats 40000000 in
theorem rm_nanos (l : Launch) (Z : State) (a0 : Array Value) (hw : ∀ d ∈ tables_1, d.before a0 Z = true) (ws : List Jvm.Cond) (a0x : Addr) (v1x : Int64) (h0 : Heap) (n0 : Nat) (Z0 : n0 ≤ h0.size) (F0x : Fld Z h0 a0x "com/example/fyfo/fyfo/Job" "executionNanos" "J" (.long v1x)) :
    MetFree l (⟨"com/example/fyfo/fyfo/Job", "executionNanos", "()J"⟩ : MethodName) (head1 (Jvm.Cond.code (⟨"com/example/fyfo/fyfo/Job", "executionNanos", "()J"⟩ : MethodName) prog_10_method_7_code 1 (some .long) :: ws) ({ frames := 0, cells := 0, slots := 0, locals := 0 } : Room)) (fun a U => a = #[(.ref a0x)] ∧ Z.Warmed39 U.vm ∧ U.heap = h0) (fun _ _ _ _ _ => True) (fun _ U o U' => ∃ v L, o = .returned v ∧ Q_rm_nanos Z a0x v1x h0 n0 v U'.heap L ∧ FrameEnd U o U' L ({ frames := 0, cells := 0, slots := 0, locals := 0 } : Room).cells ({ frames := 0, cells := 0, slots := 0, locals := 0 } : Room).slots) := by
  refine MetFree.of_bodySF (plainFor_of_name pn_3) hisR ?_
  intro p e s m args below meth c s₁ Bd hml0 hP hK
  obtain ⟨rfl, hZ, hh⟩ := hP
  have hx := Bd.exec
  have hby := Bd.bytes
  have hml : c.maxLocals = 1 := hml0
  have hown : s.vm.findClass "com/example/fyfo/fyfo/Job" = some m.cls := findClass_of_methodNamed Bd.named
  have hnm := (name_of_methodNamed Bd.named Bd.method).1
  have X0 : Stand p l e ({ frames := 0, cells := 0, slots := 0, locals := 0 } : Room) s m #[(.ref a0x)] below meth c s₁ [] 0 0 := Stand.of_body Bd
  have e0 : s₁.heap = h0 := by rw [← hh, Bd.state]; rfl
  have N0 := Fr.nil n0
  have pre0 : ∀ t, Steps p.tables e below (s₁.setTop (mkF m 0 #[.val (.ref a0x)] [])) t → Steps p.tables e below (s₁.setTop (entryFrame m #[(.ref a0x)] 1)) t := fun t k => castTop (ef_14 m a0x) k
  obtain ⟨T1, X1, e1, st1⟩ := getF X0 hx hZ hown (host := "") (Or.inl (hw _ (List.mem_of_getElem? (i := 61) rfl))) Via.refl e0 F0x (g := (mkF m 1 #[.val (.ref a0x)] [(.ref a0x)])) rfl rfl (hb hby d14_1)
  obtain ⟨fs, hr, hrun, hended, hW, hsame⟩ := X1.leave (v := some (.long v1x)) (fun h => by rw [Bd.returns] at h; cases h)
  refine ⟨_, _, pre0 _ ?_, hrun, hended, _, _, rfl, ?_, ⟨_, rfl⟩, hW, hsame.mono (by decide) (by decide)⟩
  · show Steps p.tables e below (s₁.setTop (mkF m 0 #[.val (.ref a0x)] [])) _
    refine XS.aloadN X0.here hx rfl (hb hby d14_0) rfl rfl ?_
    show Steps p.tables e below (s₁.setTop (mkF m 1 #[.val (.ref a0x)] [(.ref a0x)])) _
    refine st1 _ ?_
    show Steps p.tables e below (T1.setTop (mkF m 4 #[.val (.ref a0x)] [(.long v1x)])) _
    exact retOut X1 hx Bd.returns (by rfl) (Or.inr (Or.inl ⟨rfl, rfl, _, rfl⟩)) (hb hby d14_4) hr
  · show Q_rm_nanos Z a0x v1x h0 n0 _ T1.heap _
    rw [e1]
    exact ⟨rfl, N0, rfl⟩
theorem d15_0 : decode prog_10_method_8_code 0 = .ok (.aload_n 0, 1) := by decide +kernel
theorem d15_1 : decode prog_10_method_8_code 1 = .ok (.getfield 26, 3) := by decide +kernel
theorem d15_4 : decode prog_10_method_8_code 4 = .ok (.areturn, 1) := by decide +kernel
theorem ef_15 (m : MethodId) (x0 : Addr) : entryFrame m #[(.ref x0)] 1 = mkF m 0 #[.val (.ref x0)] [] := by first | (simp [entryFrame, mkF, argsToLocals, Value.category]; done) | rfl
def Q_rm_status (Z : State) (a0x : Addr) (v1x : Addr) (h0 : Heap) (n0 : Nat) (v : Option Value) (h : Heap) (L : List Loc) : Prop := v = some (.ref v1x) ∧ Fr n0 L ∧ h = h0
set_option maxRecDepth 65536 in
set_option maxHeartbeats 40000000 in
theorem rm_status (l : Launch) (Z : State) (a0 : Array Value) (hw : ∀ d ∈ tables_1, d.before a0 Z = true) (ws : List Jvm.Cond) (a0x : Addr) (v1x : Addr) (h0 : Heap) (n0 : Nat) (Z0 : n0 ≤ h0.size) (F0x : Fld Z h0 a0x "com/example/fyfo/fyfo/Job" "status" "Lcom/example/fyfo/fyfo/JobStatus;" (.ref v1x)) :
    MetFree l (⟨"com/example/fyfo/fyfo/Job", "status", "()Lcom/example/fyfo/fyfo/JobStatus;"⟩ : MethodName) (head1 (Jvm.Cond.code (⟨"com/example/fyfo/fyfo/Job", "status", "()Lcom/example/fyfo/fyfo/JobStatus;"⟩ : MethodName) prog_10_method_8_code 1 (some (.object "com/example/fyfo/fyfo/JobStatus")) :: ws) ({ frames := 0, cells := 0, slots := 0, locals := 0 } : Room)) (fun a U => a = #[(.ref a0x)] ∧ Z.Warmed39 U.vm ∧ U.heap = h0) (fun _ _ _ _ _ => True) (fun _ U o U' => ∃ v L, o = .returned v ∧ Q_rm_status Z a0x v1x h0 n0 v U'.heap L ∧ FrameEnd U o U' L ({ frames := 0, cells := 0, slots := 0, locals := 0 } : Room).cells ({ frames := 0, cells := 0, slots := 0, locals := 0 } : Room).slots) := by
  refine MetFree.of_bodySF (plainFor_of_name pn_3) hisR ?_
  intro p e s m args below meth c s₁ Bd hml0 hP hK
  obtain ⟨rfl, hZ, hh⟩ := hP
  have hx := Bd.exec
  have hby := Bd.bytes
  have hml : c.maxLocals = 1 := hml0
  have hown : s.vm.findClass "com/example/fyfo/fyfo/Job" = some m.cls := findClass_of_methodNamed Bd.named
  have hnm := (name_of_methodNamed Bd.named Bd.method).1
  have X0 : Stand p l e ({ frames := 0, cells := 0, slots := 0, locals := 0 } : Room) s m #[(.ref a0x)] below meth c s₁ [] 0 0 := Stand.of_body Bd
  have e0 : s₁.heap = h0 := by rw [← hh, Bd.state]; rfl
  have N0 := Fr.nil n0
  have pre0 : ∀ t, Steps p.tables e below (s₁.setTop (mkF m 0 #[.val (.ref a0x)] [])) t → Steps p.tables e below (s₁.setTop (entryFrame m #[(.ref a0x)] 1)) t := fun t k => castTop (ef_15 m a0x) k
  obtain ⟨T1, X1, e1, st1⟩ := getF X0 hx hZ hown (host := "") (Or.inl (hw _ (List.mem_of_getElem? (i := 63) rfl))) Via.refl e0 F0x (g := (mkF m 1 #[.val (.ref a0x)] [(.ref a0x)])) rfl rfl (hb hby d15_1)
  obtain ⟨fs, hr, hrun, hended, hW, hsame⟩ := X1.leave (v := some (.ref v1x)) (fun h => by rw [Bd.returns] at h; cases h)
  refine ⟨_, _, pre0 _ ?_, hrun, hended, _, _, rfl, ?_, ⟨_, rfl⟩, hW, hsame.mono (by decide) (by decide)⟩
  · show Steps p.tables e below (s₁.setTop (mkF m 0 #[.val (.ref a0x)] [])) _
    refine XS.aloadN X0.here hx rfl (hb hby d15_0) rfl rfl ?_
    show Steps p.tables e below (s₁.setTop (mkF m 1 #[.val (.ref a0x)] [(.ref a0x)])) _
    refine st1 _ ?_
    show Steps p.tables e below (T1.setTop (mkF m 4 #[.val (.ref a0x)] [(.ref v1x)])) _
    exact retOut X1 hx Bd.returns (by rfl) (Or.inr (Or.inr (Or.inr (Or.inr ⟨rfl, rfl, rfl⟩)))) (hb hby d15_4) hr
  · show Q_rm_status Z a0x v1x h0 n0 _ T1.heap _
    rw [e1]
    exact ⟨rfl, N0, rfl⟩
theorem d13_0 : decode jdk_42_method_66_code 0 = .ok (.aload_n 0, 1) := by decide +kernel
theorem d13_1 : decode jdk_42_method_66_code 1 = .ok (.aload_n 1, 1) := by decide +kernel
theorem d13_2 : decode jdk_42_method_66_code 2 = .ok (.if_acmp .ne 5, 3) := by decide +kernel
theorem d13_5 : decode jdk_42_method_66_code 5 = .ok (.iconst 1, 1) := by decide +kernel
theorem d13_6 : decode jdk_42_method_66_code 6 = .ok (.ireturn, 1) := by decide +kernel
theorem pn_4 : plainName "java/lang/String" = true := by first | (simp [plainName, overriddenIn]; done) | decide +kernel
theorem ef_13 (m : MethodId) (x0 : Addr) (x1 : Addr) : entryFrame m #[(.ref x0), (.ref x1)] 3 = mkF m 0 #[.val (.ref x0), .val (.ref x1), .unset] [] := by first | (simp [entryFrame, mkF, argsToLocals, Value.category]; done) | rfl
def Q_rm_eq (Z : State) (a0x : Addr) (a1x : Addr) (h0 : Heap) (n0 : Nat) (v : Option Value) (h : Heap) (L : List Loc) : Prop := v = some (.int (1 : Int32)) ∧ Fr n0 L ∧ h = h0
set_option maxRecDepth 65536 in
set_option maxHeartbeats 40000000 in
theorem rm_eq (l : Launch) (Z : State) (a0 : Array Value) (hw : ∀ d ∈ tables_1, d.before a0 Z = true) (ws : List Jvm.Cond) (a0x : Addr) (a1x : Addr) (h0 : Heap) (n0 : Nat) (Z0 : n0 ≤ h0.size) (heq : a0x = a1x) :
    MetFree l (⟨"java/lang/String", "equals", "(Ljava/lang/Object;)Z"⟩ : MethodName) (head1 (Jvm.Cond.code (⟨"java/lang/String", "equals", "(Ljava/lang/Object;)Z"⟩ : MethodName) jdk_42_method_66_code 3 (some .boolean) :: ws) ({ frames := 0, cells := 0, slots := 0, locals := 0 } : Room)) (fun a U => a = #[(.ref a0x), (.ref a1x)] ∧ Z.Warmed39 U.vm ∧ U.heap = h0) (fun _ _ _ _ _ => True) (fun _ U o U' => ∃ v L, o = .returned v ∧ Q_rm_eq Z a0x a1x h0 n0 v U'.heap L ∧ FrameEnd U o U' L ({ frames := 0, cells := 0, slots := 0, locals := 0 } : Room).cells ({ frames := 0, cells := 0, slots := 0, locals := 0 } : Room).slots) := by
  refine MetFree.of_bodySF (plainFor_of_name pn_4) hisR ?_
  intro p e s m args below meth c s₁ Bd hml0 hP hK
  obtain ⟨rfl, hZ, hh⟩ := hP
  have hx := Bd.exec
  have hby := Bd.bytes
  have hml : c.maxLocals = 3 := hml0
  have hown : s.vm.findClass "java/lang/String" = some m.cls := findClass_of_methodNamed Bd.named
  have hnm := (name_of_methodNamed Bd.named Bd.method).1
  have X0 : Stand p l e ({ frames := 0, cells := 0, slots := 0, locals := 0 } : Room) s m #[(.ref a0x), (.ref a1x)] below meth c s₁ [] 0 0 := Stand.of_body Bd
  have e0 : s₁.heap = h0 := by rw [← hh, Bd.state]; rfl
  have N0 := Fr.nil n0
  have pre0 : ∀ t, Steps p.tables e below (s₁.setTop (mkF m 0 #[.val (.ref a0x), .val (.ref a1x), .unset] [])) t → Steps p.tables e below (s₁.setTop (entryFrame m #[(.ref a0x), (.ref a1x)] 3)) t := fun t k => castTop (ef_13 m a0x a1x) k
  obtain ⟨fs, hr, hrun, hended, hW, hsame⟩ := X0.leave (v := some (.int (1 : Int32))) (fun h => by rw [Bd.returns] at h; cases h)
  refine ⟨_, _, pre0 _ ?_, hrun, hended, _, _, rfl, ?_, ⟨_, rfl⟩, hW, hsame.mono (by decide) (by decide)⟩
  · show Steps p.tables e below (s₁.setTop (mkF m 0 #[.val (.ref a0x), .val (.ref a1x), .unset] [])) _
    refine XS.aloadN X0.here hx rfl (hb hby d13_0) rfl rfl ?_
    show Steps p.tables e below (s₁.setTop (mkF m 1 #[.val (.ref a0x), .val (.ref a1x), .unset] [(.ref a0x)])) _
    refine XS.aloadN X0.here hx rfl (hb hby d13_1) rfl rfl ?_
    show Steps p.tables e below (s₁.setTop (mkF m 2 #[.val (.ref a0x), .val (.ref a1x), .unset] [(.ref a1x), (.ref a0x)])) _
    refine Jvm.RoadKit.acmp (g := (mkF m 2 #[.val (.ref a0x), .val (.ref a1x), .unset] [(.ref a1x), (.ref a0x)])) X0 hx rfl rfl rfl (pc0 := 2) (pc' := 5) (same := true) rfl (hb hby d13_2) rfl (decide_eq_true (congrArg Value.ref heq)) (by decide) (by decide) ?_
    show Steps p.tables e below (s₁.setTop (mkF m 5 #[.val (.ref a0x), .val (.ref a1x), .unset] [])) _
    refine XS.iconst X0.here hx rfl (hb hby d13_5) ?_
    show Steps p.tables e below (s₁.setTop (mkF m 6 #[.val (.ref a0x), .val (.ref a1x), .unset] [(.int (1 : Int32))])) _
    exact retN X0 hx (t := .boolean) Bd.returns (by simp) (hb hby d13_6) hr
  · show Q_rm_eq Z a0x a1x h0 n0 _ s₁.heap _
    rw [e0]
    exact ⟨rfl, N0, rfl⟩
theorem d17_0 : decode jdk_43_method_3_code 0 = .ok (.iload_n 0, 1) := by decide +kernel
theorem d17_1 : decode jdk_43_method_3_code 1 = .ok (.sipush 255, 3) := by decide +kernel
theorem d17_4 : decode jdk_43_method_3_code 4 = .ok (.if_icmp .gt 7, 3) := by decide +kernel
theorem d17_7 : decode jdk_43_method_3_code 7 = .ok (.iconst 1, 1) := by decide +kernel
theorem d17_8 : decode jdk_43_method_3_code 8 = .ok (.goto 4, 3) := by decide +kernel
theorem d17_12 : decode jdk_43_method_3_code 12 = .ok (.ireturn, 1) := by decide +kernel
theorem pn_5 : plainName "java/lang/StringLatin1" = true := by first | (simp [plainName, overriddenIn]; done) | decide +kernel
theorem ef_17 (m : MethodId) (x0 : Int32) : entryFrame m #[(.int x0)] 1 = mkF m 0 #[.val (.int x0)] [] := by first | (simp [entryFrame, mkF, argsToLocals, Value.category]; done) | rfl
def Q_rm_can (Z : State) (p0 : Int32) (h0 : Heap) (n0 : Nat) (v : Option Value) (h : Heap) (L : List Loc) : Prop := v = some (.int (1 : Int32)) ∧ Fr n0 L ∧ h = h0
set_option maxRecDepth 65536 in
set_option maxHeartbeats 40000000 in
theorem rm_can (l : Launch) (Z : State) (a0 : Array Value) (hw : ∀ d ∈ tables_1, d.before a0 Z = true) (ws : List Jvm.Cond) (p0 : Int32) (h0 : Heap) (n0 : Nat) (Z0 : n0 ≤ h0.size) (hc : ¬ ((255 : Int32) < p0)) :
    MetFree l (⟨"java/lang/StringLatin1", "canEncode", "(C)Z"⟩ : MethodName) (head1 (Jvm.Cond.code (⟨"java/lang/StringLatin1", "canEncode", "(C)Z"⟩ : MethodName) jdk_43_method_3_code 1 (some .boolean) :: ws) ({ frames := 0, cells := 0, slots := 0, locals := 0 } : Room)) (fun a U => a = #[(.int p0)] ∧ Z.Warmed39 U.vm ∧ U.heap = h0) (fun _ _ _ _ _ => True) (fun _ U o U' => ∃ v L, o = .returned v ∧ Q_rm_can Z p0 h0 n0 v U'.heap L ∧ FrameEnd U o U' L ({ frames := 0, cells := 0, slots := 0, locals := 0 } : Room).cells ({ frames := 0, cells := 0, slots := 0, locals := 0 } : Room).slots) := by
  refine MetFree.of_bodySF (plainFor_of_name pn_5) hisR ?_
  intro p e s m args below meth c s₁ Bd hml0 hP hK
  obtain ⟨rfl, hZ, hh⟩ := hP
  have hx := Bd.exec
  have hby := Bd.bytes
  have hml : c.maxLocals = 1 := hml0
  have hown : s.vm.findClass "java/lang/StringLatin1" = some m.cls := findClass_of_methodNamed Bd.named
  have hnm := (name_of_methodNamed Bd.named Bd.method).1
  have X0 : Stand p l e ({ frames := 0, cells := 0, slots := 0, locals := 0 } : Room) s m #[(.int p0)] below meth c s₁ [] 0 0 := Stand.of_body Bd
  have e0 : s₁.heap = h0 := by rw [← hh, Bd.state]; rfl
  have N0 := Fr.nil n0
  have pre0 : ∀ t, Steps p.tables e below (s₁.setTop (mkF m 0 #[.val (.int p0)] [])) t → Steps p.tables e below (s₁.setTop (entryFrame m #[(.int p0)] 1)) t := fun t k => castTop (ef_17 m p0) k
  obtain ⟨fs, hr, hrun, hended, hW, hsame⟩ := X0.leave (v := some (.int (1 : Int32))) (fun h => by rw [Bd.returns] at h; cases h)
  refine ⟨_, _, pre0 _ ?_, hrun, hended, _, _, rfl, ?_, ⟨_, rfl⟩, hW, hsame.mono (by decide) (by decide)⟩
  · show Steps p.tables e below (s₁.setTop (mkF m 0 #[.val (.int p0)] [])) _
    refine XS.iloadN X0.here hx rfl (hb hby d17_0) rfl ?_
    show Steps p.tables e below (s₁.setTop (mkF m 1 #[.val (.int p0)] [(.int p0)])) _
    refine XS.sipush X0.here hx rfl (hb hby d17_1) ?_
    show Steps p.tables e below (s₁.setTop (mkF m 4 #[.val (.int p0)] [(.int (255 : Int32)), (.int p0)])) _
    refine XS.icmpNo X0.here hx rfl (hb hby d17_4) rfl (flt hc).2.2.1 ?_
    show Steps p.tables e below (s₁.setTop (mkF m 7 #[.val (.int p0)] [])) _
    refine XS.iconst X0.here hx rfl (hb hby d17_7) ?_
    show Steps p.tables e below (s₁.setTop (mkF m 8 #[.val (.int p0)] [(.int (1 : Int32))])) _
    refine XS.goto X0.here hx rfl (pc0 := 8) (pc' := 12) rfl (hb hby d17_8) (by decide) (by decide) ?_
    show Steps p.tables e below (s₁.setTop (mkF m 12 #[.val (.int p0)] [(.int (1 : Int32))])) _
    exact retN X0 hx (t := .boolean) Bd.returns (by simp) (hb hby d17_12) hr
  · show Q_rm_can Z p0 h0 n0 _ s₁.heap _
    rw [e0]
    exact ⟨rfl, N0, rfl⟩
theorem d18_0 : decode jdk_43_method_46_code 0 = .ok (.iconst 1, 1) := by decide +kernel
theorem d18_1 : decode jdk_43_method_46_code 1 = .ok (.newarray .byte, 2) := by decide +kernel
theorem d18_3 : decode jdk_43_method_46_code 3 = .ok (.dup, 1) := by decide +kernel
theorem d18_4 : decode jdk_43_method_46_code 4 = .ok (.iconst 0, 1) := by decide +kernel
theorem d18_5 : decode jdk_43_method_46_code 5 = .ok (.iload_n 0, 1) := by decide +kernel
theorem d18_6 : decode jdk_43_method_46_code 6 = .ok (.i2b, 1) := by decide +kernel
theorem d18_7 : decode jdk_43_method_46_code 7 = .ok (.bastore, 1) := by decide +kernel
theorem d18_8 : decode jdk_43_method_46_code 8 = .ok (.areturn, 1) := by decide +kernel
theorem ef_18 (m : MethodId) (x0 : Int32) : entryFrame m #[(.int x0)] 1 = mkF m 0 #[.val (.int x0)] [] := by first | (simp [entryFrame, mkF, argsToLocals, Value.category]; done) | rfl
def Q_rm_tob (Z : State) (p0 : Int32) (h0 : Heap) (n0 : Nat) (v : Option Value) (h : Heap) (L : List Loc) : Prop := ∃ bq : Addr, v = some (.ref bq) ∧ Fr n0 L ∧ Keep h0 h [] ∧ n0 ≤ bq ∧ h0.size ≤ bq
set_option maxRecDepth 65536 in
set_option maxHeartbeats 40000000 in
theorem rm_tob (l : Launch) (Z : State) (a0 : Array Value) (hw : ∀ d ∈ tables_1, d.before a0 Z = true) (ws : List Jvm.Cond) (p0 : Int32) (h0 : Heap) (n0 : Nat) (Z0 : n0 ≤ h0.size)  :
    MetFree l (⟨"java/lang/StringLatin1", "toBytes", "(C)[B"⟩ : MethodName) (head1 (Jvm.Cond.code (⟨"java/lang/StringLatin1", "toBytes", "(C)[B"⟩ : MethodName) jdk_43_method_46_code 1 (some (.array .byte)) :: ws) ({ frames := 0, cells := 1, slots := 1, locals := 0 } : Room)) (fun a U => a = #[(.int p0)] ∧ Z.Warmed39 U.vm ∧ U.heap = h0) (fun _ _ _ _ _ => True) (fun _ U o U' => ∃ v L, o = .returned v ∧ Q_rm_tob Z p0 h0 n0 v U'.heap L ∧ FrameEnd U o U' L ({ frames := 0, cells := 1, slots := 1, locals := 0 } : Room).cells ({ frames := 0, cells := 1, slots := 1, locals := 0 } : Room).slots) := by
  refine MetFree.of_bodySF (plainFor_of_name pn_5) hisR ?_
  intro p e s m args below meth c s₁ Bd hml0 hP hK
  obtain ⟨rfl, hZ, hh⟩ := hP
  have hx := Bd.exec
  have hby := Bd.bytes
  have hml : c.maxLocals = 1 := hml0
  have hown : s.vm.findClass "java/lang/StringLatin1" = some m.cls := findClass_of_methodNamed Bd.named
  have hnm := (name_of_methodNamed Bd.named Bd.method).1
  have X0 : Stand p l e ({ frames := 0, cells := 1, slots := 1, locals := 0 } : Room) s m #[(.int p0)] below meth c s₁ [] 0 0 := Stand.of_body Bd
  have e0 : s₁.heap = h0 := by rw [← hh, Bd.state]; rfl
  have N0 := Fr.nil n0
  have K0 : Keep h0 h0 [] := Keep.refl h0 []
  have pre0 : ∀ t, Steps p.tables e below (s₁.setTop (mkF m 0 #[.val (.int p0)] [])) t → Steps p.tables e below (s₁.setTop (entryFrame m #[(.int p0)] 1)) t := fun t k => castTop (ef_18 m p0) k
  obtain ⟨T1, h1, k1, X1, e1, E1, A1, st1⟩ := newP X0 hx hZ (hw _ (List.mem_of_getElem? (i := 19) rfl)) e0 (g := (mkF m 1 #[.val (.int p0)] [(.int (1 : Int32))])) rfl (hb hby d18_1) rfl (by decide) (cap := 1) (by decide) (by decide) (by decide) (by decide)
  obtain ⟨b1, g1⟩ : ∃ z, z = h0.size := ⟨_, rfl⟩
  rw [← g1] at A1 st1
  have g_b1 : n0 ≤ b1 := Nat.le_trans Z0 (Nat.le_of_eq g1.symm)
  have sz_b1 : h0.size ≤ b1 := Nat.le_trans K0.1 (Nat.le_of_eq g1.symm)
  have Z1 : n0 ≤ h1.size := Nat.le_trans Z0 E1.1
  have K1 : Keep h0 h1 [] := K0.ext E1
  have V_b1 : Arv Z h1 b1 k1 .byte (1 : Int32) [(.int (0 : Int32))] (.int (0 : Int32)) := (Arv.new A1 (by decide)).pad (pad_rep [] (.int (0 : Int32)) 1)
  obtain ⟨cl2, Ar2, qk2, S2, N2', H2, G2⟩ := (id V_b1)
  have hin2 : ¬ ((0 : Int32) < 0 ∨ cl2.slots.size ≤ ((0 : Int32)).toNatClampNeg) := inb_of S2 ⟨by decide, by decide⟩
  obtain ⟨T3, h3, X3, e3, W3, st3⟩ := stB X1 hx hZ e1 Ar2 (j := (0 : Int32)) hin2 (g := (mkF m 7 #[.val (.int p0)] [(.int p0.toInt8.toInt32), (.int (0 : Int32)), (.ref b1), (.ref b1)])) rfl rfl (hb hby d18_7)
  have V3 : Arv Z h3 b1 k1 .byte (1 : Int32) [(.int p0.toInt8.toInt32.toInt8.toInt32)] (.int (0 : Int32)) := Arv.set Ar2 qk2 S2 N2' H2 G2 (fits_nar_byte _) W3 0 rfl (Nat.le_of_ble_eq_true rfl)
  have N3 := Fr.snoc X3 N0 g_b1
  have Z3 : n0 ≤ h3.size := Nat.le_trans Z1 (Keep.of_wr W3).1
  have K3 : Keep h0 h3 [] := K1.wr W3 (Or.inr sz_b1)
  obtain ⟨fs, hr, hrun, hended, hW, hsame⟩ := X3.leave (v := some (.ref b1)) (fun h => by rw [Bd.returns] at h; cases h)
  refine ⟨_, _, pre0 _ ?_, hrun, hended, _, _, rfl, ?_, ⟨_, rfl⟩, hW, hsame.mono (by decide) (by decide)⟩
  · show Steps p.tables e below (s₁.setTop (mkF m 0 #[.val (.int p0)] [])) _
    refine XS.iconst X0.here hx rfl (hb hby d18_0) ?_
    show Steps p.tables e below (s₁.setTop (mkF m 1 #[.val (.int p0)] [(.int (1 : Int32))])) _
    refine st1 _ ?_
    show Steps p.tables e below (T1.setTop (mkF m 3 #[.val (.int p0)] [(.ref b1)])) _
    refine XS.dup X1.here hx rfl (hb hby d18_3) rfl rfl ?_
    show Steps p.tables e below (T1.setTop (mkF m 4 #[.val (.int p0)] [(.ref b1), (.ref b1)])) _
    refine XS.iconst X1.here hx rfl (hb hby d18_4) ?_
    show Steps p.tables e below (T1.setTop (mkF m 5 #[.val (.int p0)] [(.int (0 : Int32)), (.ref b1), (.ref b1)])) _
    refine XS.iloadN X1.here hx rfl (hb hby d18_5) rfl ?_
    show Steps p.tables e below (T1.setTop (mkF m 6 #[.val (.int p0)] [(.int p0), (.int (0 : Int32)), (.ref b1), (.ref b1)])) _
    refine XS.i2b X1.here hx rfl (hb hby d18_6) rfl ?_
    show Steps p.tables e below (T1.setTop (mkF m 7 #[.val (.int p0)] [(.int p0.toInt8.toInt32), (.int (0 : Int32)), (.ref b1), (.ref b1)])) _
    refine st3 _ ?_
    show Steps p.tables e below (T3.setTop (mkF m 8 #[.val (.int p0)] [(.ref b1)])) _
    exact retOut X3 hx Bd.returns (by rfl) (Or.inr (Or.inr (Or.inr (Or.inr ⟨rfl, rfl, rfl⟩)))) (hb hby d18_8) hr
  · show Q_rm_tob Z p0 h0 n0 _ T3.heap _
    rw [e3]
    exact ⟨b1, rfl, N3, K3, g_b1, sz_b1⟩
theorem d19_0 : decode jdk_42_method_151_code 0 = .ok (.aload_n 0, 1) := by decide +kernel
theorem d19_1 : decode jdk_42_method_151_code 1 = .ok (.invokespecial 1, 3) := by decide +kernel
theorem d19_4 : decode jdk_42_method_151_code 4 = .ok (.aload_n 0, 1) := by decide +kernel
theorem d19_5 : decode jdk_42_method_151_code 5 = .ok (.aload_n 1, 1) := by decide +kernel
theorem d19_6 : decode jdk_42_method_151_code 6 = .ok (.putfield 9, 3) := by decide +kernel
theorem d19_9 : decode jdk_42_method_151_code 9 = .ok (.aload_n 0, 1) := by decide +kernel
theorem d19_10 : decode jdk_42_method_151_code 10 = .ok (.iload_n 2, 1) := by decide +kernel
theorem d19_11 : decode jdk_42_method_151_code 11 = .ok (.putfield 15, 3) := by decide +kernel
theorem d19_14 : decode jdk_42_method_151_code 14 = .ok (.return_, 1) := by decide +kernel
theorem ef_19 (m : MethodId) (x0 : Addr) (x1 : Addr) (x2 : Int32) : entryFrame m #[(.ref x0), (.ref x1), (.int x2)] 3 = mkF m 0 #[.val (.ref x0), .val (.ref x1), .val (.int x2)] [] := by first | (simp [entryFrame, mkF, argsToLocals, Value.category]; done) | rfl
def Q_rm_sbb (Z : State) (a0x : Addr) (a1x : Addr) (p1 : Int32) (h0 : Heap) (n0 : Nat) (v : Option Value) (h : Heap) (L : List Loc) : Prop := v = none ∧ Fr n0 L ∧ Keep h0 h [a0x] ∧ Fld Z h a0x "java/lang/String" "value" "[B" (.ref a1x) ∧ Fld Z h a0x "java/lang/String" "coder" "B" (.int p1.toInt8.toInt32)
set_option maxRecDepth 65536 in
set_option maxHeartbeats 40000000 in
theorem rm_sbb (l : Launch) (Z : State) (a0 : Array Value) (hw : ∀ d ∈ tables_1, d.before a0 Z = true) (ws : List Jvm.Cond) (a0x : Addr) (a1x : Addr) (p1 : Int32) (h0 : Heap) (n0 : Nat) (Z0 : n0 ≤ h0.size) (E0x : Exa Z h0 a0x "java/lang/String") (F0x0 : Fld Z h0 a0x "java/lang/String" "value" "[B" .null) (F0x1 : Fld Z h0 a0x "java/lang/String" "coder" "B" (.int (0 : Int32))) (g0x : n0 ≤ a0x) :
    MetFree l (⟨"java/lang/String", "<init>", "([BB)V"⟩ : MethodName) (head1 (Jvm.Cond.code (⟨"java/lang/String", "<init>", "([BB)V"⟩ : MethodName) jdk_42_method_151_code 3 none :: ws) ({ frames := 1, cells := 0, slots := 0, locals := 12 } : Room)) (fun a U => a = #[(.ref a0x), (.ref a1x), (.int p1)] ∧ Z.Warmed39 U.vm ∧ U.heap = h0) (fun _ _ _ _ _ => True) (fun _ U o U' => ∃ v L, o = .returned v ∧ Q_rm_sbb Z a0x a1x p1 h0 n0 v U'.heap L ∧ FrameEnd U o U' L ({ frames := 1, cells := 0, slots := 0, locals := 12 } : Room).cells ({ frames := 1, cells := 0, slots := 0, locals := 12 } : Room).slots) := by
  refine MetFree.of_bodySF (plainFor_of_name pn_4) hisR ?_
  intro p e s m args below meth c s₁ Bd hml0 hP hK
  obtain ⟨rfl, hZ, hh⟩ := hP
  have hx := Bd.exec
  have hby := Bd.bytes
  have hml : c.maxLocals = 3 := hml0
  have hown : s.vm.findClass "java/lang/String" = some m.cls := findClass_of_methodNamed Bd.named
  have hnm := (name_of_methodNamed Bd.named Bd.method).1
  have X0 : Stand p l e ({ frames := 1, cells := 0, slots := 0, locals := 12 } : Room) s m #[(.ref a0x), (.ref a1x), (.int p1)] below meth c s₁ [] 0 0 := Stand.of_body Bd
  have e0 : s₁.heap = h0 := by rw [← hh, Bd.state]; rfl
  have N0 := Fr.nil n0
  have K0 : Keep h0 h0 [a0x] := Keep.refl h0 [a0x]
  have pre0 : ∀ t, Steps p.tables e below (s₁.setTop (mkF m 0 #[.val (.ref a0x), .val (.ref a1x), .val (.int p1)] [])) t → Steps p.tables e below (s₁.setTop (entryFrame m #[(.ref a0x), (.ref a1x), (.int p1)] 3)) t := fun t k => castTop (ef_19 m a0x a1x p1) k
  obtain ⟨T1, X1, e1, st1⟩ := initO X0 hx hZ hown (hw _ (List.mem_of_getElem? (i := 11) rfl)) (hw _ (List.mem_of_getElem? (i := 12) rfl)) (hw _ (List.mem_of_getElem? (i := 13) rfl)) e0 (g := (mkF m 1 #[.val (.ref a0x), .val (.ref a1x), .val (.int p1)] [(.ref a0x)])) rfl (by rw [hml]; rfl) rfl (hb hby d19_1) (by decide) (W := 0) (by show 2 * 0 + _ ≤ _; exact Nat.le_of_eq rfl) (by decide)
  obtain ⟨T2, h2, X2, e2, W2, st2⟩ := putF X1 hx hZ hown (host := "") (Or.inl (hw _ (List.mem_of_getElem? (i := 28) rfl))) Via.refl e1 F0x0 E0x (Or.inr ⟨(hw _ (List.mem_of_getElem? (i := 29) rfl)), rfl, hnm⟩) (hw _ (List.mem_of_getElem? (i := 2) rfl)) (ty := (.array .byte)) (by decide) rfl rfl (g := (mkF m 6 #[.val (.ref a0x), .val (.ref a1x), .val (.int p1)] [(.ref a1x), (.ref a0x)])) rfl rfl (hb hby d19_6)
  have N2 := Fr.snoc X2 N0 g0x
  have Fw2 : Fld Z h2 a0x "java/lang/String" "value" "[B" (.ref a1x) := F0x0.same W2
  have E0x_2 : Exa Z h2 a0x "java/lang/String" := E0x.wr W2
  have F0x1_2 : Fld Z h2 a0x "java/lang/String" "coder" "B" (.int (0 : Int32)) := F0x1.other W2 (Or.inr (slot_ne (Or.inr (hw _ (List.mem_of_getElem? (i := 27) rfl))) (Or.inr (hw _ (List.mem_of_getElem? (i := 29) rfl))) (by decide) (t := .byte) (t' := (.array .byte)) (by decide) (by decide)))
  have Z2 : n0 ≤ h2.size := Nat.le_trans Z0 (Keep.of_wr W2).1
  have K2 : Keep h0 h2 [a0x] := K0.wr W2 (Or.inl (List.mem_of_getElem? (i := 0) rfl))
  obtain ⟨T3, h3, X3, e3, W3, st3⟩ := putFN X2 hx hZ hown (hw _ (List.mem_of_getElem? (i := 26) rfl)) Via.refl e2 F0x1_2 E0x_2 (Or.inr ⟨(hw _ (List.mem_of_getElem? (i := 27) rfl)), rfl, hnm⟩) (hw _ (List.mem_of_getElem? (i := 2) rfl)) (ty := .byte) (v' := (.int p1.toInt8.toInt32)) (by decide) rfl (fits_nar_byte _) (g := (mkF m 11 #[.val (.ref a0x), .val (.ref a1x), .val (.int p1)] [(.int p1), (.ref a0x)])) rfl rfl (hb hby d19_11)
  have N3 := Fr.snoc X3 N2 g0x
  have Fw3 : Fld Z h3 a0x "java/lang/String" "coder" "B" (.int p1.toInt8.toInt32) := F0x1_2.same W3
  have E0x_3 : Exa Z h3 a0x "java/lang/String" := E0x_2.wr W3
  have Fw2_3 : Fld Z h3 a0x "java/lang/String" "value" "[B" (.ref a1x) := Fw2.other W3 (Or.inr (slot_ne (Or.inr (hw _ (List.mem_of_getElem? (i := 29) rfl))) (Or.inr (hw _ (List.mem_of_getElem? (i := 27) rfl))) (by decide) (t := (.array .byte)) (t' := .byte) (by decide) (by decide)))
  have Z3 : n0 ≤ h3.size := Nat.le_trans Z2 (Keep.of_wr W3).1
  have K3 : Keep h0 h3 [a0x] := K2.wr W3 (Or.inl (List.mem_of_getElem? (i := 0) rfl))
  obtain ⟨fs, hr, hrun, hended, hW, hsame⟩ := X3.leave (v := none) (fun _ => rfl)
  refine ⟨_, _, pre0 _ ?_, hrun, hended, _, _, rfl, ?_, ⟨_, rfl⟩, hW, hsame.mono (by decide) (by decide)⟩
  · show Steps p.tables e below (s₁.setTop (mkF m 0 #[.val (.ref a0x), .val (.ref a1x), .val (.int p1)] [])) _
    refine XS.aloadN X0.here hx rfl (hb hby d19_0) rfl rfl ?_
    show Steps p.tables e below (s₁.setTop (mkF m 1 #[.val (.ref a0x), .val (.ref a1x), .val (.int p1)] [(.ref a0x)])) _
    refine st1 _ ?_
    show Steps p.tables e below (T1.setTop (mkF m 4 #[.val (.ref a0x), .val (.ref a1x), .val (.int p1)] [])) _
    refine XS.aloadN X1.here hx rfl (hb hby d19_4) rfl rfl ?_
    show Steps p.tables e below (T1.setTop (mkF m 5 #[.val (.ref a0x), .val (.ref a1x), .val (.int p1)] [(.ref a0x)])) _
    refine XS.aloadN X1.here hx rfl (hb hby d19_5) rfl rfl ?_
    show Steps p.tables e below (T1.setTop (mkF m 6 #[.val (.ref a0x), .val (.ref a1x), .val (.int p1)] [(.ref a1x), (.ref a0x)])) _
    refine st2 _ ?_
    show Steps p.tables e below (T2.setTop (mkF m 9 #[.val (.ref a0x), .val (.ref a1x), .val (.int p1)] [])) _
    refine XS.aloadN X2.here hx rfl (hb hby d19_9) rfl rfl ?_
    show Steps p.tables e below (T2.setTop (mkF m 10 #[.val (.ref a0x), .val (.ref a1x), .val (.int p1)] [(.ref a0x)])) _
    refine XS.iloadN X2.here hx rfl (hb hby d19_10) rfl ?_
    show Steps p.tables e below (T2.setTop (mkF m 11 #[.val (.ref a0x), .val (.ref a1x), .val (.int p1)] [(.int p1), (.ref a0x)])) _
    refine st3 _ ?_
    show Steps p.tables e below (T3.setTop (mkF m 14 #[.val (.ref a0x), .val (.ref a1x), .val (.int p1)] [])) _
    exact X3.returnOut hx Bd.returns (hb hby d19_14) hr
  · show Q_rm_sbb Z a0x a1x p1 h0 n0 _ T3.heap _
    rw [e3]
    exact ⟨rfl, N3, K3, Fw2_3, Fw3⟩
theorem d16_0 : decode jdk_42_method_139_code 0 = .ok (.getstatic 38, 3) := by decide +kernel
theorem d16_3 : decode jdk_42_method_139_code 3 = .ok (.ifCond .eq 23, 3) := by decide +kernel
theorem d16_6 : decode jdk_42_method_139_code 6 = .ok (.iload_n 0, 1) := by decide +kernel
theorem d16_7 : decode jdk_42_method_139_code 7 = .ok (.invokestatic 1015, 3) := by decide +kernel
theorem pd_3 : parseMethodDescriptor "(C)Z" = some ⟨[.char], some .boolean⟩ := by decide +kernel
theorem d16_10 : decode jdk_42_method_139_code 10 = .ok (.ifCond .eq 16, 3) := by decide +kernel
theorem d16_13 : decode jdk_42_method_139_code 13 = .ok (.new 10, 3) := by decide +kernel
theorem d16_16 : decode jdk_42_method_139_code 16 = .ok (.dup, 1) := by decide +kernel
theorem d16_17 : decode jdk_42_method_139_code 17 = .ok (.iload_n 0, 1) := by decide +kernel
theorem d16_18 : decode jdk_42_method_139_code 18 = .ok (.invokestatic 1018, 3) := by decide +kernel
theorem pd_4 : parseMethodDescriptor "(C)[B" = some ⟨[.char], some (.array .byte)⟩ := by decide +kernel
theorem d16_21 : decode jdk_42_method_139_code 21 = .ok (.iconst 0, 1) := by decide +kernel
theorem d16_22 : decode jdk_42_method_139_code 22 = .ok (.invokespecial 209, 3) := by decide +kernel
theorem pd_5 : parseMethodDescriptor "([BB)V" = some ⟨[(.array .byte), .byte], none⟩ := by decide +kernel
theorem d16_25 : decode jdk_42_method_139_code 25 = .ok (.areturn, 1) := by decide +kernel
theorem ef_16 (m : MethodId) (x0 : Int32) : entryFrame m #[(.int x0)] 1 = mkF m 0 #[.val (.int x0)] [] := by first | (simp [entryFrame, mkF, argsToLocals, Value.category]; done) | rfl
def Q_rm_vof (Z : State) (p0 : Int32) (zc : Int32) (h0 : Heap) (n0 : Nat) (v : Option Value) (h : Heap) (L : List Loc) : Prop := ∃ bq : Addr, v = some (.ref bq) ∧ Fr n0 L ∧ Keep h0 h [] ∧ n0 ≤ bq ∧ h0.size ≤ bq ∧ Exa Z h bq "java/lang/String"
set_option maxRecDepth 65536 in
set_option maxHeartbeats 40000000 in
theorem rm_vof (l : Launch) (Z : State) (a0 : Array Value) (hw : ∀ d ∈ tables_1, d.before a0 Z = true) (ws : List Jvm.Cond) (p0 : Int32) (zc : Int32) (h0 : Heap) (n0 : Nat) (Z0 : n0 ≤ h0.size) (S_CS : Sta Z h0 "java/lang/String" "COMPACT_STRINGS" "Z" (.int zc)) (P5 : ¬ (zc = (0 : Int32))) (hc : ¬ ((255 : Int32) < p0)) :
    MetFree l (⟨"java/lang/String", "valueOf", "(C)Ljava/lang/String;"⟩ : MethodName) (head1 (Jvm.Cond.code (⟨"java/lang/String", "valueOf", "(C)Ljava/lang/String;"⟩ : MethodName) jdk_42_method_139_code 1 (some (.object "java/lang/String")) :: ws) ({ frames := 2, cells := 2, slots := 5, locals := 27 } : Room)) (fun a U => a = #[(.int p0)] ∧ Z.Warmed39 U.vm ∧ U.heap = h0) (fun _ _ _ _ _ => True) (fun _ U o U' => ∃ v L, o = .returned v ∧ Q_rm_vof Z p0 zc h0 n0 v U'.heap L ∧ FrameEnd U o U' L ({ frames := 2, cells := 2, slots := 5, locals := 27 } : Room).cells ({ frames := 2, cells := 2, slots := 5, locals := 27 } : Room).slots) := by
  refine MetFree.of_bodySF (plainFor_of_name pn_4) hisR ?_
  intro p e s m args below meth c s₁ Bd hml0 hP hK
  obtain ⟨rfl, hZ, hh⟩ := hP
  have hx := Bd.exec
  have hby := Bd.bytes
  have hml : c.maxLocals = 1 := hml0
  have hown : s.vm.findClass "java/lang/String" = some m.cls := findClass_of_methodNamed Bd.named
  have hnm := (name_of_methodNamed Bd.named Bd.method).1
  have X0 : Stand p l e ({ frames := 2, cells := 2, slots := 5, locals := 27 } : Room) s m #[(.int p0)] below meth c s₁ [] 0 0 := Stand.of_body Bd
  have e0 : s₁.heap = h0 := by rw [← hh, Bd.state]; rfl
  have N0 := Fr.nil n0
  have K0 : Keep h0 h0 [] := Keep.refl h0 []
  have pre0 : ∀ t, Steps p.tables e below (s₁.setTop (mkF m 0 #[.val (.int p0)] [])) t → Steps p.tables e below (s₁.setTop (entryFrame m #[(.int p0)] 1)) t := fun t k => castTop (ef_16 m p0) k
  obtain ⟨T1, X1, e1, st1⟩ := getS2 X0 hx hZ hown (host := "") (Or.inl (hw _ (List.mem_of_getElem? (i := 14) rfl))) Via.refl e0 S_CS (g := (mkF m 0 #[.val (.int p0)] [])) rfl (hb hby d16_0)
  obtain ⟨_, _, ⟨T2, L2, k2, n2⟩, -, X2, ⟨Lc2, hQ2, l2, y2, z2⟩, st2⟩ := Jvm.LawKit.callS X1 hx (y := (⟨"java/lang/StringLatin1", "canEncode", "(C)Z"⟩ : MethodName)) hown (mvT hZ (hw _ (List.mem_of_getElem? (i := 99) rfl))) (mvT hZ (hw _ (List.mem_of_getElem? (i := 100) rfl))) (mvT hZ (hw _ (List.mem_of_getElem? (i := 101) rfl))) (mvT hZ (hw _ (List.mem_of_getElem? (i := 102) rfl))) (by decide) (backOf (W := 0) (rm_can l Z a0 hw [] p0 h0 n0 Z0 hc) hZ (hw _ (List.mem_of_getElem? (i := 102) rfl)) (hw _ (List.mem_of_getElem? (i := 101) rfl)) (by decide) (by decide)) (g := (mkF m 7 #[.val (.int p0)] [(.int p0)])) rfl (by rw [hml]; rfl) (argsL := [(.int p0)]) (rest := []) (lenOf pd_3 rfl) rfl (by show 2 * 0 + _ ≤ _; exact Nat.le_of_eq rfl) (hb hby d16_7) (fun _ _ => ⟨rfl, e1, (by decide : 0 + 0 ≤ _), (by decide : 0 + 0 ≤ _)⟩)
  dsimp only [Pt.U, Pt.locs, Pt.cells, Pt.slots] at X2 l2 y2 z2 st2 hQ2
  subst l2 y2 z2
  obtain ⟨rfl, N2q, e2⟩ := hQ2
  have N2 := Fr.app N0 N2q
  obtain ⟨T3, h3, X3, e3, E3, A3, D3, -, st3⟩ := newO X2 hx hZ hown (hw _ (List.mem_of_getElem? (i := 103) rfl)) (hw _ (List.mem_of_getElem? (i := 2) rfl)) (hw _ (List.mem_of_getElem? (i := 3) rfl)) e2 (g := (mkF m 13 #[.val (.int p0)] [])) rfl (hb hby d16_13) (by decide) (by decide)
  obtain ⟨b3, g3⟩ : ∃ z, z = h0.size := ⟨_, rfl⟩
  rw [← g3] at A3 D3 st3
  have g_b3 : n0 ≤ b3 := Nat.le_trans Z0 (Nat.le_of_eq g3.symm)
  have sz_b3 : h0.size ≤ b3 := Nat.le_trans K0.1 (Nat.le_of_eq g3.symm)
  have S_CS_3 : Sta Z h3 "java/lang/String" "COMPACT_STRINGS" "Z" (.int zc) := S_CS.ext E3
  have Z3 : n0 ≤ h3.size := Nat.le_trans Z0 E3.1
  have K3 : Keep h0 h3 [] := K0.ext E3
  have F_coder_b3 : Fld Z h3 b3 "java/lang/String" "coder" "B" (.int (0 : Int32)) := D3 (Or.inr (hw _ (List.mem_of_getElem? (i := 27) rfl))) (ty := .byte) (by decide)
  have F_value_b3 : Fld Z h3 b3 "java/lang/String" "value" "[B" .null := D3 (Or.inr (hw _ (List.mem_of_getElem? (i := 29) rfl))) (ty := (.array .byte)) (by decide)
  obtain ⟨_, _, ⟨T4, L4, k4, n4⟩, -, X4, ⟨Lc4, hQ4, l4, y4, z4⟩, st4⟩ := Jvm.LawKit.callS X3 hx (y := (⟨"java/lang/StringLatin1", "toBytes", "(C)[B"⟩ : MethodName)) hown (mvT hZ (hw _ (List.mem_of_getElem? (i := 104) rfl))) (mvT hZ (hw _ (List.mem_of_getElem? (i := 105) rfl))) (mvT hZ (hw _ (List.mem_of_getElem? (i := 101) rfl))) (mvT hZ (hw _ (List.mem_of_getElem? (i := 106) rfl))) (by decide) (backOf (W := 2) (rm_tob l Z a0 hw [] p0 h3 n0 Z3) hZ (hw _ (List.mem_of_getElem? (i := 106) rfl)) (hw _ (List.mem_of_getElem? (i := 101) rfl)) (by decide) (by decide)) (g := (mkF m 18 #[.val (.int p0)] [(.int p0), (.ref b3), (.ref b3)])) rfl (by rw [hml]; rfl) (argsL := [(.int p0)]) (rest := [(.ref b3), (.ref b3)]) (lenOf pd_4 rfl) rfl (by show 2 * 0 + _ ≤ _; exact Nat.le_of_eq rfl) (hb hby d16_18) (fun _ _ => ⟨rfl, e3, (by decide : 1 + 1 ≤ _), (by decide : 4 + 1 ≤ _)⟩)
  dsimp only [Pt.U, Pt.locs, Pt.cells, Pt.slots] at X4 l4 y4 z4 st4 hQ4
  subst l4 y4 z4
  obtain ⟨bx4, rfl, N4q, x4c0, x4c1, x4c2⟩ := hQ4
  have N4 := Fr.app N2 N4q
  have ne_b3_bx4 : b3 ≠ bx4 := Nat.ne_of_lt (Nat.lt_of_lt_of_le A3.lt x4c2)
  have A3_4 : Exa Z T4.heap b3 "java/lang/String" := A3.keep x4c0
  have F_coder_b3_4 : Fld Z T4.heap b3 "java/lang/String" "coder" "B" (.int (0 : Int32)) := F_coder_b3.keep x4c0 nin0
  have F_value_b3_4 : Fld Z T4.heap b3 "java/lang/String" "value" "[B" .null := F_value_b3.keep x4c0 nin0
  have Z4 : n0 ≤ T4.heap.size := Nat.le_trans Z3 x4c0.1
  have K4 : Keep h0 T4.heap [] := K3.trans x4c0 (all0 (P := fun x => x ∈ [] ∨ h0.size ≤ x))
  obtain ⟨_, _, ⟨T5, L5, k5, n5⟩, -, X5, ⟨Lc5, hQ5, l5, y5, z5⟩, st5⟩ := X4.specialBack hx (y := (⟨"java/lang/String", "<init>", "([BB)V"⟩ : MethodName)) rfl hown (mvT hZ (hw _ (List.mem_of_getElem? (i := 107) rfl))) (mvT hZ (hw _ (List.mem_of_getElem? (i := 108) rfl))) (mvT hZ (hw _ (List.mem_of_getElem? (i := 109) rfl))) (by decide) (backOf (W := 1) (rm_sbb l Z a0 hw [] b3 bx4 (0 : Int32) T4.heap n0 Z4 A3_4 F_value_b3_4 F_coder_b3_4 g_b3) hZ (hw _ (List.mem_of_getElem? (i := 109) rfl)) (hw _ (List.mem_of_getElem? (i := 3) rfl)) (by decide) (by decide)) (g := (mkF m 22 #[.val (.int p0)] [(.int (0 : Int32)), (.ref bx4), (.ref b3), (.ref b3)])) rfl (by rw [hml]; rfl) (Steps.refl _) (a := b3) (argsL := [(.ref bx4), (.int (0 : Int32))]) (rest := [(.ref b3)]) (lenOf pd_5 rfl) rfl (by show 2 * 0 + _ ≤ _; exact Nat.le_of_eq rfl) (hb hby d16_22) (fun _ _ => ⟨rfl, rfl, (by decide : 2 + 0 ≤ _), (by decide : 5 + 0 ≤ _)⟩)
  dsimp only [Pt.U, Pt.locs, Pt.cells, Pt.slots] at X5 l5 y5 z5 st5 hQ5
  subst l5 y5 z5
  obtain ⟨rfl, N5q, x5c0, x5c1, x5c2⟩ := hQ5
  have N5 := Fr.app N4 N5q
  have A3_5 : Exa Z T5.heap b3 "java/lang/String" := A3_4.keep x5c0
  have Z5 : n0 ≤ T5.heap.size := Nat.le_trans Z4 x5c0.1
  have K5 : Keep h0 T5.heap [] := K4.trans x5c0 (allS (P := fun x => x ∈ [] ∨ h0.size ≤ x) (Or.inr sz_b3) all0)
  obtain ⟨fs, hr, hrun, hended, hW, hsame⟩ := X5.leave (v := some (.ref b3)) (fun h => by rw [Bd.returns] at h; cases h)
  refine ⟨_, _, pre0 _ ?_, hrun, hended, _, _, rfl, ?_, ⟨_, rfl⟩, hW, hsame.mono (by decide) (by decide)⟩
  · show Steps p.tables e below (s₁.setTop (mkF m 0 #[.val (.int p0)] [])) _
    refine st1 _ ?_
    show Steps p.tables e below (T1.setTop (mkF m 3 #[.val (.int p0)] [(.int zc)])) _
    refine XS.ifNo X1.here hx rfl (hb hby d16_3) rfl ((if0 _ _).trans (feq P5).1) ?_
    show Steps p.tables e below (T1.setTop (mkF m 6 #[.val (.int p0)] [])) _
    refine XS.iloadN X1.here hx rfl (hb hby d16_6) rfl ?_
    show Steps p.tables e below (T1.setTop (mkF m 7 #[.val (.int p0)] [(.int p0)])) _
    refine st2 _ ?_
    show Steps p.tables e below (T2.setTop (mkF m 10 #[.val (.int p0)] [(.int (1 : Int32))])) _
    refine XS.ifNo X2.here hx rfl (hb hby d16_10) rfl ((if0 _ _).trans (feq (by decide : ¬ ((1 : Int32) = (0 : Int32)))).1) ?_
    show Steps p.tables e below (T2.setTop (mkF m 13 #[.val (.int p0)] [])) _
    refine st3 _ ?_
    show Steps p.tables e below (T3.setTop (mkF m 16 #[.val (.int p0)] [(.ref b3)])) _
    refine XS.dup X3.here hx rfl (hb hby d16_16) rfl rfl ?_
    show Steps p.tables e below (T3.setTop (mkF m 17 #[.val (.int p0)] [(.ref b3), (.ref b3)])) _
    refine XS.iloadN X3.here hx rfl (hb hby d16_17) rfl ?_
    show Steps p.tables e below (T3.setTop (mkF m 18 #[.val (.int p0)] [(.int p0), (.ref b3), (.ref b3)])) _
    refine st4 _ ?_
    show Steps p.tables e below (T4.setTop (mkF m 21 #[.val (.int p0)] [(.ref bx4), (.ref b3), (.ref b3)])) _
    refine XS.iconst X4.here hx rfl (hb hby d16_21) ?_
    show Steps p.tables e below (T4.setTop (mkF m 22 #[.val (.int p0)] [(.int (0 : Int32)), (.ref bx4), (.ref b3), (.ref b3)])) _
    refine st5.trans ?_
    show Steps p.tables e below (T5.setTop (mkF m 25 #[.val (.int p0)] [(.ref b3)])) _
    exact retOut X5 hx Bd.returns (by rfl) (Or.inr (Or.inr (Or.inr (Or.inr ⟨rfl, rfl, rfl⟩)))) (hb hby d16_25) hr
  · show Q_rm_vof Z p0 zc h0 n0 _ T5.heap _
    exact ⟨b3, rfl, N5, K5, g_b3, sz_b3, A3_5⟩
theorem pd_6 : parseMethodDescriptor "([C)V" = some ⟨[(.array .char)], none⟩ := by decide +kernel
theorem pd_7 : parseMethodDescriptor "(I)Lcom/example/fyfo/fyfo/JobStatus;" = some ⟨[.int], some (.object "com/example/fyfo/fyfo/JobStatus")⟩ := by decide +kernel
theorem pd_8 : parseMethodDescriptor "(Lcom/example/fyfo/fyfo/JobStatus;)Lcom/example/fyfo/fyfo/Job;" = some ⟨[(.object "com/example/fyfo/fyfo/JobStatus")], some (.object "com/example/fyfo/fyfo/Job")⟩ := by decide +kernel
theorem pd_9 : parseMethodDescriptor "()Ljava/lang/String;" = some ⟨[], some (.object "java/lang/String")⟩ := by decide +kernel
theorem pd_10 : parseMethodDescriptor "(Ljava/lang/Object;)Z" = some ⟨[(.object "java/lang/Object")], some .boolean⟩ := by decide +kernel
theorem pd_11 : parseMethodDescriptor "()J" = some ⟨[], some .long⟩ := by decide +kernel
theorem pd_12 : parseMethodDescriptor "()Lcom/example/fyfo/fyfo/JobStatus;" = some ⟨[], some (.object "com/example/fyfo/fyfo/JobStatus")⟩ := by decide +kernel
theorem pd_13 : parseMethodDescriptor "(C)Ljava/lang/String;" = some ⟨[.char], some (.object "java/lang/String")⟩ := by decide +kernel
theorem ef_0 (m : MethodId) (x0 : Int32) (x1 : Int64) (x2 : Int32) (x3 : Int32) : entryFrame m #[(.int x0), (.long x1), (.int x2), (.int x3)] maxLocals = mkF m 0 #[.val (.int x0), .val (.long x1), .second, .val (.int x2), .val (.int x3), .unset, .unset, .unset, .unset, .unset, .unset] [] := by first | (simp [entryFrame, mkF, argsToLocals, Value.category, maxLocals]; done) | rfl
def Q_rm_law (Z : State) (p0 : Int32) (q0 : Int64) (p1 : Int32) (p2 : Int32) (w_PLANNED : Addr) (w_TRIGGERED : Addr) (w_EXECUTED : Addr) (w_FAILED : Addr) (zc : Int32) (h0 : Heap) (n0 : Nat) (v : Option Value) (h : Heap) (L : List Loc) : Prop := v = some (.int (1 : Int32)) ∧ Fr n0 L ∧ True
set_option maxRecDepth 65536 in
set_option maxHeartbeats 40000000 in
theorem rm_law (l : Launch) (Z : State) (a0 : Array Value) (hw : ∀ d ∈ tables_1, d.before a0 Z = true) (ws : List Jvm.Cond) (p0 : Int32) (q0 : Int64) (p1 : Int32) (p2 : Int32) (w_PLANNED : Addr) (w_TRIGGERED : Addr) (w_EXECUTED : Addr) (w_FAILED : Addr) (zc : Int32) (h0 : Heap) (n0 : Nat) (Z0 : n0 ≤ h0.size) (X00 : Old Z n0 h0) (S_PLANNED : Sta Z Z.heap "com/example/fyfo/fyfo/JobStatus" "PLANNED" "Lcom/example/fyfo/fyfo/JobStatus;" (.ref w_PLANNED)) (S_TRIGGERED : Sta Z Z.heap "com/example/fyfo/fyfo/JobStatus" "TRIGGERED" "Lcom/example/fyfo/fyfo/JobStatus;" (.ref w_TRIGGERED)) (S_EXECUTED : Sta Z Z.heap "com/example/fyfo/fyfo/JobStatus" "EXECUTED" "Lcom/example/fyfo/fyfo/JobStatus;" (.ref w_EXECUTED)) (S_FAILED : Sta Z Z.heap "com/example/fyfo/fyfo/JobStatus" "FAILED" "Lcom/example/fyfo/fyfo/JobStatus;" (.ref w_FAILED)) (E_PLANNED : Exa Z h0 w_PLANNED "com/example/fyfo/fyfo/JobStatus") (E_TRIGGERED : Exa Z h0 w_TRIGGERED "com/example/fyfo/fyfo/JobStatus") (E_EXECUTED : Exa Z h0 w_EXECUTED "com/example/fyfo/fyfo/JobStatus") (E_FAILED : Exa Z h0 w_FAILED "com/example/fyfo/fyfo/JobStatus") (S_CS : Sta Z Z.heap "java/lang/String" "COMPACT_STRINGS" "Z" (.int zc)) (P5 : ¬ (zc = (0 : Int32))) :
    MetFree l x (head1 (Jvm.Cond.code x code maxLocals ret :: ws) room_1) (fun a U => a = #[(.int p0), (.long q0), (.int p1), (.int p2)] ∧ Z.Warmed39 U.vm ∧ U.heap = h0) (fun _ _ _ _ _ => True) (fun _ U o U' => ∃ v L, o = .returned v ∧ Q_rm_law Z p0 q0 p1 p2 w_PLANNED w_TRIGGERED w_EXECUTED w_FAILED zc h0 n0 v U'.heap L ∧ ReturnedEndW U o U' L room_1.cells room_1.slots) := by
  refine MetFree.of_bodySF (plainFor_of_name pn_0) hisR ?_
  intro p e s m args below meth c s₁ Bd hml0 hP hK
  obtain ⟨rfl, hZ, hh⟩ := hP
  have hx := Bd.exec
  have hby := Bd.bytes
  have hml : c.maxLocals = 11 := hml0
  have hown : s.vm.findClass "com/example/fyfo/fyfo/JobWithStatusPinLaw" = some m.cls := findClass_of_methodNamed Bd.named
  have hnm := (name_of_methodNamed Bd.named Bd.method).1
  have X0 : Stand p l e room_1 (s.setVm s.vm) m #[(.int p0), (.long q0), (.int p1), (.int p2)] below meth c s₁ [] 0 0 := Stand.of_body Bd
  have e0 : s₁.heap = h0 := by rw [← hh, Bd.state]; rfl
  have N0 := Fr.nil n0
  have hS0 : s.Since s.vm s.heap.size := (State.WarmedH.refl s).since _
  have hk0 : s.heap.size ≤ h0.size := Nat.le_of_eq (congrArg Array.size hh)
  have wS : ∀ a ∈ Bundle.stringAtoms, a.before a0 Z = true := by
    intro a ha
    simp only [Bundle.stringAtoms, List.mem_cons, List.not_mem_nil, or_false] at ha
    rcases ha with rfl | rfl | rfl | rfl | rfl | rfl | rfl <;> first | exact hw _ (List.mem_of_getElem? (i := 3) rfl) | exact hw _ (List.mem_of_getElem? (i := 2) rfl) | exact hw _ (List.mem_of_getElem? (i := 19) rfl) | exact hw _ (List.mem_of_getElem? (i := 29) rfl) | exact hw _ (List.mem_of_getElem? (i := 27) rfl) | exact hw _ (List.mem_of_getElem? (i := 52) rfl) | exact hw _ (List.mem_of_getElem? (i := 53) rfl)
  have pre0 : ∀ t, Steps p.tables e below (s₁.setTop (mkF m 0 #[.val (.int p0), .val (.long q0), .second, .val (.int p1), .val (.int p2), .unset, .unset, .unset, .unset, .unset, .unset] [])) t → Steps p.tables e below (s₁.setTop (entryFrame m #[(.int p0), (.long q0), (.int p1), (.int p2)] maxLocals)) t := fun t k => castTop (ef_0 m p0 q0 p1 p2) k
  have Sh_PLANNED : Sta Z h0 "com/example/fyfo/fyfo/JobStatus" "PLANNED" "Lcom/example/fyfo/fyfo/JobStatus;" (.ref w_PLANNED) := S_PLANNED.ext X00.2
  have Sh_TRIGGERED : Sta Z h0 "com/example/fyfo/fyfo/JobStatus" "TRIGGERED" "Lcom/example/fyfo/fyfo/JobStatus;" (.ref w_TRIGGERED) := S_TRIGGERED.ext X00.2
  have Sh_EXECUTED : Sta Z h0 "com/example/fyfo/fyfo/JobStatus" "EXECUTED" "Lcom/example/fyfo/fyfo/JobStatus;" (.ref w_EXECUTED) := S_EXECUTED.ext X00.2
  have Sh_FAILED : Sta Z h0 "com/example/fyfo/fyfo/JobStatus" "FAILED" "Lcom/example/fyfo/fyfo/JobStatus;" (.ref w_FAILED) := S_FAILED.ext X00.2
  have Sh_CS : Sta Z h0 "java/lang/String" "COMPACT_STRINGS" "Z" (.int zc) := S_CS.ext X00.2
  have hws : ∀ d ∈ StrChars.Road.words, d.before a0 Z = true := fun d hd => hw d ((by decide +kernel : ∀ d ∈ StrChars.Road.words, d ∈ tables_1) d hd)
  obtain ⟨T1, h1, k1, X1, e1, E1, A1, st1⟩ := newP X0 hx hZ (hw _ (List.mem_of_getElem? (i := 0) rfl)) e0 (g := (mkF m 1 #[.val (.int p0), .val (.long q0), .second, .val (.int p1), .val (.int p2), .unset, .unset, .unset, .unset, .unset, .unset] [(.int (2 : Int32))])) rfl (hb hby at_1) rfl (by decide) (cap := 2) (by decide) (by decide) (by decide) (by decide)
  obtain ⟨b1, g1⟩ : ∃ z, z = h0.size := ⟨_, rfl⟩
  rw [← g1] at A1 st1
  have ne_w_PLANNED_b1 : w_PLANNED ≠ b1 := Nat.ne_of_lt (Nat.lt_of_lt_of_le E_PLANNED.lt (Nat.le_of_eq g1.symm))
  have ne_w_TRIGGERED_b1 : w_TRIGGERED ≠ b1 := Nat.ne_of_lt (Nat.lt_of_lt_of_le E_TRIGGERED.lt (Nat.le_of_eq g1.symm))
  have ne_w_EXECUTED_b1 : w_EXECUTED ≠ b1 := Nat.ne_of_lt (Nat.lt_of_lt_of_le E_EXECUTED.lt (Nat.le_of_eq g1.symm))
  have ne_w_FAILED_b1 : w_FAILED ≠ b1 := Nat.ne_of_lt (Nat.lt_of_lt_of_le E_FAILED.lt (Nat.le_of_eq g1.symm))
  have g_b1 : n0 ≤ b1 := Nat.le_trans Z0 (Nat.le_of_eq g1.symm)
  have X00_1 : Old Z n0 h1 := Old.ext X00 E1
  have Sh_PLANNED_1 : Sta Z h1 "com/example/fyfo/fyfo/JobStatus" "PLANNED" "Lcom/example/fyfo/fyfo/JobStatus;" (.ref w_PLANNED) := Sh_PLANNED.ext E1
  have Sh_TRIGGERED_1 : Sta Z h1 "com/example/fyfo/fyfo/JobStatus" "TRIGGERED" "Lcom/example/fyfo/fyfo/JobStatus;" (.ref w_TRIGGERED) := Sh_TRIGGERED.ext E1
  have Sh_EXECUTED_1 : Sta Z h1 "com/example/fyfo/fyfo/JobStatus" "EXECUTED" "Lcom/example/fyfo/fyfo/JobStatus;" (.ref w_EXECUTED) := Sh_EXECUTED.ext E1
  have Sh_FAILED_1 : Sta Z h1 "com/example/fyfo/fyfo/JobStatus" "FAILED" "Lcom/example/fyfo/fyfo/JobStatus;" (.ref w_FAILED) := Sh_FAILED.ext E1
  have E_PLANNED_1 : Exa Z h1 w_PLANNED "com/example/fyfo/fyfo/JobStatus" := E_PLANNED.ext E1
  have E_TRIGGERED_1 : Exa Z h1 w_TRIGGERED "com/example/fyfo/fyfo/JobStatus" := E_TRIGGERED.ext E1
  have E_EXECUTED_1 : Exa Z h1 w_EXECUTED "com/example/fyfo/fyfo/JobStatus" := E_EXECUTED.ext E1
  have E_FAILED_1 : Exa Z h1 w_FAILED "com/example/fyfo/fyfo/JobStatus" := E_FAILED.ext E1
  have Sh_CS_1 : Sta Z h1 "java/lang/String" "COMPACT_STRINGS" "Z" (.int zc) := Sh_CS.ext E1
  have hk1' : _ ≤ h1.size := Nat.le_trans hk0 E1.1
  have Z1 : n0 ≤ h1.size := Nat.le_trans Z0 E1.1
  have V_b1 : Arv Z h1 b1 k1 .char (2 : Int32) [(.int (0 : Int32)), (.int (0 : Int32))] (.int (0 : Int32)) := (Arv.new A1 (by decide)).pad (pad_rep [] (.int (0 : Int32)) 2)
  obtain ⟨cl2, Ar2, qk2, S2, N2', H2, G2⟩ := (id V_b1)
  have hin2 : ¬ ((0 : Int32) < 0 ∨ cl2.slots.size ≤ ((0 : Int32)).toNatClampNeg) := inb_of S2 ⟨by decide, by decide⟩
  obtain ⟨T3, h3, X3, e3, W3, st3⟩ := stC X1 hx hZ e1 Ar2 (j := (0 : Int32)) hin2 (g := (mkF m 14 #[.val (.int p0), .val (.long q0), .second, .val (.int p1), .val (.int p2), .val (.ref b1), .unset, .unset, .unset, .unset, .unset] [(.int (p0 &&& (255 : Int32)).toUInt32.toUInt16.toUInt32.toInt32), (.int (0 : Int32)), (.ref b1)])) rfl rfl (hb hby at_14)
  have V3 : Arv Z h3 b1 k1 .char (2 : Int32) [(.int (nar .char (p0 &&& (255 : Int32)).toUInt32.toUInt16.toUInt32.toInt32)), (.int (0 : Int32))] (.int (0 : Int32)) := Arv.set Ar2 qk2 S2 N2' H2 G2 (fits_nar_char _) W3 0 rfl (Nat.le_of_ble_eq_true rfl)
  have N3 := Fr.snoc X3 N0 g_b1
  have X00_3 : Old Z n0 h3 := X00_1.wr W3 g_b1
  have Sh_PLANNED_3 : Sta Z h3 "com/example/fyfo/fyfo/JobStatus" "PLANNED" "Lcom/example/fyfo/fyfo/JobStatus;" (.ref w_PLANNED) := Sh_PLANNED_1.wr W3
  have Sh_TRIGGERED_3 : Sta Z h3 "com/example/fyfo/fyfo/JobStatus" "TRIGGERED" "Lcom/example/fyfo/fyfo/JobStatus;" (.ref w_TRIGGERED) := Sh_TRIGGERED_1.wr W3
  have Sh_EXECUTED_3 : Sta Z h3 "com/example/fyfo/fyfo/JobStatus" "EXECUTED" "Lcom/example/fyfo/fyfo/JobStatus;" (.ref w_EXECUTED) := Sh_EXECUTED_1.wr W3
  have Sh_FAILED_3 : Sta Z h3 "com/example/fyfo/fyfo/JobStatus" "FAILED" "Lcom/example/fyfo/fyfo/JobStatus;" (.ref w_FAILED) := Sh_FAILED_1.wr W3
  have E_PLANNED_3 : Exa Z h3 w_PLANNED "com/example/fyfo/fyfo/JobStatus" := E_PLANNED_1.wr W3
  have E_TRIGGERED_3 : Exa Z h3 w_TRIGGERED "com/example/fyfo/fyfo/JobStatus" := E_TRIGGERED_1.wr W3
  have E_EXECUTED_3 : Exa Z h3 w_EXECUTED "com/example/fyfo/fyfo/JobStatus" := E_EXECUTED_1.wr W3
  have E_FAILED_3 : Exa Z h3 w_FAILED "com/example/fyfo/fyfo/JobStatus" := E_FAILED_1.wr W3
  have Sh_CS_3 : Sta Z h3 "java/lang/String" "COMPACT_STRINGS" "Z" (.int zc) := Sh_CS_1.wr W3
  have hk3' : _ ≤ h3.size := Nat.le_trans hk1' (Keep.of_wr W3).1
  have Z3 : n0 ≤ h3.size := Nat.le_trans Z1 (Keep.of_wr W3).1
  obtain ⟨cl4, Ar4, qk4, S4, N4', H4, G4⟩ := (id V3)
  have hin4 : ¬ ((1 : Int32) < 0 ∨ cl4.slots.size ≤ ((1 : Int32)).toNatClampNeg) := inb_of S4 ⟨by decide, by decide⟩
  obtain ⟨T5, h5, X5, e5, W5, st5⟩ := stC X3 hx hZ e3 Ar4 (j := (1 : Int32)) hin4 (g := (mkF m 27 #[.val (.int p0), .val (.long q0), .second, .val (.int p1), .val (.int p2), .val (.ref b1), .unset, .unset, .unset, .unset, .unset] [(.int (((p0.toUInt32 >>> ((8 : Int32) &&& 31).toUInt32).toInt32) &&& (255 : Int32)).toUInt32.toUInt16.toUInt32.toInt32), (.int (1 : Int32)), (.ref b1)])) rfl rfl (hb hby at_27)
  have V5 : Arv Z h5 b1 k1 .char (2 : Int32) [(.int (nar .char (p0 &&& (255 : Int32)).toUInt32.toUInt16.toUInt32.toInt32)), (.int (nar .char (((p0.toUInt32 >>> ((8 : Int32) &&& 31).toUInt32).toInt32) &&& (255 : Int32)).toUInt32.toUInt16.toUInt32.toInt32))] (.int (0 : Int32)) := Arv.set Ar4 qk4 S4 N4' H4 G4 (fits_nar_char _) W5 1 rfl (Nat.le_of_ble_eq_true rfl)
  have N5 := Fr.snoc X5 N3 g_b1
  have X00_5 : Old Z n0 h5 := X00_3.wr W5 g_b1
  have Sh_PLANNED_5 : Sta Z h5 "com/example/fyfo/fyfo/JobStatus" "PLANNED" "Lcom/example/fyfo/fyfo/JobStatus;" (.ref w_PLANNED) := Sh_PLANNED_3.wr W5
  have Sh_TRIGGERED_5 : Sta Z h5 "com/example/fyfo/fyfo/JobStatus" "TRIGGERED" "Lcom/example/fyfo/fyfo/JobStatus;" (.ref w_TRIGGERED) := Sh_TRIGGERED_3.wr W5
  have Sh_EXECUTED_5 : Sta Z h5 "com/example/fyfo/fyfo/JobStatus" "EXECUTED" "Lcom/example/fyfo/fyfo/JobStatus;" (.ref w_EXECUTED) := Sh_EXECUTED_3.wr W5
  have Sh_FAILED_5 : Sta Z h5 "com/example/fyfo/fyfo/JobStatus" "FAILED" "Lcom/example/fyfo/fyfo/JobStatus;" (.ref w_FAILED) := Sh_FAILED_3.wr W5
  have E_PLANNED_5 : Exa Z h5 w_PLANNED "com/example/fyfo/fyfo/JobStatus" := E_PLANNED_3.wr W5
  have E_TRIGGERED_5 : Exa Z h5 w_TRIGGERED "com/example/fyfo/fyfo/JobStatus" := E_TRIGGERED_3.wr W5
  have E_EXECUTED_5 : Exa Z h5 w_EXECUTED "com/example/fyfo/fyfo/JobStatus" := E_EXECUTED_3.wr W5
  have E_FAILED_5 : Exa Z h5 w_FAILED "com/example/fyfo/fyfo/JobStatus" := E_FAILED_3.wr W5
  have Sh_CS_5 : Sta Z h5 "java/lang/String" "COMPACT_STRINGS" "Z" (.int zc) := Sh_CS_3.wr W5
  have hk5' : _ ≤ h5.size := Nat.le_trans hk3' (Keep.of_wr W5).1
  have Z5 : n0 ≤ h5.size := Nat.le_trans Z3 (Keep.of_wr W5).1
  obtain ⟨T6, h6, X6, e6, E6, A6, D6, -, st6⟩ := newO X5 hx hZ hown (hw _ (List.mem_of_getElem? (i := 1) rfl)) (hw _ (List.mem_of_getElem? (i := 2) rfl)) (hw _ (List.mem_of_getElem? (i := 3) rfl)) e5 (g := (mkF m 28 #[.val (.int p0), .val (.long q0), .second, .val (.int p1), .val (.int p2), .val (.ref b1), .unset, .unset, .unset, .unset, .unset] [])) rfl (hb hby at_28) (by decide) (by decide)
  obtain ⟨b6, g6⟩ : ∃ z, z = h5.size := ⟨_, rfl⟩
  rw [← g6] at A6 D6 st6
  have ne_w_PLANNED_b6 : w_PLANNED ≠ b6 := Nat.ne_of_lt (Nat.lt_of_lt_of_le E_PLANNED_5.lt (Nat.le_of_eq g6.symm))
  have ne_w_TRIGGERED_b6 : w_TRIGGERED ≠ b6 := Nat.ne_of_lt (Nat.lt_of_lt_of_le E_TRIGGERED_5.lt (Nat.le_of_eq g6.symm))
  have ne_w_EXECUTED_b6 : w_EXECUTED ≠ b6 := Nat.ne_of_lt (Nat.lt_of_lt_of_le E_EXECUTED_5.lt (Nat.le_of_eq g6.symm))
  have ne_w_FAILED_b6 : w_FAILED ≠ b6 := Nat.ne_of_lt (Nat.lt_of_lt_of_le E_FAILED_5.lt (Nat.le_of_eq g6.symm))
  have ne_b1_b6 : b1 ≠ b6 := Nat.ne_of_lt (Nat.lt_of_lt_of_le V5.lt (Nat.le_of_eq g6.symm))
  have g_b6 : n0 ≤ b6 := Nat.le_trans Z5 (Nat.le_of_eq g6.symm)
  have X00_6 : Old Z n0 h6 := Old.ext X00_5 E6
  have Sh_PLANNED_6 : Sta Z h6 "com/example/fyfo/fyfo/JobStatus" "PLANNED" "Lcom/example/fyfo/fyfo/JobStatus;" (.ref w_PLANNED) := Sh_PLANNED_5.ext E6
  have Sh_TRIGGERED_6 : Sta Z h6 "com/example/fyfo/fyfo/JobStatus" "TRIGGERED" "Lcom/example/fyfo/fyfo/JobStatus;" (.ref w_TRIGGERED) := Sh_TRIGGERED_5.ext E6
  have Sh_EXECUTED_6 : Sta Z h6 "com/example/fyfo/fyfo/JobStatus" "EXECUTED" "Lcom/example/fyfo/fyfo/JobStatus;" (.ref w_EXECUTED) := Sh_EXECUTED_5.ext E6
  have Sh_FAILED_6 : Sta Z h6 "com/example/fyfo/fyfo/JobStatus" "FAILED" "Lcom/example/fyfo/fyfo/JobStatus;" (.ref w_FAILED) := Sh_FAILED_5.ext E6
  have E_PLANNED_6 : Exa Z h6 w_PLANNED "com/example/fyfo/fyfo/JobStatus" := E_PLANNED_5.ext E6
  have E_TRIGGERED_6 : Exa Z h6 w_TRIGGERED "com/example/fyfo/fyfo/JobStatus" := E_TRIGGERED_5.ext E6
  have E_EXECUTED_6 : Exa Z h6 w_EXECUTED "com/example/fyfo/fyfo/JobStatus" := E_EXECUTED_5.ext E6
  have E_FAILED_6 : Exa Z h6 w_FAILED "com/example/fyfo/fyfo/JobStatus" := E_FAILED_5.ext E6
  have Sh_CS_6 : Sta Z h6 "java/lang/String" "COMPACT_STRINGS" "Z" (.int zc) := Sh_CS_5.ext E6
  have V5_6 : Arv Z h6 b1 k1 .char (2 : Int32) [(.int (nar .char (p0 &&& (255 : Int32)).toUInt32.toUInt16.toUInt32.toInt32)), (.int (nar .char (((p0.toUInt32 >>> ((8 : Int32) &&& 31).toUInt32).toInt32) &&& (255 : Int32)).toUInt32.toUInt16.toUInt32.toInt32))] (.int (0 : Int32)) := V5.ext E6
  have hk6' : _ ≤ h6.size := Nat.le_trans hk5' E6.1
  have Z6 : n0 ≤ h6.size := Nat.le_trans Z5 E6.1
  have F_coder_b6 : Fld Z h6 b6 "java/lang/String" "coder" "B" (.int (0 : Int32)) := D6 (Or.inr (hw _ (List.mem_of_getElem? (i := 27) rfl))) (ty := .byte) (by decide)
  have F_value_b6 : Fld Z h6 b6 "java/lang/String" "value" "[B" .null := D6 (Or.inr (hw _ (List.mem_of_getElem? (i := 29) rfl))) (ty := (.array .byte)) (by decide)
  obtain ⟨_, _, ⟨T7, L7, k7, n7⟩, -, X7, ⟨Lc7, hQ7, l7, y7, z7⟩, st7⟩ := X6.specialBack hx (y := (⟨"java/lang/String", "<init>", "([C)V"⟩ : MethodName)) rfl hown (mvT hZ (hw _ (List.mem_of_getElem? (i := 4) rfl))) (mvT hZ (hw _ (List.mem_of_getElem? (i := 5) rfl))) (mvT hZ (hw _ (List.mem_of_getElem? (i := 6) rfl))) (by decide) (StrChars.Road.backV (W := 1) hZ hws (kI := 4) (hw _ (List.mem_of_getElem? (i := 2) rfl)) (cs := ([(nar .char (p0 &&& (255 : Int32)).toUInt32.toUInt16.toUInt32.toInt32), (nar .char (((p0.toUInt32 >>> ((8 : Int32) &&& 31).toUInt32).toInt32) &&& (255 : Int32)).toUInt32.toUInt16.toUInt32.toInt32)] : List Int32)) (bs := (([(nar .char (p0 &&& (255 : Int32)).toUInt32.toUInt16.toUInt32.toInt32), (nar .char (((p0.toUInt32 >>> ((8 : Int32) &&& 31).toUInt32).toInt32) &&& (255 : Int32)).toUInt32.toUInt16.toUInt32.toInt32)] : List Int32)).map (fun c => c.toInt8.toInt32)) (n := 2) g_b6 Z6 A6 F_value_b6 F_coder_b6 V5_6 Sh_CS_6 P5 rfl rfl (by decide) (by decide) (List.forall_mem_cons.mpr ⟨own_ch _, List.forall_mem_cons.mpr ⟨own_ch _, fun _ q => nomatch q⟩⟩) rfl (by decide) (by decide)) (g := (mkF m 34 #[.val (.int p0), .val (.long q0), .second, .val (.int p1), .val (.int p2), .val (.ref b1), .unset, .unset, .unset, .unset, .unset] [(.ref b1), (.ref b6), (.ref b6)])) rfl (by rw [hml]; rfl) (Steps.refl _) (a := b6) (argsL := [(.ref b1)]) (rest := [(.ref b6)]) (lenOf pd_6 rfl) rfl (by show 2 * 0 + _ ≤ _; exact Nat.le_of_eq rfl) (hb hby at_34) (fun _ _ => ⟨rfl, e6, (by decide : 2 + 1 ≤ _), (by decide : 6 + 2 ≤ _)⟩)
  dsimp only [Pt.U, Pt.locs, Pt.cells, Pt.slots] at X7 l7 y7 z7 st7 hQ7
  subst l7 y7 z7
  obtain ⟨rfl, N7q, x7c0, x7c1, x7c2, x7c3, x7c4, x7c5, x7c6, x7c7, x7c8, x7c9⟩ := hQ7
  have N7 := Fr.app N5 N7q
  have X00_7 : Old Z n0 T7.heap := X00_6.keep x7c0 (allS g_b6 all0)
  have E_PLANNED_7 : Exa Z T7.heap w_PLANNED "com/example/fyfo/fyfo/JobStatus" := E_PLANNED_6.keep x7c0
  have E_TRIGGERED_7 : Exa Z T7.heap w_TRIGGERED "com/example/fyfo/fyfo/JobStatus" := E_TRIGGERED_6.keep x7c0
  have E_EXECUTED_7 : Exa Z T7.heap w_EXECUTED "com/example/fyfo/fyfo/JobStatus" := E_EXECUTED_6.keep x7c0
  have E_FAILED_7 : Exa Z T7.heap w_FAILED "com/example/fyfo/fyfo/JobStatus" := E_FAILED_6.keep x7c0
  have V5_7 : Arv Z T7.heap b1 k1 .char (2 : Int32) [(.int (nar .char (p0 &&& (255 : Int32)).toUInt32.toUInt16.toUInt32.toInt32)), (.int (nar .char (((p0.toUInt32 >>> ((8 : Int32) &&& 31).toUInt32).toInt32) &&& (255 : Int32)).toUInt32.toUInt16.toUInt32.toInt32))] (.int (0 : Int32)) := V5_6.keep x7c0 (ninS ne_b1_b6 nin0)
  have A6_7 : Exa Z T7.heap b6 "java/lang/String" := A6.keep x7c0
  have Sh_PLANNED_7 : Sta Z T7.heap "com/example/fyfo/fyfo/JobStatus" "PLANNED" "Lcom/example/fyfo/fyfo/JobStatus;" (.ref w_PLANNED) := S_PLANNED.ext X00_7.2
  have Sh_TRIGGERED_7 : Sta Z T7.heap "com/example/fyfo/fyfo/JobStatus" "TRIGGERED" "Lcom/example/fyfo/fyfo/JobStatus;" (.ref w_TRIGGERED) := S_TRIGGERED.ext X00_7.2
  have Sh_EXECUTED_7 : Sta Z T7.heap "com/example/fyfo/fyfo/JobStatus" "EXECUTED" "Lcom/example/fyfo/fyfo/JobStatus;" (.ref w_EXECUTED) := S_EXECUTED.ext X00_7.2
  have Sh_FAILED_7 : Sta Z T7.heap "com/example/fyfo/fyfo/JobStatus" "FAILED" "Lcom/example/fyfo/fyfo/JobStatus;" (.ref w_FAILED) := S_FAILED.ext X00_7.2
  have Sh_CS_7 : Sta Z T7.heap "java/lang/String" "COMPACT_STRINGS" "Z" (.int zc) := S_CS.ext X00_7.2
  have hk7' : _ ≤ T7.heap.size := Nat.le_trans hk6' x7c0.1
  have Z7 : n0 ≤ T7.heap.size := Nat.le_trans Z6 x7c0.1
  have k8 : ∀ target, Steps p.tables e below (T7.setTop (mkF m 45 #[.val (.int p0), .val (.long q0), .second, .val (.int p1), .val (.int p2), .val (.ref b1), .val (.ref b6), .unset, .unset, .unset, .unset] [(.int (((p0.toUInt32 >>> ((16 : Int32) &&& 31).toUInt32).toInt32) &&& (1 : Int32)))])) target → Steps p.tables e below (s₁.setTop (mkF m 0 #[.val (.int p0), .val (.long q0), .second, .val (.int p1), .val (.int p2), .unset, .unset, .unset, .unset, .unset, .unset] [])) target := by
    intro target kt
    show Steps p.tables e below (s₁.setTop (mkF m 0 #[.val (.int p0), .val (.long q0), .second, .val (.int p1), .val (.int p2), .unset, .unset, .unset, .unset, .unset, .unset] [])) _
    refine XS.iconst X0.here hx rfl (hb hby at_0) ?_
    show Steps p.tables e below (s₁.setTop (mkF m 1 #[.val (.int p0), .val (.long q0), .second, .val (.int p1), .val (.int p2), .unset, .unset, .unset, .unset, .unset, .unset] [(.int (2 : Int32))])) _
    refine st1 _ ?_
    show Steps p.tables e below (T1.setTop (mkF m 3 #[.val (.int p0), .val (.long q0), .second, .val (.int p1), .val (.int p2), .unset, .unset, .unset, .unset, .unset, .unset] [(.ref b1)])) _
    refine XS.astore X1.here hx rfl (hb hby at_3) rfl rfl (l' := #[.val (.int p0), .val (.long q0), .second, .val (.int p1), .val (.int p2), .val (.ref b1), .unset, .unset, .unset, .unset, .unset]) rfl ?_
    show Steps p.tables e below (T1.setTop (mkF m 5 #[.val (.int p0), .val (.long q0), .second, .val (.int p1), .val (.int p2), .val (.ref b1), .unset, .unset, .unset, .unset, .unset] [])) _
    refine XS.aload X1.here hx rfl (hb hby at_5) rfl rfl ?_
    show Steps p.tables e below (T1.setTop (mkF m 7 #[.val (.int p0), .val (.long q0), .second, .val (.int p1), .val (.int p2), .val (.ref b1), .unset, .unset, .unset, .unset, .unset] [(.ref b1)])) _
    refine XS.iconst X1.here hx rfl (hb hby at_7) ?_
    show Steps p.tables e below (T1.setTop (mkF m 8 #[.val (.int p0), .val (.long q0), .second, .val (.int p1), .val (.int p2), .val (.ref b1), .unset, .unset, .unset, .unset, .unset] [(.int (0 : Int32)), (.ref b1)])) _
    refine XS.iloadN X1.here hx rfl (hb hby at_8) rfl ?_
    show Steps p.tables e below (T1.setTop (mkF m 9 #[.val (.int p0), .val (.long q0), .second, .val (.int p1), .val (.int p2), .val (.ref b1), .unset, .unset, .unset, .unset, .unset] [(.int p0), (.int (0 : Int32)), (.ref b1)])) _
    refine XS.sipush X1.here hx rfl (hb hby at_9) ?_
    show Steps p.tables e below (T1.setTop (mkF m 12 #[.val (.int p0), .val (.long q0), .second, .val (.int p1), .val (.int p2), .val (.ref b1), .unset, .unset, .unset, .unset, .unset] [(.int (255 : Int32)), (.int p0), (.int (0 : Int32)), (.ref b1)])) _
    refine XS.iand X1.here hx rfl (hb hby at_12) rfl ?_
    show Steps p.tables e below (T1.setTop (mkF m 13 #[.val (.int p0), .val (.long q0), .second, .val (.int p1), .val (.int p2), .val (.ref b1), .unset, .unset, .unset, .unset, .unset] [(.int (p0 &&& (255 : Int32))), (.int (0 : Int32)), (.ref b1)])) _
    refine XS.i2c X1.here hx rfl (hb hby at_13) rfl ?_
    show Steps p.tables e below (T1.setTop (mkF m 14 #[.val (.int p0), .val (.long q0), .second, .val (.int p1), .val (.int p2), .val (.ref b1), .unset, .unset, .unset, .unset, .unset] [(.int (p0 &&& (255 : Int32)).toUInt32.toUInt16.toUInt32.toInt32), (.int (0 : Int32)), (.ref b1)])) _
    refine st3 _ ?_
    show Steps p.tables e below (T3.setTop (mkF m 15 #[.val (.int p0), .val (.long q0), .second, .val (.int p1), .val (.int p2), .val (.ref b1), .unset, .unset, .unset, .unset, .unset] [])) _
    refine XS.aload X3.here hx rfl (hb hby at_15) rfl rfl ?_
    show Steps p.tables e below (T3.setTop (mkF m 17 #[.val (.int p0), .val (.long q0), .second, .val (.int p1), .val (.int p2), .val (.ref b1), .unset, .unset, .unset, .unset, .unset] [(.ref b1)])) _
    refine XS.iconst X3.here hx rfl (hb hby at_17) ?_
    show Steps p.tables e below (T3.setTop (mkF m 18 #[.val (.int p0), .val (.long q0), .second, .val (.int p1), .val (.int p2), .val (.ref b1), .unset, .unset, .unset, .unset, .unset] [(.int (1 : Int32)), (.ref b1)])) _
    refine XS.iloadN X3.here hx rfl (hb hby at_18) rfl ?_
    show Steps p.tables e below (T3.setTop (mkF m 19 #[.val (.int p0), .val (.long q0), .second, .val (.int p1), .val (.int p2), .val (.ref b1), .unset, .unset, .unset, .unset, .unset] [(.int p0), (.int (1 : Int32)), (.ref b1)])) _
    refine XS.bipush X3.here hx rfl (hb hby at_19) ?_
    show Steps p.tables e below (T3.setTop (mkF m 21 #[.val (.int p0), .val (.long q0), .second, .val (.int p1), .val (.int p2), .val (.ref b1), .unset, .unset, .unset, .unset, .unset] [(.int (8 : Int32)), (.int p0), (.int (1 : Int32)), (.ref b1)])) _
    refine XS.iushr X3.here hx rfl (hb hby at_21) rfl ?_
    show Steps p.tables e below (T3.setTop (mkF m 22 #[.val (.int p0), .val (.long q0), .second, .val (.int p1), .val (.int p2), .val (.ref b1), .unset, .unset, .unset, .unset, .unset] [(.int ((p0.toUInt32 >>> ((8 : Int32) &&& 31).toUInt32).toInt32)), (.int (1 : Int32)), (.ref b1)])) _
    refine XS.sipush X3.here hx rfl (hb hby at_22) ?_
    show Steps p.tables e below (T3.setTop (mkF m 25 #[.val (.int p0), .val (.long q0), .second, .val (.int p1), .val (.int p2), .val (.ref b1), .unset, .unset, .unset, .unset, .unset] [(.int (255 : Int32)), (.int ((p0.toUInt32 >>> ((8 : Int32) &&& 31).toUInt32).toInt32)), (.int (1 : Int32)), (.ref b1)])) _
    refine XS.iand X3.here hx rfl (hb hby at_25) rfl ?_
    show Steps p.tables e below (T3.setTop (mkF m 26 #[.val (.int p0), .val (.long q0), .second, .val (.int p1), .val (.int p2), .val (.ref b1), .unset, .unset, .unset, .unset, .unset] [(.int (((p0.toUInt32 >>> ((8 : Int32) &&& 31).toUInt32).toInt32) &&& (255 : Int32))), (.int (1 : Int32)), (.ref b1)])) _
    refine XS.i2c X3.here hx rfl (hb hby at_26) rfl ?_
    show Steps p.tables e below (T3.setTop (mkF m 27 #[.val (.int p0), .val (.long q0), .second, .val (.int p1), .val (.int p2), .val (.ref b1), .unset, .unset, .unset, .unset, .unset] [(.int (((p0.toUInt32 >>> ((8 : Int32) &&& 31).toUInt32).toInt32) &&& (255 : Int32)).toUInt32.toUInt16.toUInt32.toInt32), (.int (1 : Int32)), (.ref b1)])) _
    refine st5 _ ?_
    show Steps p.tables e below (T5.setTop (mkF m 28 #[.val (.int p0), .val (.long q0), .second, .val (.int p1), .val (.int p2), .val (.ref b1), .unset, .unset, .unset, .unset, .unset] [])) _
    refine st6 _ ?_
    show Steps p.tables e below (T6.setTop (mkF m 31 #[.val (.int p0), .val (.long q0), .second, .val (.int p1), .val (.int p2), .val (.ref b1), .unset, .unset, .unset, .unset, .unset] [(.ref b6)])) _
    refine XS.dup X6.here hx rfl (hb hby at_31) rfl rfl ?_
    show Steps p.tables e below (T6.setTop (mkF m 32 #[.val (.int p0), .val (.long q0), .second, .val (.int p1), .val (.int p2), .val (.ref b1), .unset, .unset, .unset, .unset, .unset] [(.ref b6), (.ref b6)])) _
    refine XS.aload X6.here hx rfl (hb hby at_32) rfl rfl ?_
    show Steps p.tables e below (T6.setTop (mkF m 34 #[.val (.int p0), .val (.long q0), .second, .val (.int p1), .val (.int p2), .val (.ref b1), .unset, .unset, .unset, .unset, .unset] [(.ref b1), (.ref b6), (.ref b6)])) _
    refine st7.trans ?_
    show Steps p.tables e below (T7.setTop (mkF m 37 #[.val (.int p0), .val (.long q0), .second, .val (.int p1), .val (.int p2), .val (.ref b1), .unset, .unset, .unset, .unset, .unset] [(.ref b6)])) _
    refine XS.astore X7.here hx rfl (hb hby at_37) rfl rfl (l' := #[.val (.int p0), .val (.long q0), .second, .val (.int p1), .val (.int p2), .val (.ref b1), .val (.ref b6), .unset, .unset, .unset, .unset]) rfl ?_
    show Steps p.tables e below (T7.setTop (mkF m 39 #[.val (.int p0), .val (.long q0), .second, .val (.int p1), .val (.int p2), .val (.ref b1), .val (.ref b6), .unset, .unset, .unset, .unset] [])) _
    refine XS.iloadN X7.here hx rfl (hb hby at_39) rfl ?_
    show Steps p.tables e below (T7.setTop (mkF m 40 #[.val (.int p0), .val (.long q0), .second, .val (.int p1), .val (.int p2), .val (.ref b1), .val (.ref b6), .unset, .unset, .unset, .unset] [(.int p0)])) _
    refine XS.bipush X7.here hx rfl (hb hby at_40) ?_
    show Steps p.tables e below (T7.setTop (mkF m 42 #[.val (.int p0), .val (.long q0), .second, .val (.int p1), .val (.int p2), .val (.ref b1), .val (.ref b6), .unset, .unset, .unset, .unset] [(.int (16 : Int32)), (.int p0)])) _
    refine XS.iushr X7.here hx rfl (hb hby at_42) rfl ?_
    show Steps p.tables e below (T7.setTop (mkF m 43 #[.val (.int p0), .val (.long q0), .second, .val (.int p1), .val (.int p2), .val (.ref b1), .val (.ref b6), .unset, .unset, .unset, .unset] [(.int ((p0.toUInt32 >>> ((16 : Int32) &&& 31).toUInt32).toInt32))])) _
    refine XS.iconst X7.here hx rfl (hb hby at_43) ?_
    show Steps p.tables e below (T7.setTop (mkF m 44 #[.val (.int p0), .val (.long q0), .second, .val (.int p1), .val (.int p2), .val (.ref b1), .val (.ref b6), .unset, .unset, .unset, .unset] [(.int (1 : Int32)), (.int ((p0.toUInt32 >>> ((16 : Int32) &&& 31).toUInt32).toInt32))])) _
    refine XS.iand X7.here hx rfl (hb hby at_44) rfl ?_
    exact kt
  by_cases hc45 : (((p0.toUInt32 >>> ((16 : Int32) &&& 31).toUInt32).toInt32) &&& (1 : Int32)) = (0 : Int32)
  · obtain ⟨_, _, ⟨T9, L9, k9, n9⟩, -, X9, ⟨Lc9, hQ9, l9, y9, z9⟩, st9⟩ := Jvm.LawKit.callS X7 hx (y := (⟨"com/example/fyfo/fyfo/JobWithStatusPinLaw", "pick", "(I)Lcom/example/fyfo/fyfo/JobStatus;"⟩ : MethodName)) hown (mvT hZ (hw _ (List.mem_of_getElem? (i := 30) rfl))) (mvT hZ (hw _ (List.mem_of_getElem? (i := 31) rfl))) (mvT hZ (hw _ (List.mem_of_getElem? (i := 32) rfl))) (mvT hZ (hw _ (List.mem_of_getElem? (i := 33) rfl))) (by decide) (backOf (W := 0) (rm_pick l Z a0 hw [] p1 w_PLANNED w_TRIGGERED w_EXECUTED w_FAILED T7.heap n0 Z7 Sh_PLANNED_7 Sh_TRIGGERED_7 Sh_EXECUTED_7 Sh_FAILED_7) hZ (hw _ (List.mem_of_getElem? (i := 33) rfl)) (hw _ (List.mem_of_getElem? (i := 32) rfl)) (by decide) (by decide)) (g := (mkF m 58 #[.val (.int p0), .val (.long q0), .second, .val (.int p1), .val (.int p2), .val (.ref b1), .val (.ref b6), .unset, .unset, .unset, .unset] [(.int p1)])) rfl (by rw [hml]; rfl) (argsL := [(.int p1)]) (rest := []) (lenOf pd_7 rfl) rfl (by show 2 * 0 + _ ≤ _; exact Nat.le_of_eq rfl) (hb hby at_58) (fun _ _ => ⟨rfl, rfl, (by decide : 3 + 0 ≤ _), (by decide : 8 + 0 ≤ _)⟩)
    dsimp only [Pt.U, Pt.locs, Pt.cells, Pt.slots] at X9 l9 y9 z9 st9 hQ9
    subst l9 y9 z9
    obtain ⟨rfl, N9q, e9⟩ := hQ9
    have N9 := Fr.app N7 N9q
    obtain ⟨_, _, ⟨T10, L10, k10, n10⟩, -, X10, ⟨Lc10, hQ10, l10, y10, z10⟩, st10⟩ := Jvm.LawKit.callS X9 hx (y := (⟨"com/example/fyfo/fyfo/JobWithStatusPinLaw", "pick", "(I)Lcom/example/fyfo/fyfo/JobStatus;"⟩ : MethodName)) hown (mvT hZ (hw _ (List.mem_of_getElem? (i := 30) rfl))) (mvT hZ (hw _ (List.mem_of_getElem? (i := 31) rfl))) (mvT hZ (hw _ (List.mem_of_getElem? (i := 32) rfl))) (mvT hZ (hw _ (List.mem_of_getElem? (i := 33) rfl))) (by decide) (backOf (W := 0) (rm_pick l Z a0 hw [] p2 w_PLANNED w_TRIGGERED w_EXECUTED w_FAILED T7.heap n0 Z7 Sh_PLANNED_7 Sh_TRIGGERED_7 Sh_EXECUTED_7 Sh_FAILED_7) hZ (hw _ (List.mem_of_getElem? (i := 33) rfl)) (hw _ (List.mem_of_getElem? (i := 32) rfl)) (by decide) (by decide)) (g := (mkF m 65 #[.val (.int p0), .val (.long q0), .second, .val (.int p1), .val (.int p2), .val (.ref b1), .val (.ref b6), .val (.ref (own_pick p1 w_PLANNED w_TRIGGERED w_EXECUTED w_FAILED)), .unset, .unset, .unset] [(.int p2)])) rfl (by rw [hml]; rfl) (argsL := [(.int p2)]) (rest := []) (lenOf pd_7 rfl) rfl (by show 2 * 0 + _ ≤ _; exact Nat.le_of_eq rfl) (hb hby at_65) (fun _ _ => ⟨rfl, e9, (by decide : 3 + 0 ≤ _), (by decide : 8 + 0 ≤ _)⟩)
    dsimp only [Pt.U, Pt.locs, Pt.cells, Pt.slots] at X10 l10 y10 z10 st10 hQ10
    subst l10 y10 z10
    obtain ⟨rfl, N10q, e10⟩ := hQ10
    have N10 := Fr.app N9 N10q
    obtain ⟨T11, h11, X11, e11, E11, A11, D11, -, st11⟩ := newO X10 hx hZ hown (hw _ (List.mem_of_getElem? (i := 39) rfl)) (hw _ (List.mem_of_getElem? (i := 40) rfl)) (hw _ (List.mem_of_getElem? (i := 41) rfl)) e10 (g := (mkF m 70 #[.val (.int p0), .val (.long q0), .second, .val (.int p1), .val (.int p2), .val (.ref b1), .val (.ref b6), .val (.ref (own_pick p1 w_PLANNED w_TRIGGERED w_EXECUTED w_FAILED)), .val (.ref (own_pick p2 w_PLANNED w_TRIGGERED w_EXECUTED w_FAILED)), .unset, .unset] [])) rfl (hb hby at_70) (by decide) (by decide)
    obtain ⟨b11, g11⟩ : ∃ z, z = T7.heap.size := ⟨_, rfl⟩
    rw [← g11] at A11 D11 st11
    have ne_w_PLANNED_b11 : w_PLANNED ≠ b11 := Nat.ne_of_lt (Nat.lt_of_lt_of_le E_PLANNED_7.lt (Nat.le_of_eq g11.symm))
    have ne_w_TRIGGERED_b11 : w_TRIGGERED ≠ b11 := Nat.ne_of_lt (Nat.lt_of_lt_of_le E_TRIGGERED_7.lt (Nat.le_of_eq g11.symm))
    have ne_w_EXECUTED_b11 : w_EXECUTED ≠ b11 := Nat.ne_of_lt (Nat.lt_of_lt_of_le E_EXECUTED_7.lt (Nat.le_of_eq g11.symm))
    have ne_w_FAILED_b11 : w_FAILED ≠ b11 := Nat.ne_of_lt (Nat.lt_of_lt_of_le E_FAILED_7.lt (Nat.le_of_eq g11.symm))
    have ne_b1_b11 : b1 ≠ b11 := Nat.ne_of_lt (Nat.lt_of_lt_of_le V5_7.lt (Nat.le_of_eq g11.symm))
    have ne_b6_b11 : b6 ≠ b11 := Nat.ne_of_lt (Nat.lt_of_lt_of_le A6_7.lt (Nat.le_of_eq g11.symm))
    have g_b11 : n0 ≤ b11 := Nat.le_trans Z7 (Nat.le_of_eq g11.symm)
    have X00_11 : Old Z n0 h11 := Old.ext X00_7 E11
    have E_PLANNED_11 : Exa Z h11 w_PLANNED "com/example/fyfo/fyfo/JobStatus" := E_PLANNED_7.ext E11
    have E_TRIGGERED_11 : Exa Z h11 w_TRIGGERED "com/example/fyfo/fyfo/JobStatus" := E_TRIGGERED_7.ext E11
    have E_EXECUTED_11 : Exa Z h11 w_EXECUTED "com/example/fyfo/fyfo/JobStatus" := E_EXECUTED_7.ext E11
    have E_FAILED_11 : Exa Z h11 w_FAILED "com/example/fyfo/fyfo/JobStatus" := E_FAILED_7.ext E11
    have V5_11 : Arv Z h11 b1 k1 .char (2 : Int32) [(.int (nar .char (p0 &&& (255 : Int32)).toUInt32.toUInt16.toUInt32.toInt32)), (.int (nar .char (((p0.toUInt32 >>> ((8 : Int32) &&& 31).toUInt32).toInt32) &&& (255 : Int32)).toUInt32.toUInt16.toUInt32.toInt32))] (.int (0 : Int32)) := V5_7.ext E11
    have A6_11 : Exa Z h11 b6 "java/lang/String" := A6_7.ext E11
    have Sh_PLANNED_11 : Sta Z h11 "com/example/fyfo/fyfo/JobStatus" "PLANNED" "Lcom/example/fyfo/fyfo/JobStatus;" (.ref w_PLANNED) := Sh_PLANNED_7.ext E11
    have Sh_TRIGGERED_11 : Sta Z h11 "com/example/fyfo/fyfo/JobStatus" "TRIGGERED" "Lcom/example/fyfo/fyfo/JobStatus;" (.ref w_TRIGGERED) := Sh_TRIGGERED_7.ext E11
    have Sh_EXECUTED_11 : Sta Z h11 "com/example/fyfo/fyfo/JobStatus" "EXECUTED" "Lcom/example/fyfo/fyfo/JobStatus;" (.ref w_EXECUTED) := Sh_EXECUTED_7.ext E11
    have Sh_FAILED_11 : Sta Z h11 "com/example/fyfo/fyfo/JobStatus" "FAILED" "Lcom/example/fyfo/fyfo/JobStatus;" (.ref w_FAILED) := Sh_FAILED_7.ext E11
    have Sh_CS_11 : Sta Z h11 "java/lang/String" "COMPACT_STRINGS" "Z" (.int zc) := Sh_CS_7.ext E11
    have hk11' : _ ≤ h11.size := Nat.le_trans hk7' E11.1
    have Z11 : n0 ≤ h11.size := Nat.le_trans Z7 E11.1
    have F_id_b11 : Fld Z h11 b11 "com/example/fyfo/fyfo/Job" "id" "Ljava/lang/String;" .null := D11 (Or.inr (hw _ (List.mem_of_getElem? (i := 60) rfl))) (ty := (.object "java/lang/String")) (by decide)
    have F_executionNanos_b11 : Fld Z h11 b11 "com/example/fyfo/fyfo/Job" "executionNanos" "J" (.long (0 : Int64)) := D11 (Or.inr (hw _ (List.mem_of_getElem? (i := 62) rfl))) (ty := .long) (by decide)
    have F_status_b11 : Fld Z h11 b11 "com/example/fyfo/fyfo/Job" "status" "Lcom/example/fyfo/fyfo/JobStatus;" .null := D11 (Or.inr (hw _ (List.mem_of_getElem? (i := 64) rfl))) (ty := (.object "com/example/fyfo/fyfo/JobStatus")) (by decide)
    obtain ⟨_, _, ⟨T12, L12, k12, n12⟩, -, X12, hSq12, gr12, ⟨Lc12, hQ12, l12, y12, z12⟩, st12⟩ := X11.specialBackS hx (y := (⟨"com/example/fyfo/fyfo/Job", "<init>", "(Ljava/lang/String;JLcom/example/fyfo/fyfo/JobStatus;)V"⟩ : MethodName)) rfl hown (mvT hZ (hw _ (List.mem_of_getElem? (i := 42) rfl))) (mvT hZ (hw _ (List.mem_of_getElem? (i := 43) rfl))) (mvT hZ (hw _ (List.mem_of_getElem? (i := 44) rfl))) (by decide) (backOfS (W := 1) (rm_job l Z a0 hw [] b11 b6 q0 (own_pick p1 w_PLANNED w_TRIGGERED w_EXECUTED w_FAILED) h11 n0 Z11 A11 F_id_b11 F_executionNanos_b11 F_status_b11 g_b11) hZ (hw _ (List.mem_of_getElem? (i := 44) rfl)) (hw _ (List.mem_of_getElem? (i := 41) rfl)) (by decide) (by decide)) (g := (mkF m 79 #[.val (.int p0), .val (.long q0), .second, .val (.int p1), .val (.int p2), .val (.ref b1), .val (.ref b6), .val (.ref (own_pick p1 w_PLANNED w_TRIGGERED w_EXECUTED w_FAILED)), .val (.ref (own_pick p2 w_PLANNED w_TRIGGERED w_EXECUTED w_FAILED)), .unset, .unset] [(.ref (own_pick p1 w_PLANNED w_TRIGGERED w_EXECUTED w_FAILED)), (.long q0), (.ref b6), (.ref b11), (.ref b11)])) rfl (by rw [hml]; rfl) (Steps.refl _) (a := b11) (argsL := [(.ref b6), (.long q0), (.ref (own_pick p1 w_PLANNED w_TRIGGERED w_EXECUTED w_FAILED))]) (rest := [(.ref b11)]) (lenOf pd_2 rfl) rfl (by show 2 * 0 + _ ≤ _; exact Nat.le_of_eq rfl) (hb hby at_79) (fun _ _ => ⟨rfl, e11, (by decide : 4 + 4 ≤ _), (by decide : 11 + 40 ≤ _)⟩)
    dsimp only [Pt.U, Pt.locs, Pt.cells, Pt.slots] at X12 l12 y12 z12 st12 hQ12 hSq12 gr12
    subst l12 y12 z12
    obtain ⟨rfl, N12q, x12c0, x12c1, x12c2, x12c3⟩ := hQ12
    have N12 := Fr.app N10 N12q
    have X00_12 : Old Z n0 T12.heap := X00_11.keep x12c0 (allS g_b11 all0)
    have E_PLANNED_12 : Exa Z T12.heap w_PLANNED "com/example/fyfo/fyfo/JobStatus" := E_PLANNED_11.keep x12c0
    have E_TRIGGERED_12 : Exa Z T12.heap w_TRIGGERED "com/example/fyfo/fyfo/JobStatus" := E_TRIGGERED_11.keep x12c0
    have E_EXECUTED_12 : Exa Z T12.heap w_EXECUTED "com/example/fyfo/fyfo/JobStatus" := E_EXECUTED_11.keep x12c0
    have E_FAILED_12 : Exa Z T12.heap w_FAILED "com/example/fyfo/fyfo/JobStatus" := E_FAILED_11.keep x12c0
    have V5_12 : Arv Z T12.heap b1 k1 .char (2 : Int32) [(.int (nar .char (p0 &&& (255 : Int32)).toUInt32.toUInt16.toUInt32.toInt32)), (.int (nar .char (((p0.toUInt32 >>> ((8 : Int32) &&& 31).toUInt32).toInt32) &&& (255 : Int32)).toUInt32.toUInt16.toUInt32.toInt32))] (.int (0 : Int32)) := V5_11.keep x12c0 (ninS ne_b1_b11 nin0)
    have A6_12 : Exa Z T12.heap b6 "java/lang/String" := A6_11.keep x12c0
    have A11_12 : Exa Z T12.heap b11 "com/example/fyfo/fyfo/Job" := A11.keep x12c0
    have Sh_PLANNED_12 : Sta Z T12.heap "com/example/fyfo/fyfo/JobStatus" "PLANNED" "Lcom/example/fyfo/fyfo/JobStatus;" (.ref w_PLANNED) := S_PLANNED.ext X00_12.2
    have Sh_TRIGGERED_12 : Sta Z T12.heap "com/example/fyfo/fyfo/JobStatus" "TRIGGERED" "Lcom/example/fyfo/fyfo/JobStatus;" (.ref w_TRIGGERED) := S_TRIGGERED.ext X00_12.2
    have Sh_EXECUTED_12 : Sta Z T12.heap "com/example/fyfo/fyfo/JobStatus" "EXECUTED" "Lcom/example/fyfo/fyfo/JobStatus;" (.ref w_EXECUTED) := S_EXECUTED.ext X00_12.2
    have Sh_FAILED_12 : Sta Z T12.heap "com/example/fyfo/fyfo/JobStatus" "FAILED" "Lcom/example/fyfo/fyfo/JobStatus;" (.ref w_FAILED) := S_FAILED.ext X00_12.2
    have Sh_CS_12 : Sta Z T12.heap "java/lang/String" "COMPACT_STRINGS" "Z" (.int zc) := S_CS.ext X00_12.2
    have hk12' : _ ≤ T12.heap.size := Nat.le_trans hk11' x12c0.1
    have Z12 : n0 ≤ T12.heap.size := Nat.le_trans Z11 x12c0.1
    have X12b : Stand p l e room_1 (s.setVm T12.vm) m #[(.int p0), (.long q0), (.int p1), (.int p2)] below meth c T12 _ _ _ := X12
    have hS12 : s.Since T12.vm T12.heap.size := foldS hS0 (T := T11) (by first | exact hk11' | (rw [e11]; exact hk11')) hSq12 gr12
    have hZ12 : Z.Warmed39 (s.setVm T12.vm).vm := State.Warmed39.trans (t := s.setVm s.vm) hZ hSq12.1
    have hown12 : (s.setVm T12.vm).vm.findClass "com/example/fyfo/fyfo/JobWithStatusPinLaw" = some m.cls := by rw [show (s.setVm T12.vm).vm = T12.vm from rfl, hSq12.1.alike.findClass]; exact hown
    have hk12 := Nat.le_refl T12.heap.size
    obtain ⟨cq13, kq13, q13a, q13b, q13c⟩ := isOf hZ12 rfl A11_12
    obtain ⟨_, _, ⟨T13, L13, k13, n13⟩, -, X13, hSq13, gr13, ⟨Lc13, hQ13, l13, y13, z13⟩, st13⟩ := X12b.virtualBackS hx (y := (⟨"com/example/fyfo/fyfo/Job", "withStatus", "(Lcom/example/fyfo/fyfo/JobStatus;)Lcom/example/fyfo/fyfo/Job;"⟩ : MethodName)) (z := (⟨"com/example/fyfo/fyfo/Job", "withStatus", "(Lcom/example/fyfo/fyfo/JobStatus;)Lcom/example/fyfo/fyfo/Job;"⟩ : MethodName)) hown12 (mvT hZ12 (hw _ (List.mem_of_getElem? (i := 65) rfl))) (mvT hZ12 (hw _ (List.mem_of_getElem? (i := 66) rfl))) (notFace_of_selects (args := #[]) (mvT hZ12 (hw _ (List.mem_of_getElem? (i := 68) rfl)))) (mvT hZ12 (hw _ (List.mem_of_getElem? (i := 68) rfl))) (mvT hZ12 (hw _ (List.mem_of_getElem? (i := 67) rfl))) (by decide) (backOfS (W := 0) (rm_with l Z a0 hw [] b11 (own_pick p2 w_PLANNED w_TRIGGERED w_EXECUTED w_FAILED) b6 q0 T12.heap n0 Z12 x12c1 x12c2) hZ12 (hw _ (List.mem_of_getElem? (i := 69) rfl)) (hw _ (List.mem_of_getElem? (i := 41) rfl)) (by decide) (by decide)) q13a q13c (g := (mkF m 88 #[.val (.int p0), .val (.long q0), .second, .val (.int p1), .val (.int p2), .val (.ref b1), .val (.ref b6), .val (.ref (own_pick p1 w_PLANNED w_TRIGGERED w_EXECUTED w_FAILED)), .val (.ref (own_pick p2 w_PLANNED w_TRIGGERED w_EXECUTED w_FAILED)), .val (.ref b11), .unset] [(.ref (own_pick p2 w_PLANNED w_TRIGGERED w_EXECUTED w_FAILED)), (.ref b11)])) rfl (by rw [hml]; rfl) (Steps.refl _) (argsL := [(.ref (own_pick p2 w_PLANNED w_TRIGGERED w_EXECUTED w_FAILED))]) (rest := []) (lenOf pd_8 rfl) rfl (by show 2 * 0 + _ ≤ _; exact Nat.le_of_eq rfl) (hb hby at_88) (fun _ _ => ⟨rfl, rfl, (by decide : 8 + 5 ≤ _), (by decide : 51 + 43 ≤ _)⟩)
    dsimp only [Pt.U, Pt.locs, Pt.cells, Pt.slots] at X13 l13 y13 z13 st13 hQ13 hSq13 gr13
    subst l13 y13 z13
    obtain ⟨bx13, rfl, N13q, x13c0, x13c1, x13c2, x13c3, x13c4, x13c5, x13c6⟩ := hQ13
    have N13 := Fr.app N12 N13q
    have ne_w_PLANNED_bx13 : w_PLANNED ≠ bx13 := Nat.ne_of_lt (Nat.lt_of_lt_of_le E_PLANNED_12.lt x13c2)
    have ne_w_TRIGGERED_bx13 : w_TRIGGERED ≠ bx13 := Nat.ne_of_lt (Nat.lt_of_lt_of_le E_TRIGGERED_12.lt x13c2)
    have ne_w_EXECUTED_bx13 : w_EXECUTED ≠ bx13 := Nat.ne_of_lt (Nat.lt_of_lt_of_le E_EXECUTED_12.lt x13c2)
    have ne_w_FAILED_bx13 : w_FAILED ≠ bx13 := Nat.ne_of_lt (Nat.lt_of_lt_of_le E_FAILED_12.lt x13c2)
    have ne_b1_bx13 : b1 ≠ bx13 := Nat.ne_of_lt (Nat.lt_of_lt_of_le V5_12.lt x13c2)
    have ne_b6_bx13 : b6 ≠ bx13 := Nat.ne_of_lt (Nat.lt_of_lt_of_le A6_12.lt x13c2)
    have ne_b11_bx13 : b11 ≠ bx13 := Nat.ne_of_lt (Nat.lt_of_lt_of_le A11_12.lt x13c2)
    have X00_13 : Old Z n0 T13.heap := X00_12.keep x13c0 all0
    have E_PLANNED_13 : Exa Z T13.heap w_PLANNED "com/example/fyfo/fyfo/JobStatus" := E_PLANNED_12.keep x13c0
    have E_TRIGGERED_13 : Exa Z T13.heap w_TRIGGERED "com/example/fyfo/fyfo/JobStatus" := E_TRIGGERED_12.keep x13c0
    have E_EXECUTED_13 : Exa Z T13.heap w_EXECUTED "com/example/fyfo/fyfo/JobStatus" := E_EXECUTED_12.keep x13c0
    have E_FAILED_13 : Exa Z T13.heap w_FAILED "com/example/fyfo/fyfo/JobStatus" := E_FAILED_12.keep x13c0
    have V5_13 : Arv Z T13.heap b1 k1 .char (2 : Int32) [(.int (nar .char (p0 &&& (255 : Int32)).toUInt32.toUInt16.toUInt32.toInt32)), (.int (nar .char (((p0.toUInt32 >>> ((8 : Int32) &&& 31).toUInt32).toInt32) &&& (255 : Int32)).toUInt32.toUInt16.toUInt32.toInt32))] (.int (0 : Int32)) := V5_12.keep x13c0 nin0
    have A6_13 : Exa Z T13.heap b6 "java/lang/String" := A6_12.keep x13c0
    have A11_13 : Exa Z T13.heap b11 "com/example/fyfo/fyfo/Job" := A11_12.keep x13c0
    have x12c1_13 : Fld Z T13.heap b11 "com/example/fyfo/fyfo/Job" "id" "Ljava/lang/String;" (.ref b6) := x12c1.keep x13c0 nin0
    have x12c2_13 : Fld Z T13.heap b11 "com/example/fyfo/fyfo/Job" "executionNanos" "J" (.long q0) := x12c2.keep x13c0 nin0
    have x12c3_13 : Fld Z T13.heap b11 "com/example/fyfo/fyfo/Job" "status" "Lcom/example/fyfo/fyfo/JobStatus;" (.ref (own_pick p1 w_PLANNED w_TRIGGERED w_EXECUTED w_FAILED)) := x12c3.keep x13c0 nin0
    have Sh_PLANNED_13 : Sta Z T13.heap "com/example/fyfo/fyfo/JobStatus" "PLANNED" "Lcom/example/fyfo/fyfo/JobStatus;" (.ref w_PLANNED) := S_PLANNED.ext X00_13.2
    have Sh_TRIGGERED_13 : Sta Z T13.heap "com/example/fyfo/fyfo/JobStatus" "TRIGGERED" "Lcom/example/fyfo/fyfo/JobStatus;" (.ref w_TRIGGERED) := S_TRIGGERED.ext X00_13.2
    have Sh_EXECUTED_13 : Sta Z T13.heap "com/example/fyfo/fyfo/JobStatus" "EXECUTED" "Lcom/example/fyfo/fyfo/JobStatus;" (.ref w_EXECUTED) := S_EXECUTED.ext X00_13.2
    have Sh_FAILED_13 : Sta Z T13.heap "com/example/fyfo/fyfo/JobStatus" "FAILED" "Lcom/example/fyfo/fyfo/JobStatus;" (.ref w_FAILED) := S_FAILED.ext X00_13.2
    have Sh_CS_13 : Sta Z T13.heap "java/lang/String" "COMPACT_STRINGS" "Z" (.int zc) := S_CS.ext X00_13.2
    have hk13' : _ ≤ T13.heap.size := Nat.le_trans hk12 x13c0.1
    have Z13 : n0 ≤ T13.heap.size := Nat.le_trans Z12 x13c0.1
    have X13b : Stand p l e room_1 (s.setVm T13.vm) m #[(.int p0), (.long q0), (.int p1), (.int p2)] below meth c T13 _ _ _ := X13
    have hS13 : s.Since T13.vm T13.heap.size := foldS hS12 (T := T12) (by first | exact hk12 | (rw [rfl]; exact hk12)) hSq13 gr13
    have hZ13 : Z.Warmed39 (s.setVm T13.vm).vm := State.Warmed39.trans (t := s.setVm T12.vm) hZ12 hSq13.1
    have hown13 : (s.setVm T13.vm).vm.findClass "com/example/fyfo/fyfo/JobWithStatusPinLaw" = some m.cls := by rw [show (s.setVm T13.vm).vm = T13.vm from rfl, hSq13.1.alike.findClass]; exact hown12
    have hk13 := Nat.le_refl T13.heap.size
    obtain ⟨cq14, kq14, q14a, q14b, q14c⟩ := isOf hZ13 rfl x13c3
    obtain ⟨_, _, ⟨T14, L14, k14, n14⟩, -, X14, ⟨Lc14, hQ14, l14, y14, z14⟩, st14⟩ := X13b.virtualBack hx (y := (⟨"com/example/fyfo/fyfo/Job", "id", "()Ljava/lang/String;"⟩ : MethodName)) (z := (⟨"com/example/fyfo/fyfo/Job", "id", "()Ljava/lang/String;"⟩ : MethodName)) hown13 (mvT hZ13 (hw _ (List.mem_of_getElem? (i := 72) rfl))) (mvT hZ13 (hw _ (List.mem_of_getElem? (i := 73) rfl))) (notFace_of_selects (args := #[]) (mvT hZ13 (hw _ (List.mem_of_getElem? (i := 75) rfl)))) (mvT hZ13 (hw _ (List.mem_of_getElem? (i := 75) rfl))) (mvT hZ13 (hw _ (List.mem_of_getElem? (i := 74) rfl))) (by decide) (backOf (W := 0) (rm_id l Z a0 hw [] bx13 b6 T13.heap n0 Z13 x13c4) hZ13 (hw _ (List.mem_of_getElem? (i := 76) rfl)) (hw _ (List.mem_of_getElem? (i := 41) rfl)) (by decide) (by decide)) q14a q14c (g := (mkF m 102 #[.val (.int p0), .val (.long q0), .second, .val (.int p1), .val (.int p2), .val (.ref b1), .val (.ref b6), .val (.ref (own_pick p1 w_PLANNED w_TRIGGERED w_EXECUTED w_FAILED)), .val (.ref (own_pick p2 w_PLANNED w_TRIGGERED w_EXECUTED w_FAILED)), .val (.ref b11), .val (.ref bx13)] [(.ref bx13)])) rfl (by rw [hml]; rfl) (Steps.refl _) (argsL := []) (rest := []) (lenOf pd_9 rfl) rfl (by show 2 * 0 + _ ≤ _; exact Nat.le_of_eq rfl) (hb hby at_102) (fun _ _ => ⟨rfl, rfl, (by decide : 13 + 0 ≤ _), (by decide : 94 + 0 ≤ _)⟩)
    dsimp only [Pt.U, Pt.locs, Pt.cells, Pt.slots] at X14 l14 y14 z14 st14 hQ14
    subst l14 y14 z14
    obtain ⟨rfl, N14q, e14⟩ := hQ14
    have N14 := Fr.app N13 N14q
    obtain ⟨cq15, kq15, q15a, q15b, q15c⟩ := isOf hZ13 e14 A6_13
    obtain ⟨_, _, ⟨T15, L15, k15, n15⟩, -, X15, ⟨Lc15, hQ15, l15, y15, z15⟩, st15⟩ := X14.virtualBack hx (y := (⟨"java/lang/String", "equals", "(Ljava/lang/Object;)Z"⟩ : MethodName)) (z := (⟨"java/lang/String", "equals", "(Ljava/lang/Object;)Z"⟩ : MethodName)) hown13 (mvT hZ13 (hw _ (List.mem_of_getElem? (i := 77) rfl))) (mvT hZ13 (hw _ (List.mem_of_getElem? (i := 78) rfl))) (notFace_of_selects (args := #[]) (mvT hZ13 (hw _ (List.mem_of_getElem? (i := 80) rfl)))) (mvT hZ13 (hw _ (List.mem_of_getElem? (i := 80) rfl))) (mvT hZ13 (hw _ (List.mem_of_getElem? (i := 79) rfl))) (by decide) (backOf (W := 0) (rm_eq l Z a0 hw [] b6 b6 T13.heap n0 Z13 rfl) hZ13 (hw _ (List.mem_of_getElem? (i := 81) rfl)) (hw _ (List.mem_of_getElem? (i := 3) rfl)) (by decide) (by decide)) q15a q15c (g := (mkF m 107 #[.val (.int p0), .val (.long q0), .second, .val (.int p1), .val (.int p2), .val (.ref b1), .val (.ref b6), .val (.ref (own_pick p1 w_PLANNED w_TRIGGERED w_EXECUTED w_FAILED)), .val (.ref (own_pick p2 w_PLANNED w_TRIGGERED w_EXECUTED w_FAILED)), .val (.ref b11), .val (.ref bx13)] [(.ref b6), (.ref b6)])) rfl (by rw [hml]; rfl) (Steps.refl _) (argsL := [(.ref b6)]) (rest := []) (lenOf pd_10 rfl) rfl (by show 2 * 0 + _ ≤ _; exact Nat.le_of_eq rfl) (hb hby at_107) (fun _ _ => ⟨rfl, e14, (by decide : 13 + 0 ≤ _), (by decide : 94 + 0 ≤ _)⟩)
    dsimp only [Pt.U, Pt.locs, Pt.cells, Pt.slots] at X15 l15 y15 z15 st15 hQ15
    subst l15 y15 z15
    obtain ⟨rfl, N15q, e15⟩ := hQ15
    have N15 := Fr.app N14 N15q
    obtain ⟨cq16, kq16, q16a, q16b, q16c⟩ := isOf hZ13 e15 x13c3
    obtain ⟨_, _, ⟨T16, L16, k16, n16⟩, -, X16, ⟨Lc16, hQ16, l16, y16, z16⟩, st16⟩ := X15.virtualBack hx (y := (⟨"com/example/fyfo/fyfo/Job", "executionNanos", "()J"⟩ : MethodName)) (z := (⟨"com/example/fyfo/fyfo/Job", "executionNanos", "()J"⟩ : MethodName)) hown13 (mvT hZ13 (hw _ (List.mem_of_getElem? (i := 82) rfl))) (mvT hZ13 (hw _ (List.mem_of_getElem? (i := 83) rfl))) (notFace_of_selects (args := #[]) (mvT hZ13 (hw _ (List.mem_of_getElem? (i := 85) rfl)))) (mvT hZ13 (hw _ (List.mem_of_getElem? (i := 85) rfl))) (mvT hZ13 (hw _ (List.mem_of_getElem? (i := 84) rfl))) (by decide) (backOf (W := 0) (rm_nanos l Z a0 hw [] bx13 q0 T13.heap n0 Z13 x13c5) hZ13 (hw _ (List.mem_of_getElem? (i := 86) rfl)) (hw _ (List.mem_of_getElem? (i := 41) rfl)) (by decide) (by decide)) q16a q16c (g := (mkF m 115 #[.val (.int p0), .val (.long q0), .second, .val (.int p1), .val (.int p2), .val (.ref b1), .val (.ref b6), .val (.ref (own_pick p1 w_PLANNED w_TRIGGERED w_EXECUTED w_FAILED)), .val (.ref (own_pick p2 w_PLANNED w_TRIGGERED w_EXECUTED w_FAILED)), .val (.ref b11), .val (.ref bx13)] [(.ref bx13)])) rfl (by rw [hml]; rfl) (Steps.refl _) (argsL := []) (rest := []) (lenOf pd_11 rfl) rfl (by show 2 * 0 + _ ≤ _; exact Nat.le_of_eq rfl) (hb hby at_115) (fun _ _ => ⟨rfl, e15, (by decide : 13 + 0 ≤ _), (by decide : 94 + 0 ≤ _)⟩)
    dsimp only [Pt.U, Pt.locs, Pt.cells, Pt.slots] at X16 l16 y16 z16 st16 hQ16
    subst l16 y16 z16
    obtain ⟨rfl, N16q, e16⟩ := hQ16
    have N16 := Fr.app N15 N16q
    obtain ⟨cq17, kq17, q17a, q17b, q17c⟩ := isOf hZ13 e16 x13c3
    obtain ⟨_, _, ⟨T17, L17, k17, n17⟩, -, X17, ⟨Lc17, hQ17, l17, y17, z17⟩, st17⟩ := X16.virtualBack hx (y := (⟨"com/example/fyfo/fyfo/Job", "status", "()Lcom/example/fyfo/fyfo/JobStatus;"⟩ : MethodName)) (z := (⟨"com/example/fyfo/fyfo/Job", "status", "()Lcom/example/fyfo/fyfo/JobStatus;"⟩ : MethodName)) hown13 (mvT hZ13 (hw _ (List.mem_of_getElem? (i := 87) rfl))) (mvT hZ13 (hw _ (List.mem_of_getElem? (i := 88) rfl))) (notFace_of_selects (args := #[]) (mvT hZ13 (hw _ (List.mem_of_getElem? (i := 90) rfl)))) (mvT hZ13 (hw _ (List.mem_of_getElem? (i := 90) rfl))) (mvT hZ13 (hw _ (List.mem_of_getElem? (i := 89) rfl))) (by decide) (backOf (W := 0) (rm_status l Z a0 hw [] bx13 (own_pick p2 w_PLANNED w_TRIGGERED w_EXECUTED w_FAILED) T13.heap n0 Z13 x13c6) hZ13 (hw _ (List.mem_of_getElem? (i := 91) rfl)) (hw _ (List.mem_of_getElem? (i := 41) rfl)) (by decide) (by decide)) q17a q17c (g := (mkF m 125 #[.val (.int p0), .val (.long q0), .second, .val (.int p1), .val (.int p2), .val (.ref b1), .val (.ref b6), .val (.ref (own_pick p1 w_PLANNED w_TRIGGERED w_EXECUTED w_FAILED)), .val (.ref (own_pick p2 w_PLANNED w_TRIGGERED w_EXECUTED w_FAILED)), .val (.ref b11), .val (.ref bx13)] [(.ref bx13)])) rfl (by rw [hml]; rfl) (Steps.refl _) (argsL := []) (rest := []) (lenOf pd_12 rfl) rfl (by show 2 * 0 + _ ≤ _; exact Nat.le_of_eq rfl) (hb hby at_125) (fun _ _ => ⟨rfl, e16, (by decide : 13 + 0 ≤ _), (by decide : 94 + 0 ≤ _)⟩)
    dsimp only [Pt.U, Pt.locs, Pt.cells, Pt.slots] at X17 l17 y17 z17 st17 hQ17
    subst l17 y17 z17
    obtain ⟨rfl, N17q, e17⟩ := hQ17
    have N17 := Fr.app N16 N17q
    obtain ⟨cq18, kq18, q18a, q18b, q18c⟩ := isOf hZ13 e17 A11_13
    obtain ⟨_, _, ⟨T18, L18, k18, n18⟩, -, X18, ⟨Lc18, hQ18, l18, y18, z18⟩, st18⟩ := X17.virtualBack hx (y := (⟨"com/example/fyfo/fyfo/Job", "status", "()Lcom/example/fyfo/fyfo/JobStatus;"⟩ : MethodName)) (z := (⟨"com/example/fyfo/fyfo/Job", "status", "()Lcom/example/fyfo/fyfo/JobStatus;"⟩ : MethodName)) hown13 (mvT hZ13 (hw _ (List.mem_of_getElem? (i := 87) rfl))) (mvT hZ13 (hw _ (List.mem_of_getElem? (i := 88) rfl))) (notFace_of_selects (args := #[]) (mvT hZ13 (hw _ (List.mem_of_getElem? (i := 90) rfl)))) (mvT hZ13 (hw _ (List.mem_of_getElem? (i := 90) rfl))) (mvT hZ13 (hw _ (List.mem_of_getElem? (i := 89) rfl))) (by decide) (backOf (W := 0) (rm_status l Z a0 hw [] b11 (own_pick p1 w_PLANNED w_TRIGGERED w_EXECUTED w_FAILED) T13.heap n0 Z13 x12c3_13) hZ13 (hw _ (List.mem_of_getElem? (i := 91) rfl)) (hw _ (List.mem_of_getElem? (i := 41) rfl)) (by decide) (by decide)) q18a q18c (g := (mkF m 135 #[.val (.int p0), .val (.long q0), .second, .val (.int p1), .val (.int p2), .val (.ref b1), .val (.ref b6), .val (.ref (own_pick p1 w_PLANNED w_TRIGGERED w_EXECUTED w_FAILED)), .val (.ref (own_pick p2 w_PLANNED w_TRIGGERED w_EXECUTED w_FAILED)), .val (.ref b11), .val (.ref bx13)] [(.ref b11)])) rfl (by rw [hml]; rfl) (Steps.refl _) (argsL := []) (rest := []) (lenOf pd_12 rfl) rfl (by show 2 * 0 + _ ≤ _; exact Nat.le_of_eq rfl) (hb hby at_135) (fun _ _ => ⟨rfl, e17, (by decide : 13 + 0 ≤ _), (by decide : 94 + 0 ≤ _)⟩)
    dsimp only [Pt.U, Pt.locs, Pt.cells, Pt.slots] at X18 l18 y18 z18 st18 hQ18
    subst l18 y18 z18
    obtain ⟨rfl, N18q, e18⟩ := hQ18
    have N18 := Fr.app N17 N18q
    obtain ⟨cq19, kq19, q19a, q19b, q19c⟩ := isOf hZ13 e18 A11_13
    obtain ⟨_, _, ⟨T19, L19, k19, n19⟩, -, X19, ⟨Lc19, hQ19, l19, y19, z19⟩, st19⟩ := X18.virtualBack hx (y := (⟨"com/example/fyfo/fyfo/Job", "executionNanos", "()J"⟩ : MethodName)) (z := (⟨"com/example/fyfo/fyfo/Job", "executionNanos", "()J"⟩ : MethodName)) hown13 (mvT hZ13 (hw _ (List.mem_of_getElem? (i := 82) rfl))) (mvT hZ13 (hw _ (List.mem_of_getElem? (i := 83) rfl))) (notFace_of_selects (args := #[]) (mvT hZ13 (hw _ (List.mem_of_getElem? (i := 85) rfl)))) (mvT hZ13 (hw _ (List.mem_of_getElem? (i := 85) rfl))) (mvT hZ13 (hw _ (List.mem_of_getElem? (i := 84) rfl))) (by decide) (backOf (W := 0) (rm_nanos l Z a0 hw [] b11 q0 T13.heap n0 Z13 x12c2_13) hZ13 (hw _ (List.mem_of_getElem? (i := 86) rfl)) (hw _ (List.mem_of_getElem? (i := 41) rfl)) (by decide) (by decide)) q19a q19c (g := (mkF m 145 #[.val (.int p0), .val (.long q0), .second, .val (.int p1), .val (.int p2), .val (.ref b1), .val (.ref b6), .val (.ref (own_pick p1 w_PLANNED w_TRIGGERED w_EXECUTED w_FAILED)), .val (.ref (own_pick p2 w_PLANNED w_TRIGGERED w_EXECUTED w_FAILED)), .val (.ref b11), .val (.ref bx13)] [(.ref b11)])) rfl (by rw [hml]; rfl) (Steps.refl _) (argsL := []) (rest := []) (lenOf pd_11 rfl) rfl (by show 2 * 0 + _ ≤ _; exact Nat.le_of_eq rfl) (hb hby at_145) (fun _ _ => ⟨rfl, e18, (by decide : 13 + 0 ≤ _), (by decide : 94 + 0 ≤ _)⟩)
    dsimp only [Pt.U, Pt.locs, Pt.cells, Pt.slots] at X19 l19 y19 z19 st19 hQ19
    subst l19 y19 z19
    obtain ⟨rfl, N19q, e19⟩ := hQ19
    have N19 := Fr.app N18 N19q
    obtain ⟨fs, hr, hrun, hended, hREW⟩ := X19.leaveW hS13 (by first | exact hk13 | (rw [e19]; exact hk13)) (v := some (.int (1 : Int32))) (fun h => by rw [Bd.returns] at h; cases h)
    refine ⟨_, _, pre0 _ ?_, hrun, hended, _, _, rfl, ?_, hREW.1, hREW.2.1, hREW.2.2.1, hREW.2.2.2.mono (by decide) (by decide)⟩
    · refine k8 _ ?_
      show Steps p.tables e below (T7.setTop (mkF m 45 #[.val (.int p0), .val (.long q0), .second, .val (.int p1), .val (.int p2), .val (.ref b1), .val (.ref b6), .unset, .unset, .unset, .unset] [(.int (((p0.toUInt32 >>> ((16 : Int32) &&& 31).toUInt32).toInt32) &&& (1 : Int32)))])) _
      refine XS.ifYes X7.here hx rfl (pc0 := 45) (pc' := 57) rfl (hb hby at_45) rfl ((if0 _ _).trans (teq hc45).1) (by decide) (by decide) ?_
      show Steps p.tables e below (T7.setTop (mkF m 57 #[.val (.int p0), .val (.long q0), .second, .val (.int p1), .val (.int p2), .val (.ref b1), .val (.ref b6), .unset, .unset, .unset, .unset] [])) _
      refine XS.iloadN X7.here hx rfl (hb hby at_57) rfl ?_
      show Steps p.tables e below (T7.setTop (mkF m 58 #[.val (.int p0), .val (.long q0), .second, .val (.int p1), .val (.int p2), .val (.ref b1), .val (.ref b6), .unset, .unset, .unset, .unset] [(.int p1)])) _
      refine st9 _ ?_
      show Steps p.tables e below (T9.setTop (mkF m 61 #[.val (.int p0), .val (.long q0), .second, .val (.int p1), .val (.int p2), .val (.ref b1), .val (.ref b6), .unset, .unset, .unset, .unset] [(.ref (own_pick p1 w_PLANNED w_TRIGGERED w_EXECUTED w_FAILED))])) _
      refine XS.astore X9.here hx rfl (hb hby at_61) rfl rfl (l' := #[.val (.int p0), .val (.long q0), .second, .val (.int p1), .val (.int p2), .val (.ref b1), .val (.ref b6), .val (.ref (own_pick p1 w_PLANNED w_TRIGGERED w_EXECUTED w_FAILED)), .unset, .unset, .unset]) rfl ?_
      show Steps p.tables e below (T9.setTop (mkF m 63 #[.val (.int p0), .val (.long q0), .second, .val (.int p1), .val (.int p2), .val (.ref b1), .val (.ref b6), .val (.ref (own_pick p1 w_PLANNED w_TRIGGERED w_EXECUTED w_FAILED)), .unset, .unset, .unset] [])) _
      refine XS.iload X9.here hx rfl (hb hby at_63) rfl ?_
      show Steps p.tables e below (T9.setTop (mkF m 65 #[.val (.int p0), .val (.long q0), .second, .val (.int p1), .val (.int p2), .val (.ref b1), .val (.ref b6), .val (.ref (own_pick p1 w_PLANNED w_TRIGGERED w_EXECUTED w_FAILED)), .unset, .unset, .unset] [(.int p2)])) _
      refine st10 _ ?_
      show Steps p.tables e below (T10.setTop (mkF m 68 #[.val (.int p0), .val (.long q0), .second, .val (.int p1), .val (.int p2), .val (.ref b1), .val (.ref b6), .val (.ref (own_pick p1 w_PLANNED w_TRIGGERED w_EXECUTED w_FAILED)), .unset, .unset, .unset] [(.ref (own_pick p2 w_PLANNED w_TRIGGERED w_EXECUTED w_FAILED))])) _
      refine XS.astore X10.here hx rfl (hb hby at_68) rfl rfl (l' := #[.val (.int p0), .val (.long q0), .second, .val (.int p1), .val (.int p2), .val (.ref b1), .val (.ref b6), .val (.ref (own_pick p1 w_PLANNED w_TRIGGERED w_EXECUTED w_FAILED)), .val (.ref (own_pick p2 w_PLANNED w_TRIGGERED w_EXECUTED w_FAILED)), .unset, .unset]) rfl ?_
      show Steps p.tables e below (T10.setTop (mkF m 70 #[.val (.int p0), .val (.long q0), .second, .val (.int p1), .val (.int p2), .val (.ref b1), .val (.ref b6), .val (.ref (own_pick p1 w_PLANNED w_TRIGGERED w_EXECUTED w_FAILED)), .val (.ref (own_pick p2 w_PLANNED w_TRIGGERED w_EXECUTED w_FAILED)), .unset, .unset] [])) _
      refine st11 _ ?_
      show Steps p.tables e below (T11.setTop (mkF m 73 #[.val (.int p0), .val (.long q0), .second, .val (.int p1), .val (.int p2), .val (.ref b1), .val (.ref b6), .val (.ref (own_pick p1 w_PLANNED w_TRIGGERED w_EXECUTED w_FAILED)), .val (.ref (own_pick p2 w_PLANNED w_TRIGGERED w_EXECUTED w_FAILED)), .unset, .unset] [(.ref b11)])) _
      refine XS.dup X11.here hx rfl (hb hby at_73) rfl rfl ?_
      show Steps p.tables e below (T11.setTop (mkF m 74 #[.val (.int p0), .val (.long q0), .second, .val (.int p1), .val (.int p2), .val (.ref b1), .val (.ref b6), .val (.ref (own_pick p1 w_PLANNED w_TRIGGERED w_EXECUTED w_FAILED)), .val (.ref (own_pick p2 w_PLANNED w_TRIGGERED w_EXECUTED w_FAILED)), .unset, .unset] [(.ref b11), (.ref b11)])) _
      refine XS.aload X11.here hx rfl (hb hby at_74) rfl rfl ?_
      show Steps p.tables e below (T11.setTop (mkF m 76 #[.val (.int p0), .val (.long q0), .second, .val (.int p1), .val (.int p2), .val (.ref b1), .val (.ref b6), .val (.ref (own_pick p1 w_PLANNED w_TRIGGERED w_EXECUTED w_FAILED)), .val (.ref (own_pick p2 w_PLANNED w_TRIGGERED w_EXECUTED w_FAILED)), .unset, .unset] [(.ref b6), (.ref b11), (.ref b11)])) _
      refine XS.lloadN X11.here hx rfl (hb hby at_76) rfl ?_
      show Steps p.tables e below (T11.setTop (mkF m 77 #[.val (.int p0), .val (.long q0), .second, .val (.int p1), .val (.int p2), .val (.ref b1), .val (.ref b6), .val (.ref (own_pick p1 w_PLANNED w_TRIGGERED w_EXECUTED w_FAILED)), .val (.ref (own_pick p2 w_PLANNED w_TRIGGERED w_EXECUTED w_FAILED)), .unset, .unset] [(.long q0), (.ref b6), (.ref b11), (.ref b11)])) _
      refine XS.aload X11.here hx rfl (hb hby at_77) rfl rfl ?_
      show Steps p.tables e below (T11.setTop (mkF m 79 #[.val (.int p0), .val (.long q0), .second, .val (.int p1), .val (.int p2), .val (.ref b1), .val (.ref b6), .val (.ref (own_pick p1 w_PLANNED w_TRIGGERED w_EXECUTED w_FAILED)), .val (.ref (own_pick p2 w_PLANNED w_TRIGGERED w_EXECUTED w_FAILED)), .unset, .unset] [(.ref (own_pick p1 w_PLANNED w_TRIGGERED w_EXECUTED w_FAILED)), (.long q0), (.ref b6), (.ref b11), (.ref b11)])) _
      refine st12.trans ?_
      show Steps p.tables e below (T12.setTop (mkF m 82 #[.val (.int p0), .val (.long q0), .second, .val (.int p1), .val (.int p2), .val (.ref b1), .val (.ref b6), .val (.ref (own_pick p1 w_PLANNED w_TRIGGERED w_EXECUTED w_FAILED)), .val (.ref (own_pick p2 w_PLANNED w_TRIGGERED w_EXECUTED w_FAILED)), .unset, .unset] [(.ref b11)])) _
      refine XS.astore X12b.here hx rfl (hb hby at_82) rfl rfl (l' := #[.val (.int p0), .val (.long q0), .second, .val (.int p1), .val (.int p2), .val (.ref b1), .val (.ref b6), .val (.ref (own_pick p1 w_PLANNED w_TRIGGERED w_EXECUTED w_FAILED)), .val (.ref (own_pick p2 w_PLANNED w_TRIGGERED w_EXECUTED w_FAILED)), .val (.ref b11), .unset]) rfl ?_
      show Steps p.tables e below (T12.setTop (mkF m 84 #[.val (.int p0), .val (.long q0), .second, .val (.int p1), .val (.int p2), .val (.ref b1), .val (.ref b6), .val (.ref (own_pick p1 w_PLANNED w_TRIGGERED w_EXECUTED w_FAILED)), .val (.ref (own_pick p2 w_PLANNED w_TRIGGERED w_EXECUTED w_FAILED)), .val (.ref b11), .unset] [])) _
      refine XS.aload X12b.here hx rfl (hb hby at_84) rfl rfl ?_
      show Steps p.tables e below (T12.setTop (mkF m 86 #[.val (.int p0), .val (.long q0), .second, .val (.int p1), .val (.int p2), .val (.ref b1), .val (.ref b6), .val (.ref (own_pick p1 w_PLANNED w_TRIGGERED w_EXECUTED w_FAILED)), .val (.ref (own_pick p2 w_PLANNED w_TRIGGERED w_EXECUTED w_FAILED)), .val (.ref b11), .unset] [(.ref b11)])) _
      refine XS.aload X12b.here hx rfl (hb hby at_86) rfl rfl ?_
      show Steps p.tables e below (T12.setTop (mkF m 88 #[.val (.int p0), .val (.long q0), .second, .val (.int p1), .val (.int p2), .val (.ref b1), .val (.ref b6), .val (.ref (own_pick p1 w_PLANNED w_TRIGGERED w_EXECUTED w_FAILED)), .val (.ref (own_pick p2 w_PLANNED w_TRIGGERED w_EXECUTED w_FAILED)), .val (.ref b11), .unset] [(.ref (own_pick p2 w_PLANNED w_TRIGGERED w_EXECUTED w_FAILED)), (.ref b11)])) _
      refine st13.trans ?_
      show Steps p.tables e below (T13.setTop (mkF m 91 #[.val (.int p0), .val (.long q0), .second, .val (.int p1), .val (.int p2), .val (.ref b1), .val (.ref b6), .val (.ref (own_pick p1 w_PLANNED w_TRIGGERED w_EXECUTED w_FAILED)), .val (.ref (own_pick p2 w_PLANNED w_TRIGGERED w_EXECUTED w_FAILED)), .val (.ref b11), .unset] [(.ref bx13)])) _
      refine XS.astore X13b.here hx rfl (hb hby at_91) rfl rfl (l' := #[.val (.int p0), .val (.long q0), .second, .val (.int p1), .val (.int p2), .val (.ref b1), .val (.ref b6), .val (.ref (own_pick p1 w_PLANNED w_TRIGGERED w_EXECUTED w_FAILED)), .val (.ref (own_pick p2 w_PLANNED w_TRIGGERED w_EXECUTED w_FAILED)), .val (.ref b11), .val (.ref bx13)]) rfl ?_
      show Steps p.tables e below (T13.setTop (mkF m 93 #[.val (.int p0), .val (.long q0), .second, .val (.int p1), .val (.int p2), .val (.ref b1), .val (.ref b6), .val (.ref (own_pick p1 w_PLANNED w_TRIGGERED w_EXECUTED w_FAILED)), .val (.ref (own_pick p2 w_PLANNED w_TRIGGERED w_EXECUTED w_FAILED)), .val (.ref b11), .val (.ref bx13)] [])) _
      refine XS.aload X13b.here hx rfl (hb hby at_93) rfl rfl ?_
      show Steps p.tables e below (T13.setTop (mkF m 95 #[.val (.int p0), .val (.long q0), .second, .val (.int p1), .val (.int p2), .val (.ref b1), .val (.ref b6), .val (.ref (own_pick p1 w_PLANNED w_TRIGGERED w_EXECUTED w_FAILED)), .val (.ref (own_pick p2 w_PLANNED w_TRIGGERED w_EXECUTED w_FAILED)), .val (.ref b11), .val (.ref bx13)] [(.ref bx13)])) _
      refine XS.ifnonnullYes X13b.here hx rfl (pc0 := 95) (pc' := 100) rfl (hb hby at_95) rfl (by decide) (by decide) ?_
      show Steps p.tables e below (T13.setTop (mkF m 100 #[.val (.int p0), .val (.long q0), .second, .val (.int p1), .val (.int p2), .val (.ref b1), .val (.ref b6), .val (.ref (own_pick p1 w_PLANNED w_TRIGGERED w_EXECUTED w_FAILED)), .val (.ref (own_pick p2 w_PLANNED w_TRIGGERED w_EXECUTED w_FAILED)), .val (.ref b11), .val (.ref bx13)] [])) _
      refine XS.aload X13b.here hx rfl (hb hby at_100) rfl rfl ?_
      show Steps p.tables e below (T13.setTop (mkF m 102 #[.val (.int p0), .val (.long q0), .second, .val (.int p1), .val (.int p2), .val (.ref b1), .val (.ref b6), .val (.ref (own_pick p1 w_PLANNED w_TRIGGERED w_EXECUTED w_FAILED)), .val (.ref (own_pick p2 w_PLANNED w_TRIGGERED w_EXECUTED w_FAILED)), .val (.ref b11), .val (.ref bx13)] [(.ref bx13)])) _
      refine st14.trans ?_
      show Steps p.tables e below (T14.setTop (mkF m 105 #[.val (.int p0), .val (.long q0), .second, .val (.int p1), .val (.int p2), .val (.ref b1), .val (.ref b6), .val (.ref (own_pick p1 w_PLANNED w_TRIGGERED w_EXECUTED w_FAILED)), .val (.ref (own_pick p2 w_PLANNED w_TRIGGERED w_EXECUTED w_FAILED)), .val (.ref b11), .val (.ref bx13)] [(.ref b6)])) _
      refine XS.aload X14.here hx rfl (hb hby at_105) rfl rfl ?_
      show Steps p.tables e below (T14.setTop (mkF m 107 #[.val (.int p0), .val (.long q0), .second, .val (.int p1), .val (.int p2), .val (.ref b1), .val (.ref b6), .val (.ref (own_pick p1 w_PLANNED w_TRIGGERED w_EXECUTED w_FAILED)), .val (.ref (own_pick p2 w_PLANNED w_TRIGGERED w_EXECUTED w_FAILED)), .val (.ref b11), .val (.ref bx13)] [(.ref b6), (.ref b6)])) _
      refine st15.trans ?_
      show Steps p.tables e below (T15.setTop (mkF m 110 #[.val (.int p0), .val (.long q0), .second, .val (.int p1), .val (.int p2), .val (.ref b1), .val (.ref b6), .val (.ref (own_pick p1 w_PLANNED w_TRIGGERED w_EXECUTED w_FAILED)), .val (.ref (own_pick p2 w_PLANNED w_TRIGGERED w_EXECUTED w_FAILED)), .val (.ref b11), .val (.ref bx13)] [(.int (1 : Int32))])) _
      refine XS.ifNo X15.here hx rfl (hb hby at_110) rfl ((if0 _ _).trans (feq (by decide : ¬ ((1 : Int32) = (0 : Int32)))).1) ?_
      show Steps p.tables e below (T15.setTop (mkF m 113 #[.val (.int p0), .val (.long q0), .second, .val (.int p1), .val (.int p2), .val (.ref b1), .val (.ref b6), .val (.ref (own_pick p1 w_PLANNED w_TRIGGERED w_EXECUTED w_FAILED)), .val (.ref (own_pick p2 w_PLANNED w_TRIGGERED w_EXECUTED w_FAILED)), .val (.ref b11), .val (.ref bx13)] [])) _
      refine XS.aload X15.here hx rfl (hb hby at_113) rfl rfl ?_
      show Steps p.tables e below (T15.setTop (mkF m 115 #[.val (.int p0), .val (.long q0), .second, .val (.int p1), .val (.int p2), .val (.ref b1), .val (.ref b6), .val (.ref (own_pick p1 w_PLANNED w_TRIGGERED w_EXECUTED w_FAILED)), .val (.ref (own_pick p2 w_PLANNED w_TRIGGERED w_EXECUTED w_FAILED)), .val (.ref b11), .val (.ref bx13)] [(.ref bx13)])) _
      refine st16.trans ?_
      show Steps p.tables e below (T16.setTop (mkF m 118 #[.val (.int p0), .val (.long q0), .second, .val (.int p1), .val (.int p2), .val (.ref b1), .val (.ref b6), .val (.ref (own_pick p1 w_PLANNED w_TRIGGERED w_EXECUTED w_FAILED)), .val (.ref (own_pick p2 w_PLANNED w_TRIGGERED w_EXECUTED w_FAILED)), .val (.ref b11), .val (.ref bx13)] [(.long q0)])) _
      refine XS.lloadN X16.here hx rfl (hb hby at_118) rfl ?_
      show Steps p.tables e below (T16.setTop (mkF m 119 #[.val (.int p0), .val (.long q0), .second, .val (.int p1), .val (.int p2), .val (.ref b1), .val (.ref b6), .val (.ref (own_pick p1 w_PLANNED w_TRIGGERED w_EXECUTED w_FAILED)), .val (.ref (own_pick p2 w_PLANNED w_TRIGGERED w_EXECUTED w_FAILED)), .val (.ref b11), .val (.ref bx13)] [(.long q0), (.long q0)])) _
      refine XS.lcmp X16.here hx rfl (hb hby at_119) rfl ?_
      show Steps p.tables e below (T16.setTop (mkF m 120 #[.val (.int p0), .val (.long q0), .second, .val (.int p1), .val (.int p2), .val (.ref b1), .val (.ref b6), .val (.ref (own_pick p1 w_PLANNED w_TRIGGERED w_EXECUTED w_FAILED)), .val (.ref (own_pick p2 w_PLANNED w_TRIGGERED w_EXECUTED w_FAILED)), .val (.ref b11), .val (.ref bx13)] [(.int (lcmpW q0 q0))])) _
      refine XS.ifNo X16.here hx rfl (hb hby at_120) rfl ((if0 _ _).trans (teq (own_lc0 _)).2) ?_
      show Steps p.tables e below (T16.setTop (mkF m 123 #[.val (.int p0), .val (.long q0), .second, .val (.int p1), .val (.int p2), .val (.ref b1), .val (.ref b6), .val (.ref (own_pick p1 w_PLANNED w_TRIGGERED w_EXECUTED w_FAILED)), .val (.ref (own_pick p2 w_PLANNED w_TRIGGERED w_EXECUTED w_FAILED)), .val (.ref b11), .val (.ref bx13)] [])) _
      refine XS.aload X16.here hx rfl (hb hby at_123) rfl rfl ?_
      show Steps p.tables e below (T16.setTop (mkF m 125 #[.val (.int p0), .val (.long q0), .second, .val (.int p1), .val (.int p2), .val (.ref b1), .val (.ref b6), .val (.ref (own_pick p1 w_PLANNED w_TRIGGERED w_EXECUTED w_FAILED)), .val (.ref (own_pick p2 w_PLANNED w_TRIGGERED w_EXECUTED w_FAILED)), .val (.ref b11), .val (.ref bx13)] [(.ref bx13)])) _
      refine st17.trans ?_
      show Steps p.tables e below (T17.setTop (mkF m 128 #[.val (.int p0), .val (.long q0), .second, .val (.int p1), .val (.int p2), .val (.ref b1), .val (.ref b6), .val (.ref (own_pick p1 w_PLANNED w_TRIGGERED w_EXECUTED w_FAILED)), .val (.ref (own_pick p2 w_PLANNED w_TRIGGERED w_EXECUTED w_FAILED)), .val (.ref b11), .val (.ref bx13)] [(.ref (own_pick p2 w_PLANNED w_TRIGGERED w_EXECUTED w_FAILED))])) _
      refine XS.aload X17.here hx rfl (hb hby at_128) rfl rfl ?_
      show Steps p.tables e below (T17.setTop (mkF m 130 #[.val (.int p0), .val (.long q0), .second, .val (.int p1), .val (.int p2), .val (.ref b1), .val (.ref b6), .val (.ref (own_pick p1 w_PLANNED w_TRIGGERED w_EXECUTED w_FAILED)), .val (.ref (own_pick p2 w_PLANNED w_TRIGGERED w_EXECUTED w_FAILED)), .val (.ref b11), .val (.ref bx13)] [(.ref (own_pick p2 w_PLANNED w_TRIGGERED w_EXECUTED w_FAILED)), (.ref (own_pick p2 w_PLANNED w_TRIGGERED w_EXECUTED w_FAILED))])) _
      refine Jvm.RoadKit.acmp (g := (mkF m 130 #[.val (.int p0), .val (.long q0), .second, .val (.int p1), .val (.int p2), .val (.ref b1), .val (.ref b6), .val (.ref (own_pick p1 w_PLANNED w_TRIGGERED w_EXECUTED w_FAILED)), .val (.ref (own_pick p2 w_PLANNED w_TRIGGERED w_EXECUTED w_FAILED)), .val (.ref b11), .val (.ref bx13)] [(.ref (own_pick p2 w_PLANNED w_TRIGGERED w_EXECUTED w_FAILED)), (.ref (own_pick p2 w_PLANNED w_TRIGGERED w_EXECUTED w_FAILED))])) X17 hx rfl rfl rfl (pc0 := 130) (pc' := 133) (same := true) rfl (hb hby at_130) rfl (decide_eq_true rfl) (by decide) (by decide) ?_
      show Steps p.tables e below (T17.setTop (mkF m 133 #[.val (.int p0), .val (.long q0), .second, .val (.int p1), .val (.int p2), .val (.ref b1), .val (.ref b6), .val (.ref (own_pick p1 w_PLANNED w_TRIGGERED w_EXECUTED w_FAILED)), .val (.ref (own_pick p2 w_PLANNED w_TRIGGERED w_EXECUTED w_FAILED)), .val (.ref b11), .val (.ref bx13)] [])) _
      refine XS.aload X17.here hx rfl (hb hby at_133) rfl rfl ?_
      show Steps p.tables e below (T17.setTop (mkF m 135 #[.val (.int p0), .val (.long q0), .second, .val (.int p1), .val (.int p2), .val (.ref b1), .val (.ref b6), .val (.ref (own_pick p1 w_PLANNED w_TRIGGERED w_EXECUTED w_FAILED)), .val (.ref (own_pick p2 w_PLANNED w_TRIGGERED w_EXECUTED w_FAILED)), .val (.ref b11), .val (.ref bx13)] [(.ref b11)])) _
      refine st18.trans ?_
      show Steps p.tables e below (T18.setTop (mkF m 138 #[.val (.int p0), .val (.long q0), .second, .val (.int p1), .val (.int p2), .val (.ref b1), .val (.ref b6), .val (.ref (own_pick p1 w_PLANNED w_TRIGGERED w_EXECUTED w_FAILED)), .val (.ref (own_pick p2 w_PLANNED w_TRIGGERED w_EXECUTED w_FAILED)), .val (.ref b11), .val (.ref bx13)] [(.ref (own_pick p1 w_PLANNED w_TRIGGERED w_EXECUTED w_FAILED))])) _
      refine XS.aload X18.here hx rfl (hb hby at_138) rfl rfl ?_
      show Steps p.tables e below (T18.setTop (mkF m 140 #[.val (.int p0), .val (.long q0), .second, .val (.int p1), .val (.int p2), .val (.ref b1), .val (.ref b6), .val (.ref (own_pick p1 w_PLANNED w_TRIGGERED w_EXECUTED w_FAILED)), .val (.ref (own_pick p2 w_PLANNED w_TRIGGERED w_EXECUTED w_FAILED)), .val (.ref b11), .val (.ref bx13)] [(.ref (own_pick p1 w_PLANNED w_TRIGGERED w_EXECUTED w_FAILED)), (.ref (own_pick p1 w_PLANNED w_TRIGGERED w_EXECUTED w_FAILED))])) _
      refine Jvm.RoadKit.acmp (g := (mkF m 140 #[.val (.int p0), .val (.long q0), .second, .val (.int p1), .val (.int p2), .val (.ref b1), .val (.ref b6), .val (.ref (own_pick p1 w_PLANNED w_TRIGGERED w_EXECUTED w_FAILED)), .val (.ref (own_pick p2 w_PLANNED w_TRIGGERED w_EXECUTED w_FAILED)), .val (.ref b11), .val (.ref bx13)] [(.ref (own_pick p1 w_PLANNED w_TRIGGERED w_EXECUTED w_FAILED)), (.ref (own_pick p1 w_PLANNED w_TRIGGERED w_EXECUTED w_FAILED))])) X18 hx rfl rfl rfl (pc0 := 140) (pc' := 143) (same := true) rfl (hb hby at_140) rfl (decide_eq_true rfl) (by decide) (by decide) ?_
      show Steps p.tables e below (T18.setTop (mkF m 143 #[.val (.int p0), .val (.long q0), .second, .val (.int p1), .val (.int p2), .val (.ref b1), .val (.ref b6), .val (.ref (own_pick p1 w_PLANNED w_TRIGGERED w_EXECUTED w_FAILED)), .val (.ref (own_pick p2 w_PLANNED w_TRIGGERED w_EXECUTED w_FAILED)), .val (.ref b11), .val (.ref bx13)] [])) _
      refine XS.aload X18.here hx rfl (hb hby at_143) rfl rfl ?_
      show Steps p.tables e below (T18.setTop (mkF m 145 #[.val (.int p0), .val (.long q0), .second, .val (.int p1), .val (.int p2), .val (.ref b1), .val (.ref b6), .val (.ref (own_pick p1 w_PLANNED w_TRIGGERED w_EXECUTED w_FAILED)), .val (.ref (own_pick p2 w_PLANNED w_TRIGGERED w_EXECUTED w_FAILED)), .val (.ref b11), .val (.ref bx13)] [(.ref b11)])) _
      refine st19.trans ?_
      show Steps p.tables e below (T19.setTop (mkF m 148 #[.val (.int p0), .val (.long q0), .second, .val (.int p1), .val (.int p2), .val (.ref b1), .val (.ref b6), .val (.ref (own_pick p1 w_PLANNED w_TRIGGERED w_EXECUTED w_FAILED)), .val (.ref (own_pick p2 w_PLANNED w_TRIGGERED w_EXECUTED w_FAILED)), .val (.ref b11), .val (.ref bx13)] [(.long q0)])) _
      refine XS.lloadN X19.here hx rfl (hb hby at_148) rfl ?_
      show Steps p.tables e below (T19.setTop (mkF m 149 #[.val (.int p0), .val (.long q0), .second, .val (.int p1), .val (.int p2), .val (.ref b1), .val (.ref b6), .val (.ref (own_pick p1 w_PLANNED w_TRIGGERED w_EXECUTED w_FAILED)), .val (.ref (own_pick p2 w_PLANNED w_TRIGGERED w_EXECUTED w_FAILED)), .val (.ref b11), .val (.ref bx13)] [(.long q0), (.long q0)])) _
      refine XS.lcmp X19.here hx rfl (hb hby at_149) rfl ?_
      show Steps p.tables e below (T19.setTop (mkF m 150 #[.val (.int p0), .val (.long q0), .second, .val (.int p1), .val (.int p2), .val (.ref b1), .val (.ref b6), .val (.ref (own_pick p1 w_PLANNED w_TRIGGERED w_EXECUTED w_FAILED)), .val (.ref (own_pick p2 w_PLANNED w_TRIGGERED w_EXECUTED w_FAILED)), .val (.ref b11), .val (.ref bx13)] [(.int (lcmpW q0 q0))])) _
      refine XS.ifNo X19.here hx rfl (hb hby at_150) rfl ((if0 _ _).trans (teq (own_lc0 _)).2) ?_
      show Steps p.tables e below (T19.setTop (mkF m 153 #[.val (.int p0), .val (.long q0), .second, .val (.int p1), .val (.int p2), .val (.ref b1), .val (.ref b6), .val (.ref (own_pick p1 w_PLANNED w_TRIGGERED w_EXECUTED w_FAILED)), .val (.ref (own_pick p2 w_PLANNED w_TRIGGERED w_EXECUTED w_FAILED)), .val (.ref b11), .val (.ref bx13)] [])) _
      refine XS.iconst X19.here hx rfl (hb hby at_153) ?_
      show Steps p.tables e below (T19.setTop (mkF m 154 #[.val (.int p0), .val (.long q0), .second, .val (.int p1), .val (.int p2), .val (.ref b1), .val (.ref b6), .val (.ref (own_pick p1 w_PLANNED w_TRIGGERED w_EXECUTED w_FAILED)), .val (.ref (own_pick p2 w_PLANNED w_TRIGGERED w_EXECUTED w_FAILED)), .val (.ref b11), .val (.ref bx13)] [(.int (1 : Int32))])) _
      refine XS.goto X19.here hx rfl (pc0 := 154) (pc' := 158) rfl (hb hby at_154) (by decide) (by decide) ?_
      show Steps p.tables e below (T19.setTop (mkF m 158 #[.val (.int p0), .val (.long q0), .second, .val (.int p1), .val (.int p2), .val (.ref b1), .val (.ref b6), .val (.ref (own_pick p1 w_PLANNED w_TRIGGERED w_EXECUTED w_FAILED)), .val (.ref (own_pick p2 w_PLANNED w_TRIGGERED w_EXECUTED w_FAILED)), .val (.ref b11), .val (.ref bx13)] [(.int (1 : Int32))])) _
      exact retN X19 hx (t := .boolean) Bd.returns (by simp) (hb hby at_158) hr
    · show Q_rm_law Z p0 q0 p1 p2 w_PLANNED w_TRIGGERED w_EXECUTED w_FAILED zc h0 n0 _ T19.heap _
      rw [e19]
      exact ⟨rfl, N19, trivial⟩
  · obtain ⟨cl20, Ar20, qk20, S20, N20', H20, G20⟩ := (id V5_7)
    have hin20 : ¬ ((0 : Int32) < 0 ∨ cl20.slots.size ≤ ((0 : Int32)).toNatClampNeg) := inb_of S20 ⟨by decide, by decide⟩
    have hat20 : cl20.slots[((0 : Int32)).toNatClampNeg]? = some (.int (nar .char (p0 &&& (255 : Int32)).toUInt32.toUInt16.toUInt32.toInt32)) := Has.at H20 hin20 rfl
    obtain ⟨_, _, ⟨T21, L21, k21, n21⟩, -, X21, ⟨Lc21, hQ21, l21, y21, z21⟩, st21⟩ := Jvm.LawKit.callS X7 hx (y := (⟨"java/lang/String", "valueOf", "(C)Ljava/lang/String;"⟩ : MethodName)) hown (mvT hZ (hw _ (List.mem_of_getElem? (i := 96) rfl))) (mvT hZ (hw _ (List.mem_of_getElem? (i := 97) rfl))) (mvT hZ (hw _ (List.mem_of_getElem? (i := 3) rfl))) (mvT hZ (hw _ (List.mem_of_getElem? (i := 98) rfl))) (by decide) (backOf (W := 0) (rm_vof l Z a0 hw [] (nar .char (p0 &&& (255 : Int32)).toUInt32.toUInt16.toUInt32.toInt32) zc T7.heap n0 Z7 Sh_CS_7 P5 (own_ch _).2) hZ (hw _ (List.mem_of_getElem? (i := 98) rfl)) (hw _ (List.mem_of_getElem? (i := 3) rfl)) (by decide) (by decide)) (g := (mkF m 52 #[.val (.int p0), .val (.long q0), .second, .val (.int p1), .val (.int p2), .val (.ref b1), .val (.ref b6), .unset, .unset, .unset, .unset] [(.int (nar .char (p0 &&& (255 : Int32)).toUInt32.toUInt16.toUInt32.toInt32))])) rfl (by rw [hml]; rfl) (argsL := [(.int (nar .char (p0 &&& (255 : Int32)).toUInt32.toUInt16.toUInt32.toInt32))]) (rest := []) (lenOf pd_13 rfl) rfl (by show 2 * 0 + _ ≤ _; exact Nat.le_of_eq rfl) (hb hby at_52) (fun _ _ => ⟨rfl, rfl, (by decide : 3 + 2 ≤ _), (by decide : 8 + 5 ≤ _)⟩)
    dsimp only [Pt.U, Pt.locs, Pt.cells, Pt.slots] at X21 l21 y21 z21 st21 hQ21
    subst l21 y21 z21
    obtain ⟨bx21, rfl, N21q, x21c0, x21c1, x21c2, x21c3⟩ := hQ21
    have N21 := Fr.app N7 N21q
    have ne_w_PLANNED_bx21 : w_PLANNED ≠ bx21 := Nat.ne_of_lt (Nat.lt_of_lt_of_le E_PLANNED_7.lt x21c2)
    have ne_w_TRIGGERED_bx21 : w_TRIGGERED ≠ bx21 := Nat.ne_of_lt (Nat.lt_of_lt_of_le E_TRIGGERED_7.lt x21c2)
    have ne_w_EXECUTED_bx21 : w_EXECUTED ≠ bx21 := Nat.ne_of_lt (Nat.lt_of_lt_of_le E_EXECUTED_7.lt x21c2)
    have ne_w_FAILED_bx21 : w_FAILED ≠ bx21 := Nat.ne_of_lt (Nat.lt_of_lt_of_le E_FAILED_7.lt x21c2)
    have ne_b1_bx21 : b1 ≠ bx21 := Nat.ne_of_lt (Nat.lt_of_lt_of_le V5_7.lt x21c2)
    have ne_b6_bx21 : b6 ≠ bx21 := Nat.ne_of_lt (Nat.lt_of_lt_of_le A6_7.lt x21c2)
    have X00_21 : Old Z n0 T21.heap := X00_7.keep x21c0 all0
    have E_PLANNED_21 : Exa Z T21.heap w_PLANNED "com/example/fyfo/fyfo/JobStatus" := E_PLANNED_7.keep x21c0
    have E_TRIGGERED_21 : Exa Z T21.heap w_TRIGGERED "com/example/fyfo/fyfo/JobStatus" := E_TRIGGERED_7.keep x21c0
    have E_EXECUTED_21 : Exa Z T21.heap w_EXECUTED "com/example/fyfo/fyfo/JobStatus" := E_EXECUTED_7.keep x21c0
    have E_FAILED_21 : Exa Z T21.heap w_FAILED "com/example/fyfo/fyfo/JobStatus" := E_FAILED_7.keep x21c0
    have V5_21 : Arv Z T21.heap b1 k1 .char (2 : Int32) [(.int (nar .char (p0 &&& (255 : Int32)).toUInt32.toUInt16.toUInt32.toInt32)), (.int (nar .char (((p0.toUInt32 >>> ((8 : Int32) &&& 31).toUInt32).toInt32) &&& (255 : Int32)).toUInt32.toUInt16.toUInt32.toInt32))] (.int (0 : Int32)) := V5_7.keep x21c0 nin0
    have A6_21 : Exa Z T21.heap b6 "java/lang/String" := A6_7.keep x21c0
    have Sh_PLANNED_21 : Sta Z T21.heap "com/example/fyfo/fyfo/JobStatus" "PLANNED" "Lcom/example/fyfo/fyfo/JobStatus;" (.ref w_PLANNED) := S_PLANNED.ext X00_21.2
    have Sh_TRIGGERED_21 : Sta Z T21.heap "com/example/fyfo/fyfo/JobStatus" "TRIGGERED" "Lcom/example/fyfo/fyfo/JobStatus;" (.ref w_TRIGGERED) := S_TRIGGERED.ext X00_21.2
    have Sh_EXECUTED_21 : Sta Z T21.heap "com/example/fyfo/fyfo/JobStatus" "EXECUTED" "Lcom/example/fyfo/fyfo/JobStatus;" (.ref w_EXECUTED) := S_EXECUTED.ext X00_21.2
    have Sh_FAILED_21 : Sta Z T21.heap "com/example/fyfo/fyfo/JobStatus" "FAILED" "Lcom/example/fyfo/fyfo/JobStatus;" (.ref w_FAILED) := S_FAILED.ext X00_21.2
    have Sh_CS_21 : Sta Z T21.heap "java/lang/String" "COMPACT_STRINGS" "Z" (.int zc) := S_CS.ext X00_21.2
    have hk21' : _ ≤ T21.heap.size := Nat.le_trans hk7' x21c0.1
    have Z21 : n0 ≤ T21.heap.size := Nat.le_trans Z7 x21c0.1
    obtain ⟨_, _, ⟨T22, L22, k22, n22⟩, -, X22, ⟨Lc22, hQ22, l22, y22, z22⟩, st22⟩ := Jvm.LawKit.callS X21 hx (y := (⟨"com/example/fyfo/fyfo/JobWithStatusPinLaw", "pick", "(I)Lcom/example/fyfo/fyfo/JobStatus;"⟩ : MethodName)) hown (mvT hZ (hw _ (List.mem_of_getElem? (i := 30) rfl))) (mvT hZ (hw _ (List.mem_of_getElem? (i := 31) rfl))) (mvT hZ (hw _ (List.mem_of_getElem? (i := 32) rfl))) (mvT hZ (hw _ (List.mem_of_getElem? (i := 33) rfl))) (by decide) (backOf (W := 0) (rm_pick l Z a0 hw [] p1 w_PLANNED w_TRIGGERED w_EXECUTED w_FAILED T21.heap n0 Z21 Sh_PLANNED_21 Sh_TRIGGERED_21 Sh_EXECUTED_21 Sh_FAILED_21) hZ (hw _ (List.mem_of_getElem? (i := 33) rfl)) (hw _ (List.mem_of_getElem? (i := 32) rfl)) (by decide) (by decide)) (g := (mkF m 58 #[.val (.int p0), .val (.long q0), .second, .val (.int p1), .val (.int p2), .val (.ref b1), .val (.ref bx21), .unset, .unset, .unset, .unset] [(.int p1)])) rfl (by rw [hml]; rfl) (argsL := [(.int p1)]) (rest := []) (lenOf pd_7 rfl) rfl (by show 2 * 0 + _ ≤ _; exact Nat.le_of_eq rfl) (hb hby at_58) (fun _ _ => ⟨rfl, rfl, (by decide : 5 + 0 ≤ _), (by decide : 13 + 0 ≤ _)⟩)
    dsimp only [Pt.U, Pt.locs, Pt.cells, Pt.slots] at X22 l22 y22 z22 st22 hQ22
    subst l22 y22 z22
    obtain ⟨rfl, N22q, e22⟩ := hQ22
    have N22 := Fr.app N21 N22q
    obtain ⟨_, _, ⟨T23, L23, k23, n23⟩, -, X23, ⟨Lc23, hQ23, l23, y23, z23⟩, st23⟩ := Jvm.LawKit.callS X22 hx (y := (⟨"com/example/fyfo/fyfo/JobWithStatusPinLaw", "pick", "(I)Lcom/example/fyfo/fyfo/JobStatus;"⟩ : MethodName)) hown (mvT hZ (hw _ (List.mem_of_getElem? (i := 30) rfl))) (mvT hZ (hw _ (List.mem_of_getElem? (i := 31) rfl))) (mvT hZ (hw _ (List.mem_of_getElem? (i := 32) rfl))) (mvT hZ (hw _ (List.mem_of_getElem? (i := 33) rfl))) (by decide) (backOf (W := 0) (rm_pick l Z a0 hw [] p2 w_PLANNED w_TRIGGERED w_EXECUTED w_FAILED T21.heap n0 Z21 Sh_PLANNED_21 Sh_TRIGGERED_21 Sh_EXECUTED_21 Sh_FAILED_21) hZ (hw _ (List.mem_of_getElem? (i := 33) rfl)) (hw _ (List.mem_of_getElem? (i := 32) rfl)) (by decide) (by decide)) (g := (mkF m 65 #[.val (.int p0), .val (.long q0), .second, .val (.int p1), .val (.int p2), .val (.ref b1), .val (.ref bx21), .val (.ref (own_pick p1 w_PLANNED w_TRIGGERED w_EXECUTED w_FAILED)), .unset, .unset, .unset] [(.int p2)])) rfl (by rw [hml]; rfl) (argsL := [(.int p2)]) (rest := []) (lenOf pd_7 rfl) rfl (by show 2 * 0 + _ ≤ _; exact Nat.le_of_eq rfl) (hb hby at_65) (fun _ _ => ⟨rfl, e22, (by decide : 5 + 0 ≤ _), (by decide : 13 + 0 ≤ _)⟩)
    dsimp only [Pt.U, Pt.locs, Pt.cells, Pt.slots] at X23 l23 y23 z23 st23 hQ23
    subst l23 y23 z23
    obtain ⟨rfl, N23q, e23⟩ := hQ23
    have N23 := Fr.app N22 N23q
    obtain ⟨T24, h24, X24, e24, E24, A24, D24, -, st24⟩ := newO X23 hx hZ hown (hw _ (List.mem_of_getElem? (i := 39) rfl)) (hw _ (List.mem_of_getElem? (i := 40) rfl)) (hw _ (List.mem_of_getElem? (i := 41) rfl)) e23 (g := (mkF m 70 #[.val (.int p0), .val (.long q0), .second, .val (.int p1), .val (.int p2), .val (.ref b1), .val (.ref bx21), .val (.ref (own_pick p1 w_PLANNED w_TRIGGERED w_EXECUTED w_FAILED)), .val (.ref (own_pick p2 w_PLANNED w_TRIGGERED w_EXECUTED w_FAILED)), .unset, .unset] [])) rfl (hb hby at_70) (by decide) (by decide)
    obtain ⟨b24, g24⟩ : ∃ z, z = T21.heap.size := ⟨_, rfl⟩
    rw [← g24] at A24 D24 st24
    have ne_w_PLANNED_b24 : w_PLANNED ≠ b24 := Nat.ne_of_lt (Nat.lt_of_lt_of_le E_PLANNED_21.lt (Nat.le_of_eq g24.symm))
    have ne_w_TRIGGERED_b24 : w_TRIGGERED ≠ b24 := Nat.ne_of_lt (Nat.lt_of_lt_of_le E_TRIGGERED_21.lt (Nat.le_of_eq g24.symm))
    have ne_w_EXECUTED_b24 : w_EXECUTED ≠ b24 := Nat.ne_of_lt (Nat.lt_of_lt_of_le E_EXECUTED_21.lt (Nat.le_of_eq g24.symm))
    have ne_w_FAILED_b24 : w_FAILED ≠ b24 := Nat.ne_of_lt (Nat.lt_of_lt_of_le E_FAILED_21.lt (Nat.le_of_eq g24.symm))
    have ne_b1_b24 : b1 ≠ b24 := Nat.ne_of_lt (Nat.lt_of_lt_of_le V5_21.lt (Nat.le_of_eq g24.symm))
    have ne_b6_b24 : b6 ≠ b24 := Nat.ne_of_lt (Nat.lt_of_lt_of_le A6_21.lt (Nat.le_of_eq g24.symm))
    have ne_bx21_b24 : bx21 ≠ b24 := Nat.ne_of_lt (Nat.lt_of_lt_of_le x21c3.lt (Nat.le_of_eq g24.symm))
    have g_b24 : n0 ≤ b24 := Nat.le_trans Z21 (Nat.le_of_eq g24.symm)
    have X00_24 : Old Z n0 h24 := Old.ext X00_21 E24
    have E_PLANNED_24 : Exa Z h24 w_PLANNED "com/example/fyfo/fyfo/JobStatus" := E_PLANNED_21.ext E24
    have E_TRIGGERED_24 : Exa Z h24 w_TRIGGERED "com/example/fyfo/fyfo/JobStatus" := E_TRIGGERED_21.ext E24
    have E_EXECUTED_24 : Exa Z h24 w_EXECUTED "com/example/fyfo/fyfo/JobStatus" := E_EXECUTED_21.ext E24
    have E_FAILED_24 : Exa Z h24 w_FAILED "com/example/fyfo/fyfo/JobStatus" := E_FAILED_21.ext E24
    have V5_24 : Arv Z h24 b1 k1 .char (2 : Int32) [(.int (nar .char (p0 &&& (255 : Int32)).toUInt32.toUInt16.toUInt32.toInt32)), (.int (nar .char (((p0.toUInt32 >>> ((8 : Int32) &&& 31).toUInt32).toInt32) &&& (255 : Int32)).toUInt32.toUInt16.toUInt32.toInt32))] (.int (0 : Int32)) := V5_21.ext E24
    have A6_24 : Exa Z h24 b6 "java/lang/String" := A6_21.ext E24
    have Sh_PLANNED_24 : Sta Z h24 "com/example/fyfo/fyfo/JobStatus" "PLANNED" "Lcom/example/fyfo/fyfo/JobStatus;" (.ref w_PLANNED) := Sh_PLANNED_21.ext E24
    have Sh_TRIGGERED_24 : Sta Z h24 "com/example/fyfo/fyfo/JobStatus" "TRIGGERED" "Lcom/example/fyfo/fyfo/JobStatus;" (.ref w_TRIGGERED) := Sh_TRIGGERED_21.ext E24
    have Sh_EXECUTED_24 : Sta Z h24 "com/example/fyfo/fyfo/JobStatus" "EXECUTED" "Lcom/example/fyfo/fyfo/JobStatus;" (.ref w_EXECUTED) := Sh_EXECUTED_21.ext E24
    have Sh_FAILED_24 : Sta Z h24 "com/example/fyfo/fyfo/JobStatus" "FAILED" "Lcom/example/fyfo/fyfo/JobStatus;" (.ref w_FAILED) := Sh_FAILED_21.ext E24
    have Sh_CS_24 : Sta Z h24 "java/lang/String" "COMPACT_STRINGS" "Z" (.int zc) := Sh_CS_21.ext E24
    have x21c3_24 : Exa Z h24 bx21 "java/lang/String" := x21c3.ext E24
    have hk24' : _ ≤ h24.size := Nat.le_trans hk21' E24.1
    have Z24 : n0 ≤ h24.size := Nat.le_trans Z21 E24.1
    have F_id_b24 : Fld Z h24 b24 "com/example/fyfo/fyfo/Job" "id" "Ljava/lang/String;" .null := D24 (Or.inr (hw _ (List.mem_of_getElem? (i := 60) rfl))) (ty := (.object "java/lang/String")) (by decide)
    have F_executionNanos_b24 : Fld Z h24 b24 "com/example/fyfo/fyfo/Job" "executionNanos" "J" (.long (0 : Int64)) := D24 (Or.inr (hw _ (List.mem_of_getElem? (i := 62) rfl))) (ty := .long) (by decide)
    have F_status_b24 : Fld Z h24 b24 "com/example/fyfo/fyfo/Job" "status" "Lcom/example/fyfo/fyfo/JobStatus;" .null := D24 (Or.inr (hw _ (List.mem_of_getElem? (i := 64) rfl))) (ty := (.object "com/example/fyfo/fyfo/JobStatus")) (by decide)
    obtain ⟨_, _, ⟨T25, L25, k25, n25⟩, -, X25, hSq25, gr25, ⟨Lc25, hQ25, l25, y25, z25⟩, st25⟩ := X24.specialBackS hx (y := (⟨"com/example/fyfo/fyfo/Job", "<init>", "(Ljava/lang/String;JLcom/example/fyfo/fyfo/JobStatus;)V"⟩ : MethodName)) rfl hown (mvT hZ (hw _ (List.mem_of_getElem? (i := 42) rfl))) (mvT hZ (hw _ (List.mem_of_getElem? (i := 43) rfl))) (mvT hZ (hw _ (List.mem_of_getElem? (i := 44) rfl))) (by decide) (backOfS (W := 1) (rm_job l Z a0 hw [] b24 bx21 q0 (own_pick p1 w_PLANNED w_TRIGGERED w_EXECUTED w_FAILED) h24 n0 Z24 A24 F_id_b24 F_executionNanos_b24 F_status_b24 g_b24) hZ (hw _ (List.mem_of_getElem? (i := 44) rfl)) (hw _ (List.mem_of_getElem? (i := 41) rfl)) (by decide) (by decide)) (g := (mkF m 79 #[.val (.int p0), .val (.long q0), .second, .val (.int p1), .val (.int p2), .val (.ref b1), .val (.ref bx21), .val (.ref (own_pick p1 w_PLANNED w_TRIGGERED w_EXECUTED w_FAILED)), .val (.ref (own_pick p2 w_PLANNED w_TRIGGERED w_EXECUTED w_FAILED)), .unset, .unset] [(.ref (own_pick p1 w_PLANNED w_TRIGGERED w_EXECUTED w_FAILED)), (.long q0), (.ref bx21), (.ref b24), (.ref b24)])) rfl (by rw [hml]; rfl) (Steps.refl _) (a := b24) (argsL := [(.ref bx21), (.long q0), (.ref (own_pick p1 w_PLANNED w_TRIGGERED w_EXECUTED w_FAILED))]) (rest := [(.ref b24)]) (lenOf pd_2 rfl) rfl (by show 2 * 0 + _ ≤ _; exact Nat.le_of_eq rfl) (hb hby at_79) (fun _ _ => ⟨rfl, e24, (by decide : 6 + 4 ≤ _), (by decide : 16 + 40 ≤ _)⟩)
    dsimp only [Pt.U, Pt.locs, Pt.cells, Pt.slots] at X25 l25 y25 z25 st25 hQ25 hSq25 gr25
    subst l25 y25 z25
    obtain ⟨rfl, N25q, x25c0, x25c1, x25c2, x25c3⟩ := hQ25
    have N25 := Fr.app N23 N25q
    have X00_25 : Old Z n0 T25.heap := X00_24.keep x25c0 (allS g_b24 all0)
    have E_PLANNED_25 : Exa Z T25.heap w_PLANNED "com/example/fyfo/fyfo/JobStatus" := E_PLANNED_24.keep x25c0
    have E_TRIGGERED_25 : Exa Z T25.heap w_TRIGGERED "com/example/fyfo/fyfo/JobStatus" := E_TRIGGERED_24.keep x25c0
    have E_EXECUTED_25 : Exa Z T25.heap w_EXECUTED "com/example/fyfo/fyfo/JobStatus" := E_EXECUTED_24.keep x25c0
    have E_FAILED_25 : Exa Z T25.heap w_FAILED "com/example/fyfo/fyfo/JobStatus" := E_FAILED_24.keep x25c0
    have V5_25 : Arv Z T25.heap b1 k1 .char (2 : Int32) [(.int (nar .char (p0 &&& (255 : Int32)).toUInt32.toUInt16.toUInt32.toInt32)), (.int (nar .char (((p0.toUInt32 >>> ((8 : Int32) &&& 31).toUInt32).toInt32) &&& (255 : Int32)).toUInt32.toUInt16.toUInt32.toInt32))] (.int (0 : Int32)) := V5_24.keep x25c0 (ninS ne_b1_b24 nin0)
    have A6_25 : Exa Z T25.heap b6 "java/lang/String" := A6_24.keep x25c0
    have x21c3_25 : Exa Z T25.heap bx21 "java/lang/String" := x21c3_24.keep x25c0
    have A24_25 : Exa Z T25.heap b24 "com/example/fyfo/fyfo/Job" := A24.keep x25c0
    have Sh_PLANNED_25 : Sta Z T25.heap "com/example/fyfo/fyfo/JobStatus" "PLANNED" "Lcom/example/fyfo/fyfo/JobStatus;" (.ref w_PLANNED) := S_PLANNED.ext X00_25.2
    have Sh_TRIGGERED_25 : Sta Z T25.heap "com/example/fyfo/fyfo/JobStatus" "TRIGGERED" "Lcom/example/fyfo/fyfo/JobStatus;" (.ref w_TRIGGERED) := S_TRIGGERED.ext X00_25.2
    have Sh_EXECUTED_25 : Sta Z T25.heap "com/example/fyfo/fyfo/JobStatus" "EXECUTED" "Lcom/example/fyfo/fyfo/JobStatus;" (.ref w_EXECUTED) := S_EXECUTED.ext X00_25.2
    have Sh_FAILED_25 : Sta Z T25.heap "com/example/fyfo/fyfo/JobStatus" "FAILED" "Lcom/example/fyfo/fyfo/JobStatus;" (.ref w_FAILED) := S_FAILED.ext X00_25.2
    have Sh_CS_25 : Sta Z T25.heap "java/lang/String" "COMPACT_STRINGS" "Z" (.int zc) := S_CS.ext X00_25.2
    have hk25' : _ ≤ T25.heap.size := Nat.le_trans hk24' x25c0.1
    have Z25 : n0 ≤ T25.heap.size := Nat.le_trans Z24 x25c0.1
    have X25b : Stand p l e room_1 (s.setVm T25.vm) m #[(.int p0), (.long q0), (.int p1), (.int p2)] below meth c T25 _ _ _ := X25
    have hS25 : s.Since T25.vm T25.heap.size := foldS hS0 (T := T24) (by first | exact hk24' | (rw [e24]; exact hk24')) hSq25 gr25
    have hZ25 : Z.Warmed39 (s.setVm T25.vm).vm := State.Warmed39.trans (t := s.setVm s.vm) hZ hSq25.1
    have hown25 : (s.setVm T25.vm).vm.findClass "com/example/fyfo/fyfo/JobWithStatusPinLaw" = some m.cls := by rw [show (s.setVm T25.vm).vm = T25.vm from rfl, hSq25.1.alike.findClass]; exact hown
    have hk25 := Nat.le_refl T25.heap.size
    obtain ⟨cq26, kq26, q26a, q26b, q26c⟩ := isOf hZ25 rfl A24_25
    obtain ⟨_, _, ⟨T26, L26, k26, n26⟩, -, X26, hSq26, gr26, ⟨Lc26, hQ26, l26, y26, z26⟩, st26⟩ := X25b.virtualBackS hx (y := (⟨"com/example/fyfo/fyfo/Job", "withStatus", "(Lcom/example/fyfo/fyfo/JobStatus;)Lcom/example/fyfo/fyfo/Job;"⟩ : MethodName)) (z := (⟨"com/example/fyfo/fyfo/Job", "withStatus", "(Lcom/example/fyfo/fyfo/JobStatus;)Lcom/example/fyfo/fyfo/Job;"⟩ : MethodName)) hown25 (mvT hZ25 (hw _ (List.mem_of_getElem? (i := 65) rfl))) (mvT hZ25 (hw _ (List.mem_of_getElem? (i := 66) rfl))) (notFace_of_selects (args := #[]) (mvT hZ25 (hw _ (List.mem_of_getElem? (i := 68) rfl)))) (mvT hZ25 (hw _ (List.mem_of_getElem? (i := 68) rfl))) (mvT hZ25 (hw _ (List.mem_of_getElem? (i := 67) rfl))) (by decide) (backOfS (W := 0) (rm_with l Z a0 hw [] b24 (own_pick p2 w_PLANNED w_TRIGGERED w_EXECUTED w_FAILED) bx21 q0 T25.heap n0 Z25 x25c1 x25c2) hZ25 (hw _ (List.mem_of_getElem? (i := 69) rfl)) (hw _ (List.mem_of_getElem? (i := 41) rfl)) (by decide) (by decide)) q26a q26c (g := (mkF m 88 #[.val (.int p0), .val (.long q0), .second, .val (.int p1), .val (.int p2), .val (.ref b1), .val (.ref bx21), .val (.ref (own_pick p1 w_PLANNED w_TRIGGERED w_EXECUTED w_FAILED)), .val (.ref (own_pick p2 w_PLANNED w_TRIGGERED w_EXECUTED w_FAILED)), .val (.ref b24), .unset] [(.ref (own_pick p2 w_PLANNED w_TRIGGERED w_EXECUTED w_FAILED)), (.ref b24)])) rfl (by rw [hml]; rfl) (Steps.refl _) (argsL := [(.ref (own_pick p2 w_PLANNED w_TRIGGERED w_EXECUTED w_FAILED))]) (rest := []) (lenOf pd_8 rfl) rfl (by show 2 * 0 + _ ≤ _; exact Nat.le_of_eq rfl) (hb hby at_88) (fun _ _ => ⟨rfl, rfl, (by decide : 10 + 5 ≤ _), (by decide : 56 + 43 ≤ _)⟩)
    dsimp only [Pt.U, Pt.locs, Pt.cells, Pt.slots] at X26 l26 y26 z26 st26 hQ26 hSq26 gr26
    subst l26 y26 z26
    obtain ⟨bx26, rfl, N26q, x26c0, x26c1, x26c2, x26c3, x26c4, x26c5, x26c6⟩ := hQ26
    have N26 := Fr.app N25 N26q
    have ne_w_PLANNED_bx26 : w_PLANNED ≠ bx26 := Nat.ne_of_lt (Nat.lt_of_lt_of_le E_PLANNED_25.lt x26c2)
    have ne_w_TRIGGERED_bx26 : w_TRIGGERED ≠ bx26 := Nat.ne_of_lt (Nat.lt_of_lt_of_le E_TRIGGERED_25.lt x26c2)
    have ne_w_EXECUTED_bx26 : w_EXECUTED ≠ bx26 := Nat.ne_of_lt (Nat.lt_of_lt_of_le E_EXECUTED_25.lt x26c2)
    have ne_w_FAILED_bx26 : w_FAILED ≠ bx26 := Nat.ne_of_lt (Nat.lt_of_lt_of_le E_FAILED_25.lt x26c2)
    have ne_b1_bx26 : b1 ≠ bx26 := Nat.ne_of_lt (Nat.lt_of_lt_of_le V5_25.lt x26c2)
    have ne_b6_bx26 : b6 ≠ bx26 := Nat.ne_of_lt (Nat.lt_of_lt_of_le A6_25.lt x26c2)
    have ne_bx21_bx26 : bx21 ≠ bx26 := Nat.ne_of_lt (Nat.lt_of_lt_of_le x21c3_25.lt x26c2)
    have ne_b24_bx26 : b24 ≠ bx26 := Nat.ne_of_lt (Nat.lt_of_lt_of_le A24_25.lt x26c2)
    have X00_26 : Old Z n0 T26.heap := X00_25.keep x26c0 all0
    have E_PLANNED_26 : Exa Z T26.heap w_PLANNED "com/example/fyfo/fyfo/JobStatus" := E_PLANNED_25.keep x26c0
    have E_TRIGGERED_26 : Exa Z T26.heap w_TRIGGERED "com/example/fyfo/fyfo/JobStatus" := E_TRIGGERED_25.keep x26c0
    have E_EXECUTED_26 : Exa Z T26.heap w_EXECUTED "com/example/fyfo/fyfo/JobStatus" := E_EXECUTED_25.keep x26c0
    have E_FAILED_26 : Exa Z T26.heap w_FAILED "com/example/fyfo/fyfo/JobStatus" := E_FAILED_25.keep x26c0
    have V5_26 : Arv Z T26.heap b1 k1 .char (2 : Int32) [(.int (nar .char (p0 &&& (255 : Int32)).toUInt32.toUInt16.toUInt32.toInt32)), (.int (nar .char (((p0.toUInt32 >>> ((8 : Int32) &&& 31).toUInt32).toInt32) &&& (255 : Int32)).toUInt32.toUInt16.toUInt32.toInt32))] (.int (0 : Int32)) := V5_25.keep x26c0 nin0
    have A6_26 : Exa Z T26.heap b6 "java/lang/String" := A6_25.keep x26c0
    have x21c3_26 : Exa Z T26.heap bx21 "java/lang/String" := x21c3_25.keep x26c0
    have A24_26 : Exa Z T26.heap b24 "com/example/fyfo/fyfo/Job" := A24_25.keep x26c0
    have x25c1_26 : Fld Z T26.heap b24 "com/example/fyfo/fyfo/Job" "id" "Ljava/lang/String;" (.ref bx21) := x25c1.keep x26c0 nin0
    have x25c2_26 : Fld Z T26.heap b24 "com/example/fyfo/fyfo/Job" "executionNanos" "J" (.long q0) := x25c2.keep x26c0 nin0
    have x25c3_26 : Fld Z T26.heap b24 "com/example/fyfo/fyfo/Job" "status" "Lcom/example/fyfo/fyfo/JobStatus;" (.ref (own_pick p1 w_PLANNED w_TRIGGERED w_EXECUTED w_FAILED)) := x25c3.keep x26c0 nin0
    have Sh_PLANNED_26 : Sta Z T26.heap "com/example/fyfo/fyfo/JobStatus" "PLANNED" "Lcom/example/fyfo/fyfo/JobStatus;" (.ref w_PLANNED) := S_PLANNED.ext X00_26.2
    have Sh_TRIGGERED_26 : Sta Z T26.heap "com/example/fyfo/fyfo/JobStatus" "TRIGGERED" "Lcom/example/fyfo/fyfo/JobStatus;" (.ref w_TRIGGERED) := S_TRIGGERED.ext X00_26.2
    have Sh_EXECUTED_26 : Sta Z T26.heap "com/example/fyfo/fyfo/JobStatus" "EXECUTED" "Lcom/example/fyfo/fyfo/JobStatus;" (.ref w_EXECUTED) := S_EXECUTED.ext X00_26.2
    have Sh_FAILED_26 : Sta Z T26.heap "com/example/fyfo/fyfo/JobStatus" "FAILED" "Lcom/example/fyfo/fyfo/JobStatus;" (.ref w_FAILED) := S_FAILED.ext X00_26.2
    have Sh_CS_26 : Sta Z T26.heap "java/lang/String" "COMPACT_STRINGS" "Z" (.int zc) := S_CS.ext X00_26.2
    have hk26' : _ ≤ T26.heap.size := Nat.le_trans hk25 x26c0.1
    have Z26 : n0 ≤ T26.heap.size := Nat.le_trans Z25 x26c0.1
    have X26b : Stand p l e room_1 (s.setVm T26.vm) m #[(.int p0), (.long q0), (.int p1), (.int p2)] below meth c T26 _ _ _ := X26
    have hS26 : s.Since T26.vm T26.heap.size := foldS hS25 (T := T25) (by first | exact hk25 | (rw [rfl]; exact hk25)) hSq26 gr26
    have hZ26 : Z.Warmed39 (s.setVm T26.vm).vm := State.Warmed39.trans (t := s.setVm T25.vm) hZ25 hSq26.1
    have hown26 : (s.setVm T26.vm).vm.findClass "com/example/fyfo/fyfo/JobWithStatusPinLaw" = some m.cls := by rw [show (s.setVm T26.vm).vm = T26.vm from rfl, hSq26.1.alike.findClass]; exact hown25
    have hk26 := Nat.le_refl T26.heap.size
    obtain ⟨cq27, kq27, q27a, q27b, q27c⟩ := isOf hZ26 rfl x26c3
    obtain ⟨_, _, ⟨T27, L27, k27, n27⟩, -, X27, ⟨Lc27, hQ27, l27, y27, z27⟩, st27⟩ := X26b.virtualBack hx (y := (⟨"com/example/fyfo/fyfo/Job", "id", "()Ljava/lang/String;"⟩ : MethodName)) (z := (⟨"com/example/fyfo/fyfo/Job", "id", "()Ljava/lang/String;"⟩ : MethodName)) hown26 (mvT hZ26 (hw _ (List.mem_of_getElem? (i := 72) rfl))) (mvT hZ26 (hw _ (List.mem_of_getElem? (i := 73) rfl))) (notFace_of_selects (args := #[]) (mvT hZ26 (hw _ (List.mem_of_getElem? (i := 75) rfl)))) (mvT hZ26 (hw _ (List.mem_of_getElem? (i := 75) rfl))) (mvT hZ26 (hw _ (List.mem_of_getElem? (i := 74) rfl))) (by decide) (backOf (W := 0) (rm_id l Z a0 hw [] bx26 bx21 T26.heap n0 Z26 x26c4) hZ26 (hw _ (List.mem_of_getElem? (i := 76) rfl)) (hw _ (List.mem_of_getElem? (i := 41) rfl)) (by decide) (by decide)) q27a q27c (g := (mkF m 102 #[.val (.int p0), .val (.long q0), .second, .val (.int p1), .val (.int p2), .val (.ref b1), .val (.ref bx21), .val (.ref (own_pick p1 w_PLANNED w_TRIGGERED w_EXECUTED w_FAILED)), .val (.ref (own_pick p2 w_PLANNED w_TRIGGERED w_EXECUTED w_FAILED)), .val (.ref b24), .val (.ref bx26)] [(.ref bx26)])) rfl (by rw [hml]; rfl) (Steps.refl _) (argsL := []) (rest := []) (lenOf pd_9 rfl) rfl (by show 2 * 0 + _ ≤ _; exact Nat.le_of_eq rfl) (hb hby at_102) (fun _ _ => ⟨rfl, rfl, (by decide : 15 + 0 ≤ _), (by decide : 99 + 0 ≤ _)⟩)
    dsimp only [Pt.U, Pt.locs, Pt.cells, Pt.slots] at X27 l27 y27 z27 st27 hQ27
    subst l27 y27 z27
    obtain ⟨rfl, N27q, e27⟩ := hQ27
    have N27 := Fr.app N26 N27q
    obtain ⟨cq28, kq28, q28a, q28b, q28c⟩ := isOf hZ26 e27 x21c3_26
    obtain ⟨_, _, ⟨T28, L28, k28, n28⟩, -, X28, ⟨Lc28, hQ28, l28, y28, z28⟩, st28⟩ := X27.virtualBack hx (y := (⟨"java/lang/String", "equals", "(Ljava/lang/Object;)Z"⟩ : MethodName)) (z := (⟨"java/lang/String", "equals", "(Ljava/lang/Object;)Z"⟩ : MethodName)) hown26 (mvT hZ26 (hw _ (List.mem_of_getElem? (i := 77) rfl))) (mvT hZ26 (hw _ (List.mem_of_getElem? (i := 78) rfl))) (notFace_of_selects (args := #[]) (mvT hZ26 (hw _ (List.mem_of_getElem? (i := 80) rfl)))) (mvT hZ26 (hw _ (List.mem_of_getElem? (i := 80) rfl))) (mvT hZ26 (hw _ (List.mem_of_getElem? (i := 79) rfl))) (by decide) (backOf (W := 0) (rm_eq l Z a0 hw [] bx21 bx21 T26.heap n0 Z26 rfl) hZ26 (hw _ (List.mem_of_getElem? (i := 81) rfl)) (hw _ (List.mem_of_getElem? (i := 3) rfl)) (by decide) (by decide)) q28a q28c (g := (mkF m 107 #[.val (.int p0), .val (.long q0), .second, .val (.int p1), .val (.int p2), .val (.ref b1), .val (.ref bx21), .val (.ref (own_pick p1 w_PLANNED w_TRIGGERED w_EXECUTED w_FAILED)), .val (.ref (own_pick p2 w_PLANNED w_TRIGGERED w_EXECUTED w_FAILED)), .val (.ref b24), .val (.ref bx26)] [(.ref bx21), (.ref bx21)])) rfl (by rw [hml]; rfl) (Steps.refl _) (argsL := [(.ref bx21)]) (rest := []) (lenOf pd_10 rfl) rfl (by show 2 * 0 + _ ≤ _; exact Nat.le_of_eq rfl) (hb hby at_107) (fun _ _ => ⟨rfl, e27, (by decide : 15 + 0 ≤ _), (by decide : 99 + 0 ≤ _)⟩)
    dsimp only [Pt.U, Pt.locs, Pt.cells, Pt.slots] at X28 l28 y28 z28 st28 hQ28
    subst l28 y28 z28
    obtain ⟨rfl, N28q, e28⟩ := hQ28
    have N28 := Fr.app N27 N28q
    obtain ⟨cq29, kq29, q29a, q29b, q29c⟩ := isOf hZ26 e28 x26c3
    obtain ⟨_, _, ⟨T29, L29, k29, n29⟩, -, X29, ⟨Lc29, hQ29, l29, y29, z29⟩, st29⟩ := X28.virtualBack hx (y := (⟨"com/example/fyfo/fyfo/Job", "executionNanos", "()J"⟩ : MethodName)) (z := (⟨"com/example/fyfo/fyfo/Job", "executionNanos", "()J"⟩ : MethodName)) hown26 (mvT hZ26 (hw _ (List.mem_of_getElem? (i := 82) rfl))) (mvT hZ26 (hw _ (List.mem_of_getElem? (i := 83) rfl))) (notFace_of_selects (args := #[]) (mvT hZ26 (hw _ (List.mem_of_getElem? (i := 85) rfl)))) (mvT hZ26 (hw _ (List.mem_of_getElem? (i := 85) rfl))) (mvT hZ26 (hw _ (List.mem_of_getElem? (i := 84) rfl))) (by decide) (backOf (W := 0) (rm_nanos l Z a0 hw [] bx26 q0 T26.heap n0 Z26 x26c5) hZ26 (hw _ (List.mem_of_getElem? (i := 86) rfl)) (hw _ (List.mem_of_getElem? (i := 41) rfl)) (by decide) (by decide)) q29a q29c (g := (mkF m 115 #[.val (.int p0), .val (.long q0), .second, .val (.int p1), .val (.int p2), .val (.ref b1), .val (.ref bx21), .val (.ref (own_pick p1 w_PLANNED w_TRIGGERED w_EXECUTED w_FAILED)), .val (.ref (own_pick p2 w_PLANNED w_TRIGGERED w_EXECUTED w_FAILED)), .val (.ref b24), .val (.ref bx26)] [(.ref bx26)])) rfl (by rw [hml]; rfl) (Steps.refl _) (argsL := []) (rest := []) (lenOf pd_11 rfl) rfl (by show 2 * 0 + _ ≤ _; exact Nat.le_of_eq rfl) (hb hby at_115) (fun _ _ => ⟨rfl, e28, (by decide : 15 + 0 ≤ _), (by decide : 99 + 0 ≤ _)⟩)
    dsimp only [Pt.U, Pt.locs, Pt.cells, Pt.slots] at X29 l29 y29 z29 st29 hQ29
    subst l29 y29 z29
    obtain ⟨rfl, N29q, e29⟩ := hQ29
    have N29 := Fr.app N28 N29q
    obtain ⟨cq30, kq30, q30a, q30b, q30c⟩ := isOf hZ26 e29 x26c3
    obtain ⟨_, _, ⟨T30, L30, k30, n30⟩, -, X30, ⟨Lc30, hQ30, l30, y30, z30⟩, st30⟩ := X29.virtualBack hx (y := (⟨"com/example/fyfo/fyfo/Job", "status", "()Lcom/example/fyfo/fyfo/JobStatus;"⟩ : MethodName)) (z := (⟨"com/example/fyfo/fyfo/Job", "status", "()Lcom/example/fyfo/fyfo/JobStatus;"⟩ : MethodName)) hown26 (mvT hZ26 (hw _ (List.mem_of_getElem? (i := 87) rfl))) (mvT hZ26 (hw _ (List.mem_of_getElem? (i := 88) rfl))) (notFace_of_selects (args := #[]) (mvT hZ26 (hw _ (List.mem_of_getElem? (i := 90) rfl)))) (mvT hZ26 (hw _ (List.mem_of_getElem? (i := 90) rfl))) (mvT hZ26 (hw _ (List.mem_of_getElem? (i := 89) rfl))) (by decide) (backOf (W := 0) (rm_status l Z a0 hw [] bx26 (own_pick p2 w_PLANNED w_TRIGGERED w_EXECUTED w_FAILED) T26.heap n0 Z26 x26c6) hZ26 (hw _ (List.mem_of_getElem? (i := 91) rfl)) (hw _ (List.mem_of_getElem? (i := 41) rfl)) (by decide) (by decide)) q30a q30c (g := (mkF m 125 #[.val (.int p0), .val (.long q0), .second, .val (.int p1), .val (.int p2), .val (.ref b1), .val (.ref bx21), .val (.ref (own_pick p1 w_PLANNED w_TRIGGERED w_EXECUTED w_FAILED)), .val (.ref (own_pick p2 w_PLANNED w_TRIGGERED w_EXECUTED w_FAILED)), .val (.ref b24), .val (.ref bx26)] [(.ref bx26)])) rfl (by rw [hml]; rfl) (Steps.refl _) (argsL := []) (rest := []) (lenOf pd_12 rfl) rfl (by show 2 * 0 + _ ≤ _; exact Nat.le_of_eq rfl) (hb hby at_125) (fun _ _ => ⟨rfl, e29, (by decide : 15 + 0 ≤ _), (by decide : 99 + 0 ≤ _)⟩)
    dsimp only [Pt.U, Pt.locs, Pt.cells, Pt.slots] at X30 l30 y30 z30 st30 hQ30
    subst l30 y30 z30
    obtain ⟨rfl, N30q, e30⟩ := hQ30
    have N30 := Fr.app N29 N30q
    obtain ⟨cq31, kq31, q31a, q31b, q31c⟩ := isOf hZ26 e30 A24_26
    obtain ⟨_, _, ⟨T31, L31, k31, n31⟩, -, X31, ⟨Lc31, hQ31, l31, y31, z31⟩, st31⟩ := X30.virtualBack hx (y := (⟨"com/example/fyfo/fyfo/Job", "status", "()Lcom/example/fyfo/fyfo/JobStatus;"⟩ : MethodName)) (z := (⟨"com/example/fyfo/fyfo/Job", "status", "()Lcom/example/fyfo/fyfo/JobStatus;"⟩ : MethodName)) hown26 (mvT hZ26 (hw _ (List.mem_of_getElem? (i := 87) rfl))) (mvT hZ26 (hw _ (List.mem_of_getElem? (i := 88) rfl))) (notFace_of_selects (args := #[]) (mvT hZ26 (hw _ (List.mem_of_getElem? (i := 90) rfl)))) (mvT hZ26 (hw _ (List.mem_of_getElem? (i := 90) rfl))) (mvT hZ26 (hw _ (List.mem_of_getElem? (i := 89) rfl))) (by decide) (backOf (W := 0) (rm_status l Z a0 hw [] b24 (own_pick p1 w_PLANNED w_TRIGGERED w_EXECUTED w_FAILED) T26.heap n0 Z26 x25c3_26) hZ26 (hw _ (List.mem_of_getElem? (i := 91) rfl)) (hw _ (List.mem_of_getElem? (i := 41) rfl)) (by decide) (by decide)) q31a q31c (g := (mkF m 135 #[.val (.int p0), .val (.long q0), .second, .val (.int p1), .val (.int p2), .val (.ref b1), .val (.ref bx21), .val (.ref (own_pick p1 w_PLANNED w_TRIGGERED w_EXECUTED w_FAILED)), .val (.ref (own_pick p2 w_PLANNED w_TRIGGERED w_EXECUTED w_FAILED)), .val (.ref b24), .val (.ref bx26)] [(.ref b24)])) rfl (by rw [hml]; rfl) (Steps.refl _) (argsL := []) (rest := []) (lenOf pd_12 rfl) rfl (by show 2 * 0 + _ ≤ _; exact Nat.le_of_eq rfl) (hb hby at_135) (fun _ _ => ⟨rfl, e30, (by decide : 15 + 0 ≤ _), (by decide : 99 + 0 ≤ _)⟩)
    dsimp only [Pt.U, Pt.locs, Pt.cells, Pt.slots] at X31 l31 y31 z31 st31 hQ31
    subst l31 y31 z31
    obtain ⟨rfl, N31q, e31⟩ := hQ31
    have N31 := Fr.app N30 N31q
    obtain ⟨cq32, kq32, q32a, q32b, q32c⟩ := isOf hZ26 e31 A24_26
    obtain ⟨_, _, ⟨T32, L32, k32, n32⟩, -, X32, ⟨Lc32, hQ32, l32, y32, z32⟩, st32⟩ := X31.virtualBack hx (y := (⟨"com/example/fyfo/fyfo/Job", "executionNanos", "()J"⟩ : MethodName)) (z := (⟨"com/example/fyfo/fyfo/Job", "executionNanos", "()J"⟩ : MethodName)) hown26 (mvT hZ26 (hw _ (List.mem_of_getElem? (i := 82) rfl))) (mvT hZ26 (hw _ (List.mem_of_getElem? (i := 83) rfl))) (notFace_of_selects (args := #[]) (mvT hZ26 (hw _ (List.mem_of_getElem? (i := 85) rfl)))) (mvT hZ26 (hw _ (List.mem_of_getElem? (i := 85) rfl))) (mvT hZ26 (hw _ (List.mem_of_getElem? (i := 84) rfl))) (by decide) (backOf (W := 0) (rm_nanos l Z a0 hw [] b24 q0 T26.heap n0 Z26 x25c2_26) hZ26 (hw _ (List.mem_of_getElem? (i := 86) rfl)) (hw _ (List.mem_of_getElem? (i := 41) rfl)) (by decide) (by decide)) q32a q32c (g := (mkF m 145 #[.val (.int p0), .val (.long q0), .second, .val (.int p1), .val (.int p2), .val (.ref b1), .val (.ref bx21), .val (.ref (own_pick p1 w_PLANNED w_TRIGGERED w_EXECUTED w_FAILED)), .val (.ref (own_pick p2 w_PLANNED w_TRIGGERED w_EXECUTED w_FAILED)), .val (.ref b24), .val (.ref bx26)] [(.ref b24)])) rfl (by rw [hml]; rfl) (Steps.refl _) (argsL := []) (rest := []) (lenOf pd_11 rfl) rfl (by show 2 * 0 + _ ≤ _; exact Nat.le_of_eq rfl) (hb hby at_145) (fun _ _ => ⟨rfl, e31, (by decide : 15 + 0 ≤ _), (by decide : 99 + 0 ≤ _)⟩)
    dsimp only [Pt.U, Pt.locs, Pt.cells, Pt.slots] at X32 l32 y32 z32 st32 hQ32
    subst l32 y32 z32
    obtain ⟨rfl, N32q, e32⟩ := hQ32
    have N32 := Fr.app N31 N32q
    obtain ⟨fs, hr, hrun, hended, hREW⟩ := X32.leaveW hS26 (by first | exact hk26 | (rw [e32]; exact hk26)) (v := some (.int (1 : Int32))) (fun h => by rw [Bd.returns] at h; cases h)
    refine ⟨_, _, pre0 _ ?_, hrun, hended, _, _, rfl, ?_, hREW.1, hREW.2.1, hREW.2.2.1, hREW.2.2.2.mono (by decide) (by decide)⟩
    · refine k8 _ ?_
      show Steps p.tables e below (T7.setTop (mkF m 45 #[.val (.int p0), .val (.long q0), .second, .val (.int p1), .val (.int p2), .val (.ref b1), .val (.ref b6), .unset, .unset, .unset, .unset] [(.int (((p0.toUInt32 >>> ((16 : Int32) &&& 31).toUInt32).toInt32) &&& (1 : Int32)))])) _
      refine XS.ifNo X7.here hx rfl (hb hby at_45) rfl ((if0 _ _).trans (feq hc45).1) ?_
      show Steps p.tables e below (T7.setTop (mkF m 48 #[.val (.int p0), .val (.long q0), .second, .val (.int p1), .val (.int p2), .val (.ref b1), .val (.ref b6), .unset, .unset, .unset, .unset] [])) _
      refine XS.aload X7.here hx rfl (hb hby at_48) rfl rfl ?_
      show Steps p.tables e below (T7.setTop (mkF m 50 #[.val (.int p0), .val (.long q0), .second, .val (.int p1), .val (.int p2), .val (.ref b1), .val (.ref b6), .unset, .unset, .unset, .unset] [(.ref b1)])) _
      refine XS.iconst X7.here hx rfl (hb hby at_50) ?_
      show Steps p.tables e below (T7.setTop (mkF m 51 #[.val (.int p0), .val (.long q0), .second, .val (.int p1), .val (.int p2), .val (.ref b1), .val (.ref b6), .unset, .unset, .unset, .unset] [(.int (0 : Int32)), (.ref b1)])) _
      refine X7.caload hx (j := (0 : Int32)) (v := (.int (nar .char (p0 &&& (255 : Int32)).toUInt32.toUInt16.toUInt32.toInt32))) Ar20.1 (State.isArrayOf_alike hZ.alike Ar20.2.1) Ar20.2.2 hin20 hat20 (g := (mkF m 51 #[.val (.int p0), .val (.long q0), .second, .val (.int p1), .val (.int p2), .val (.ref b1), .val (.ref b6), .unset, .unset, .unset, .unset] [(.int (0 : Int32)), (.ref b1)])) rfl rfl (hb hby at_51) _ ?_
      show Steps p.tables e below (T7.setTop (mkF m 52 #[.val (.int p0), .val (.long q0), .second, .val (.int p1), .val (.int p2), .val (.ref b1), .val (.ref b6), .unset, .unset, .unset, .unset] [(.int (nar .char (p0 &&& (255 : Int32)).toUInt32.toUInt16.toUInt32.toInt32))])) _
      refine st21 _ ?_
      show Steps p.tables e below (T21.setTop (mkF m 55 #[.val (.int p0), .val (.long q0), .second, .val (.int p1), .val (.int p2), .val (.ref b1), .val (.ref b6), .unset, .unset, .unset, .unset] [(.ref bx21)])) _
      refine XS.astore X21.here hx rfl (hb hby at_55) rfl rfl (l' := #[.val (.int p0), .val (.long q0), .second, .val (.int p1), .val (.int p2), .val (.ref b1), .val (.ref bx21), .unset, .unset, .unset, .unset]) rfl ?_
      show Steps p.tables e below (T21.setTop (mkF m 57 #[.val (.int p0), .val (.long q0), .second, .val (.int p1), .val (.int p2), .val (.ref b1), .val (.ref bx21), .unset, .unset, .unset, .unset] [])) _
      refine XS.iloadN X21.here hx rfl (hb hby at_57) rfl ?_
      show Steps p.tables e below (T21.setTop (mkF m 58 #[.val (.int p0), .val (.long q0), .second, .val (.int p1), .val (.int p2), .val (.ref b1), .val (.ref bx21), .unset, .unset, .unset, .unset] [(.int p1)])) _
      refine st22 _ ?_
      show Steps p.tables e below (T22.setTop (mkF m 61 #[.val (.int p0), .val (.long q0), .second, .val (.int p1), .val (.int p2), .val (.ref b1), .val (.ref bx21), .unset, .unset, .unset, .unset] [(.ref (own_pick p1 w_PLANNED w_TRIGGERED w_EXECUTED w_FAILED))])) _
      refine XS.astore X22.here hx rfl (hb hby at_61) rfl rfl (l' := #[.val (.int p0), .val (.long q0), .second, .val (.int p1), .val (.int p2), .val (.ref b1), .val (.ref bx21), .val (.ref (own_pick p1 w_PLANNED w_TRIGGERED w_EXECUTED w_FAILED)), .unset, .unset, .unset]) rfl ?_
      show Steps p.tables e below (T22.setTop (mkF m 63 #[.val (.int p0), .val (.long q0), .second, .val (.int p1), .val (.int p2), .val (.ref b1), .val (.ref bx21), .val (.ref (own_pick p1 w_PLANNED w_TRIGGERED w_EXECUTED w_FAILED)), .unset, .unset, .unset] [])) _
      refine XS.iload X22.here hx rfl (hb hby at_63) rfl ?_
      show Steps p.tables e below (T22.setTop (mkF m 65 #[.val (.int p0), .val (.long q0), .second, .val (.int p1), .val (.int p2), .val (.ref b1), .val (.ref bx21), .val (.ref (own_pick p1 w_PLANNED w_TRIGGERED w_EXECUTED w_FAILED)), .unset, .unset, .unset] [(.int p2)])) _
      refine st23 _ ?_
      show Steps p.tables e below (T23.setTop (mkF m 68 #[.val (.int p0), .val (.long q0), .second, .val (.int p1), .val (.int p2), .val (.ref b1), .val (.ref bx21), .val (.ref (own_pick p1 w_PLANNED w_TRIGGERED w_EXECUTED w_FAILED)), .unset, .unset, .unset] [(.ref (own_pick p2 w_PLANNED w_TRIGGERED w_EXECUTED w_FAILED))])) _
      refine XS.astore X23.here hx rfl (hb hby at_68) rfl rfl (l' := #[.val (.int p0), .val (.long q0), .second, .val (.int p1), .val (.int p2), .val (.ref b1), .val (.ref bx21), .val (.ref (own_pick p1 w_PLANNED w_TRIGGERED w_EXECUTED w_FAILED)), .val (.ref (own_pick p2 w_PLANNED w_TRIGGERED w_EXECUTED w_FAILED)), .unset, .unset]) rfl ?_
      show Steps p.tables e below (T23.setTop (mkF m 70 #[.val (.int p0), .val (.long q0), .second, .val (.int p1), .val (.int p2), .val (.ref b1), .val (.ref bx21), .val (.ref (own_pick p1 w_PLANNED w_TRIGGERED w_EXECUTED w_FAILED)), .val (.ref (own_pick p2 w_PLANNED w_TRIGGERED w_EXECUTED w_FAILED)), .unset, .unset] [])) _
      refine st24 _ ?_
      show Steps p.tables e below (T24.setTop (mkF m 73 #[.val (.int p0), .val (.long q0), .second, .val (.int p1), .val (.int p2), .val (.ref b1), .val (.ref bx21), .val (.ref (own_pick p1 w_PLANNED w_TRIGGERED w_EXECUTED w_FAILED)), .val (.ref (own_pick p2 w_PLANNED w_TRIGGERED w_EXECUTED w_FAILED)), .unset, .unset] [(.ref b24)])) _
      refine XS.dup X24.here hx rfl (hb hby at_73) rfl rfl ?_
      show Steps p.tables e below (T24.setTop (mkF m 74 #[.val (.int p0), .val (.long q0), .second, .val (.int p1), .val (.int p2), .val (.ref b1), .val (.ref bx21), .val (.ref (own_pick p1 w_PLANNED w_TRIGGERED w_EXECUTED w_FAILED)), .val (.ref (own_pick p2 w_PLANNED w_TRIGGERED w_EXECUTED w_FAILED)), .unset, .unset] [(.ref b24), (.ref b24)])) _
      refine XS.aload X24.here hx rfl (hb hby at_74) rfl rfl ?_
      show Steps p.tables e below (T24.setTop (mkF m 76 #[.val (.int p0), .val (.long q0), .second, .val (.int p1), .val (.int p2), .val (.ref b1), .val (.ref bx21), .val (.ref (own_pick p1 w_PLANNED w_TRIGGERED w_EXECUTED w_FAILED)), .val (.ref (own_pick p2 w_PLANNED w_TRIGGERED w_EXECUTED w_FAILED)), .unset, .unset] [(.ref bx21), (.ref b24), (.ref b24)])) _
      refine XS.lloadN X24.here hx rfl (hb hby at_76) rfl ?_
      show Steps p.tables e below (T24.setTop (mkF m 77 #[.val (.int p0), .val (.long q0), .second, .val (.int p1), .val (.int p2), .val (.ref b1), .val (.ref bx21), .val (.ref (own_pick p1 w_PLANNED w_TRIGGERED w_EXECUTED w_FAILED)), .val (.ref (own_pick p2 w_PLANNED w_TRIGGERED w_EXECUTED w_FAILED)), .unset, .unset] [(.long q0), (.ref bx21), (.ref b24), (.ref b24)])) _
      refine XS.aload X24.here hx rfl (hb hby at_77) rfl rfl ?_
      show Steps p.tables e below (T24.setTop (mkF m 79 #[.val (.int p0), .val (.long q0), .second, .val (.int p1), .val (.int p2), .val (.ref b1), .val (.ref bx21), .val (.ref (own_pick p1 w_PLANNED w_TRIGGERED w_EXECUTED w_FAILED)), .val (.ref (own_pick p2 w_PLANNED w_TRIGGERED w_EXECUTED w_FAILED)), .unset, .unset] [(.ref (own_pick p1 w_PLANNED w_TRIGGERED w_EXECUTED w_FAILED)), (.long q0), (.ref bx21), (.ref b24), (.ref b24)])) _
      refine st25.trans ?_
      show Steps p.tables e below (T25.setTop (mkF m 82 #[.val (.int p0), .val (.long q0), .second, .val (.int p1), .val (.int p2), .val (.ref b1), .val (.ref bx21), .val (.ref (own_pick p1 w_PLANNED w_TRIGGERED w_EXECUTED w_FAILED)), .val (.ref (own_pick p2 w_PLANNED w_TRIGGERED w_EXECUTED w_FAILED)), .unset, .unset] [(.ref b24)])) _
      refine XS.astore X25b.here hx rfl (hb hby at_82) rfl rfl (l' := #[.val (.int p0), .val (.long q0), .second, .val (.int p1), .val (.int p2), .val (.ref b1), .val (.ref bx21), .val (.ref (own_pick p1 w_PLANNED w_TRIGGERED w_EXECUTED w_FAILED)), .val (.ref (own_pick p2 w_PLANNED w_TRIGGERED w_EXECUTED w_FAILED)), .val (.ref b24), .unset]) rfl ?_
      show Steps p.tables e below (T25.setTop (mkF m 84 #[.val (.int p0), .val (.long q0), .second, .val (.int p1), .val (.int p2), .val (.ref b1), .val (.ref bx21), .val (.ref (own_pick p1 w_PLANNED w_TRIGGERED w_EXECUTED w_FAILED)), .val (.ref (own_pick p2 w_PLANNED w_TRIGGERED w_EXECUTED w_FAILED)), .val (.ref b24), .unset] [])) _
      refine XS.aload X25b.here hx rfl (hb hby at_84) rfl rfl ?_
      show Steps p.tables e below (T25.setTop (mkF m 86 #[.val (.int p0), .val (.long q0), .second, .val (.int p1), .val (.int p2), .val (.ref b1), .val (.ref bx21), .val (.ref (own_pick p1 w_PLANNED w_TRIGGERED w_EXECUTED w_FAILED)), .val (.ref (own_pick p2 w_PLANNED w_TRIGGERED w_EXECUTED w_FAILED)), .val (.ref b24), .unset] [(.ref b24)])) _
      refine XS.aload X25b.here hx rfl (hb hby at_86) rfl rfl ?_
      show Steps p.tables e below (T25.setTop (mkF m 88 #[.val (.int p0), .val (.long q0), .second, .val (.int p1), .val (.int p2), .val (.ref b1), .val (.ref bx21), .val (.ref (own_pick p1 w_PLANNED w_TRIGGERED w_EXECUTED w_FAILED)), .val (.ref (own_pick p2 w_PLANNED w_TRIGGERED w_EXECUTED w_FAILED)), .val (.ref b24), .unset] [(.ref (own_pick p2 w_PLANNED w_TRIGGERED w_EXECUTED w_FAILED)), (.ref b24)])) _
      refine st26.trans ?_
      show Steps p.tables e below (T26.setTop (mkF m 91 #[.val (.int p0), .val (.long q0), .second, .val (.int p1), .val (.int p2), .val (.ref b1), .val (.ref bx21), .val (.ref (own_pick p1 w_PLANNED w_TRIGGERED w_EXECUTED w_FAILED)), .val (.ref (own_pick p2 w_PLANNED w_TRIGGERED w_EXECUTED w_FAILED)), .val (.ref b24), .unset] [(.ref bx26)])) _
      refine XS.astore X26b.here hx rfl (hb hby at_91) rfl rfl (l' := #[.val (.int p0), .val (.long q0), .second, .val (.int p1), .val (.int p2), .val (.ref b1), .val (.ref bx21), .val (.ref (own_pick p1 w_PLANNED w_TRIGGERED w_EXECUTED w_FAILED)), .val (.ref (own_pick p2 w_PLANNED w_TRIGGERED w_EXECUTED w_FAILED)), .val (.ref b24), .val (.ref bx26)]) rfl ?_
      show Steps p.tables e below (T26.setTop (mkF m 93 #[.val (.int p0), .val (.long q0), .second, .val (.int p1), .val (.int p2), .val (.ref b1), .val (.ref bx21), .val (.ref (own_pick p1 w_PLANNED w_TRIGGERED w_EXECUTED w_FAILED)), .val (.ref (own_pick p2 w_PLANNED w_TRIGGERED w_EXECUTED w_FAILED)), .val (.ref b24), .val (.ref bx26)] [])) _
      refine XS.aload X26b.here hx rfl (hb hby at_93) rfl rfl ?_
      show Steps p.tables e below (T26.setTop (mkF m 95 #[.val (.int p0), .val (.long q0), .second, .val (.int p1), .val (.int p2), .val (.ref b1), .val (.ref bx21), .val (.ref (own_pick p1 w_PLANNED w_TRIGGERED w_EXECUTED w_FAILED)), .val (.ref (own_pick p2 w_PLANNED w_TRIGGERED w_EXECUTED w_FAILED)), .val (.ref b24), .val (.ref bx26)] [(.ref bx26)])) _
      refine XS.ifnonnullYes X26b.here hx rfl (pc0 := 95) (pc' := 100) rfl (hb hby at_95) rfl (by decide) (by decide) ?_
      show Steps p.tables e below (T26.setTop (mkF m 100 #[.val (.int p0), .val (.long q0), .second, .val (.int p1), .val (.int p2), .val (.ref b1), .val (.ref bx21), .val (.ref (own_pick p1 w_PLANNED w_TRIGGERED w_EXECUTED w_FAILED)), .val (.ref (own_pick p2 w_PLANNED w_TRIGGERED w_EXECUTED w_FAILED)), .val (.ref b24), .val (.ref bx26)] [])) _
      refine XS.aload X26b.here hx rfl (hb hby at_100) rfl rfl ?_
      show Steps p.tables e below (T26.setTop (mkF m 102 #[.val (.int p0), .val (.long q0), .second, .val (.int p1), .val (.int p2), .val (.ref b1), .val (.ref bx21), .val (.ref (own_pick p1 w_PLANNED w_TRIGGERED w_EXECUTED w_FAILED)), .val (.ref (own_pick p2 w_PLANNED w_TRIGGERED w_EXECUTED w_FAILED)), .val (.ref b24), .val (.ref bx26)] [(.ref bx26)])) _
      refine st27.trans ?_
      show Steps p.tables e below (T27.setTop (mkF m 105 #[.val (.int p0), .val (.long q0), .second, .val (.int p1), .val (.int p2), .val (.ref b1), .val (.ref bx21), .val (.ref (own_pick p1 w_PLANNED w_TRIGGERED w_EXECUTED w_FAILED)), .val (.ref (own_pick p2 w_PLANNED w_TRIGGERED w_EXECUTED w_FAILED)), .val (.ref b24), .val (.ref bx26)] [(.ref bx21)])) _
      refine XS.aload X27.here hx rfl (hb hby at_105) rfl rfl ?_
      show Steps p.tables e below (T27.setTop (mkF m 107 #[.val (.int p0), .val (.long q0), .second, .val (.int p1), .val (.int p2), .val (.ref b1), .val (.ref bx21), .val (.ref (own_pick p1 w_PLANNED w_TRIGGERED w_EXECUTED w_FAILED)), .val (.ref (own_pick p2 w_PLANNED w_TRIGGERED w_EXECUTED w_FAILED)), .val (.ref b24), .val (.ref bx26)] [(.ref bx21), (.ref bx21)])) _
      refine st28.trans ?_
      show Steps p.tables e below (T28.setTop (mkF m 110 #[.val (.int p0), .val (.long q0), .second, .val (.int p1), .val (.int p2), .val (.ref b1), .val (.ref bx21), .val (.ref (own_pick p1 w_PLANNED w_TRIGGERED w_EXECUTED w_FAILED)), .val (.ref (own_pick p2 w_PLANNED w_TRIGGERED w_EXECUTED w_FAILED)), .val (.ref b24), .val (.ref bx26)] [(.int (1 : Int32))])) _
      refine XS.ifNo X28.here hx rfl (hb hby at_110) rfl ((if0 _ _).trans (feq (by decide : ¬ ((1 : Int32) = (0 : Int32)))).1) ?_
      show Steps p.tables e below (T28.setTop (mkF m 113 #[.val (.int p0), .val (.long q0), .second, .val (.int p1), .val (.int p2), .val (.ref b1), .val (.ref bx21), .val (.ref (own_pick p1 w_PLANNED w_TRIGGERED w_EXECUTED w_FAILED)), .val (.ref (own_pick p2 w_PLANNED w_TRIGGERED w_EXECUTED w_FAILED)), .val (.ref b24), .val (.ref bx26)] [])) _
      refine XS.aload X28.here hx rfl (hb hby at_113) rfl rfl ?_
      show Steps p.tables e below (T28.setTop (mkF m 115 #[.val (.int p0), .val (.long q0), .second, .val (.int p1), .val (.int p2), .val (.ref b1), .val (.ref bx21), .val (.ref (own_pick p1 w_PLANNED w_TRIGGERED w_EXECUTED w_FAILED)), .val (.ref (own_pick p2 w_PLANNED w_TRIGGERED w_EXECUTED w_FAILED)), .val (.ref b24), .val (.ref bx26)] [(.ref bx26)])) _
      refine st29.trans ?_
      show Steps p.tables e below (T29.setTop (mkF m 118 #[.val (.int p0), .val (.long q0), .second, .val (.int p1), .val (.int p2), .val (.ref b1), .val (.ref bx21), .val (.ref (own_pick p1 w_PLANNED w_TRIGGERED w_EXECUTED w_FAILED)), .val (.ref (own_pick p2 w_PLANNED w_TRIGGERED w_EXECUTED w_FAILED)), .val (.ref b24), .val (.ref bx26)] [(.long q0)])) _
      refine XS.lloadN X29.here hx rfl (hb hby at_118) rfl ?_
      show Steps p.tables e below (T29.setTop (mkF m 119 #[.val (.int p0), .val (.long q0), .second, .val (.int p1), .val (.int p2), .val (.ref b1), .val (.ref bx21), .val (.ref (own_pick p1 w_PLANNED w_TRIGGERED w_EXECUTED w_FAILED)), .val (.ref (own_pick p2 w_PLANNED w_TRIGGERED w_EXECUTED w_FAILED)), .val (.ref b24), .val (.ref bx26)] [(.long q0), (.long q0)])) _
      refine XS.lcmp X29.here hx rfl (hb hby at_119) rfl ?_
      show Steps p.tables e below (T29.setTop (mkF m 120 #[.val (.int p0), .val (.long q0), .second, .val (.int p1), .val (.int p2), .val (.ref b1), .val (.ref bx21), .val (.ref (own_pick p1 w_PLANNED w_TRIGGERED w_EXECUTED w_FAILED)), .val (.ref (own_pick p2 w_PLANNED w_TRIGGERED w_EXECUTED w_FAILED)), .val (.ref b24), .val (.ref bx26)] [(.int (lcmpW q0 q0))])) _
      refine XS.ifNo X29.here hx rfl (hb hby at_120) rfl ((if0 _ _).trans (teq (own_lc0 _)).2) ?_
      show Steps p.tables e below (T29.setTop (mkF m 123 #[.val (.int p0), .val (.long q0), .second, .val (.int p1), .val (.int p2), .val (.ref b1), .val (.ref bx21), .val (.ref (own_pick p1 w_PLANNED w_TRIGGERED w_EXECUTED w_FAILED)), .val (.ref (own_pick p2 w_PLANNED w_TRIGGERED w_EXECUTED w_FAILED)), .val (.ref b24), .val (.ref bx26)] [])) _
      refine XS.aload X29.here hx rfl (hb hby at_123) rfl rfl ?_
      show Steps p.tables e below (T29.setTop (mkF m 125 #[.val (.int p0), .val (.long q0), .second, .val (.int p1), .val (.int p2), .val (.ref b1), .val (.ref bx21), .val (.ref (own_pick p1 w_PLANNED w_TRIGGERED w_EXECUTED w_FAILED)), .val (.ref (own_pick p2 w_PLANNED w_TRIGGERED w_EXECUTED w_FAILED)), .val (.ref b24), .val (.ref bx26)] [(.ref bx26)])) _
      refine st30.trans ?_
      show Steps p.tables e below (T30.setTop (mkF m 128 #[.val (.int p0), .val (.long q0), .second, .val (.int p1), .val (.int p2), .val (.ref b1), .val (.ref bx21), .val (.ref (own_pick p1 w_PLANNED w_TRIGGERED w_EXECUTED w_FAILED)), .val (.ref (own_pick p2 w_PLANNED w_TRIGGERED w_EXECUTED w_FAILED)), .val (.ref b24), .val (.ref bx26)] [(.ref (own_pick p2 w_PLANNED w_TRIGGERED w_EXECUTED w_FAILED))])) _
      refine XS.aload X30.here hx rfl (hb hby at_128) rfl rfl ?_
      show Steps p.tables e below (T30.setTop (mkF m 130 #[.val (.int p0), .val (.long q0), .second, .val (.int p1), .val (.int p2), .val (.ref b1), .val (.ref bx21), .val (.ref (own_pick p1 w_PLANNED w_TRIGGERED w_EXECUTED w_FAILED)), .val (.ref (own_pick p2 w_PLANNED w_TRIGGERED w_EXECUTED w_FAILED)), .val (.ref b24), .val (.ref bx26)] [(.ref (own_pick p2 w_PLANNED w_TRIGGERED w_EXECUTED w_FAILED)), (.ref (own_pick p2 w_PLANNED w_TRIGGERED w_EXECUTED w_FAILED))])) _
      refine Jvm.RoadKit.acmp (g := (mkF m 130 #[.val (.int p0), .val (.long q0), .second, .val (.int p1), .val (.int p2), .val (.ref b1), .val (.ref bx21), .val (.ref (own_pick p1 w_PLANNED w_TRIGGERED w_EXECUTED w_FAILED)), .val (.ref (own_pick p2 w_PLANNED w_TRIGGERED w_EXECUTED w_FAILED)), .val (.ref b24), .val (.ref bx26)] [(.ref (own_pick p2 w_PLANNED w_TRIGGERED w_EXECUTED w_FAILED)), (.ref (own_pick p2 w_PLANNED w_TRIGGERED w_EXECUTED w_FAILED))])) X30 hx rfl rfl rfl (pc0 := 130) (pc' := 133) (same := true) rfl (hb hby at_130) rfl (decide_eq_true rfl) (by decide) (by decide) ?_
      show Steps p.tables e below (T30.setTop (mkF m 133 #[.val (.int p0), .val (.long q0), .second, .val (.int p1), .val (.int p2), .val (.ref b1), .val (.ref bx21), .val (.ref (own_pick p1 w_PLANNED w_TRIGGERED w_EXECUTED w_FAILED)), .val (.ref (own_pick p2 w_PLANNED w_TRIGGERED w_EXECUTED w_FAILED)), .val (.ref b24), .val (.ref bx26)] [])) _
      refine XS.aload X30.here hx rfl (hb hby at_133) rfl rfl ?_
      show Steps p.tables e below (T30.setTop (mkF m 135 #[.val (.int p0), .val (.long q0), .second, .val (.int p1), .val (.int p2), .val (.ref b1), .val (.ref bx21), .val (.ref (own_pick p1 w_PLANNED w_TRIGGERED w_EXECUTED w_FAILED)), .val (.ref (own_pick p2 w_PLANNED w_TRIGGERED w_EXECUTED w_FAILED)), .val (.ref b24), .val (.ref bx26)] [(.ref b24)])) _
      refine st31.trans ?_
      show Steps p.tables e below (T31.setTop (mkF m 138 #[.val (.int p0), .val (.long q0), .second, .val (.int p1), .val (.int p2), .val (.ref b1), .val (.ref bx21), .val (.ref (own_pick p1 w_PLANNED w_TRIGGERED w_EXECUTED w_FAILED)), .val (.ref (own_pick p2 w_PLANNED w_TRIGGERED w_EXECUTED w_FAILED)), .val (.ref b24), .val (.ref bx26)] [(.ref (own_pick p1 w_PLANNED w_TRIGGERED w_EXECUTED w_FAILED))])) _
      refine XS.aload X31.here hx rfl (hb hby at_138) rfl rfl ?_
      show Steps p.tables e below (T31.setTop (mkF m 140 #[.val (.int p0), .val (.long q0), .second, .val (.int p1), .val (.int p2), .val (.ref b1), .val (.ref bx21), .val (.ref (own_pick p1 w_PLANNED w_TRIGGERED w_EXECUTED w_FAILED)), .val (.ref (own_pick p2 w_PLANNED w_TRIGGERED w_EXECUTED w_FAILED)), .val (.ref b24), .val (.ref bx26)] [(.ref (own_pick p1 w_PLANNED w_TRIGGERED w_EXECUTED w_FAILED)), (.ref (own_pick p1 w_PLANNED w_TRIGGERED w_EXECUTED w_FAILED))])) _
      refine Jvm.RoadKit.acmp (g := (mkF m 140 #[.val (.int p0), .val (.long q0), .second, .val (.int p1), .val (.int p2), .val (.ref b1), .val (.ref bx21), .val (.ref (own_pick p1 w_PLANNED w_TRIGGERED w_EXECUTED w_FAILED)), .val (.ref (own_pick p2 w_PLANNED w_TRIGGERED w_EXECUTED w_FAILED)), .val (.ref b24), .val (.ref bx26)] [(.ref (own_pick p1 w_PLANNED w_TRIGGERED w_EXECUTED w_FAILED)), (.ref (own_pick p1 w_PLANNED w_TRIGGERED w_EXECUTED w_FAILED))])) X31 hx rfl rfl rfl (pc0 := 140) (pc' := 143) (same := true) rfl (hb hby at_140) rfl (decide_eq_true rfl) (by decide) (by decide) ?_
      show Steps p.tables e below (T31.setTop (mkF m 143 #[.val (.int p0), .val (.long q0), .second, .val (.int p1), .val (.int p2), .val (.ref b1), .val (.ref bx21), .val (.ref (own_pick p1 w_PLANNED w_TRIGGERED w_EXECUTED w_FAILED)), .val (.ref (own_pick p2 w_PLANNED w_TRIGGERED w_EXECUTED w_FAILED)), .val (.ref b24), .val (.ref bx26)] [])) _
      refine XS.aload X31.here hx rfl (hb hby at_143) rfl rfl ?_
      show Steps p.tables e below (T31.setTop (mkF m 145 #[.val (.int p0), .val (.long q0), .second, .val (.int p1), .val (.int p2), .val (.ref b1), .val (.ref bx21), .val (.ref (own_pick p1 w_PLANNED w_TRIGGERED w_EXECUTED w_FAILED)), .val (.ref (own_pick p2 w_PLANNED w_TRIGGERED w_EXECUTED w_FAILED)), .val (.ref b24), .val (.ref bx26)] [(.ref b24)])) _
      refine st32.trans ?_
      show Steps p.tables e below (T32.setTop (mkF m 148 #[.val (.int p0), .val (.long q0), .second, .val (.int p1), .val (.int p2), .val (.ref b1), .val (.ref bx21), .val (.ref (own_pick p1 w_PLANNED w_TRIGGERED w_EXECUTED w_FAILED)), .val (.ref (own_pick p2 w_PLANNED w_TRIGGERED w_EXECUTED w_FAILED)), .val (.ref b24), .val (.ref bx26)] [(.long q0)])) _
      refine XS.lloadN X32.here hx rfl (hb hby at_148) rfl ?_
      show Steps p.tables e below (T32.setTop (mkF m 149 #[.val (.int p0), .val (.long q0), .second, .val (.int p1), .val (.int p2), .val (.ref b1), .val (.ref bx21), .val (.ref (own_pick p1 w_PLANNED w_TRIGGERED w_EXECUTED w_FAILED)), .val (.ref (own_pick p2 w_PLANNED w_TRIGGERED w_EXECUTED w_FAILED)), .val (.ref b24), .val (.ref bx26)] [(.long q0), (.long q0)])) _
      refine XS.lcmp X32.here hx rfl (hb hby at_149) rfl ?_
      show Steps p.tables e below (T32.setTop (mkF m 150 #[.val (.int p0), .val (.long q0), .second, .val (.int p1), .val (.int p2), .val (.ref b1), .val (.ref bx21), .val (.ref (own_pick p1 w_PLANNED w_TRIGGERED w_EXECUTED w_FAILED)), .val (.ref (own_pick p2 w_PLANNED w_TRIGGERED w_EXECUTED w_FAILED)), .val (.ref b24), .val (.ref bx26)] [(.int (lcmpW q0 q0))])) _
      refine XS.ifNo X32.here hx rfl (hb hby at_150) rfl ((if0 _ _).trans (teq (own_lc0 _)).2) ?_
      show Steps p.tables e below (T32.setTop (mkF m 153 #[.val (.int p0), .val (.long q0), .second, .val (.int p1), .val (.int p2), .val (.ref b1), .val (.ref bx21), .val (.ref (own_pick p1 w_PLANNED w_TRIGGERED w_EXECUTED w_FAILED)), .val (.ref (own_pick p2 w_PLANNED w_TRIGGERED w_EXECUTED w_FAILED)), .val (.ref b24), .val (.ref bx26)] [])) _
      refine XS.iconst X32.here hx rfl (hb hby at_153) ?_
      show Steps p.tables e below (T32.setTop (mkF m 154 #[.val (.int p0), .val (.long q0), .second, .val (.int p1), .val (.int p2), .val (.ref b1), .val (.ref bx21), .val (.ref (own_pick p1 w_PLANNED w_TRIGGERED w_EXECUTED w_FAILED)), .val (.ref (own_pick p2 w_PLANNED w_TRIGGERED w_EXECUTED w_FAILED)), .val (.ref b24), .val (.ref bx26)] [(.int (1 : Int32))])) _
      refine XS.goto X32.here hx rfl (pc0 := 154) (pc' := 158) rfl (hb hby at_154) (by decide) (by decide) ?_
      show Steps p.tables e below (T32.setTop (mkF m 158 #[.val (.int p0), .val (.long q0), .second, .val (.int p1), .val (.int p2), .val (.ref b1), .val (.ref bx21), .val (.ref (own_pick p1 w_PLANNED w_TRIGGERED w_EXECUTED w_FAILED)), .val (.ref (own_pick p2 w_PLANNED w_TRIGGERED w_EXECUTED w_FAILED)), .val (.ref b24), .val (.ref bx26)] [(.int (1 : Int32))])) _
      exact retN X32 hx (t := .boolean) Bd.returns (by simp) (hb hby at_158) hr
    · show Q_rm_law Z p0 q0 p1 p2 w_PLANNED w_TRIGGERED w_EXECUTED w_FAILED zc h0 n0 _ T32.heap _
      rw [e32]
      exact ⟨rfl, N32, trivial⟩
set_option maxRecDepth 65536 in
set_option maxHeartbeats 40000000 in
theorem comes_1 {Post : Tables → Env → Array Value → State → Outcome → State → Prop} (hpost : ∀ tb e args s v u, (limb_1_1.after args s (.returned v) u = true ∧ limb_1_2.after args s (.returned v) u = true ∧ True) → ReturnedEndW s (.returned v) u (Jvm.fieldLocs frame_1_writes args s ++ Jvm.arrayLocs frame_1_arrays args s ++ Jvm.staticLocs frame_1_statics s) 32 2176 → Post tb e args s (.returned v) u) :
    ArmFor flags0 classFile x code maxLocals ret World_1 tables_1 room_1 Calls_1 rest_1 Pre_1 Post := by
  intro l hfl _ _ p e ha hc hk s m args below hf hA hF happ hP
  obtain ⟨hcalls, hrest, hpre⟩ := hP
  obtain ⟨-, -, -, hnamed, -, -, -, hat⟩ := (Spec.applies_iff hf).mp happ
  obtain ⟨hg, hn⟩ := and_e (Cond.before_iff.mp (show (Jvm.Cond.and given_1 narrow_1).before args s = true from hpre))
  obtain ⟨hcnt, hgv0⟩ := and_e hg
  obtain ⟨hg0, hgv1⟩ := and_e hgv0
  obtain ⟨hg1, hgv2⟩ := and_e hgv1
  obtain ⟨hg2, hgv3⟩ := and_e hgv2
  have hg3 := hgv3
  obtain ⟨w0, w1, w2, w3, rfl⟩ : ∃ w0 w1 w2 w3 : Value, args = #[w0, w1, w2, w3] := by
    have hs : args.size = 4 := by simpa [Cond.value, given_1] using hcnt
    obtain ⟨L⟩ := args
    match L, hs with
    | [w0, w1, w2, w3], _ => exact ⟨w0, w1, w2, w3, rfl⟩
  have hw := fun d (hd : d ∈ tables_1) => atoms_spec (ws := Jvm.Cond.code x code maxLocals ret :: tables_1) hat d (List.mem_cons_of_mem _ hd)
  have hfit : Fit s := fun {y c} hc i hi => by
    obtain ⟨ha, rfl⟩ := Array.getElem?_eq_some_iff.mp hc
    have q := List.all_eq_true.mp ((Array.all_eq_true_iff_forall_mem.mp hF) _ (Array.getElem_mem ha)) i (List.mem_range.mpr hi)
    simpa [Array.getElem?_eq_getElem hi] using q
  obtain ⟨i0, ei0⟩ := is_v hg0
  obtain rfl : w0 = (.int i0) := Option.some.inj ei0
  obtain ⟨i1, ei1⟩ := isL_v hg1
  obtain rfl : w1 = (.long i1) := Option.some.inj ei1
  obtain ⟨i2, ei2⟩ := is_v hg2
  obtain rfl : w2 = (.int i2) := Option.some.inj ei2
  obtain ⟨i3, ei3⟩ := is_v hg3
  obtain rfl : w3 = (.int i3) := Option.some.inj ei3
  obtain ⟨hn0, hnr0⟩ := and_e hn
  obtain ⟨hn1, hnr1⟩ := and_e hnr0
  obtain ⟨hn2, hnr2⟩ := and_e hnr1
  have hn3 := hnr2
  obtain ⟨w_TRIGGERED, ev_TRIGGERED⟩ := exa_v hn0
  have E_TRIGGERED := Exa.start ev_TRIGGERED hn0
  have S_TRIGGERED : Sta s s.heap "com/example/fyfo/fyfo/JobStatus" "TRIGGERED" "Lcom/example/fyfo/fyfo/JobStatus;" (.ref w_TRIGGERED) := Sta.start ev_TRIGGERED (Or.inr ⟨(hw _ (List.mem_of_getElem? (i := 35) rfl)), (hw _ (List.mem_of_getElem? (i := 36) rfl))⟩)
  obtain ⟨w_PLANNED, ev_PLANNED⟩ := exa_v hn1
  have E_PLANNED := Exa.start ev_PLANNED hn1
  have S_PLANNED : Sta s s.heap "com/example/fyfo/fyfo/JobStatus" "PLANNED" "Lcom/example/fyfo/fyfo/JobStatus;" (.ref w_PLANNED) := Sta.start ev_PLANNED (Or.inr ⟨(hw _ (List.mem_of_getElem? (i := 35) rfl)), (hw _ (List.mem_of_getElem? (i := 38) rfl))⟩)
  obtain ⟨w_FAILED, ev_FAILED⟩ := exa_v hn2
  have E_FAILED := Exa.start ev_FAILED hn2
  have S_FAILED : Sta s s.heap "com/example/fyfo/fyfo/JobStatus" "FAILED" "Lcom/example/fyfo/fyfo/JobStatus;" (.ref w_FAILED) := Sta.start ev_FAILED (Or.inr ⟨(hw _ (List.mem_of_getElem? (i := 35) rfl)), (hw _ (List.mem_of_getElem? (i := 93) rfl))⟩)
  obtain ⟨w_EXECUTED, ev_EXECUTED⟩ := exa_v hn3
  have E_EXECUTED := Exa.start ev_EXECUTED hn3
  have S_EXECUTED : Sta s s.heap "com/example/fyfo/fyfo/JobStatus" "EXECUTED" "Lcom/example/fyfo/fyfo/JobStatus;" (.ref w_EXECUTED) := Sta.start ev_EXECUTED (Or.inr ⟨(hw _ (List.mem_of_getElem? (i := 35) rfl)), (hw _ (List.mem_of_getElem? (i := 95) rfl))⟩)
  obtain ⟨hsets, hown0⟩ := atoms_of _ (rest_1_c_eq ▸ (show rest_1_c.before _ s = true from hrest))
  obtain ⟨zc, ezc⟩ := is_v (Cond.before_iff.mp (hsets _ (List.mem_of_getElem? (i := 1) rfl)))
  have S_CS : Sta s s.heap "java/lang/String" "COMPACT_STRINGS" "Z" (.int zc) := Sta.start ezc (Or.inl (hsets _ (List.mem_of_getElem? (i := 0) rfl)))
  have P5 : ¬ (zc = (0 : Int32)) := by
    intro q
    have n3 := not_v (Cond.before_iff.mp (hsets _ (List.mem_of_getElem? (i := 2) rfl)))
    have n4 := eq_i ezc (Term.int_eval (0 : Int32)) (by rw [q])
    rw [n4] at n3; cases n3
  obtain ⟨n, o, h1, h2, h3, _, L, rfl, hQL, hq⟩ := rm_law l s _ hw tables_1 i0 i1 i2 i3 w_PLANNED w_TRIGGERED w_EXECUTED w_FAILED zc s.heap s.heap.size (Nat.le_refl _) (Old.start s) S_PLANNED S_TRIGGERED S_EXECUTED S_FAILED E_PLANNED E_TRIGGERED E_EXECUTED E_FAILED S_CS P5 p e ha hc hk s m _ below hf ((Spec.applies_iff_loose hf).mp happ).1 ⟨rfl, State.Warmed39.refl s, rfl⟩ trivial
  obtain ⟨rfl, N, -⟩ := hQL
  refine ⟨n, _, h1, h2, h3, hpost _ _ _ _ _ _ ⟨Cond.after_iff.mpr rfl, Cond.after_iff.mpr (eq_i res_at (Term.int_eval (1)) rfl), trivial⟩ ⟨hq.1, hq.2.1, hq.2.2.1, (hq.2.2.2.sift fun y hy => Or.inr (N y hy)).mono (by decide) (by decide)⟩⟩
theorem main_1_1 : Claimed_1_1 := comes_1 fun _ _ _ _ _ _ h hF => ⟨h.1, hF⟩
theorem main_1_2 : Claimed_1_2 := comes_1 fun _ _ _ _ _ _ h hF => ⟨h.2.1, hF⟩
end Jvm.Pilot.@@N@@
namespace Jvm.Pilot.@@N@@
open Jvm Jvm.ClassFile Sem Op Lib Jvm.Free Jvm.Stand Jvm.Pilot.@@N@@.Jvm.D
/-! MADE BY PROGRAM (witnessworld.py) out of the Statement's table words and the real class files: 24 classes; the members and pool entries that the words name. The judged class is class 1, her method 2. -/
namespace start1
open Jvm.ClassFile
def u (s : String) : CpInfo := .utf8 (stringToUtf16 s)
/-- a pool by its gaps: so many unusable entries, then the entry; so many at the end -/
def gap : Nat → List CpInfo → List CpInfo
  | 0, r => r
  | n + 1, r => .unusable :: gap n r
def poolList (es : List (Nat × CpInfo)) (last : Nat) : List CpInfo := es.foldr (fun e r => gap e.1 (e.2 :: r)) (gap last [])
def pool (es : List (Nat × CpInfo)) (last : Nat) : Array CpInfo := ⟨poolList es last⟩
def fileOf (pool : Array CpInfo) (this : Nat) (attrs : Array Attribute := #[]) (ms : Array MethodInfo := #[]) (fl : Nat := 33) (sup : Nat := 0) (ifs : Array Nat := #[]) (fds : Array FieldInfo := #[]) : ClassFile where
  minorVersion := 0
  majorVersion := 65
  constantPool := pool
  accessFlags := fl
  thisClass := this
  superClass := sup
  interfaces := ifs
  fields := fds
  methods := ms
  attributes := attrs
def plain (name : String) (sup : Option ClassId) : Class where
  name := name
  kind := .ordinary
  loader := none
  accessFlags := 33
  super := sup
  interfaces := #[]
  cf := none
  fields := #[]
  methods := #[]
  instanceTypes := #[]
  staticTypes := #[]
  resolved := #[]
  callSites := []
  init := .initialized
  statics := none
  mirror := none

def pool0 : Array CpInfo := pool [(5, u "<init>"), (0, u "()V"), (1, .class_ 10), (1, u "java/lang/Object")] 113

def k0c0 : Code := { maxStack := 0, maxLocals := 1, code := object_method_1_code, exceptionTable := #[], attributes := #[] }
def k0m0 : Method := { name := "<init>", desc := "()V", sig := { parameters := [], returnType := none }, accessFlags := 1, code := some k0c0 }
/-- java/lang/Object -/
def k0 : Class := { plain "java/lang/Object" none with
  accessFlags := 33
  interfaces := #[]
  cf := some (fileOf pool0 8 #[] #[{ accessFlags := 1, nameIndex := 5, descriptorIndex := 6, attributes := #[] }] 33 0 #[] #[])
  fields := #[]
  methods := #[k0m0]
  instanceTypes := #[]
  staticTypes := #[]
  resolved := Array.replicate 124 none
  statics := none }

def pool1 : Array CpInfo := pool [(2, .class_ 4), (1, u "java/lang/Object"), (0, u "<init>"), (0, u "()V"), (0, .fieldref 8 9), (0, .class_ 10), (0, .nameAndType 11 12), (0, u "com/example/fyfo/fyfo/JobStatus"), (0, u "PLANNED"), (0, u "Lcom/example/fyfo/fyfo/JobStatus;"), (0, .fieldref 8 14), (0, .nameAndType 15 12), (0, u "TRIGGERED"), (0, .fieldref 8 17), (0, .nameAndType 18 12), (0, u "EXECUTED"), (0, .fieldref 8 20), (0, .nameAndType 21 12), (0, u "FAILED"), (0, .class_ 23), (0, u "java/lang/String"), (0, .methodref 22 25), (0, .nameAndType 5 26), (0, u "([C)V"), (0, .methodref 22 28), (0, .nameAndType 29 30), (0, u "valueOf"), (0, u "(C)Ljava/lang/String;"), (0, .methodref 32 33), (0, .class_ 34), (0, .nameAndType 35 36), (0, u "com/example/fyfo/fyfo/JobWithStatusPinLaw"), (0, u "pick"), (0, u "(I)Lcom/example/fyfo/fyfo/JobStatus;"), (0, .class_ 38), (0, u "com/example/fyfo/fyfo/Job"), (0, .methodref 37 40), (0, .nameAndType 5 41), (0, u "(Ljava/lang/String;JLcom/example/fyfo/fyfo/JobStatus;)V"), (0, .methodref 37 43), (0, .nameAndType 44 45), (0, u "withStatus"), (0, u "(Lcom/example/fyfo/fyfo/JobStatus;)Lcom/example/fyfo/fyfo/Job;"), (0, .methodref 37 47), (0, .nameAndType 48 49), (0, u "id"), (0, u "()Ljava/lang/String;"), (0, .methodref 22 51), (0, .nameAndType 52 53), (0, u "equals"), (0, u "(Ljava/lang/Object;)Z"), (0, .methodref 37 55), (0, .nameAndType 56 57), (0, u "executionNanos"), (0, u "()J"), (0, .methodref 37 59), (0, .nameAndType 60 61), (0, u "status"), (0, u "()Lcom/example/fyfo/fyfo/JobStatus;"), (3, u "law"), (0, u "(IJII)Z")] 4

def k1m0 : Method := { name := "<init>", desc := "()V", sig := { parameters := [], returnType := none }, accessFlags := 1, code := none }
def k1c1 : Code := { maxStack := 2, maxLocals := 2, code := method_2_code, exceptionTable := #[], attributes := #[] }
def k1m1 : Method := { name := "pick", desc := "(I)Lcom/example/fyfo/fyfo/JobStatus;", sig := { parameters := [.int], returnType := some (.object "com/example/fyfo/fyfo/JobStatus") }, accessFlags := 10, code := some k1c1 }
def k1c2 : Code := { maxStack := 6, maxLocals := 11, code := code, exceptionTable := #[], attributes := #[] }
def k1m2 : Method := { name := "law", desc := "(IJII)Z", sig := { parameters := [.int, .long, .int, .int], returnType := some .boolean }, accessFlags := 9, code := some k1c2 }
/-- com/example/fyfo/fyfo/JobWithStatusPinLaw -/
def k1 : Class := { plain "com/example/fyfo/fyfo/JobWithStatusPinLaw" (some 0) with
  accessFlags := 49
  interfaces := #[]
  cf := some (fileOf pool1 32 #[] #[{ accessFlags := 1, nameIndex := 5, descriptorIndex := 6, attributes := #[] }, { accessFlags := 10, nameIndex := 35, descriptorIndex := 36, attributes := #[] }, { accessFlags := 9, nameIndex := 65, descriptorIndex := 66, attributes := #[] }] 49 2 #[] #[])
  fields := #[]
  methods := #[k1m0, k1m1, k1m2]
  instanceTypes := #[]
  staticTypes := #[]
  resolved := Array.replicate 71 none
  statics := none }

def pool2 : Array CpInfo := pool [(1, .class_ 2), (0, u "java/io/Serializable"), (0, .class_ 4), (0, u "java/lang/Object")] 2

/-- java/io/Serializable -/
def k2 : Class := { plain "java/io/Serializable" (some 0) with
  accessFlags := 1537
  interfaces := #[]
  cf := some (fileOf pool2 1 #[] #[] 1537 3 #[] #[])
  fields := #[]
  methods := #[]
  instanceTypes := #[]
  staticTypes := #[]
  resolved := Array.replicate 7 none
  statics := none }

def pool3 : Array CpInfo := pool [(1, .class_ 2), (0, u "java/lang/Comparable"), (0, .class_ 4), (0, u "java/lang/Object")] 7

/-- java/lang/Comparable -/
def k3 : Class := { plain "java/lang/Comparable" (some 0) with
  accessFlags := 1537
  interfaces := #[]
  cf := some (fileOf pool3 1 #[] #[] 1537 3 #[] #[])
  fields := #[]
  methods := #[]
  instanceTypes := #[]
  staticTypes := #[]
  resolved := Array.replicate 12 none
  statics := none }

def pool4 : Array CpInfo := pool [(2, .class_ 4), (1, u "java/lang/CharSequence"), (42, .class_ 48), (0, u "java/lang/CharSequence$1CodePointIterator"), (10, .class_ 60), (0, u "java/lang/CharSequence$1CharIterator"), (5, .class_ 67), (0, u "java/lang/Object")] 63

/-- java/lang/CharSequence -/
def k4 : Class := { plain "java/lang/CharSequence" (some 0) with
  accessFlags := 1537
  interfaces := #[]
  cf := some (fileOf pool4 2 #[.nestMembers #[47, 59]] #[] 1537 66 #[] #[])
  fields := #[]
  methods := #[]
  instanceTypes := #[]
  staticTypes := #[]
  resolved := Array.replicate 131 none
  statics := none }

def pool5 : Array CpInfo := pool [(1, .class_ 2), (0, u "java/lang/constant/Constable"), (0, .class_ 4), (0, u "java/lang/Object")] 6

/-- java/lang/constant/Constable -/
def k5 : Class := { plain "java/lang/constant/Constable" (some 0) with
  accessFlags := 1537
  interfaces := #[]
  cf := some (fileOf pool5 1 #[] #[] 1537 3 #[] #[])
  fields := #[]
  methods := #[]
  instanceTypes := #[]
  staticTypes := #[]
  resolved := Array.replicate 11 none
  statics := none }

def pool6 : Array CpInfo := pool [(1, .class_ 2), (0, u "java/lang/constant/ConstantDesc"), (0, .class_ 4), (0, u "java/lang/Object")] 32

/-- java/lang/constant/ConstantDesc -/
def k6 : Class := { plain "java/lang/constant/ConstantDesc" (some 0) with
  accessFlags := 1537
  interfaces := #[]
  cf := some (fileOf pool6 1 #[] #[] 1537 3 #[] #[])
  fields := #[]
  methods := #[]
  instanceTypes := #[]
  staticTypes := #[]
  resolved := Array.replicate 37 none
  statics := none }

def pool7 : Array CpInfo := pool [(1, .methodref 2 3), (0, .class_ 4), (0, .nameAndType 5 6), (0, u "java/lang/Object"), (0, u "<init>"), (0, u "()V"), (2, .fieldref 10 11), (0, .class_ 12), (0, .nameAndType 13 14), (0, u "java/lang/String"), (0, u "value"), (0, u "[B"), (0, .fieldref 10 16), (0, .nameAndType 17 18), (0, u "coder"), (0, u "B"), (2, u "hash"), (0, u "I"), (2, u "hashIsZero"), (0, u "Z"), (0, .methodref 10 28), (0, .nameAndType 5 29), (0, u "([CIILjava/lang/Void;)V"), (8, .fieldref 10 39), (0, .nameAndType 40 26), (0, u "COMPACT_STRINGS"), (1, .class_ 44), (1, u "java/lang/StringUTF16"), (0, u "compress"), (1, .methodref 42 48), (0, .nameAndType 49 50), (0, u "coderFromArrayLen"), (0, u "([BI)B"), (2, u "toBytes"), (53, .class_ 109), (1, u "java/lang/StringLatin1"), (67, .methodref 42 178), (0, .nameAndType 45 179), (0, u "([CII)[B"), (29, .methodref 10 210), (0, .nameAndType 5 211), (0, u "([BB)V"), (157, u "(C)Z"), (173, u "equals"), (29, u "(Ljava/lang/Object;)Z"), (1, .class_ 576), (0, u "java/lang/CharSequence"), (22, u "CASE_INSENSITIVE_ORDER"), (0, u "Ljava/util/Comparator;"), (181, u "valueOf"), (0, u "(C)Ljava/lang/String;"), (226, u "([C)V"), (4, .methodref 107 1016), (0, .nameAndType 1017 369), (0, u "canEncode"), (0, .methodref 107 1019), (0, .nameAndType 53 1020), (0, u "(C)[B"), (80, u "serialPersistentFields"), (0, u "[Ljava/io/ObjectStreamField;"), (0, .class_ 1104), (0, u "java/lang/String$CaseInsensitiveComparator"), (1, .class_ 1107), (0, u "java/io/Serializable"), (0, .class_ 1109), (0, u "java/lang/Comparable"), (0, .class_ 1111), (0, u "java/lang/constant/Constable"), (0, .class_ 1113), (0, u "java/lang/constant/ConstantDesc"), (2, u "serialVersionUID"), (0, u "J"), (3, u "REPL"), (0, u "C"), (2, u "LATIN1"), (1, u "UTF16")] 323

def k7m0 : Method := { name := "<init>", desc := "()V", sig := { parameters := [], returnType := none }, accessFlags := 1, code := none }
def k7c1 : Code := { maxStack := 5, maxLocals := 2, code := jdk_42_method_3_code, exceptionTable := #[], attributes := #[] }
def k7m1 : Method := { name := "<init>", desc := "([C)V", sig := { parameters := [(.array .char)], returnType := none }, accessFlags := 1, code := some k7c1 }
def k7c2 : Code := { maxStack := 2, maxLocals := 3, code := jdk_42_method_66_code, exceptionTable := #[], attributes := #[] }
def k7m2 : Method := { name := "equals", desc := "(Ljava/lang/Object;)Z", sig := { parameters := [(.object "java/lang/Object")], returnType := some .boolean }, accessFlags := 1, code := some k7c2 }
def k7c3 : Code := { maxStack := 4, maxLocals := 1, code := jdk_42_method_139_code, exceptionTable := #[], attributes := #[] }
def k7m3 : Method := { name := "valueOf", desc := "(C)Ljava/lang/String;", sig := { parameters := [.char], returnType := some (.object "java/lang/String") }, accessFlags := 9, code := some k7c3 }
def k7c4 : Code := { maxStack := 4, maxLocals := 6, code := jdk_42_method_149_code, exceptionTable := #[], attributes := #[] }
def k7m4 : Method := { name := "<init>", desc := "([CIILjava/lang/Void;)V", sig := { parameters := [(.array .char), .int, .int, (.object "java/lang/Void")], returnType := none }, accessFlags := 2, code := some k7c4 }
def k7c5 : Code := { maxStack := 2, maxLocals := 3, code := jdk_42_method_151_code, exceptionTable := #[], attributes := #[] }
def k7m5 : Method := { name := "<init>", desc := "([BB)V", sig := { parameters := [(.array .byte), .byte], returnType := none }, accessFlags := 0, code := some k7c5 }
/-- java/lang/String -/
def k7 : Class := { plain "java/lang/String" (some 0) with
  accessFlags := 49
  interfaces := #[2, 3, 4, 5, 6]
  cf := some (fileOf pool7 10 #[.nestMembers #[1103]] #[{ accessFlags := 1, nameIndex := 5, descriptorIndex := 6, attributes := #[] }, { accessFlags := 1, nameIndex := 5, descriptorIndex := 1010, attributes := #[] }, { accessFlags := 1, nameIndex := 543, descriptorIndex := 573, attributes := #[] }, { accessFlags := 9, nameIndex := 782, descriptorIndex := 783, attributes := #[] }, { accessFlags := 2, nameIndex := 5, descriptorIndex := 29, attributes := #[] }, { accessFlags := 0, nameIndex := 5, descriptorIndex := 211, attributes := #[] }] 49 2 #[1106, 1108, 575, 1110, 1112] #[{ accessFlags := 18, nameIndex := 13, descriptorIndex := 14, attributes := #[] }, { accessFlags := 18, nameIndex := 17, descriptorIndex := 18, attributes := #[] }, { accessFlags := 2, nameIndex := 21, descriptorIndex := 22, attributes := #[] }, { accessFlags := 2, nameIndex := 25, descriptorIndex := 26, attributes := #[] }, { accessFlags := 26, nameIndex := 1116, descriptorIndex := 1117, attributes := #[] }, { accessFlags := 24, nameIndex := 40, descriptorIndex := 26, attributes := #[] }, { accessFlags := 26, nameIndex := 1101, descriptorIndex := 1102, attributes := #[] }, { accessFlags := 26, nameIndex := 1121, descriptorIndex := 1122, attributes := #[] }, { accessFlags := 25, nameIndex := 599, descriptorIndex := 600, attributes := #[] }, { accessFlags := 24, nameIndex := 1125, descriptorIndex := 18, attributes := #[] }, { accessFlags := 24, nameIndex := 1127, descriptorIndex := 18, attributes := #[] }])
  fields := #[{ name := "value", type := (.array .byte), accessFlags := 18, slot := 0, constantValue := 0 }, { name := "coder", type := .byte, accessFlags := 18, slot := 1, constantValue := 0 }, { name := "hash", type := .int, accessFlags := 2, slot := 2, constantValue := 0 }, { name := "hashIsZero", type := .boolean, accessFlags := 2, slot := 3, constantValue := 0 }, { name := "serialVersionUID", type := .long, accessFlags := 26, slot := 0, constantValue := 0 }, { name := "COMPACT_STRINGS", type := .boolean, accessFlags := 24, slot := 1, constantValue := 0 }, { name := "serialPersistentFields", type := (.array (.object "java/io/ObjectStreamField")), accessFlags := 26, slot := 2, constantValue := 0 }, { name := "REPL", type := .char, accessFlags := 26, slot := 3, constantValue := 0 }, { name := "CASE_INSENSITIVE_ORDER", type := (.object "java/util/Comparator"), accessFlags := 25, slot := 4, constantValue := 0 }, { name := "LATIN1", type := .byte, accessFlags := 24, slot := 5, constantValue := 0 }, { name := "UTF16", type := .byte, accessFlags := 24, slot := 6, constantValue := 0 }]
  methods := #[k7m0, k7m1, k7m2, k7m3, k7m4, k7m5]
  instanceTypes := #[(.array .byte), .byte, .int, .boolean]
  staticTypes := #[.long, .boolean, (.array (.object "java/io/ObjectStreamField")), .char, (.object "java/util/Comparator"), .byte, .byte]
  resolved := Array.replicate 1451 none
  statics := some 0 }

def pool8 : Array CpInfo := pool [(6, .class_ 8), (1, u "java/lang/Object"), (0, u "<init>"), (0, u "()V"), (1, .class_ 14), (1, u "java/lang/StringUTF16"), (31, u "$assertionsDisabled"), (0, u "Z"), (13, u "HI_BYTE_SHIFT"), (0, u "I"), (2, u "LO_BYTE_SHIFT"), (49, .methodref 12 116), (0, .nameAndType 117 118), (0, u "compress"), (0, u "([CI[BII)I"), (3, u "([CII)[B"), (138, u "coderFromArrayLen"), (0, u "([BI)B"), (106, .class_ 371), (1, u "java/lang/StringUTF16$LinesSpliterator"), (58, u "MAX_LENGTH"), (196, .class_ 628), (0, u "java/lang/StringUTF16$CodePointsSpliterator"), (0, .class_ 630), (0, u "java/lang/StringUTF16$CharsSpliterator")] 4

def k8m0 : Method := { name := "<init>", desc := "()V", sig := { parameters := [], returnType := none }, accessFlags := 0, code := none }
def k8c1 : Code := { maxStack := 2, maxLocals := 2, code := jdk_52_method_15_code, exceptionTable := #[], attributes := #[] }
def k8m1 : Method := { name := "coderFromArrayLen", desc := "([BI)B", sig := { parameters := [(.array .byte), .int], returnType := some .byte }, accessFlags := 8, code := some k8c1 }
def k8c2 : Code := { maxStack := 5, maxLocals := 6, code := jdk_52_method_16_code, exceptionTable := #[], attributes := #[] }
def k8m2 : Method := { name := "compress", desc := "([CII)[B", sig := { parameters := [(.array .char), .int, .int], returnType := some (.array .byte) }, accessFlags := 9, code := some k8c2 }
def k8c3 : Code := { maxStack := 3, maxLocals := 7, code := jdk_52_method_21_code, exceptionTable := #[], attributes := #[] }
def k8m3 : Method := { name := "compress", desc := "([CI[BII)I", sig := { parameters := [(.array .char), .int, (.array .byte), .int, .int], returnType := some .int }, accessFlags := 9, code := some k8c3 }
/-- java/lang/StringUTF16 -/
def k8 : Class := { plain "java/lang/StringUTF16" (some 0) with
  accessFlags := 48
  interfaces := #[]
  cf := some (fileOf pool8 12 #[.nestMembers #[627, 629, 369]] #[{ accessFlags := 0, nameIndex := 9, descriptorIndex := 10, attributes := #[] }, { accessFlags := 8, nameIndex := 261, descriptorIndex := 262, attributes := #[] }, { accessFlags := 9, nameIndex := 117, descriptorIndex := 122, attributes := #[] }, { accessFlags := 9, nameIndex := 117, descriptorIndex := 118, attributes := #[] }] 48 6 #[] #[{ accessFlags := 26, nameIndex := 61, descriptorIndex := 62, attributes := #[] }, { accessFlags := 26, nameIndex := 65, descriptorIndex := 62, attributes := #[] }, { accessFlags := 24, nameIndex := 430, descriptorIndex := 62, attributes := #[] }, { accessFlags := 4120, nameIndex := 46, descriptorIndex := 47, attributes := #[] }])
  fields := #[{ name := "HI_BYTE_SHIFT", type := .int, accessFlags := 26, slot := 0, constantValue := 0 }, { name := "LO_BYTE_SHIFT", type := .int, accessFlags := 26, slot := 1, constantValue := 0 }, { name := "MAX_LENGTH", type := .int, accessFlags := 24, slot := 2, constantValue := 0 }, { name := "$assertionsDisabled", type := .boolean, accessFlags := 4120, slot := 3, constantValue := 0 }]
  methods := #[k8m0, k8m1, k8m2, k8m3]
  instanceTypes := #[]
  staticTypes := #[.int, .int, .int, .boolean]
  resolved := Array.replicate 635 none
  statics := none }

def pool9 : Array CpInfo := pool [(2, .class_ 4), (1, u "java/lang/Enum"), (0, u "name"), (0, u "Ljava/lang/String;"), (2, u "ordinal"), (0, u "I"), (1, .class_ 14), (1, u "java/lang/Object"), (4, u "hash"), (86, .class_ 108), (1, u "java/lang/Enum$EnumDesc"), (2, .class_ 112), (0, u "java/lang/constant/Constable"), (0, .class_ 114), (0, u "java/lang/Comparable"), (0, .class_ 116), (0, u "java/io/Serializable")] 87

/-- java/lang/Enum -/
def k9 : Class := { plain "java/lang/Enum" (some 0) with
  accessFlags := 1057
  interfaces := #[5, 3, 2]
  cf := some (fileOf pool9 2 #[.nestMembers #[106]] #[] 1057 12 #[111, 113, 115] #[{ accessFlags := 18, nameIndex := 5, descriptorIndex := 6, attributes := #[] }, { accessFlags := 18, nameIndex := 9, descriptorIndex := 10, attributes := #[] }, { accessFlags := 2, nameIndex := 19, descriptorIndex := 10, attributes := #[] }])
  fields := #[{ name := "name", type := (.object "java/lang/String"), accessFlags := 18, slot := 0, constantValue := 0 }, { name := "ordinal", type := .int, accessFlags := 18, slot := 1, constantValue := 0 }, { name := "hash", type := .int, accessFlags := 2, slot := 2, constantValue := 0 }]
  methods := #[]
  instanceTypes := #[(.object "java/lang/String"), .int, .int]
  staticTypes := #[]
  resolved := Array.replicate 204 none
  statics := none }

def pool10 : Array CpInfo := pool [(1, .class_ 2), (0, u "com/example/fyfo/fyfo/JobStatus"), (2, u "PLANNED"), (0, u "Lcom/example/fyfo/fyfo/JobStatus;"), (2, u "TRIGGERED"), (2, u "EXECUTED"), (2, u "FAILED"), (2, u "$VALUES"), (0, u "[Lcom/example/fyfo/fyfo/JobStatus;"), (6, .class_ 28), (1, u "java/lang/Enum")] 43

/-- com/example/fyfo/fyfo/JobStatus -/
def k10 : Class := { plain "com/example/fyfo/fyfo/JobStatus" (some 9) with
  accessFlags := 16432
  interfaces := #[]
  cf := some (fileOf pool10 1 #[] #[] 16432 26 #[] #[{ accessFlags := 16409, nameIndex := 5, descriptorIndex := 6, attributes := #[] }, { accessFlags := 16409, nameIndex := 9, descriptorIndex := 6, attributes := #[] }, { accessFlags := 16409, nameIndex := 12, descriptorIndex := 6, attributes := #[] }, { accessFlags := 16409, nameIndex := 15, descriptorIndex := 6, attributes := #[] }, { accessFlags := 4122, nameIndex := 18, descriptorIndex := 19, attributes := #[] }])
  fields := #[{ name := "PLANNED", type := (.object "com/example/fyfo/fyfo/JobStatus"), accessFlags := 16409, slot := 0, constantValue := 0 }, { name := "TRIGGERED", type := (.object "com/example/fyfo/fyfo/JobStatus"), accessFlags := 16409, slot := 1, constantValue := 0 }, { name := "EXECUTED", type := (.object "com/example/fyfo/fyfo/JobStatus"), accessFlags := 16409, slot := 2, constantValue := 0 }, { name := "FAILED", type := (.object "com/example/fyfo/fyfo/JobStatus"), accessFlags := 16409, slot := 3, constantValue := 0 }, { name := "$VALUES", type := (.array (.object "com/example/fyfo/fyfo/JobStatus")), accessFlags := 4122, slot := 4, constantValue := 0 }]
  methods := #[]
  instanceTypes := #[(.object "java/lang/String"), .int, .int]
  staticTypes := #[(.object "com/example/fyfo/fyfo/JobStatus"), (.object "com/example/fyfo/fyfo/JobStatus"), (.object "com/example/fyfo/fyfo/JobStatus"), (.object "com/example/fyfo/fyfo/JobStatus"), (.array (.object "com/example/fyfo/fyfo/JobStatus"))]
  resolved := Array.replicate 72 none
  statics := some 1 }

def pool11 : Array CpInfo := pool [(1, .methodref 2 3), (0, .class_ 4), (0, .nameAndType 5 6), (0, u "java/lang/Object"), (0, u "<init>"), (0, u "()V"), (0, .class_ 8), (0, u "java/lang/Record")] 13

def k11c0 : Code := { maxStack := 1, maxLocals := 1, code := jdk_30_method_1_code, exceptionTable := #[], attributes := #[] }
def k11m0 : Method := { name := "<init>", desc := "()V", sig := { parameters := [], returnType := none }, accessFlags := 4, code := some k11c0 }
/-- java/lang/Record -/
def k11 : Class := { plain "java/lang/Record" (some 0) with
  accessFlags := 1057
  interfaces := #[]
  cf := some (fileOf pool11 7 #[] #[{ accessFlags := 4, nameIndex := 5, descriptorIndex := 6, attributes := #[] }] 1057 2 #[] #[])
  fields := #[]
  methods := #[k11m0]
  instanceTypes := #[]
  staticTypes := #[]
  resolved := Array.replicate 22 none
  statics := none }

def pool12 : Array CpInfo := pool [(1, .methodref 2 3), (0, .class_ 4), (0, .nameAndType 5 6), (0, u "java/lang/Record"), (0, u "<init>"), (0, u "()V"), (0, .string 8), (0, u "id"), (0, .methodref 10 11), (0, .class_ 12), (0, .nameAndType 13 14), (0, u "java/util/Objects"), (0, u "requireNonNull"), (0, u "(Ljava/lang/Object;Ljava/lang/String;)Ljava/lang/Object;"), (0, .string 16), (0, u "status"), (0, .fieldref 18 19), (0, .class_ 20), (0, .nameAndType 8 21), (0, u "com/example/fyfo/fyfo/Job"), (0, u "Ljava/lang/String;"), (0, .fieldref 18 23), (0, .nameAndType 24 25), (0, u "executionNanos"), (0, u "J"), (0, .fieldref 18 27), (0, .nameAndType 16 28), (0, u "Lcom/example/fyfo/fyfo/JobStatus;"), (0, .methodref 18 30), (0, .nameAndType 5 31), (0, u "(Ljava/lang/String;JLcom/example/fyfo/fyfo/JobStatus;)V"), (15, u "withStatus"), (0, u "(Lcom/example/fyfo/fyfo/JobStatus;)Lcom/example/fyfo/fyfo/Job;"), (0, u "()Ljava/lang/String;"), (2, u "()J"), (0, u "()Lcom/example/fyfo/fyfo/JobStatus;")] 22

def k12c0 : Code := { maxStack := 3, maxLocals := 5, code := prog_10_method_1_code, exceptionTable := #[], attributes := #[] }
def k12m0 : Method := { name := "<init>", desc := "(Ljava/lang/String;JLcom/example/fyfo/fyfo/JobStatus;)V", sig := { parameters := [(.object "java/lang/String"), .long, (.object "com/example/fyfo/fyfo/JobStatus")], returnType := none }, accessFlags := 0, code := some k12c0 }
def k12c1 : Code := { maxStack := 6, maxLocals := 2, code := prog_10_method_2_code, exceptionTable := #[], attributes := #[] }
def k12m1 : Method := { name := "withStatus", desc := "(Lcom/example/fyfo/fyfo/JobStatus;)Lcom/example/fyfo/fyfo/Job;", sig := { parameters := [(.object "com/example/fyfo/fyfo/JobStatus")], returnType := some (.object "com/example/fyfo/fyfo/Job") }, accessFlags := 0, code := some k12c1 }
def k12c2 : Code := { maxStack := 1, maxLocals := 1, code := prog_10_method_6_code, exceptionTable := #[], attributes := #[] }
def k12m2 : Method := { name := "id", desc := "()Ljava/lang/String;", sig := { parameters := [], returnType := some (.object "java/lang/String") }, accessFlags := 1, code := some k12c2 }
def k12c3 : Code := { maxStack := 2, maxLocals := 1, code := prog_10_method_7_code, exceptionTable := #[], attributes := #[] }
def k12m3 : Method := { name := "executionNanos", desc := "()J", sig := { parameters := [], returnType := some .long }, accessFlags := 1, code := some k12c3 }
def k12c4 : Code := { maxStack := 1, maxLocals := 1, code := prog_10_method_8_code, exceptionTable := #[], attributes := #[] }
def k12m4 : Method := { name := "status", desc := "()Lcom/example/fyfo/fyfo/JobStatus;", sig := { parameters := [], returnType := some (.object "com/example/fyfo/fyfo/JobStatus") }, accessFlags := 1, code := some k12c4 }
/-- com/example/fyfo/fyfo/Job -/
def k12 : Class := { plain "com/example/fyfo/fyfo/Job" (some 11) with
  accessFlags := 48
  interfaces := #[]
  cf := some (fileOf pool12 18 #[] #[{ accessFlags := 0, nameIndex := 5, descriptorIndex := 31, attributes := #[] }, { accessFlags := 0, nameIndex := 47, descriptorIndex := 48, attributes := #[] }, { accessFlags := 1, nameIndex := 8, descriptorIndex := 49, attributes := #[] }, { accessFlags := 1, nameIndex := 24, descriptorIndex := 52, attributes := #[] }, { accessFlags := 1, nameIndex := 16, descriptorIndex := 53, attributes := #[] }] 48 2 #[] #[{ accessFlags := 18, nameIndex := 8, descriptorIndex := 21, attributes := #[] }, { accessFlags := 18, nameIndex := 24, descriptorIndex := 25, attributes := #[] }, { accessFlags := 18, nameIndex := 16, descriptorIndex := 28, attributes := #[] }])
  fields := #[{ name := "id", type := (.object "java/lang/String"), accessFlags := 18, slot := 0, constantValue := 0 }, { name := "executionNanos", type := .long, accessFlags := 18, slot := 1, constantValue := 0 }, { name := "status", type := (.object "com/example/fyfo/fyfo/JobStatus"), accessFlags := 18, slot := 2, constantValue := 0 }]
  methods := #[k12m0, k12m1, k12m2, k12m3, k12m4]
  instanceTypes := #[(.object "java/lang/String"), .long, (.object "com/example/fyfo/fyfo/JobStatus")]
  staticTypes := #[]
  resolved := Array.replicate 76 none
  statics := none }

def pool13 : Array CpInfo := pool [(2, .class_ 4), (1, u "java/lang/Object"), (0, u "<init>"), (0, u "()V"), (35, .class_ 44), (1, u "java/util/Objects"), (0, u "requireNonNull"), (48, u "(Ljava/lang/Object;Ljava/lang/String;)Ljava/lang/Object;")] 89

def k13m0 : Method := { name := "<init>", desc := "()V", sig := { parameters := [], returnType := none }, accessFlags := 2, code := none }
def k13c1 : Code := { maxStack := 3, maxLocals := 2, code := jdk_31_method_11_code, exceptionTable := #[], attributes := #[] }
def k13m1 : Method := { name := "requireNonNull", desc := "(Ljava/lang/Object;Ljava/lang/String;)Ljava/lang/Object;", sig := { parameters := [(.object "java/lang/Object"), (.object "java/lang/String")], returnType := some (.object "java/lang/Object") }, accessFlags := 9, code := some k13c1 }
/-- java/util/Objects -/
def k13 : Class := { plain "java/util/Objects" (some 0) with
  accessFlags := 49
  interfaces := #[]
  cf := some (fileOf pool13 42 #[] #[{ accessFlags := 2, nameIndex := 5, descriptorIndex := 6, attributes := #[] }, { accessFlags := 9, nameIndex := 45, descriptorIndex := 94, attributes := #[] }] 49 2 #[] #[])
  fields := #[]
  methods := #[k13m0, k13m1]
  instanceTypes := #[]
  staticTypes := #[]
  resolved := Array.replicate 184 none
  statics := none }

def pool14 : Array CpInfo := pool [(4, .class_ 6), (1, u "java/lang/Object"), (0, u "<init>"), (0, u "()V"), (5, .class_ 16), (1, u "java/lang/StringLatin1"), (73, u "canEncode"), (14, u "(C)Z"), (15, u "$assertionsDisabled"), (0, u "Z"), (98, .class_ 223), (1, u "java/lang/StringLatin1$LinesSpliterator"), (156, u "toBytes"), (1, u "(C)[B"), (7, .class_ 391), (0, u "java/lang/StringLatin1$CharsSpliterator")] 3

def k14m0 : Method := { name := "<init>", desc := "()V", sig := { parameters := [], returnType := none }, accessFlags := 0, code := none }
def k14c1 : Code := { maxStack := 2, maxLocals := 1, code := jdk_43_method_3_code, exceptionTable := #[], attributes := #[] }
def k14m1 : Method := { name := "canEncode", desc := "(C)Z", sig := { parameters := [.char], returnType := some .boolean }, accessFlags := 9, code := some k14c1 }
def k14c2 : Code := { maxStack := 4, maxLocals := 1, code := jdk_43_method_46_code, exceptionTable := #[], attributes := #[] }
def k14m2 : Method := { name := "toBytes", desc := "(C)[B", sig := { parameters := [.char], returnType := some (.array .byte) }, accessFlags := 9, code := some k14c2 }
/-- java/lang/StringLatin1 -/
def k14 : Class := { plain "java/lang/StringLatin1" (some 0) with
  accessFlags := 48
  interfaces := #[]
  cf := some (fileOf pool14 14 #[.nestMembers #[390, 221]] #[{ accessFlags := 0, nameIndex := 7, descriptorIndex := 8, attributes := #[] }, { accessFlags := 9, nameIndex := 90, descriptorIndex := 105, attributes := #[] }, { accessFlags := 9, nameIndex := 380, descriptorIndex := 382, attributes := #[] }] 48 4 #[] #[{ accessFlags := 4120, nameIndex := 121, descriptorIndex := 122, attributes := #[] }])
  fields := #[{ name := "$assertionsDisabled", type := .boolean, accessFlags := 4120, slot := 0, constantValue := 0 }]
  methods := #[k14m0, k14m1, k14m2]
  instanceTypes := #[]
  staticTypes := #[.boolean]
  resolved := Array.replicate 395 none
  statics := none }

def pool15 : Array CpInfo := pool [(2, .class_ 4), (1, u "java/lang/Object"), (0, u "<init>"), (0, u "()V"), (17, .class_ 26), (1, u "jdk/internal/util/Preconditions"), (28, .class_ 56), (0, u "jdk/internal/util/Preconditions$4"), (57, .class_ 115), (0, u "jdk/internal/util/Preconditions$1"), (7, u "SIOOBE_FORMATTER"), (0, u "Ljava/util/function/BiFunction;"), (0, .class_ 126), (0, u "jdk/internal/util/Preconditions$2"), (3, u "AIOOBE_FORMATTER"), (0, .class_ 132), (0, u "jdk/internal/util/Preconditions$3"), (3, u "IOOBE_FORMATTER")] 57

def k15m0 : Method := { name := "<init>", desc := "()V", sig := { parameters := [], returnType := none }, accessFlags := 1, code := none }
/-- jdk/internal/util/Preconditions -/
def k15 : Class := { plain "jdk/internal/util/Preconditions" (some 0) with
  accessFlags := 33
  interfaces := #[]
  cf := some (fileOf pool15 24 #[.nestMembers #[55, 131, 125, 114]] #[{ accessFlags := 1, nameIndex := 5, descriptorIndex := 6, attributes := #[] }] 33 2 #[] #[{ accessFlags := 25, nameIndex := 123, descriptorIndex := 124, attributes := #[] }, { accessFlags := 25, nameIndex := 130, descriptorIndex := 124, attributes := #[] }, { accessFlags := 25, nameIndex := 136, descriptorIndex := 124, attributes := #[] }])
  fields := #[{ name := "SIOOBE_FORMATTER", type := (.object "java/util/function/BiFunction"), accessFlags := 25, slot := 0, constantValue := 0 }, { name := "AIOOBE_FORMATTER", type := (.object "java/util/function/BiFunction"), accessFlags := 25, slot := 1, constantValue := 0 }, { name := "IOOBE_FORMATTER", type := (.object "java/util/function/BiFunction"), accessFlags := 25, slot := 2, constantValue := 0 }]
  methods := #[k15m0]
  instanceTypes := #[]
  staticTypes := #[(.object "java/util/function/BiFunction"), (.object "java/util/function/BiFunction"), (.object "java/util/function/BiFunction")]
  resolved := Array.replicate 194 none
  statics := some 2 }

def pool16 : Array CpInfo := pool [(9, u "<init>"), (6, .class_ 18), (1, u "java/lang/Object"), (0, u "()V"), (1, .class_ 23), (1, u "jdk/internal/util/ArraysSupport"), (0, u "LOG2_ARRAY_LONG_INDEX_SCALE"), (0, u "I"), (2, u "U"), (0, u "Ljdk/internal/misc/Unsafe;"), (8, u "BIG_ENDIAN"), (0, u "Z"), (8, u "LOG2_BYTE_BIT_SIZE"), (4, u "LOG2_ARRAY_INT_INDEX_SCALE"), (54, u "JLA"), (0, u "Ljdk/internal/access/JavaLangAccess;"), (11, u "LOG2_ARRAY_BOOLEAN_INDEX_SCALE"), (9, u "LOG2_ARRAY_BYTE_INDEX_SCALE"), (5, u "LOG2_ARRAY_CHAR_INDEX_SCALE"), (5, u "LOG2_ARRAY_SHORT_INDEX_SCALE"), (18, u "LOG2_ARRAY_FLOAT_INDEX_SCALE"), (24, u "LOG2_ARRAY_DOUBLE_INDEX_SCALE"), (89, u "T_BOOLEAN"), (2, u "T_CHAR"), (1, u "T_FLOAT"), (1, u "T_DOUBLE"), (1, u "T_BYTE"), (1, u "T_SHORT"), (1, u "T_INT"), (1, u "T_LONG"), (1, u "SOFT_MAX_ARRAY_LENGTH")] 83

def k16m0 : Method := { name := "<init>", desc := "()V", sig := { parameters := [], returnType := none }, accessFlags := 2, code := none }
/-- jdk/internal/util/ArraysSupport -/
def k16 : Class := { plain "jdk/internal/util/ArraysSupport" (some 0) with
  accessFlags := 33
  interfaces := #[]
  cf := some (fileOf pool16 21 #[] #[{ accessFlags := 2, nameIndex := 9, descriptorIndex := 19, attributes := #[] }] 33 16 #[] #[{ accessFlags := 24, nameIndex := 28, descriptorIndex := 29, attributes := #[] }, { accessFlags := 26, nameIndex := 38, descriptorIndex := 39, attributes := #[] }, { accessFlags := 25, nameIndex := 121, descriptorIndex := 25, attributes := #[] }, { accessFlags := 25, nameIndex := 131, descriptorIndex := 25, attributes := #[] }, { accessFlags := 25, nameIndex := 137, descriptorIndex := 25, attributes := #[] }, { accessFlags := 25, nameIndex := 143, descriptorIndex := 25, attributes := #[] }, { accessFlags := 25, nameIndex := 53, descriptorIndex := 25, attributes := #[] }, { accessFlags := 25, nameIndex := 24, descriptorIndex := 25, attributes := #[] }, { accessFlags := 25, nameIndex := 162, descriptorIndex := 25, attributes := #[] }, { accessFlags := 25, nameIndex := 187, descriptorIndex := 25, attributes := #[] }, { accessFlags := 26, nameIndex := 48, descriptorIndex := 25, attributes := #[] }, { accessFlags := 25, nameIndex := 277, descriptorIndex := 25, attributes := #[] }, { accessFlags := 25, nameIndex := 280, descriptorIndex := 25, attributes := #[] }, { accessFlags := 25, nameIndex := 282, descriptorIndex := 25, attributes := #[] }, { accessFlags := 25, nameIndex := 284, descriptorIndex := 25, attributes := #[] }, { accessFlags := 25, nameIndex := 286, descriptorIndex := 25, attributes := #[] }, { accessFlags := 25, nameIndex := 288, descriptorIndex := 25, attributes := #[] }, { accessFlags := 25, nameIndex := 290, descriptorIndex := 25, attributes := #[] }, { accessFlags := 25, nameIndex := 292, descriptorIndex := 25, attributes := #[] }, { accessFlags := 26, nameIndex := 108, descriptorIndex := 109, attributes := #[] }, { accessFlags := 25, nameIndex := 294, descriptorIndex := 25, attributes := #[] }])
  fields := #[{ name := "U", type := (.object "jdk/internal/misc/Unsafe"), accessFlags := 24, slot := 0, constantValue := 0 }, { name := "BIG_ENDIAN", type := .boolean, accessFlags := 26, slot := 1, constantValue := 0 }, { name := "LOG2_ARRAY_BOOLEAN_INDEX_SCALE", type := .int, accessFlags := 25, slot := 2, constantValue := 0 }, { name := "LOG2_ARRAY_BYTE_INDEX_SCALE", type := .int, accessFlags := 25, slot := 3, constantValue := 0 }, { name := "LOG2_ARRAY_CHAR_INDEX_SCALE", type := .int, accessFlags := 25, slot := 4, constantValue := 0 }, { name := "LOG2_ARRAY_SHORT_INDEX_SCALE", type := .int, accessFlags := 25, slot := 5, constantValue := 0 }, { name := "LOG2_ARRAY_INT_INDEX_SCALE", type := .int, accessFlags := 25, slot := 6, constantValue := 0 }, { name := "LOG2_ARRAY_LONG_INDEX_SCALE", type := .int, accessFlags := 25, slot := 7, constantValue := 0 }, { name := "LOG2_ARRAY_FLOAT_INDEX_SCALE", type := .int, accessFlags := 25, slot := 8, constantValue := 0 }, { name := "LOG2_ARRAY_DOUBLE_INDEX_SCALE", type := .int, accessFlags := 25, slot := 9, constantValue := 0 }, { name := "LOG2_BYTE_BIT_SIZE", type := .int, accessFlags := 26, slot := 10, constantValue := 0 }, { name := "T_BOOLEAN", type := .int, accessFlags := 25, slot := 11, constantValue := 0 }, { name := "T_CHAR", type := .int, accessFlags := 25, slot := 12, constantValue := 0 }, { name := "T_FLOAT", type := .int, accessFlags := 25, slot := 13, constantValue := 0 }, { name := "T_DOUBLE", type := .int, accessFlags := 25, slot := 14, constantValue := 0 }, { name := "T_BYTE", type := .int, accessFlags := 25, slot := 15, constantValue := 0 }, { name := "T_SHORT", type := .int, accessFlags := 25, slot := 16, constantValue := 0 }, { name := "T_INT", type := .int, accessFlags := 25, slot := 17, constantValue := 0 }, { name := "T_LONG", type := .int, accessFlags := 25, slot := 18, constantValue := 0 }, { name := "JLA", type := (.object "jdk/internal/access/JavaLangAccess"), accessFlags := 26, slot := 19, constantValue := 0 }, { name := "SOFT_MAX_ARRAY_LENGTH", type := .int, accessFlags := 25, slot := 20, constantValue := 0 }]
  methods := #[k16m0]
  instanceTypes := #[]
  staticTypes := #[(.object "jdk/internal/misc/Unsafe"), .boolean, .int, .int, .int, .int, .int, .int, .int, .int, .int, .int, .int, .int, .int, .int, .int, .int, .int, (.object "jdk/internal/access/JavaLangAccess"), .int]
  resolved := Array.replicate 378 none
  statics := none }

def pool17 : Array CpInfo := pool [(1, u "java/lang/Cloneable"), (0, .class_ 1), (0, u "java/lang/Object"), (0, .class_ 3)] 3

/-- java/lang/Cloneable -/
def k17 : Class := { plain "java/lang/Cloneable" (some 0) with
  accessFlags := 1537
  interfaces := #[]
  cf := some (fileOf pool17 2 #[] #[] 1537 4 #[] #[])
  fields := #[]
  methods := #[]
  instanceTypes := #[]
  staticTypes := #[]
  resolved := Array.replicate 8 none
  statics := none }

/-- the primitive byte -/
def k18 : Class := { plain "byte" none with kind := .primitive 'B', accessFlags := 0x411 }
/-- [B -/
def k19 : Class := { plain "[B" (some 0) with kind := .array 18 .byte, interfaces := #[17, 2], accessFlags := 1041 }

/-- the primitive char -/
def k20 : Class := { plain "char" none with kind := .primitive 'C', accessFlags := 0x411 }
/-- [C -/
def k21 : Class := { plain "[C" (some 0) with kind := .array 20 .char, interfaces := #[17, 2], accessFlags := 1041 }

/-- the primitive int -/
def k22 : Class := { plain "int" none with kind := .primitive 'I', accessFlags := 0x411 }
/-- [I -/
def k23 : Class := { plain "[I" (some 0) with kind := .array 22 .int, interfaces := #[17, 2], accessFlags := 1041 }

def heap : Heap := #[{ cls := 7, slots := #[.long 0, .int 1, .null, .int 0, .null, .int 0, .int 0], vm := .statics 7 },
  { cls := 10, slots := #[.ref 4, .ref 3, .ref 6, .ref 5, .null], vm := .statics 10 },
  { cls := 15, slots := #[.null, .null, .null], vm := .statics 15 },
  { cls := 10, slots := #[.null, .int 0, .int 0], vm := .none },
  { cls := 10, slots := #[.null, .int 0, .int 0], vm := .none },
  { cls := 10, slots := #[.null, .int 0, .int 0], vm := .none },
  { cls := 10, slots := #[.null, .int 0, .int 0], vm := .none }]
def classes : Array Class := #[k0, k1, k2, k3, k4, k5, k6, k7, k8, k9, k10, k11, k12, k13, k14, k15, k16, k17, k18, k19, k20, k21, k22, k23]
def interned : List (Array UInt16 × Addr) := []
def slotsUsed : Nat := 27
def theMethod : MethodId := ⟨1, 2⟩
def args0 : Array Value := #[.int 5, .long 5, .int 5, .int 5]
def aboutOver (below : List Frame) : State where
  vm := { classes := classes, interned := interned.toArray }
  heap := heap
  slotsUsed := slotsUsed
  threads := #[{ frames := .invoking theMethod args0 :: below }]
def below0 : List Frame := [.native { method := ⟨0, 0⟩, args := #[] }]
def about1 : State := aboutOver below0
def p0 : Program := .bare "" "" ""
def e0 : Env := launch0.env 0 0 0
theorem w_frames : about1.frames = Frame.invoking theMethod args0 :: below0 := rfl
set_option maxRecDepth 65536 in
theorem w_args : argsFit about1.vm theMethod args0 = true := by decide +kernel
set_option maxRecDepth 65536 in
theorem w_heap : heapFits about1 = true := by decide +kernel
set_option maxRecDepth 65536 in
theorem w_runnable : about1.curStatus? = some .runnable := by decide +kernel
set_option maxRecDepth 65536 in
theorem w_alone : about1.alone = true := by decide +kernel
set_option maxRecDepth 65536 in
theorem w_named : about1.methodNamed? x = some theMethod := by decide +kernel
set_option maxRecDepth 65536 in
theorem w_hears : about1.hears theMethod below0 = true := by decide +kernel
set_option maxRecDepth 65536 in
theorem w_ripe : about1.ripe theMethod args0 below0 = true := by decide +kernel
theorem w_running : about1.status = .running := rfl
set_option maxRecDepth 65536 in
theorem w_room : about1.hasRoom e0.platform room_1 = true :=
  launch0.hasRoom_least _ room_1 (by decide +kernel) (by decide +kernel) (by decide +kernel) (by decide +kernel) (by decide +kernel) (by decide +kernel)
theorem allAtoms_all (ts : List Jvm.Cond) (a : Array Jvm.Value) (st : Jvm.State) : (allAtoms ts).before a st = ts.all (fun c => c.before a st) := by
  induction ts with
  | nil => rfl
  | cons c t ih =>
    show (Jvm.Cond.and c (allAtoms t)).before a st = _
    rw [Jvm.Cond.before_and, ih, List.all_cons]
def words1 : List Jvm.Cond := Jvm.Cond.code x code maxLocals ret :: tables_1
/-- a 'code' word, met by the world's own term for the bytes: nothing is compared byte by byte -/
theorem code_word {y : MethodName} {bytes : ByteArray} {mx : Nat} {rt : Option FieldType} {a : Array Value} {s : State} {m : MethodId} {meth : Method} {c : Code} (h1 : s.methodNamed? y = some m) (h2 : s.vm.method? m = some meth) (h3 : meth.code = some c) (h4 : c.code = bytes)
    (h5 : (c.maxLocals == mx && c.exceptionTable.isEmpty && decide (c.maxStack ≤ mostOperands) && decide (meth.sig.returnType = rt) && !meth.locks && decide (parseMethodDescriptor y.desc = some meth.sig)) = true) : (Jvm.Cond.code y bytes mx rt).before a s = true := by
  simp only [Bool.and_eq_true, beq_iff_eq, Bool.not_eq_true', decide_eq_true_eq] at h5
  obtain ⟨⟨⟨⟨⟨g1, g2⟩, g3⟩, g4⟩, g5⟩, g6⟩ := h5
  simp [Cond.before, Cond.holds, Cond.value, h1, h2, h3, h4, g1, g2, g3, g4, g5, g6]
def isCode : Jvm.Cond → Bool
  | .code _ _ _ _ => true
  | _ => false
theorem all_split {L : List Jvm.Cond} {P : Jvm.Cond → Bool} (h1 : L.all (fun c => isCode c || P c) = true) (h2 : ∀ c ∈ L.filter isCode, P c = true) : L.all P = true := by
  refine List.all_eq_true.mpr fun c hc => ?_
  have h := List.all_eq_true.mp h1 c hc
  rcases Bool.eq_false_or_eq_true (isCode c) with hi | hi
  · exact h2 c (List.mem_filter.mpr ⟨hc, hi⟩)
  · simpa [hi] using h
set_option maxRecDepth 65536 in
theorem w_c0 : (Jvm.Cond.code x code maxLocals ret).before args0 about1 = true := code_word (m := ⟨1, 2⟩) (meth := k1m2) (c := k1c2) (by decide +kernel) rfl rfl rfl (by decide +kernel)
set_option maxRecDepth 65536 in
theorem w_c1 : (Jvm.Cond.code ({ cls := "java/lang/String", name := "<init>", desc := "([C)V" } : Jvm.MethodName) jdk_42_method_3_code (2 : Nat) (Option.none : Option Jvm.ClassFile.FieldType)).before args0 about1 = true := code_word (m := ⟨7, 1⟩) (meth := k7m1) (c := k7c1) (by decide +kernel) rfl rfl rfl (by decide +kernel)
set_option maxRecDepth 65536 in
theorem w_c2 : (Jvm.Cond.code ({ cls := "java/lang/String", name := "<init>", desc := "([CIILjava/lang/Void;)V" } : Jvm.MethodName) jdk_42_method_149_code (6 : Nat) (Option.none : Option Jvm.ClassFile.FieldType)).before args0 about1 = true := code_word (m := ⟨7, 4⟩) (meth := k7m4) (c := k7c4) (by decide +kernel) rfl rfl rfl (by decide +kernel)
set_option maxRecDepth 65536 in
theorem w_c3 : (Jvm.Cond.code ({ cls := "java/lang/Object", name := "<init>", desc := "()V" } : Jvm.MethodName) object_method_1_code (1 : Nat) (Option.none : Option Jvm.ClassFile.FieldType)).before args0 about1 = true := code_word (m := ⟨0, 0⟩) (meth := k0m0) (c := k0c0) (by decide +kernel) rfl rfl rfl (by decide +kernel)
set_option maxRecDepth 65536 in
theorem w_c4 : (Jvm.Cond.code ({ cls := "java/lang/StringUTF16", name := "compress", desc := "([CII)[B" } : Jvm.MethodName) jdk_52_method_16_code (6 : Nat) (Option.some (Jvm.ClassFile.FieldType.array Jvm.ClassFile.FieldType.byte))).before args0 about1 = true := code_word (m := ⟨8, 2⟩) (meth := k8m2) (c := k8c2) (by decide +kernel) rfl rfl rfl (by decide +kernel)
set_option maxRecDepth 65536 in
theorem w_c5 : (Jvm.Cond.code ({ cls := "java/lang/StringUTF16", name := "compress", desc := "([CI[BII)I" } : Jvm.MethodName) jdk_52_method_21_code (7 : Nat) (Option.some Jvm.ClassFile.FieldType.int)).before args0 about1 = true := code_word (m := ⟨8, 3⟩) (meth := k8m3) (c := k8c3) (by decide +kernel) rfl rfl rfl (by decide +kernel)
set_option maxRecDepth 65536 in
theorem w_c6 : (Jvm.Cond.code ({ cls := "java/lang/StringUTF16", name := "coderFromArrayLen", desc := "([BI)B" } : Jvm.MethodName) jdk_52_method_15_code (2 : Nat) (Option.some Jvm.ClassFile.FieldType.byte)).before args0 about1 = true := code_word (m := ⟨8, 1⟩) (meth := k8m1) (c := k8c1) (by decide +kernel) rfl rfl rfl (by decide +kernel)
set_option maxRecDepth 65536 in
theorem w_c7 : (Jvm.Cond.code ({ cls := "com/example/fyfo/fyfo/JobWithStatusPinLaw", name := "pick", desc := "(I)Lcom/example/fyfo/fyfo/JobStatus;" } : Jvm.MethodName) method_2_code (2 : Nat) (Option.some (Jvm.ClassFile.FieldType.object "com/example/fyfo/fyfo/JobStatus"))).before args0 about1 = true := code_word (m := ⟨1, 1⟩) (meth := k1m1) (c := k1c1) (by decide +kernel) rfl rfl rfl (by decide +kernel)
set_option maxRecDepth 65536 in
theorem w_c8 : (Jvm.Cond.code ({ cls := "com/example/fyfo/fyfo/Job", name := "<init>", desc := "(Ljava/lang/String;JLcom/example/fyfo/fyfo/JobStatus;)V" } : Jvm.MethodName) prog_10_method_1_code (5 : Nat) (Option.none : Option Jvm.ClassFile.FieldType)).before args0 about1 = true := code_word (m := ⟨12, 0⟩) (meth := k12m0) (c := k12c0) (by decide +kernel) rfl rfl rfl (by decide +kernel)
set_option maxRecDepth 65536 in
theorem w_c9 : (Jvm.Cond.code ({ cls := "java/lang/Record", name := "<init>", desc := "()V" } : Jvm.MethodName) jdk_30_method_1_code (1 : Nat) (Option.none : Option Jvm.ClassFile.FieldType)).before args0 about1 = true := code_word (m := ⟨11, 0⟩) (meth := k11m0) (c := k11c0) (by decide +kernel) rfl rfl rfl (by decide +kernel)
set_option maxRecDepth 65536 in
theorem w_c10 : (Jvm.Cond.code ({ cls := "java/util/Objects", name := "requireNonNull", desc := "(Ljava/lang/Object;Ljava/lang/String;)Ljava/lang/Object;" } : Jvm.MethodName) jdk_31_method_11_code (2 : Nat) (Option.some (Jvm.ClassFile.FieldType.object "java/lang/Object"))).before args0 about1 = true := code_word (m := ⟨13, 1⟩) (meth := k13m1) (c := k13c1) (by decide +kernel) rfl rfl rfl (by decide +kernel)
set_option maxRecDepth 65536 in
theorem w_c11 : (Jvm.Cond.code ({ cls := "com/example/fyfo/fyfo/Job", name := "withStatus", desc := "(Lcom/example/fyfo/fyfo/JobStatus;)Lcom/example/fyfo/fyfo/Job;" } : Jvm.MethodName) prog_10_method_2_code (2 : Nat) (Option.some (Jvm.ClassFile.FieldType.object "com/example/fyfo/fyfo/Job"))).before args0 about1 = true := code_word (m := ⟨12, 1⟩) (meth := k12m1) (c := k12c1) (by decide +kernel) rfl rfl rfl (by decide +kernel)
set_option maxRecDepth 65536 in
theorem w_c12 : (Jvm.Cond.code ({ cls := "com/example/fyfo/fyfo/Job", name := "id", desc := "()Ljava/lang/String;" } : Jvm.MethodName) prog_10_method_6_code (1 : Nat) (Option.some (Jvm.ClassFile.FieldType.object "java/lang/String"))).before args0 about1 = true := code_word (m := ⟨12, 2⟩) (meth := k12m2) (c := k12c2) (by decide +kernel) rfl rfl rfl (by decide +kernel)
set_option maxRecDepth 65536 in
theorem w_c13 : (Jvm.Cond.code ({ cls := "java/lang/String", name := "equals", desc := "(Ljava/lang/Object;)Z" } : Jvm.MethodName) jdk_42_method_66_code (3 : Nat) (Option.some Jvm.ClassFile.FieldType.boolean)).before args0 about1 = true := code_word (m := ⟨7, 2⟩) (meth := k7m2) (c := k7c2) (by decide +kernel) rfl rfl rfl (by decide +kernel)
set_option maxRecDepth 65536 in
theorem w_c14 : (Jvm.Cond.code ({ cls := "com/example/fyfo/fyfo/Job", name := "executionNanos", desc := "()J" } : Jvm.MethodName) prog_10_method_7_code (1 : Nat) (Option.some Jvm.ClassFile.FieldType.long)).before args0 about1 = true := code_word (m := ⟨12, 3⟩) (meth := k12m3) (c := k12c3) (by decide +kernel) rfl rfl rfl (by decide +kernel)
set_option maxRecDepth 65536 in
theorem w_c15 : (Jvm.Cond.code ({ cls := "com/example/fyfo/fyfo/Job", name := "status", desc := "()Lcom/example/fyfo/fyfo/JobStatus;" } : Jvm.MethodName) prog_10_method_8_code (1 : Nat) (Option.some (Jvm.ClassFile.FieldType.object "com/example/fyfo/fyfo/JobStatus"))).before args0 about1 = true := code_word (m := ⟨12, 4⟩) (meth := k12m4) (c := k12c4) (by decide +kernel) rfl rfl rfl (by decide +kernel)
set_option maxRecDepth 65536 in
theorem w_c16 : (Jvm.Cond.code ({ cls := "java/lang/String", name := "valueOf", desc := "(C)Ljava/lang/String;" } : Jvm.MethodName) jdk_42_method_139_code (1 : Nat) (Option.some (Jvm.ClassFile.FieldType.object "java/lang/String"))).before args0 about1 = true := code_word (m := ⟨7, 3⟩) (meth := k7m3) (c := k7c3) (by decide +kernel) rfl rfl rfl (by decide +kernel)
set_option maxRecDepth 65536 in
theorem w_c17 : (Jvm.Cond.code ({ cls := "java/lang/StringLatin1", name := "canEncode", desc := "(C)Z" } : Jvm.MethodName) jdk_43_method_3_code (1 : Nat) (Option.some Jvm.ClassFile.FieldType.boolean)).before args0 about1 = true := code_word (m := ⟨14, 1⟩) (meth := k14m1) (c := k14c1) (by decide +kernel) rfl rfl rfl (by decide +kernel)
set_option maxRecDepth 65536 in
theorem w_c18 : (Jvm.Cond.code ({ cls := "java/lang/StringLatin1", name := "toBytes", desc := "(C)[B" } : Jvm.MethodName) jdk_43_method_46_code (1 : Nat) (Option.some (Jvm.ClassFile.FieldType.array Jvm.ClassFile.FieldType.byte))).before args0 about1 = true := code_word (m := ⟨14, 2⟩) (meth := k14m2) (c := k14c2) (by decide +kernel) rfl rfl rfl (by decide +kernel)
set_option maxRecDepth 65536 in
theorem w_c19 : (Jvm.Cond.code ({ cls := "java/lang/String", name := "<init>", desc := "([BB)V" } : Jvm.MethodName) jdk_42_method_151_code (3 : Nat) (Option.none : Option Jvm.ClassFile.FieldType)).before args0 about1 = true := code_word (m := ⟨7, 5⟩) (meth := k7m5) (c := k7c5) (by decide +kernel) rfl rfl rfl (by decide +kernel)
def codes1 : List Jvm.Cond := [Jvm.Cond.code x code maxLocals ret, Jvm.Cond.code ({ cls := "java/lang/String", name := "<init>", desc := "([C)V" } : Jvm.MethodName) jdk_42_method_3_code (2 : Nat) (Option.none : Option Jvm.ClassFile.FieldType), Jvm.Cond.code ({ cls := "java/lang/String", name := "<init>", desc := "([CIILjava/lang/Void;)V" } : Jvm.MethodName) jdk_42_method_149_code (6 : Nat) (Option.none : Option Jvm.ClassFile.FieldType), Jvm.Cond.code ({ cls := "java/lang/Object", name := "<init>", desc := "()V" } : Jvm.MethodName) object_method_1_code (1 : Nat) (Option.none : Option Jvm.ClassFile.FieldType), Jvm.Cond.code ({ cls := "java/lang/StringUTF16", name := "compress", desc := "([CII)[B" } : Jvm.MethodName) jdk_52_method_16_code (6 : Nat) (Option.some (Jvm.ClassFile.FieldType.array Jvm.ClassFile.FieldType.byte)), Jvm.Cond.code ({ cls := "java/lang/StringUTF16", name := "compress", desc := "([CI[BII)I" } : Jvm.MethodName) jdk_52_method_21_code (7 : Nat) (Option.some Jvm.ClassFile.FieldType.int), Jvm.Cond.code ({ cls := "java/lang/StringUTF16", name := "coderFromArrayLen", desc := "([BI)B" } : Jvm.MethodName) jdk_52_method_15_code (2 : Nat) (Option.some Jvm.ClassFile.FieldType.byte), Jvm.Cond.code ({ cls := "com/example/fyfo/fyfo/JobWithStatusPinLaw", name := "pick", desc := "(I)Lcom/example/fyfo/fyfo/JobStatus;" } : Jvm.MethodName) method_2_code (2 : Nat) (Option.some (Jvm.ClassFile.FieldType.object "com/example/fyfo/fyfo/JobStatus")), Jvm.Cond.code ({ cls := "com/example/fyfo/fyfo/Job", name := "<init>", desc := "(Ljava/lang/String;JLcom/example/fyfo/fyfo/JobStatus;)V" } : Jvm.MethodName) prog_10_method_1_code (5 : Nat) (Option.none : Option Jvm.ClassFile.FieldType), Jvm.Cond.code ({ cls := "java/lang/Record", name := "<init>", desc := "()V" } : Jvm.MethodName) jdk_30_method_1_code (1 : Nat) (Option.none : Option Jvm.ClassFile.FieldType), Jvm.Cond.code ({ cls := "java/util/Objects", name := "requireNonNull", desc := "(Ljava/lang/Object;Ljava/lang/String;)Ljava/lang/Object;" } : Jvm.MethodName) jdk_31_method_11_code (2 : Nat) (Option.some (Jvm.ClassFile.FieldType.object "java/lang/Object")), Jvm.Cond.code ({ cls := "com/example/fyfo/fyfo/Job", name := "withStatus", desc := "(Lcom/example/fyfo/fyfo/JobStatus;)Lcom/example/fyfo/fyfo/Job;" } : Jvm.MethodName) prog_10_method_2_code (2 : Nat) (Option.some (Jvm.ClassFile.FieldType.object "com/example/fyfo/fyfo/Job")), Jvm.Cond.code ({ cls := "com/example/fyfo/fyfo/Job", name := "id", desc := "()Ljava/lang/String;" } : Jvm.MethodName) prog_10_method_6_code (1 : Nat) (Option.some (Jvm.ClassFile.FieldType.object "java/lang/String")), Jvm.Cond.code ({ cls := "java/lang/String", name := "equals", desc := "(Ljava/lang/Object;)Z" } : Jvm.MethodName) jdk_42_method_66_code (3 : Nat) (Option.some Jvm.ClassFile.FieldType.boolean), Jvm.Cond.code ({ cls := "com/example/fyfo/fyfo/Job", name := "executionNanos", desc := "()J" } : Jvm.MethodName) prog_10_method_7_code (1 : Nat) (Option.some Jvm.ClassFile.FieldType.long), Jvm.Cond.code ({ cls := "com/example/fyfo/fyfo/Job", name := "status", desc := "()Lcom/example/fyfo/fyfo/JobStatus;" } : Jvm.MethodName) prog_10_method_8_code (1 : Nat) (Option.some (Jvm.ClassFile.FieldType.object "com/example/fyfo/fyfo/JobStatus")), Jvm.Cond.code ({ cls := "java/lang/String", name := "valueOf", desc := "(C)Ljava/lang/String;" } : Jvm.MethodName) jdk_42_method_139_code (1 : Nat) (Option.some (Jvm.ClassFile.FieldType.object "java/lang/String")), Jvm.Cond.code ({ cls := "java/lang/StringLatin1", name := "canEncode", desc := "(C)Z" } : Jvm.MethodName) jdk_43_method_3_code (1 : Nat) (Option.some Jvm.ClassFile.FieldType.boolean), Jvm.Cond.code ({ cls := "java/lang/StringLatin1", name := "toBytes", desc := "(C)[B" } : Jvm.MethodName) jdk_43_method_46_code (1 : Nat) (Option.some (Jvm.ClassFile.FieldType.array Jvm.ClassFile.FieldType.byte)), Jvm.Cond.code ({ cls := "java/lang/String", name := "<init>", desc := "([BB)V" } : Jvm.MethodName) jdk_42_method_151_code (3 : Nat) (Option.none : Option Jvm.ClassFile.FieldType)]
set_option maxRecDepth 65536 in
theorem codes_eq : words1.filter isCode = codes1 := rfl
theorem w_codes : ∀ c ∈ words1.filter isCode, c.before args0 about1 = true := by
  rw [codes_eq]
  intro c hc
  simp only [codes1, List.mem_cons, List.not_mem_nil, or_false] at hc
  rcases hc with rfl | rfl | rfl | rfl | rfl | rfl | rfl | rfl | rfl | rfl | rfl | rfl | rfl | rfl | rfl | rfl | rfl | rfl | rfl | rfl
  · exact w_c0
  · exact w_c1
  · exact w_c2
  · exact w_c3
  · exact w_c4
  · exact w_c5
  · exact w_c6
  · exact w_c7
  · exact w_c8
  · exact w_c9
  · exact w_c10
  · exact w_c11
  · exact w_c12
  · exact w_c13
  · exact w_c14
  · exact w_c15
  · exact w_c16
  · exact w_c17
  · exact w_c18
  · exact w_c19
set_option maxRecDepth 65536 in
theorem w_t1 : (words1.take 24).all (fun c => isCode c || c.before args0 about1) = true := by decide +kernel
set_option maxRecDepth 65536 in
theorem w_t2 : ((words1.drop 24).take 24).all (fun c => isCode c || c.before args0 about1) = true := by decide +kernel
set_option maxRecDepth 65536 in
theorem w_t3 : (((words1.drop 24).drop 24).take 24).all (fun c => isCode c || c.before args0 about1) = true := by decide +kernel
set_option maxRecDepth 65536 in
theorem w_t4 : ((((words1.drop 24).drop 24).drop 24).take 24).all (fun c => isCode c || c.before args0 about1) = true := by decide +kernel
set_option maxRecDepth 65536 in
theorem w_t5 : ((((words1.drop 24).drop 24).drop 24).drop 24).all (fun c => isCode c || c.before args0 about1) = true := by decide +kernel
theorem w_tables : (allAtoms (Jvm.Cond.code x code maxLocals ret :: tables_1)).before args0 about1 = true := by
  rw [allAtoms_all]
  show words1.all (fun c => c.before args0 about1) = true
  refine all_split ?_ w_codes
  rw [← List.take_append_drop 24 words1, List.all_append, w_t1, ← List.take_append_drop 24 (words1.drop 24), List.all_append, w_t2, ← List.take_append_drop 24 ((words1.drop 24).drop 24), List.all_append, w_t3, ← List.take_append_drop 24 (((words1.drop 24).drop 24).drop 24), List.all_append, w_t4, w_t5]
  rfl
set_option maxRecDepth 65536 in
theorem w_rest : rest_1_c.before args0 about1 = true := by decide +kernel
set_option maxRecDepth 65536 in
theorem w_case : (Jvm.Cond.and given_1 narrow_1).before args0 about1 = true := by decide +kernel
theorem w_applies : (headSpec (Jvm.Cond.code x code maxLocals ret :: tables_1) room_1).applies x e0.platform about1 = true :=
  (Spec.applies_iff w_frames).mpr ⟨w_running, w_runnable, w_alone, w_named, w_hears, w_ripe, w_room, w_tables⟩
theorem atStart : AtStart classFile x code maxLocals ret World_1 tables_1 room_1 Calls_1 rest_1 Pre_1 launch0 p0 e0 about1 theMethod args0 below0 :=
  ⟨lists_1, trivial, launch0.admits_env _ _ _, launch0.least_env, fairChoices_fair.cas, fairChoices_fair.clock, w_frames, w_args, w_heap, w_applies, trivial, w_rest, w_case⟩
end start1
theorem witness_1 : WitnessClaimed_1 := ⟨start1.p0, start1.e0, start1.about1, start1.theMethod, start1.args0, start1.below0, start1.atStart⟩
end Jvm.Pilot.@@N@@
